import JvmDerived
import JvmDerived.Pilot.@@N@@Statement
import JvmDerived.Pilot.@@N@@Code
set_option linter.unusedVariables false
set_option linter.unusedSimpArgs false
namespace Jvm.Pilot.@@N@@
open Jvm Jvm.ClassFile Sem Op Lib Jvm.Free Jvm.Stand Jvm.LawKit Jvm.RoadKit Bundle Jvm.Pilot.@@N@@.Jvm.D
abbrev own_fe (Z : State) (h : Heap) (a : Addr) (v : Value) : Prop := Fld Z h a "java/util/ArrayList" "elementData" "[Ljava/lang/Object;" v
abbrev own_fs (Z : State) (h : Heap) (a : Addr) (v : Value) : Prop := Fld Z h a "java/util/ArrayList" "size" "I" v
abbrev own_fm (Z : State) (h : Heap) (a : Addr) (v : Value) : Prop := Fld Z h a "java/util/AbstractList" "modCount" "I" v
abbrev own_fg (Z : State) (h : Heap) (a : Addr) (v : Value) : Prop := Fld Z h a "com/example/redelivery/redelivery/engine/MemoryLog" "messages" "Ljava/util/List;" v
abbrev own_fp (Z : State) (h : Heap) (a : Addr) (v : Value) : Prop := Fld Z h a "com/example/redelivery/redelivery/engine/MemoryLog" "payload" "J" v
abbrev own_ff (Z : State) (h : Heap) (a : Addr) (v : Value) : Prop := Fld Z h a "com/example/redelivery/redelivery/engine/MemoryLog" "first" "J" v
abbrev own_fl (Z : State) (h : Heap) (a : Addr) (v : Value) : Prop := Fld Z h a "com/example/redelivery/redelivery/engine/MemoryLog" "listedFirst" "J" v
abbrev own_fu (Z : State) (h : Heap) (a : Addr) (v : Value) : Prop := Fld Z h a "java/util/ArrayList$SubList" "root" "Ljava/util/ArrayList;" v
abbrev own_fq (Z : State) (h : Heap) (a : Addr) (v : Value) : Prop := Fld Z h a "java/util/ArrayList$SubList" "parent" "Ljava/util/ArrayList$SubList;" v
abbrev own_fo (Z : State) (h : Heap) (a : Addr) (v : Value) : Prop := Fld Z h a "java/util/ArrayList$SubList" "offset" "I" v
abbrev own_fz (Z : State) (h : Heap) (a : Addr) (v : Value) : Prop := Fld Z h a "java/util/ArrayList$SubList" "size" "I" v
abbrev own_ft (Z : State) (h : Heap) (a : Addr) (v : Value) : Prop := Fld Z h a "java/util/ArrayList$Itr" "this$0" "Ljava/util/ArrayList;" v
abbrev own_fc (Z : State) (h : Heap) (a : Addr) (v : Value) : Prop := Fld Z h a "java/util/ArrayList$Itr" "cursor" "I" v
abbrev own_fr (Z : State) (h : Heap) (a : Addr) (v : Value) : Prop := Fld Z h a "java/util/ArrayList$Itr" "lastRet" "I" v
abbrev own_fx (Z : State) (h : Heap) (a : Addr) (v : Value) : Prop := Fld Z h a "java/util/ArrayList$Itr" "expectedModCount" "I" v
abbrev own_xl (Z : State) (h : Heap) (a : Addr) : Prop := Exa Z h a "java/util/ArrayList"
abbrev own_xm (Z : State) (h : Heap) (a : Addr) : Prop := Exa Z h a "com/example/redelivery/redelivery/engine/MemoryLog"
abbrev own_xs (Z : State) (h : Heap) (a : Addr) : Prop := Exa Z h a "java/util/ArrayList$SubList"
abbrev own_xi (Z : State) (h : Heap) (a : Addr) : Prop := Exa Z h a "java/util/ArrayList$Itr"
abbrev own_xb (Z : State) (h : Heap) (a : Addr) : Prop := Exa Z h a "[B"
section OwnKit
variable {p : Program} {l : Launch} {e : Env} {R : Room} {s : State} {m : MethodId} {args : Array Value} {below : List Frame} {meth : Method} {c : Code} {Z : State} {y : MethodName} {ret : Option FieldType} {code : ByteArray} {ml : Nat} {ws : List Addr} {T : State} {h : Heap} {cells slots : Nat} {C : Outcome → State → Prop} {a0 : Array Value}
/-- the run goes on from this frame to an end that C allows -/
def own_Go (p : Program) (e : Env) (below : List Frame) (C : Outcome → State → Prop) (T : State) (g : JFrame) : Prop :=
  ∃ u o, Steps p.tables e below (T.setTop g) u ∧ u.status = .running ∧ Ended u below o ∧ C o u
/-- what was written lies at one of ws, or is new since s -/
def own_Fw (s : State) (ws : List Addr) (L : List Loc) : Prop := ∀ y ∈ L, y.base ∈ ws ∨ s.heap.size ≤ y.base
/-- where the walk stands: what is fixed of this body; the heap h; nothing old written but at ws -/
def own_W (p : Program) (l : Launch) (e : Env) (R : Room) (s : State) (m : MethodId) (args : Array Value) (below : List Frame) (meth : Method) (c : Code) (Z : State) (y : MethodName) (ret : Option FieldType) (code : ByteArray) (ml : Nat) (ws : List Addr) (T : State) (h : Heap) (cells slots : Nat) : Prop :=
  (p.tables.exec = Jvm.exec ∧ c.code = code ∧ c.maxLocals = ml ∧ s.vm.findClass y.cls = some m.cls ∧ meth.name = y.name ∧ meth.sig.returnType = ret ∧ meth.locks = false ∧ Z.Warmed39 s.vm) ∧ ∃ locs, Stand p l e R s m args below meth c T locs cells slots ∧ T.heap = h ∧ own_Fw s ws locs
/-- what a call leaves: written at ws or new alone; all else kept; where nothing is made or written the heap itself; and Q -/
def own_Q (ws : List Addr) (rm : Room) (h0 : Heap) (Q : Option Value → Heap → Prop) (v : Option Value) (h : Heap) (L : List Loc) : Prop := (∀ y ∈ L, y.base ∈ ws ∨ h0.size ≤ y.base) ∧ Keep h0 h ws ∧ (rm.cells = 0 → ws = [] → h = h0) ∧ Q v h
/-- a body's contract: called with A at the heap h0 it returns, Q holds of what it returns and of the heap, nothing old is written but at ws -/
def own_M (l : Launch) (Z : State) (wo : List Jvm.Cond) (y : MethodName) (bytes : ByteArray) (maxL : Nat) (ret : Option FieldType) (rm : Room) (ws : List Addr) (A : Array Value) (h0 : Heap) (Q : Option Value → Heap → Prop) : Prop :=
  MetFree l y (head1 (Jvm.Cond.code y bytes maxL ret :: wo) rm) (fun a U => a = A ∧ Z.Warmed39 U.vm ∧ U.heap = h0) (fun _ _ _ _ _ => True) (fun _ U o U' => ∃ v L, o = .returned v ∧ own_Q ws rm h0 Q v U'.heap L ∧ FrameEnd U o U' L rm.cells rm.slots)
theorem own_keep {u : State} {L : List Loc} {k n : Nat} (q : s.sameButNew ({ u with vm := s.vm } : State) L k n) (F : own_Fw s ws L) : Keep s.heap u.heap ws := by
  obtain ⟨-, q2, -, -, -, q6⟩ := q
  refine ⟨q2, fun x c hx hn => ?_, fun x c hx => ?_⟩
  · obtain ⟨c', h1, h2, h3, h4⟩ := q6 x c hx
    have h5 : c'.slots = c.slots := by
      apply Array.ext_getElem?
      intro i
      refine h4 i fun hm => ?_
      rcases F _ hm with w | w
      · exact hn w
      · exact absurd (Array.getElem?_eq_some_iff.mp hx).1 (Nat.not_lt.mpr w)
    rw [h5] at h2
    rw [h2] at h1
    exact h1
  · obtain ⟨c', h1, h2, h3, h4⟩ := q6 x c hx
    exact ⟨c', h1, by rw [h2], by rw [h2], h3⟩
theorem own_same0 {u : State} {L : List Loc} {n : Nat} (q : s.sameButNew ({ u with vm := s.vm } : State) L 0 n) (K : Keep s.heap u.heap []) : u.heap = s.heap := by
  obtain ⟨-, q2, q3, -⟩ := q
  apply Array.ext_getElem?
  intro i
  rcases Nat.lt_or_ge i s.heap.size with hi | hi
  · have hs : s.heap[i]? = some s.heap[i] := Array.getElem?_eq_getElem hi
    rw [hs]
    exact K.2.1 i _ hs nin0
  · have h1 : u.heap.size ≤ i := Nat.le_trans q3 hi
    rw [Array.getElem?_eq_none hi, Array.getElem?_eq_none h1]
theorem own_st {T' : State} {g g' : JFrame} (q : ∀ t, Steps p.tables e below (T'.setTop g') t → Steps p.tables e below (T.setTop g) t) (k : own_Go p e below C T' g') : own_Go p e below C T g := by
  obtain ⟨u, o, h1, h2⟩ := k
  exact ⟨u, o, q _ h1, h2⟩
theorem own_tr {T' : State} {g g' : JFrame} (q : Steps p.tables e below (T.setTop g) (T'.setTop g')) (k : own_Go p e below C T' g') : own_Go p e below C T g := by
  obtain ⟨u, o, h1, h2⟩ := k
  exact ⟨u, o, q.trans h1, h2⟩
theorem own_body {wo : List Jvm.Cond} {maxL : Nat} {rm : Room} {A : Array Value} {h0 : Heap} {Q : Option Value → Heap → Prop} {L0 : Array Slot} (hpl : plainFor y = true) (hef : ∀ m, entryFrame m A maxL = mkF m 0 L0 [])
    (body : ∀ p e s m below meth c (C : Outcome → State → Prop) (_ : ∀ v L u, own_Fw s ws L → Q v u.heap → FrameEnd s (.returned v) u L rm.cells rm.slots → C (.returned v) u) T0,
      own_W p l e rm s m A below meth c Z y ret code maxL ws T0 h0 0 0 → own_Go p e below C T0 (mkF m 0 L0 [])) :
    own_M l Z wo y code maxL ret rm ws A h0 Q := by
  refine MetFree.of_bodySF hpl hisR ?_
  intro p e s m args below meth c s₁ Bd hml0 hP hK
  obtain ⟨rfl, hZ, rfl⟩ := hP
  have X0 : Stand p l e rm s m _ below meth c s₁ [] 0 0 := Stand.of_body Bd
  have e0 : s₁.heap = s.heap := by rw [Bd.state]; rfl
  have hlk : meth.locks = false := BodyLoose.notSynchronized Bd
  have k := body p e s m below meth c (fun o U' => ∃ v L, o = .returned v ∧ own_Q ws rm s.heap Q v U'.heap L ∧ FrameEnd s o U' L rm.cells rm.slots)
    (fun v L u h1 h2 h3 => by
      have K := own_keep h3.2.2 h1
      refine ⟨v, L, rfl, ⟨h1, K, fun hc hw => ?_, h2⟩, h3⟩
      subst hw
      have h4 := h3.2.2
      rw [hc] at h4
      exact own_same0 h4 K) s₁
    ⟨⟨Bd.exec, Bd.bytes, hml0, findClass_of_methodNamed Bd.named, (name_of_methodNamed Bd.named Bd.method).1, Bd.returns, hlk, hZ⟩, [], X0, e0, fun _ hy => nomatch hy⟩
  obtain ⟨u, o, h1, h2⟩ := k
  exact ⟨u, o, castTop (hef m) h1, h2⟩
theorem own_Fw_snoc {L : List Loc} {a : Addr} {sl : Nat} (N : own_Fw s ws L) (q : a ∈ ws ∨ s.heap.size ≤ a) : own_Fw s ws (L ++ [⟨a, sl⟩]) := fun y hy => by
  rcases List.mem_append.mp hy with w | w
  · exact N y w
  · cases List.mem_singleton.mp w; exact q
theorem own_Fw_app {L L' : List Loc} {wc' : List Addr} (N : own_Fw s ws L) (q : ∀ y ∈ L', y.base ∈ wc' ∨ h.size ≤ y.base) (r : ∀ b ∈ wc', b ∈ ws ∨ s.heap.size ≤ b) (z : s.heap.size ≤ h.size) : own_Fw s ws (L ++ L') := fun y hy => by
  rcases List.mem_append.mp hy with w | w
  · exact N y w
  · rcases q y w with u | u
    · exact r _ u
    · exact Or.inr (Nat.le_trans z u)
theorem own_le (W : own_W p l e R s m args below meth c Z y ret code ml ws T h cells slots) : s.heap.size ≤ h.size := by
  obtain ⟨-, locs, X, rfl, -⟩ := W
  exact X.same.2.1
theorem own_iadd (W : own_W p l e R s m args below meth c Z y ret code ml ws T h cells slots) {u v : Int32} {pc : Nat} (pc' : Nat) {L : Array Slot} {st : List Value} (hd : decode code pc = .ok (.iadd, 1))  (hp : pc + 1 = pc') (k : own_Go p e below C T (mkF m pc' L (.int (u + v) :: st))) : own_Go p e below C T (mkF m pc L (.int v :: .int u :: st)) := by
  have hsz := own_le W
  obtain ⟨⟨hx, hby, hml, hown, hnm, hrt, hlk, hZ⟩, locs, X, eT, N⟩ := W
  subst hp
  exact own_st (fun _ k => XS.iadd X.here hx rfl (hb hby hd) rfl k) k
theorem own_ladd (W : own_W p l e R s m args below meth c Z y ret code ml ws T h cells slots) {u v : Int64} {pc : Nat} (pc' : Nat) {L : Array Slot} {st : List Value} (hd : decode code pc = .ok (.ladd, 1))  (hp : pc + 1 = pc') (k : own_Go p e below C T (mkF m pc' L (.long (u + v) :: st))) : own_Go p e below C T (mkF m pc L (.long v :: .long u :: st)) := by
  have hsz := own_le W
  obtain ⟨⟨hx, hby, hml, hown, hnm, hrt, hlk, hZ⟩, locs, X, eT, N⟩ := W
  subst hp
  exact own_st (fun _ k => XS.ladd X.here hx rfl (hb hby hd) rfl k) k
theorem own_isub (W : own_W p l e R s m args below meth c Z y ret code ml ws T h cells slots) {u v : Int32} {pc : Nat} (pc' : Nat) {L : Array Slot} {st : List Value} (hd : decode code pc = .ok (.isub, 1))  (hp : pc + 1 = pc') (k : own_Go p e below C T (mkF m pc' L (.int (u - v) :: st))) : own_Go p e below C T (mkF m pc L (.int v :: .int u :: st)) := by
  have hsz := own_le W
  obtain ⟨⟨hx, hby, hml, hown, hnm, hrt, hlk, hZ⟩, locs, X, eT, N⟩ := W
  subst hp
  exact own_st (fun _ k => XS.isub X.here hx rfl (hb hby hd) rfl k) k
theorem own_lsub (W : own_W p l e R s m args below meth c Z y ret code ml ws T h cells slots) {u v : Int64} {pc : Nat} (pc' : Nat) {L : Array Slot} {st : List Value} (hd : decode code pc = .ok (.lsub, 1))  (hp : pc + 1 = pc') (k : own_Go p e below C T (mkF m pc' L (.long (u - v) :: st))) : own_Go p e below C T (mkF m pc L (.long v :: .long u :: st)) := by
  have hsz := own_le W
  obtain ⟨⟨hx, hby, hml, hown, hnm, hrt, hlk, hZ⟩, locs, X, eT, N⟩ := W
  subst hp
  exact own_st (fun _ k => XS.lsub X.here hx rfl (hb hby hd) rfl k) k
theorem own_iand (W : own_W p l e R s m args below meth c Z y ret code ml ws T h cells slots) {u v : Int32} {pc : Nat} (pc' : Nat) {L : Array Slot} {st : List Value} (hd : decode code pc = .ok (.iand, 1))  (hp : pc + 1 = pc') (k : own_Go p e below C T (mkF m pc' L (.int (u &&& v) :: st))) : own_Go p e below C T (mkF m pc L (.int v :: .int u :: st)) := by
  have hsz := own_le W
  obtain ⟨⟨hx, hby, hml, hown, hnm, hrt, hlk, hZ⟩, locs, X, eT, N⟩ := W
  subst hp
  exact own_st (fun _ k => XS.iand X.here hx rfl (hb hby hd) rfl k) k
theorem own_i2l (W : own_W p l e R s m args below meth c Z y ret code ml ws T h cells slots) {u : Int32} {pc : Nat} (pc' : Nat) {L : Array Slot} {st : List Value} (hd : decode code pc = .ok (.i2l, 1))  (hp : pc + 1 = pc') (k : own_Go p e below C T (mkF m pc' L (.long u.toInt64 :: st))) : own_Go p e below C T (mkF m pc L (.int u :: st)) := by
  have hsz := own_le W
  obtain ⟨⟨hx, hby, hml, hown, hnm, hrt, hlk, hZ⟩, locs, X, eT, N⟩ := W
  subst hp
  exact own_st (fun _ k => XS.i2l X.here hx rfl (hb hby hd) rfl k) k
theorem own_l2i (W : own_W p l e R s m args below meth c Z y ret code ml ws T h cells slots) {u : Int64} {pc : Nat} (pc' : Nat) {L : Array Slot} {st : List Value} (hd : decode code pc = .ok (.l2i, 1))  (hp : pc + 1 = pc') (k : own_Go p e below C T (mkF m pc' L (.int u.toInt32 :: st))) : own_Go p e below C T (mkF m pc L (.long u :: st)) := by
  have hsz := own_le W
  obtain ⟨⟨hx, hby, hml, hown, hnm, hrt, hlk, hZ⟩, locs, X, eT, N⟩ := W
  subst hp
  exact own_st (fun _ k => XS.l2i X.here hx rfl (hb hby hd) rfl k) k
theorem own_lcmp (W : own_W p l e R s m args below meth c Z y ret code ml ws T h cells slots) {u v : Int64} {pc : Nat} (pc' : Nat) {L : Array Slot} {st : List Value} (hd : decode code pc = .ok (.lcmp, 1))  (hp : pc + 1 = pc') (k : own_Go p e below C T (mkF m pc' L (.int (lcmpW u v) :: st))) : own_Go p e below C T (mkF m pc L (.long v :: .long u :: st)) := by
  have hsz := own_le W
  obtain ⟨⟨hx, hby, hml, hown, hnm, hrt, hlk, hZ⟩, locs, X, eT, N⟩ := W
  subst hp
  exact own_st (fun _ k => XS.lcmp X.here hx rfl (hb hby hd) rfl k) k
theorem own_idiv (W : own_W p l e R s m args below meth c Z y ret code ml ws T h cells slots) {u v : Int32} {pc : Nat} (pc' : Nat) {L : Array Slot} {st : List Value} (hd : decode code pc = .ok (.idiv, 1)) (hv : v ≠ 0) (hp : pc + 1 = pc') (k : own_Go p e below C T (mkF m pc' L (.int (u / v) :: st))) : own_Go p e below C T (mkF m pc L (.int v :: .int u :: st)) := by
  have hsz := own_le W
  obtain ⟨⟨hx, hby, hml, hown, hnm, hrt, hlk, hZ⟩, locs, X, eT, N⟩ := W
  subst hp
  exact own_st (fun _ k => XS.idiv X.here hx rfl (hb hby hd) rfl hv k) k
theorem own_lrem (W : own_W p l e R s m args below meth c Z y ret code ml ws T h cells slots) {u v : Int64} {pc : Nat} (pc' : Nat) {L : Array Slot} {st : List Value} (hd : decode code pc = .ok (.lrem, 1)) (hv : v ≠ 0) (hp : pc + 1 = pc') (k : own_Go p e below C T (mkF m pc' L (.long (u - (u / v) * v) :: st))) : own_Go p e below C T (mkF m pc L (.long v :: .long u :: st)) := by
  have hsz := own_le W
  obtain ⟨⟨hx, hby, hml, hown, hnm, hrt, hlk, hZ⟩, locs, X, eT, N⟩ := W
  subst hp
  exact own_st (fun _ k => XS.lrem X.here hx rfl (hb hby hd) rfl hv k) k
theorem own_irem (W : own_W p l e R s m args below meth c Z y ret code ml ws T h cells slots) {u v : Int32} {pc : Nat} (pc' : Nat) {L : Array Slot} {st : List Value} (hd : decode code pc = .ok (.irem, 1)) (hv : v ≠ 0) (hp : pc + 1 = pc') (k : own_Go p e below C T (mkF m pc' L (.int (u % v) :: st))) : own_Go p e below C T (mkF m pc L (.int v :: .int u :: st)) := by
  have hsz := own_le W
  obtain ⟨⟨hx, hby, hml, hown, hnm, hrt, hlk, hZ⟩, locs, X, eT, N⟩ := W
  subst hp
  exact own_st (fun _ k => iremM X hx rfl (hb hby hd) rfl hv k) k
theorem own_iconst (W : own_W p l e R s m args below meth c Z y ret code ml ws T h cells slots) {i : Int} (v : Int32) {pc : Nat} (pc' : Nat) {L : Array Slot} {st : List Value} (hd : decode code pc = .ok (.iconst i, 1)) (hv : Int32.ofInt i = v) (hp : pc + 1 = pc') (k : own_Go p e below C T (mkF m pc' L (.int v :: st))) : own_Go p e below C T (mkF m pc L st) := by
  have hsz := own_le W
  obtain ⟨⟨hx, hby, hml, hown, hnm, hrt, hlk, hZ⟩, locs, X, eT, N⟩ := W
  subst hp hv
  exact own_st (fun _ k => XS.iconst X.here hx rfl (hb hby hd) k) k
theorem own_bipush (W : own_W p l e R s m args below meth c Z y ret code ml ws T h cells slots) {i : Int} (v : Int32) {pc : Nat} (pc' : Nat) {L : Array Slot} {st : List Value} (hd : decode code pc = .ok (.bipush i, 2)) (hv : (Int8.ofInt i).toInt32 = v) (hp : pc + 2 = pc') (k : own_Go p e below C T (mkF m pc' L (.int v :: st))) : own_Go p e below C T (mkF m pc L st) := by
  have hsz := own_le W
  obtain ⟨⟨hx, hby, hml, hown, hnm, hrt, hlk, hZ⟩, locs, X, eT, N⟩ := W
  subst hp hv
  exact own_st (fun _ k => XS.bipush X.here hx rfl (hb hby hd) k) k
theorem own_lconst (W : own_W p l e R s m args below meth c Z y ret code ml ws T h cells slots) {i : Fin 2} (v : Int64) {pc : Nat} (pc' : Nat) {L : Array Slot} {st : List Value} (hd : decode code pc = .ok (.lconst i, 1)) (hv : Int64.ofNat i.val = v) (hp : pc + 1 = pc') (k : own_Go p e below C T (mkF m pc' L (.long v :: st))) : own_Go p e below C T (mkF m pc L st) := by
  have hsz := own_le W
  obtain ⟨⟨hx, hby, hml, hown, hnm, hrt, hlk, hZ⟩, locs, X, eT, N⟩ := W
  subst hp hv
  exact own_st (fun _ k => XS.lconst X.here hx rfl (hb hby hd) k) k
theorem own_aconst_null (W : own_W p l e R s m args below meth c Z y ret code ml ws T h cells slots) {pc : Nat} (pc' : Nat) {L : Array Slot} {st : List Value} (hd : decode code pc = .ok (.aconst_null, 1)) (hp : pc + 1 = pc') (k : own_Go p e below C T (mkF m pc' L (.null :: st))) : own_Go p e below C T (mkF m pc L st) := by
  have hsz := own_le W
  obtain ⟨⟨hx, hby, hml, hown, hnm, hrt, hlk, hZ⟩, locs, X, eT, N⟩ := W
  subst hp
  exact own_st (fun _ k => XS.aconstNull X.here hx rfl (hb hby hd) k) k
theorem own_ldcInt (W : own_W p l e R s m args below meth c Z y ret code ml ws T h cells slots) {i : Nat} {v : Int32} {pc : Nat} (pc' : Nat) {L : Array Slot} {st : List Value} (hd : decode code pc = .ok (.ldc i, 2)) (w : (Jvm.Cond.constant y.cls i v).before a0 Z = true) (hp : pc + 2 = pc') (k : own_Go p e below C T (mkF m pc' L (.int v :: st))) : own_Go p e below C T (mkF m pc L st) := by
  have hsz := own_le W
  obtain ⟨⟨hx, hby, hml, hown, hnm, hrt, hlk, hZ⟩, locs, X, eT, N⟩ := W
  subst hp
  exact own_st (fun _ k => X.ldcInt hx hown (mvT hZ w) (g := mkF m pc L st) rfl (hb hby hd) _ k) k
theorem own_ldc2Long (W : own_W p l e R s m args below meth c Z y ret code ml ws T h cells slots) {i : Nat} {v : Int64} {pc : Nat} (pc' : Nat) {L : Array Slot} {st : List Value} (hd : decode code pc = .ok (.ldc2_w i, 3)) (w : (Jvm.Cond.constantLong y.cls i v).before a0 Z = true) (hp : pc + 3 = pc') (k : own_Go p e below C T (mkF m pc' L (.long v :: st))) : own_Go p e below C T (mkF m pc L st) := by
  have hsz := own_le W
  obtain ⟨⟨hx, hby, hml, hown, hnm, hrt, hlk, hZ⟩, locs, X, eT, N⟩ := W
  subst hp
  exact own_st (fun _ k => X.ldc2Long hx hown (mvT hZ w) (g := mkF m pc L st) rfl (hb hby hd) _ k) k
theorem own_iloadN (W : own_W p l e R s m args below meth c Z y ret code ml ws T h cells slots) {i : Fin 4} {v : Int32} {pc : Nat} (pc' : Nat) {L : Array Slot} {st : List Value} (hd : decode code pc = .ok (.iload_n i, 1)) (hl : L[i.val]? = some (.val (.int v))) (hp : pc + 1 = pc') (k : own_Go p e below C T (mkF m pc' L (.int v :: st))) : own_Go p e below C T (mkF m pc L st) := by
  have hsz := own_le W
  obtain ⟨⟨hx, hby, hml, hown, hnm, hrt, hlk, hZ⟩, locs, X, eT, N⟩ := W
  subst hp
  exact own_st (fun _ k => XS.iloadN X.here hx rfl (hb hby hd) hl k) k
theorem own_iload (W : own_W p l e R s m args below meth c Z y ret code ml ws T h cells slots) {i : Nat} {v : Int32} {pc : Nat} (pc' : Nat) {L : Array Slot} {st : List Value} (hd : decode code pc = .ok (.iload i, 2)) (hl : L[i]? = some (.val (.int v))) (hp : pc + 2 = pc') (k : own_Go p e below C T (mkF m pc' L (.int v :: st))) : own_Go p e below C T (mkF m pc L st) := by
  have hsz := own_le W
  obtain ⟨⟨hx, hby, hml, hown, hnm, hrt, hlk, hZ⟩, locs, X, eT, N⟩ := W
  subst hp
  exact own_st (fun _ k => XS.iload X.here hx rfl (hb hby hd) hl k) k
theorem own_lloadN (W : own_W p l e R s m args below meth c Z y ret code ml ws T h cells slots) {i : Fin 4} {v : Int64} {pc : Nat} (pc' : Nat) {L : Array Slot} {st : List Value} (hd : decode code pc = .ok (.lload_n i, 1)) (hl : L[i.val]? = some (.val (.long v))) (hp : pc + 1 = pc') (k : own_Go p e below C T (mkF m pc' L (.long v :: st))) : own_Go p e below C T (mkF m pc L st) := by
  have hsz := own_le W
  obtain ⟨⟨hx, hby, hml, hown, hnm, hrt, hlk, hZ⟩, locs, X, eT, N⟩ := W
  subst hp
  exact own_st (fun _ k => XS.lloadN X.here hx rfl (hb hby hd) hl k) k
theorem own_lload (W : own_W p l e R s m args below meth c Z y ret code ml ws T h cells slots) {i : Nat} {v : Int64} {pc : Nat} (pc' : Nat) {L : Array Slot} {st : List Value} (hd : decode code pc = .ok (.lload i, 2)) (hl : L[i]? = some (.val (.long v))) (hp : pc + 2 = pc') (k : own_Go p e below C T (mkF m pc' L (.long v :: st))) : own_Go p e below C T (mkF m pc L st) := by
  have hsz := own_le W
  obtain ⟨⟨hx, hby, hml, hown, hnm, hrt, hlk, hZ⟩, locs, X, eT, N⟩ := W
  subst hp
  exact own_st (fun _ k => XS.lload X.here hx rfl (hb hby hd) hl k) k
theorem own_aloadN (W : own_W p l e R s m args below meth c Z y ret code ml ws T h cells slots) {i : Fin 4} {v : Value} {pc : Nat} (pc' : Nat) {L : Array Slot} {st : List Value} (hd : decode code pc = .ok (.aload_n i, 1)) (hl : L[i.val]? = some (.val v)) (hv : v.isRef = true) (hp : pc + 1 = pc') (k : own_Go p e below C T (mkF m pc' L (v :: st))) : own_Go p e below C T (mkF m pc L st) := by
  have hsz := own_le W
  obtain ⟨⟨hx, hby, hml, hown, hnm, hrt, hlk, hZ⟩, locs, X, eT, N⟩ := W
  subst hp
  exact own_st (fun _ k => XS.aloadN X.here hx rfl (hb hby hd) hl hv k) k
theorem own_aload (W : own_W p l e R s m args below meth c Z y ret code ml ws T h cells slots) {i : Nat} {v : Value} {pc : Nat} (pc' : Nat) {L : Array Slot} {st : List Value} (hd : decode code pc = .ok (.aload i, 2)) (hl : L[i]? = some (.val v)) (hv : v.isRef = true) (hp : pc + 2 = pc') (k : own_Go p e below C T (mkF m pc' L (v :: st))) : own_Go p e below C T (mkF m pc L st) := by
  have hsz := own_le W
  obtain ⟨⟨hx, hby, hml, hown, hnm, hrt, hlk, hZ⟩, locs, X, eT, N⟩ := W
  subst hp
  exact own_st (fun _ k => XS.aload X.here hx rfl (hb hby hd) hl hv k) k
theorem own_istoreN (W : own_W p l e R s m args below meth c Z y ret code ml ws T h cells slots) {i : Fin 4} {v : Int32} {pc : Nat} (pc' : Nat) {L : Array Slot} (L' : Array Slot) {st : List Value} (hd : decode code pc = .ok (.istore_n i, 1)) (hl : storeLocals L i.val (.int v) = some L') (hp : pc + 1 = pc') (k : own_Go p e below C T (mkF m pc' L' st)) : own_Go p e below C T (mkF m pc L (.int v :: st)) := by
  have hsz := own_le W
  obtain ⟨⟨hx, hby, hml, hown, hnm, hrt, hlk, hZ⟩, locs, X, eT, N⟩ := W
  subst hp
  exact own_st (fun _ k => XS.istoreN X.here hx rfl (hb hby hd) rfl hl k) k
theorem own_istore (W : own_W p l e R s m args below meth c Z y ret code ml ws T h cells slots) {i : Nat} {v : Int32} {pc : Nat} (pc' : Nat) {L : Array Slot} (L' : Array Slot) {st : List Value} (hd : decode code pc = .ok (.istore i, 2)) (hl : storeLocals L i (.int v) = some L') (hp : pc + 2 = pc') (k : own_Go p e below C T (mkF m pc' L' st)) : own_Go p e below C T (mkF m pc L (.int v :: st)) := by
  have hsz := own_le W
  obtain ⟨⟨hx, hby, hml, hown, hnm, hrt, hlk, hZ⟩, locs, X, eT, N⟩ := W
  subst hp
  exact own_st (fun _ k => XS.istore X.here hx rfl (hb hby hd) rfl hl k) k
theorem own_lstoreN (W : own_W p l e R s m args below meth c Z y ret code ml ws T h cells slots) {i : Fin 4} {v : Int64} {pc : Nat} (pc' : Nat) {L : Array Slot} (L' : Array Slot) {st : List Value} (hd : decode code pc = .ok (.lstore_n i, 1)) (hl : storeLocals L i.val (.long v) = some L') (hp : pc + 1 = pc') (k : own_Go p e below C T (mkF m pc' L' st)) : own_Go p e below C T (mkF m pc L (.long v :: st)) := by
  have hsz := own_le W
  obtain ⟨⟨hx, hby, hml, hown, hnm, hrt, hlk, hZ⟩, locs, X, eT, N⟩ := W
  subst hp
  exact own_st (fun _ k => XS.lstoreN X.here hx rfl (hb hby hd) rfl hl k) k
theorem own_lstore (W : own_W p l e R s m args below meth c Z y ret code ml ws T h cells slots) {i : Nat} {v : Int64} {pc : Nat} (pc' : Nat) {L : Array Slot} (L' : Array Slot) {st : List Value} (hd : decode code pc = .ok (.lstore i, 2)) (hl : storeLocals L i (.long v) = some L') (hp : pc + 2 = pc') (k : own_Go p e below C T (mkF m pc' L' st)) : own_Go p e below C T (mkF m pc L (.long v :: st)) := by
  have hsz := own_le W
  obtain ⟨⟨hx, hby, hml, hown, hnm, hrt, hlk, hZ⟩, locs, X, eT, N⟩ := W
  subst hp
  exact own_st (fun _ k => XS.lstore X.here hx rfl (hb hby hd) rfl hl k) k
theorem own_astoreN (W : own_W p l e R s m args below meth c Z y ret code ml ws T h cells slots) {i : Fin 4} {v : Value} {pc : Nat} (pc' : Nat) {L : Array Slot} (L' : Array Slot) {st : List Value} (hd : decode code pc = .ok (.astore_n i, 1)) (hv : v.isRef = true) (hl : storeLocals L i.val v = some L') (hp : pc + 1 = pc') (k : own_Go p e below C T (mkF m pc' L' st)) : own_Go p e below C T (mkF m pc L (v :: st)) := by
  have hsz := own_le W
  obtain ⟨⟨hx, hby, hml, hown, hnm, hrt, hlk, hZ⟩, locs, X, eT, N⟩ := W
  subst hp
  exact own_st (fun _ k => XS.astoreN X.here hx rfl (hb hby hd) rfl hv hl k) k
theorem own_astore (W : own_W p l e R s m args below meth c Z y ret code ml ws T h cells slots) {i : Nat} {v : Value} {pc : Nat} (pc' : Nat) {L : Array Slot} (L' : Array Slot) {st : List Value} (hd : decode code pc = .ok (.astore i, 2)) (hv : v.isRef = true) (hl : storeLocals L i v = some L') (hp : pc + 2 = pc') (k : own_Go p e below C T (mkF m pc' L' st)) : own_Go p e below C T (mkF m pc L (v :: st)) := by
  have hsz := own_le W
  obtain ⟨⟨hx, hby, hml, hown, hnm, hrt, hlk, hZ⟩, locs, X, eT, N⟩ := W
  subst hp
  exact own_st (fun _ k => XS.astore X.here hx rfl (hb hby hd) rfl hv hl k) k
theorem own_iinc (W : own_W p l e R s m args below meth c Z y ret code ml ws T h cells slots) {i : Nat} {cst : Int} {v : Int32} (v' : Int32) {pc : Nat} (pc' : Nat) {L : Array Slot} (L' : Array Slot) {st : List Value} (hd : decode code pc = .ok (.iinc i cst, 3)) (hv : L[i]? = some (.val (.int v))) (hv' : v + Int32.ofInt cst = v') (hl : storeLocals L i (.int v') = some L') (hp : pc + 3 = pc') (k : own_Go p e below C T (mkF m pc' L' st)) : own_Go p e below C T (mkF m pc L st) := by
  have hsz := own_le W
  obtain ⟨⟨hx, hby, hml, hown, hnm, hrt, hlk, hZ⟩, locs, X, eT, N⟩ := W
  subst hp hv'
  exact own_st (fun _ k => XS.iinc X.here hx rfl (hb hby hd) hv hl k) k
theorem own_dup (W : own_W p l e R s m args below meth c Z y ret code ml ws T h cells slots) {v : Value} {pc : Nat} (pc' : Nat) {L : Array Slot} {st : List Value} (hd : decode code pc = .ok (.dup, 1)) (hc : v.category = 1) (hp : pc + 1 = pc') (k : own_Go p e below C T (mkF m pc' L (v :: v :: st))) : own_Go p e below C T (mkF m pc L (v :: st)) := by
  have hsz := own_le W
  obtain ⟨⟨hx, hby, hml, hown, hnm, hrt, hlk, hZ⟩, locs, X, eT, N⟩ := W
  subst hp
  exact own_st (fun _ k => XS.dup X.here hx rfl (hb hby hd) rfl hc k) k
theorem own_pop (W : own_W p l e R s m args below meth c Z y ret code ml ws T h cells slots) {v : Value} {pc : Nat} (pc' : Nat) {L : Array Slot} {st : List Value} (hd : decode code pc = .ok (.pop, 1)) (hc : v.category = 1) (hp : pc + 1 = pc') (k : own_Go p e below C T (mkF m pc' L st)) : own_Go p e below C T (mkF m pc L (v :: st)) := by
  have hsz := own_le W
  obtain ⟨⟨hx, hby, hml, hown, hnm, hrt, hlk, hZ⟩, locs, X, eT, N⟩ := W
  subst hp
  exact own_st (fun _ k => XS.pop X.here hx rfl (hb hby hd) rfl hc k) k
theorem own_dup_x1 (W : own_W p l e R s m args below meth c Z y ret code ml ws T h cells slots) {u v : Value} {pc : Nat} (pc' : Nat) {L : Array Slot} {st : List Value} (hd : decode code pc = .ok (.dup_x1, 1)) (hc : v.category = 1) (hc' : u.category = 1) (hp : pc + 1 = pc') (k : own_Go p e below C T (mkF m pc' L (v :: u :: v :: st))) : own_Go p e below C T (mkF m pc L (v :: u :: st)) := by
  have hsz := own_le W
  obtain ⟨⟨hx, hby, hml, hown, hnm, hrt, hlk, hZ⟩, locs, X, eT, N⟩ := W
  subst hp
  exact own_st (fun _ k => XS.dupX1 X.here hx rfl (hb hby hd) rfl hc hc' k) k
theorem own_goto (W : own_W p l e R s m args below meth c Z y ret code ml ws T h cells slots) {o : Int} {pc : Nat} (pc' : Nat) {L : Array Slot} {st : List Value} (hd : decode code pc = .ok (.goto o, 3)) (ho : 0 ≤ (pc : Int) + o) (hp : ((pc : Int) + o).toNat = pc') (k : own_Go p e below C T (mkF m pc' L st)) : own_Go p e below C T (mkF m pc L st) := by
  have hsz := own_le W
  obtain ⟨⟨hx, hby, hml, hown, hnm, hrt, hlk, hZ⟩, locs, X, eT, N⟩ := W
  exact own_st (fun _ k => XS.goto X.here hx rfl rfl (hb hby hd) ho hp k) k
theorem own_ifY (W : own_W p l e R s m args below meth c Z y ret code ml ws T h cells slots) {cd : ClassFile.Cond} {o : Int} {u : Int32} {pc : Nat} (pc' : Nat) {L : Array Slot} {st : List Value} (hd : decode code pc = .ok (.ifCond cd o, 3)) (hc : ifCond.holds cd u = true) (ho : 0 ≤ (pc : Int) + o) (hp : ((pc : Int) + o).toNat = pc') (k : own_Go p e below C T (mkF m pc' L st)) : own_Go p e below C T (mkF m pc L (.int u :: st)) := by
  have hsz := own_le W
  obtain ⟨⟨hx, hby, hml, hown, hnm, hrt, hlk, hZ⟩, locs, X, eT, N⟩ := W
  exact own_st (fun _ k => XS.ifYes X.here hx rfl rfl (hb hby hd) rfl hc ho hp k) k
theorem own_ifN (W : own_W p l e R s m args below meth c Z y ret code ml ws T h cells slots) {cd : ClassFile.Cond} {o : Int} {u : Int32} {pc : Nat} (pc' : Nat) {L : Array Slot} {st : List Value} (hd : decode code pc = .ok (.ifCond cd o, 3)) (hc : ifCond.holds cd u = false) (hp : pc + 3 = pc') (k : own_Go p e below C T (mkF m pc' L st)) : own_Go p e below C T (mkF m pc L (.int u :: st)) := by
  have hsz := own_le W
  obtain ⟨⟨hx, hby, hml, hown, hnm, hrt, hlk, hZ⟩, locs, X, eT, N⟩ := W
  subst hp
  exact own_st (fun _ k => XS.ifNo X.here hx rfl (hb hby hd) rfl hc k) k
theorem own_icmpY (W : own_W p l e R s m args below meth c Z y ret code ml ws T h cells slots) {cd : ClassFile.Cond} {o : Int} {u v : Int32} {pc : Nat} (pc' : Nat) {L : Array Slot} {st : List Value} (hd : decode code pc = .ok (.if_icmp cd o, 3)) (hc : if_icmp.holds cd u v = true) (ho : 0 ≤ (pc : Int) + o) (hp : ((pc : Int) + o).toNat = pc') (k : own_Go p e below C T (mkF m pc' L st)) : own_Go p e below C T (mkF m pc L (.int v :: .int u :: st)) := by
  have hsz := own_le W
  obtain ⟨⟨hx, hby, hml, hown, hnm, hrt, hlk, hZ⟩, locs, X, eT, N⟩ := W
  exact own_st (fun _ k => XS.icmpYes X.here hx rfl rfl (hb hby hd) rfl hc ho hp k) k
theorem own_icmpN (W : own_W p l e R s m args below meth c Z y ret code ml ws T h cells slots) {cd : ClassFile.Cond} {o : Int} {u v : Int32} {pc : Nat} (pc' : Nat) {L : Array Slot} {st : List Value} (hd : decode code pc = .ok (.if_icmp cd o, 3)) (hc : if_icmp.holds cd u v = false) (hp : pc + 3 = pc') (k : own_Go p e below C T (mkF m pc' L st)) : own_Go p e below C T (mkF m pc L (.int v :: .int u :: st)) := by
  have hsz := own_le W
  obtain ⟨⟨hx, hby, hml, hown, hnm, hrt, hlk, hZ⟩, locs, X, eT, N⟩ := W
  subst hp
  exact own_st (fun _ k => XS.icmpNo X.here hx rfl (hb hby hd) rfl hc k) k
theorem own_ifnonnullN (W : own_W p l e R s m args below meth c Z y ret code ml ws T h cells slots) {o : Int}  {pc : Nat} (pc' : Nat) {L : Array Slot} {st : List Value} (hd : decode code pc = .ok (.ifnonnull o, 3)) (hp : pc + 3 = pc') (k : own_Go p e below C T (mkF m pc' L st)) : own_Go p e below C T (mkF m pc L (.null :: st)) := by
  have hsz := own_le W
  obtain ⟨⟨hx, hby, hml, hown, hnm, hrt, hlk, hZ⟩, locs, X, eT, N⟩ := W
  subst hp
  exact own_st (fun _ k => XS.ifnonnullNo X.here hx rfl (hb hby hd) rfl k) k
theorem own_acmp (W : own_W p l e R s m args below meth c Z y ret code ml ws T h cells slots) {cd : ACond} {o : Int} {u v : Value} {same : Bool} {pc : Nat} (pc' : Nat) {L : Array Slot} {st : List Value} (hd : decode code pc = .ok (.if_acmp cd o, 3)) (h1 : u.isRef = true) (h2 : v.isRef = true) (hq : decide (u = v) = same) (ho : 0 ≤ (pc : Int) + o) (hp : pc' = if acV cd same = true then ((pc : Int) + o).toNat else pc + 3) (k : own_Go p e below C T (mkF m pc' L st)) : own_Go p e below C T (mkF m pc L (v :: u :: st)) := by
  have hsz := own_le W
  obtain ⟨⟨hx, hby, hml, hown, hnm, hrt, hlk, hZ⟩, locs, X, eT, N⟩ := W
  exact own_st (fun _ k => Jvm.RoadKit.acmp X hx rfl h1 h2 rfl (hb hby hd) rfl hq ho hp k) k
theorem own_retI {Q : Option Value → Heap → Prop} {kc ks : Nat} {z : Int32}  (W : own_W p l e R s m args below meth c Z y (some .int) code ml ws T h cells slots) (hC : ∀ v L u, own_Fw s ws L → Q v u.heap → FrameEnd s (.returned v) u L kc ks → C (.returned v) u) (hcl : cells ≤ kc) (hsl : slots ≤ ks) {pc : Nat} {L : Array Slot} {st : List Value} (hd : decode code pc = .ok (.ireturn, 1)) (hq : Q (some (.int z)) h) : own_Go p e below C T (mkF m pc L (.int z :: st)) := by
  have hsz := own_le W
  obtain ⟨⟨hx, hby, hml, hown, hnm, hrt, hlk, hZ⟩, locs, X, eT, N⟩ := W
  subst eT
  obtain ⟨fs, hr, hrun, hended, hW, hsame⟩ := X.leave (v := (some (.int z))) (fun h => by rw [hrt] at h; cases h) hlk
  refine ⟨_, _, ?_, hrun, hended, hC _ _ _ N hq ⟨⟨_, rfl⟩, hW, hsame.mono hcl hsl⟩⟩
  have hn : narrow .int (.int z) = .int z := rfl
  show Steps p.tables e below (T.setTop { method := m, pc := pc, locals := L, stack := _ :: st, locked := none }) _
  have hm' := X.method'
  jvm_step X.here [X.here.top, hx, (hb hby hd), hm', hrt, hn]
  first | (intro acts; rw [hr _ acts rfl rfl rfl]) | rw [hr _ _ rfl rfl rfl]
  exact Steps.refl _
theorem own_retZ {Q : Option Value → Heap → Prop} {kc ks : Nat} {z : Int32}  (W : own_W p l e R s m args below meth c Z y (some .boolean) code ml ws T h cells slots) (hC : ∀ v L u, own_Fw s ws L → Q v u.heap → FrameEnd s (.returned v) u L kc ks → C (.returned v) u) (hcl : cells ≤ kc) (hsl : slots ≤ ks) {pc : Nat} {L : Array Slot} {st : List Value} (hd : decode code pc = .ok (.ireturn, 1)) (hq : Q (some (.int (z &&& 1))) h) : own_Go p e below C T (mkF m pc L (.int z :: st)) := by
  have hsz := own_le W
  obtain ⟨⟨hx, hby, hml, hown, hnm, hrt, hlk, hZ⟩, locs, X, eT, N⟩ := W
  subst eT
  obtain ⟨fs, hr, hrun, hended, hW, hsame⟩ := X.leave (v := (some (.int (z &&& 1)))) (fun h => by rw [hrt] at h; cases h) hlk
  refine ⟨_, _, ?_, hrun, hended, hC _ _ _ N hq ⟨⟨_, rfl⟩, hW, hsame.mono hcl hsl⟩⟩
  exact retN X hx (t := .boolean) hrt (by simp) (hb hby hd) hr
theorem own_retV {Q : Option Value → Heap → Prop} {kc ks : Nat}  (W : own_W p l e R s m args below meth c Z y none code ml ws T h cells slots) (hC : ∀ v L u, own_Fw s ws L → Q v u.heap → FrameEnd s (.returned v) u L kc ks → C (.returned v) u) (hcl : cells ≤ kc) (hsl : slots ≤ ks) {pc : Nat} {L : Array Slot} (hd : decode code pc = .ok (.return_, 1)) (hq : Q none h) : own_Go p e below C T (mkF m pc L []) := by
  have hsz := own_le W
  obtain ⟨⟨hx, hby, hml, hown, hnm, hrt, hlk, hZ⟩, locs, X, eT, N⟩ := W
  subst eT
  obtain ⟨fs, hr, hrun, hended, hW, hsame⟩ := X.leave (v := none) (fun _ => rfl) hlk
  refine ⟨_, _, ?_, hrun, hended, hC _ _ _ N hq ⟨⟨_, rfl⟩, hW, hsame.mono hcl hsl⟩⟩
  exact X.returnOut hx hrt (hb hby hd) hr
theorem own_retA {Q : Option Value → Heap → Prop} {kc ks : Nat} {rt : FieldType} {z : Value} (W : own_W p l e R s m args below meth c Z y (some rt) code ml ws T h cells slots) (hC : ∀ v L u, own_Fw s ws L → Q v u.heap → FrameEnd s (.returned v) u L kc ks → C (.returned v) u) (hcl : cells ≤ kc) (hsl : slots ≤ ks) (hrr : rt.isReference = true) (hzr : z.isRef = true) {pc : Nat} {L : Array Slot} {st : List Value} (hd : decode code pc = .ok (.areturn, 1)) (hn : narrow rt z = z) (hq : Q (some z) h) : own_Go p e below C T (mkF m pc L (z :: st)) := by
  have hsz := own_le W
  obtain ⟨⟨hx, hby, hml, hown, hnm, hrt, hlk, hZ⟩, locs, X, eT, N⟩ := W
  subst eT
  obtain ⟨fs, hr, hrun, hended, hW, hsame⟩ := X.leave (v := some z) (fun h => by rw [hrt] at h; cases h) hlk
  refine ⟨_, _, ?_, hrun, hended, hC _ _ _ N hq ⟨⟨_, rfl⟩, hW, hsame.mono hcl hsl⟩⟩
  exact retOut X hx hrt hn (Or.inr (Or.inr (Or.inr (Or.inr ⟨rfl, hrr, hzr⟩)))) (hb hby hd) hr
/-- an array by its places: n of them, place j holds f j -/
def own_A (Z : State) (h : Heap) (a : Addr) (ty : FieldType) (n : Nat) (f : Nat → Value) : Prop := ∃ cl : Cell, Arr Z h a cl ty ∧ cl.slots.size = n ∧ ∀ j, j < n → cl.slots[j]? = some (f j)
def own_upd (f : Nat → Value) (k : Nat) (v : Value) : Nat → Value := fun j => if j = k then v else f j
theorem own_A.lt {a : Addr} {ty : FieldType} {n : Nat} {f : Nat → Value} (F : own_A Z h a ty n f) : a < h.size := by obtain ⟨cl, A, -⟩ := F; exact A.lt
theorem own_A.ext {h' : Heap} {a : Addr} {ty : FieldType} {n : Nat} {f : Nat → Value} (F : own_A Z h a ty n f) (E : Ext h h') : own_A Z h' a ty n f := by obtain ⟨cl, A, r⟩ := F; exact ⟨cl, A.ext E, r⟩
theorem own_A.other {h' : Heap} {a b : Addr} {sl : Nat} {v : Value} {ty : FieldType} {n : Nat} {f : Nat → Value} (F : own_A Z h b ty n f) (q : Wr h h' a sl v) (ne : b ≠ a) : own_A Z h' b ty n f := by obtain ⟨cl, A, r⟩ := F; exact ⟨cl, A.other q ne, r⟩
theorem own_A.keep {h' : Heap} {ws : List Addr} {a : Addr} {ty : FieldType} {n : Nat} {f : Nat → Value} (F : own_A Z h a ty n f) (K : Keep h h' ws) (q : a ∉ ws) : own_A Z h' a ty n f := by obtain ⟨cl, A, r⟩ := F; exact ⟨cl, ⟨K.2.1 a cl A.1 q, A.2⟩, r⟩
theorem own_A.congr {a : Addr} {ty : FieldType} {n : Nat} {f g : Nat → Value} (F : own_A Z h a ty n f) (q : ∀ j, j < n → f j = g j) : own_A Z h a ty n g := by obtain ⟨cl, A, r1, r2⟩ := F; exact ⟨cl, A, r1, fun j hj => by rw [r2 j hj, q j hj]⟩
theorem own_nn {z : Int32} {k : Nat} (hz : z.toInt = (k : Int)) : ¬ z < 0 := by rw [Int32.lt_iff_toInt_lt]; have : (0 : Int32).toInt = 0 := rfl; omega
theorem own_cl {z : Int32} {k : Nat} (hz : z.toInt = (k : Int)) : z.toNatClampNeg = k := by
  have h := nat_of (own_nn hz)
  omega
theorem own_in {z : Int32} {k n : Nat} {cl : Cell} (hz : z.toInt = (k : Int)) (hs : cl.slots.size = n) (hk : k < n) : ¬ (z < 0 ∨ cl.slots.size ≤ z.toNatClampNeg) := by
  rintro (q | q)
  · exact own_nn hz q
  · rw [own_cl hz] at q; omega
theorem own_A.set {h' : Heap} {a : Addr} {ty : FieldType} {n k : Nat} {f : Nat → Value} {v : Value} (F : own_A Z h a ty n f) (q : Wr h h' a k v) (hk : k < n) : own_A Z h' a ty n (own_upd f k v) := by
  obtain ⟨cl, A, r1, r2⟩ := F
  refine ⟨cl.setSlot k v, Arr.same q A, by rw [sz_set]; exact r1, fun j hj => ?_⟩
  by_cases e : j = k
  · subst e; simp [own_upd, Cell.setSlot, r1, hj]
  · simp only [own_upd, if_neg e, Cell.setSlot]
    rw [Array.getElem?_setIfInBounds_ne (Ne.symm e)]; exact r2 j hj
theorem own_arraylength (W : own_W p l e R s m args below meth c Z y ret code ml ws T h cells slots) {a : Addr} {ty : FieldType} {n : Nat} {f : Nat → Value} (z : Int32) {pc : Nat} (pc' : Nat) {L : Array Slot} {st : List Value} (hd : decode code pc = .ok (.arraylength, 1)) (F : own_A Z h a ty n f) (hz : n.toInt32 = z) (hp : pc + 1 = pc') (k : own_Go p e below C T (mkF m pc' L (.int z :: st))) : own_Go p e below C T (mkF m pc L (.ref a :: st)) := by
  have hsz := own_le W
  obtain ⟨⟨hx, hby, hml, hown, hnm, hrt, hlk, hZ⟩, locs, X, eT, N⟩ := W
  subst hp eT
  obtain ⟨cl, A, hs, hf⟩ := F
  subst hs hz
  exact own_st (fun t q => X.arraylength hx A.1 (State.isArrayOf_alike hZ.alike A.2.1) (g := mkF m pc L (.ref a :: st)) rfl rfl (hb hby hd) t q) k
/-- an array of references to objects of C (and of what may be stored there) -/
def own_R (Z : State) (h : Heap) (a : Addr) (C0 : String) (n : Nat) (f : Nat → Value) : Prop := ∃ cl : Cell, Arr Z h a cl (.object C0) ∧ Ovr Z cl.cls C0 ∧ cl.slots.size = n ∧ ∀ j, j < n → cl.slots[j]? = some (f j)
theorem own_R.lt {a : Addr} {C0 : String} {n : Nat} {f : Nat → Value} (F : own_R Z h a C0 n f) : a < h.size := by obtain ⟨cl, A, -⟩ := F; exact A.lt
theorem own_R.ext {h' : Heap} {a : Addr} {C0 : String} {n : Nat} {f : Nat → Value} (F : own_R Z h a C0 n f) (E : Ext h h') : own_R Z h' a C0 n f := by obtain ⟨cl, A, r⟩ := F; exact ⟨cl, A.ext E, r⟩
theorem own_R.other {h' : Heap} {a b : Addr} {sl : Nat} {v : Value} {C0 : String} {n : Nat} {f : Nat → Value} (F : own_R Z h b C0 n f) (q : Wr h h' a sl v) (ne : b ≠ a) : own_R Z h' b C0 n f := by obtain ⟨cl, A, r⟩ := F; exact ⟨cl, A.other q ne, r⟩
theorem own_R.keep {h' : Heap} {ws : List Addr} {a : Addr} {C0 : String} {n : Nat} {f : Nat → Value} (F : own_R Z h a C0 n f) (K : Keep h h' ws) (q : a ∉ ws) : own_R Z h' a C0 n f := by obtain ⟨cl, A, r⟩ := F; exact ⟨cl, ⟨K.2.1 a cl A.1 q, A.2⟩, r⟩
theorem own_R.set {h' : Heap} {a : Addr} {C0 : String} {n k : Nat} {f : Nat → Value} {v : Value} (F : own_R Z h a C0 n f) (q : Wr h h' a k v) (hk : k < n) : own_R Z h' a C0 n (own_upd f k v) := by
  obtain ⟨cl, A, O, r1, r2⟩ := F
  refine ⟨cl.setSlot k v, Arr.same q A, O, by rw [sz_set]; exact r1, fun j hj => ?_⟩
  by_cases e : j = k
  · subst e; simp [own_upd, Cell.setSlot, r1, hj]
  · simp only [own_upd, if_neg e, Cell.setSlot]
    rw [Array.getElem?_setIfInBounds_ne (Ne.symm e)]; exact r2 j hj
theorem own_anewarray (W : own_W p l e R s m args below meth c Z y ret code ml ws T h cells slots) {C0 : String} {i : Nat} {z : Int32} (N cap : Nat) {pc : Nat} (pc' : Nat) {L : Array Slot} {st : List Value} (hd : decode code pc = .ok (.anewarray i, 3)) (w1 : (Jvm.Cond.classLink y.cls i C0).before a0 Z = true) (w2 : (Jvm.Cond.arrayOver (.object C0)).before a0 Z = true) (hz : z.toInt = (N : Int)) (hcap : N ≤ cap) (hb8 : cap * 8 ≤ 536870912) (hc : cells + 1 ≤ R.cells) (hl : slots + cap ≤ R.slots) (hp : pc + 3 = pc') (k : ∀ T' h' a, own_W p l e R s m args below meth c Z y ret code ml ws T' h' (cells + 1) (slots + cap) → Ext h h' → a = h.size → s.heap.size ≤ a → own_R Z h' a C0 N (fun _ => .null) → own_Go p e below C T' (mkF m pc' L (.ref a :: st))) : own_Go p e below C T (mkF m pc L (.int z :: st)) := by
  have hsz := own_le W
  obtain ⟨⟨hx, hby, hml, hown, hnm, hrt, hlk, hZ⟩, locs, X, eT, Nf⟩ := W
  subst hp
  have hcl := own_cl hz
  obtain ⟨T', h', cA, X', e', E', A', O', st'⟩ := newR X hx hZ hown w1 w2 eT (g := mkF m pc L (.int z :: st)) rfl (hb hby hd) rfl (own_nn hz) (cap := cap) (by rw [hcl]; exact hcap) hb8 hc hl
  refine own_st st' (k T' h' h.size ⟨⟨hx, hby, hml, hown, hnm, hrt, hlk, hZ⟩, locs, X', e', Nf⟩ E' rfl hsz ⟨_, A', O', by rw [sz_new, hcl], fun j hj => ?_⟩)
  simp [newA, hcl, hj, defaultValue]
theorem own_aastore (W : own_W p l e R s m args below meth c Z y ret code ml ws T h cells slots) {a b : Addr} {C0 : String} {z : Int32} {n : Nat} {f : Nat → Value} (k : Nat) {pc : Nat} (pc' : Nat) {L : Array Slot} {st : List Value} (hd : decode code pc = .ok (.aastore, 1)) (F : own_R Z h a C0 n f) (I : Ins Z h b C0 true) (ha : a ∈ ws ∨ s.heap.size ≤ a) (hz : z.toInt = (k : Int)) (hk : k < n) (hp : pc + 1 = pc') (kk : ∀ T' h', own_W p l e R s m args below meth c Z y ret code ml ws T' h' cells slots → Wr h h' a k (.ref b) → own_R Z h' a C0 n (own_upd f k (.ref b)) → own_Go p e below C T' (mkF m pc' L st)) : own_Go p e below C T (mkF m pc L (.ref b :: .int z :: .ref a :: st)) := by
  have hsz := own_le W
  obtain ⟨⟨hx, hby, hml, hown, hnm, hrt, hlk, hZ⟩, locs, X, eT, N⟩ := W
  subst hp
  have F' := F
  obtain ⟨cl, A, O, hs, hf⟩ := F
  obtain ⟨T', h', X', e', W', st'⟩ := stR X hx hZ eT A (j := z) (own_in hz hs hk) rfl (Sto.of A O I) (g := mkF m pc L (.ref b :: .int z :: .ref a :: st)) rfl rfl (hb hby hd)
  rw [own_cl hz] at W'
  exact own_st st' (kk T' h' ⟨⟨hx, hby, hml, hown, hnm, hrt, hlk, hZ⟩, _, X', e', own_Fw_snoc N ha⟩ W' (F'.set W' hk))
theorem own_aaload (W : own_W p l e R s m args below meth c Z y ret code ml ws T h cells slots) {a : Addr} {C0 : String} {z : Int32} {n : Nat} {f : Nat → Value} (k : Nat) (v : Value) {pc : Nat} (pc' : Nat) {L : Array Slot} {st : List Value} (hd : decode code pc = .ok (.aaload, 1)) (F : own_R Z h a C0 n f) (hz : z.toInt = (k : Int)) (hk : k < n) (hv : f k = v) (hp : pc + 1 = pc') (kk : own_Go p e below C T (mkF m pc' L (v :: st))) : own_Go p e below C T (mkF m pc L (.int z :: .ref a :: st)) := by
  have hsz := own_le W
  obtain ⟨⟨hx, hby, hml, hown, hnm, hrt, hlk, hZ⟩, locs, X, eT, N⟩ := W
  subst hp eT
  obtain ⟨cl, A, O, hs, hf⟩ := F
  have hat : cl.slots[z.toNatClampNeg]? = some v := by rw [own_cl hz, hf k hk, hv]
  exact own_st (fun t q => X.aaload hx A.1 (State.isArrayOf_alike hZ.alike A.2.1) rfl A.2.2 (own_in hz hs hk) hat (g := mkF m pc L (.int z :: .ref a :: st)) rfl rfl (hb hby hd) t q) kk
theorem own_gd {n k : Nat} {f : Nat → Value} {d : Value} (hk : k < n) : ((List.range n).map f).getD k d = f k := by simp [List.getD, hk]
theorem own_A.arv {a : Addr} {ty : FieldType} {n : Nat} {f : Nat → Value} (F : own_A Z h a ty n f) (hn : n < 2147483648) (hf : ∀ j, j < n → fits ty (f j) = true) (d : Value) : ∃ k, Arv Z h a k ty n.toInt32 ((List.range n).map f) d := by
  obtain ⟨cl, A, r1, r2⟩ := F
  have hz : n.toInt32.toInt = (n : Int) := len_toInt hn
  refine ⟨cl.cls, cl, A, rfl, by rw [r1, own_cl hz], own_nn hz, fun k hk => ?_, fun i hi => ?_⟩
  · rw [r1] at hk
    rw [r2 k hk, own_gd hk]
  · rw [r1] at hi
    rw [own_gd hi]; exact hf i hi
theorem own_A.of_arv {a : Addr} {k : ClassId} {ty : FieldType} {z : Int32} {n : Nat} {vs : List Value} {d : Value} (F : Arv Z h a k ty z vs d) (hz : z.toInt = (n : Int)) : own_A Z h a ty n (fun j => vs.getD j d) := by
  obtain ⟨cl, A, -, r2, -, H, -⟩ := F
  rw [own_cl hz] at r2
  exact ⟨cl, A, r2, fun j hj => H j (by rw [r2]; exact hj)⟩
theorem own_cpl (f f' : Nat → Value) (n n' i j k : Nat) (d : Value) (h4 : i + k ≤ n) (h5 : j + k ≤ n') (q : Nat) (hq : q < n') :
    (((List.range n').map f').take j ++ (List.range k).map (fun t => ((List.range n).map f).getD (i + t) d) ++ ((List.range n').map f').drop (j + k)).getD q d = if j ≤ q ∧ q < j + k then f (i + (q - j)) else f' q := by
  have hl : (((List.range n').map f').take j).length = j := by simp; omega
  have hm : ((List.range k).map (fun t => ((List.range n).map f).getD (i + t) d)).length = k := by simp
  rw [List.getD_eq_getElem?_getD, List.append_assoc]
  rcases Nat.lt_or_ge q j with h1 | h1
  · rw [List.getElem?_append_left (by omega), if_neg (by omega)]
    simp [List.getElem?_take, h1, hq]
  · rw [List.getElem?_append_right (by omega), hl]
    rcases Nat.lt_or_ge q (j + k) with h2 | h2
    · rw [List.getElem?_append_left (by omega), if_pos ⟨h1, h2⟩, List.getElem?_map, List.getElem?_range (by omega)]
      simp only [Option.map_some, Option.getD_some]
      rw [own_gd (by omega)]
    · rw [List.getElem?_append_right (by omega), hm, if_neg (by omega), List.getElem?_drop]
      rw [show j + k + (q - j - k) = q by omega]
      simp [hq]
theorem own_new (W : own_W p l e R s m args below meth c Z y ret code ml ws T h cells slots) {C0 : String} {i nn : Nat} {pc : Nat} (pc' : Nat) {L : Array Slot} {st : List Value} (hd : decode code pc = .ok (.new i, 3)) (w : (Jvm.Cond.classLink y.cls i C0).before a0 Z = true) (wi : (Jvm.Cond.instantiable C0 nn).before a0 Z = true) (wz : (Jvm.Cond.initialized C0).before a0 Z = true) (hc : cells + 1 ≤ R.cells) (hl : slots + nn ≤ R.slots) (hp : pc + 3 = pc') (k : ∀ T' h' a, own_W p l e R s m args below meth c Z y ret code ml ws T' h' (cells + 1) (slots + nn) → Ext h h' → a = h.size → s.heap.size ≤ a → Exa Z h' a C0 → (∀ {O nm d : String} {ty : FieldType}, Laid Z a0 C0 O nm d → parseFieldDescriptor d = some ty → Fld Z h' a O nm d (defaultValue ty)) → own_Go p e below C T' (mkF m pc' L (.ref a :: st))) : own_Go p e below C T (mkF m pc L st) := by
  have hsz := own_le W
  obtain ⟨⟨hx, hby, hml, hown, hnm, hrt, hlk, hZ⟩, locs, X, eT, N⟩ := W
  subst hp
  obtain ⟨T', h', X', e', E', A', D', -, st'⟩ := newO X hx hZ hown w wi wz eT (g := mkF m pc L st) rfl (hb hby hd) hc hl
  exact own_st st' (k T' h' h.size ⟨⟨hx, hby, hml, hown, hnm, hrt, hlk, hZ⟩, locs, X', e', N⟩ E' rfl hsz A' D')
theorem own_getfield (W : own_W p l e R s m args below meth c Z y ret code ml ws T h cells slots) {O n d : String} {i : Nat} {a : Addr} {v : Value} {pc : Nat} (pc' : Nat) {L : Array Slot} {st : List Value} (hd : decode code pc = .ok (.getfield i, 3)) (w : (Jvm.Cond.fieldLink y.cls i O n d).before a0 Z = true) (F : Fld Z h a O n d v) (hp : pc + 3 = pc') (k : ∀ T', own_W p l e R s m args below meth c Z y ret code ml ws T' h cells slots → own_Go p e below C T' (mkF m pc' L (v :: st))) : own_Go p e below C T (mkF m pc L (.ref a :: st)) := by
  have hsz := own_le W
  obtain ⟨⟨hx, hby, hml, hown, hnm, hrt, hlk, hZ⟩, locs, X, eT, N⟩ := W
  subst hp
  obtain ⟨T', X', e', st'⟩ := getF X hx hZ hown (host := "") (Or.inl w) Via.refl eT F (g := mkF m pc L (.ref a :: st)) rfl rfl (hb hby hd)
  exact own_st st' (k T' ⟨⟨hx, hby, hml, hown, hnm, hrt, hlk, hZ⟩, locs, X', e', N⟩)
theorem own_getfieldN (W : own_W p l e R s m args below meth c Z y ret code ml ws T h cells slots) {O n d host : String} {i : Nat} {a : Addr} {v : Value} {pc : Nat} (pc' : Nat) {L : Array Slot} {st : List Value} (hd : decode code pc = .ok (.getfield i, 3)) (w : (Jvm.Cond.fieldLinkNest y.cls i O n d host).before a0 Z = true) (F : Fld Z h a O n d v) (hp : pc + 3 = pc') (k : ∀ T', own_W p l e R s m args below meth c Z y ret code ml ws T' h cells slots → own_Go p e below C T' (mkF m pc' L (v :: st))) : own_Go p e below C T (mkF m pc L (.ref a :: st)) := by
  have hsz := own_le W
  obtain ⟨⟨hx, hby, hml, hown, hnm, hrt, hlk, hZ⟩, locs, X, eT, N⟩ := W
  subst hp
  obtain ⟨T', X', e', st'⟩ := getF X hx hZ hown (host := host) (Or.inr w) Via.refl eT F (g := mkF m pc L (.ref a :: st)) rfl rfl (hb hby hd)
  exact own_st st' (k T' ⟨⟨hx, hby, hml, hown, hnm, hrt, hlk, hZ⟩, locs, X', e', N⟩)
theorem own_getstatic (W : own_W p l e R s m args below meth c Z y ret code ml ws T h cells slots) {O n d : String} {i : Nat} {v : Value} {pc : Nat} (pc' : Nat) {L : Array Slot} {st : List Value} (hd : decode code pc = .ok (.getstatic i, 3)) (w : (Jvm.Cond.fieldLink y.cls i O n d).before a0 Z = true) (F : Sta Z h O n d v) (hp : pc + 3 = pc') (k : ∀ T', own_W p l e R s m args below meth c Z y ret code ml ws T' h cells slots → own_Go p e below C T' (mkF m pc' L (v :: st))) : own_Go p e below C T (mkF m pc L st) := by
  have hsz := own_le W
  obtain ⟨⟨hx, hby, hml, hown, hnm, hrt, hlk, hZ⟩, locs, X, eT, N⟩ := W
  subst hp
  obtain ⟨T', X', e', st'⟩ := getS X hx hZ hown (host := "") w Via.refl eT F (g := mkF m pc L st) rfl (hb hby hd)
  exact own_st st' (k T' ⟨⟨hx, hby, hml, hown, hnm, hrt, hlk, hZ⟩, locs, X', e', N⟩)
theorem own_putfield (W : own_W p l e R s m args below meth c Z y ret code ml ws T h cells slots) {O n d C0 : String} {i kk : Nat} {ty : FieldType} {a : Addr} {v old : Value} (v' : Value) {pc : Nat} (pc' : Nat) {L : Array Slot} {st : List Value} (hd : decode code pc = .ok (.putfield i, 3)) (w : (Jvm.Cond.fieldLink y.cls i O n d).before a0 Z = true) (F : Fld Z h a O n d old) (E : Exa Z h a C0) (La : (Jvm.Cond.lays C0 O n d).before a0 Z = true ∨ ((Jvm.Cond.laysFinal C0 O n d).before a0 Z = true ∧ y.cls = O ∧ y.name = "<init>")) (wi : (Jvm.Cond.instantiable C0 kk).before a0 Z = true) (ha : a ∈ ws ∨ s.heap.size ≤ a) (hty : parseFieldDescriptor d = some ty) (hn : narrow ty v = v') (hf : fits ty v' = true) (hp : pc + 3 = pc') (k : ∀ T' h', own_W p l e R s m args below meth c Z y ret code ml ws T' h' cells slots → Wr h h' a (Jvm.RoadKit.slotOf Z O n d) v' → Fld Z h' a O n d v' → own_Go p e below C T' (mkF m pc' L st)) : own_Go p e below C T (mkF m pc L (v :: .ref a :: st)) := by
  have hsz := own_le W
  obtain ⟨⟨hx, hby, hml, hown, hnm, hrt, hlk, hZ⟩, locs, X, eT, N⟩ := W
  subst hp
  obtain ⟨T', h', X', e', W', st'⟩ := putFN X hx hZ hown w Via.refl eT F E (by rw [hnm]; exact La) wi hty hn hf (g := mkF m pc L (v :: .ref a :: st)) rfl rfl (hb hby hd)
  exact own_st st' (k T' h' ⟨⟨hx, hby, hml, hown, hnm, hrt, hlk, hZ⟩, _, X', e', own_Fw_snoc N ha⟩ W' (F.same W'))
theorem own_callS (W : own_W p l e R s m args below meth c Z y ret code ml ws T h cells slots) {i : Nat} {yc : MethodName} {bytes : ByteArray} {maxL : Nat} {rt : Option FieldType} {rm : Room} {Q : Option Value → Heap → Prop} {ps : List FieldType} {rr : Option FieldType} {wc' : List Addr} (A : List Value) (wt : Nat) {pc : Nat} (pc' : Nat) {L : Array Slot} {st : List Value} (hd : decode code pc = .ok (.invokestatic i, 3)) (wl : (Jvm.Cond.methodLink y.cls i yc).before a0 Z = true) (wst : (Jvm.Cond.static yc).before a0 Z = true) (wz : (Jvm.Cond.initialized yc.cls).before a0 Z = true) (wc : (Jvm.Cond.code yc bytes maxL rt).before a0 Z = true) (hy : yc.cls ≠ "java/lang/invoke/MethodHandle" ∧ yc.cls ≠ "java/lang/invoke/VarHandle") (hM : own_M l Z [] yc bytes maxL rt rm wc' A.toArray h Q) (hws : ∀ b ∈ wc', b ∈ ws ∨ s.heap.size ≤ b) (hL : L.size = ml) (hds : parseMethodDescriptor yc.desc = some ⟨ps, rr⟩) (hA : A.length = ps.length) (hwt : (st.map fun v => v.category).sum ≤ wt) (hf : rm.frames + 1 ≤ R.frames) (hlo : wt + (maxL + 11) + rm.locals ≤ R.locals) (hc : cells + rm.cells ≤ R.cells) (hs : slots + rm.slots ≤ R.slots) (hp : pc + 3 = pc') (k : ∀ T' h' v, own_W p l e R s m args below meth c Z y ret code ml ws T' h' (cells + rm.cells) (slots + rm.slots) → Keep h h' wc' → (rm.cells = 0 → wc' = [] → h' = h) → Q v h' → own_Go p e below C T' (mkF m pc' L (v.toList ++ st))) : own_Go p e below C T (mkF m pc L (A.reverse ++ st)) := by
  have hsz := own_le W
  obtain ⟨⟨hx, hby, hml, hown, hnm, hrt, hlk, hZ⟩, locs, X, eT, N⟩ := W
  subst hp
  obtain ⟨_, _, ⟨T', L', k', n'⟩, -, X', ⟨Lc', hQ', l', y', z'⟩, st'⟩ := Jvm.LawKit.callS X hx (y := yc) hown (mvT hZ wl) (mvT hZ wst) (mvT hZ wz) (mvT hZ wc) hy (backOf (W := wt) hM hZ wc wz hf hlo) (g := mkF m pc L (A.reverse ++ st)) rfl (by rw [hml]; exact hL) (argsL := A) (rest := st) (lenOf hds hA) rfl (by show 2 * 0 + _ ≤ _; omega) (hb hby hd) (fun _ _ => ⟨rfl, eT, hc, hs⟩)
  dsimp only [Pt.U, Pt.locs, Pt.cells, Pt.slots] at X' l' y' z' st' hQ'
  subst l' y' z'
  exact own_st st' (k T' _ _ ⟨⟨hx, hby, hml, hown, hnm, hrt, hlk, hZ⟩, _, X', rfl, own_Fw_app N hQ'.1 hws hsz⟩ hQ'.2.1 hQ'.2.2.1 hQ'.2.2.2)
theorem own_callN (W : own_W p l e R s m args below meth c Z y ret code ml ws T h cells slots) {i : Nat} {yc : MethodName} {bytes : ByteArray} {maxL : Nat} {rm : Room} {Q : Option Value → Heap → Prop} {ps : List FieldType} {rr : Option FieldType} {a : Addr} {wc' : List Addr} (A : List Value) (wt : Nat) {pc : Nat} (pc' : Nat) {L : Array Slot} {st : List Value} (hd : decode code pc = .ok (.invokespecial i, 3)) (hi : yc.name = "<init>") (wl : (Jvm.Cond.methodLink y.cls i yc).before a0 Z = true) (wst : (Jvm.Cond.instanceMethod yc).before a0 Z = true) (wz : (Jvm.Cond.initialized yc.cls).before a0 Z = true) (wc : (Jvm.Cond.code yc bytes maxL none).before a0 Z = true) (hy : yc.cls ≠ "java/lang/invoke/MethodHandle" ∧ yc.cls ≠ "java/lang/invoke/VarHandle") (hM : own_M l Z [] yc bytes maxL none rm wc' (.ref a :: A).toArray h Q) (hws : ∀ b ∈ wc', b ∈ ws ∨ s.heap.size ≤ b) (hL : L.size = ml) (hds : parseMethodDescriptor yc.desc = some ⟨ps, rr⟩) (hA : A.length = ps.length) (hwt : (st.map fun v => v.category).sum ≤ wt) (hf : rm.frames + 1 ≤ R.frames) (hlo : wt + (maxL + 11) + rm.locals ≤ R.locals) (hc : cells + rm.cells ≤ R.cells) (hs : slots + rm.slots ≤ R.slots) (hp : pc + 3 = pc') (k : ∀ T' h' v, own_W p l e R s m args below meth c Z y ret code ml ws T' h' (cells + rm.cells) (slots + rm.slots) → Keep h h' wc' → (rm.cells = 0 → wc' = [] → h' = h) → Q v h' → own_Go p e below C T' (mkF m pc' L (v.toList ++ st))) : own_Go p e below C T (mkF m pc L (A.reverse ++ .ref a :: st)) := by
  have hsz := own_le W
  obtain ⟨⟨hx, hby, hml, hown, hnm, hrt, hlk, hZ⟩, locs, X, eT, N⟩ := W
  subst hp
  obtain ⟨_, _, ⟨T', L', k', n'⟩, -, X', ⟨Lc', hQ', l', y', z'⟩, st'⟩ := X.specialBack hx (y := yc) hi hown (mvT hZ wl) (mvT hZ wst) (mvT hZ wc) hy (backOf (W := wt) hM hZ wc wz hf hlo) (g := mkF m pc L (A.reverse ++ .ref a :: st)) rfl (by rw [hml]; exact hL) (Steps.refl _) (a := a) (argsL := A) (rest := st) (lenOf hds hA) rfl (by show 2 * 0 + _ ≤ _; omega) (hb hby hd) (fun _ _ => ⟨rfl, eT, hc, hs⟩)
  dsimp only [Pt.U, Pt.locs, Pt.cells, Pt.slots] at X' l' y' z' st' hQ'
  subst l' y' z'
  exact own_tr st' (k T' _ _ ⟨⟨hx, hby, hml, hown, hnm, hrt, hlk, hZ⟩, _, X', rfl, own_Fw_app N hQ'.1 hws hsz⟩ hQ'.2.1 hQ'.2.2.1 hQ'.2.2.2)
theorem own_callV (W : own_W p l e R s m args below meth c Z y ret code ml ws T h cells slots) {C0 : String} {i : Nat} {yc zc : MethodName} {bytes : ByteArray} {maxL : Nat} {rt : Option FieldType} {rm : Room} {Q : Option Value → Heap → Prop} {ps : List FieldType} {rr : Option FieldType} {a : Addr} {wc' : List Addr} (A : List Value) (wt : Nat) {pc : Nat} (pc' : Nat) {L : Array Slot} {st : List Value} (hd : decode code pc = .ok (.invokevirtual i, 3)) (wl : (Jvm.Cond.methodLink y.cls i yc).before a0 Z = true) (wd : (Jvm.Cond.declares yc).before a0 Z = true) (nf : NotFace s yc) (wse : (Jvm.Cond.selects C0 yc zc).before a0 Z = true) (wst : (Jvm.Cond.instanceMethod zc).before a0 Z = true) (wz : (Jvm.Cond.initialized zc.cls).before a0 Z = true) (wc : (Jvm.Cond.code zc bytes maxL rt).before a0 Z = true) (hy : yc.cls ≠ "java/lang/invoke/MethodHandle" ∧ yc.cls ≠ "java/lang/invoke/VarHandle") (E : Exa Z h a C0) (hM : own_M l Z [] zc bytes maxL rt rm wc' (.ref a :: A).toArray h Q) (hws : ∀ b ∈ wc', b ∈ ws ∨ s.heap.size ≤ b) (hL : L.size = ml) (hds : parseMethodDescriptor yc.desc = some ⟨ps, rr⟩) (hA : A.length = ps.length) (hwt : (st.map fun v => v.category).sum ≤ wt) (hf : rm.frames + 1 ≤ R.frames) (hlo : wt + (maxL + 11) + rm.locals ≤ R.locals) (hc : cells + rm.cells ≤ R.cells) (hs : slots + rm.slots ≤ R.slots) (hp : pc + 3 = pc') (k : ∀ T' h' v, own_W p l e R s m args below meth c Z y ret code ml ws T' h' (cells + rm.cells) (slots + rm.slots) → Keep h h' wc' → (rm.cells = 0 → wc' = [] → h' = h) → Q v h' → own_Go p e below C T' (mkF m pc' L (v.toList ++ st))) : own_Go p e below C T (mkF m pc L (A.reverse ++ .ref a :: st)) := by
  have hsz := own_le W
  obtain ⟨⟨hx, hby, hml, hown, hnm, hrt, hlk, hZ⟩, locs, X, eT, N⟩ := W
  subst hp
  obtain ⟨cq, kq, qa, qb, qc⟩ := isOf hZ eT E
  obtain ⟨_, _, ⟨T', L', k', n'⟩, -, X', ⟨Lc', hQ', l', y', z'⟩, st'⟩ := X.virtualBack hx (y := yc) (z := zc) hown (mvT hZ wl) (mvT hZ wd) nf (mvT hZ wse) (mvT hZ wst) hy (backOf (W := wt) hM hZ wc wz hf hlo) qa qc (g := mkF m pc L (A.reverse ++ .ref a :: st)) rfl (by rw [hml]; exact hL) (Steps.refl _) (argsL := A) (rest := st) (lenOf hds hA) rfl (by show 2 * 0 + _ ≤ _; omega) (hb hby hd) (fun _ _ => ⟨rfl, eT, hc, hs⟩)
  dsimp only [Pt.U, Pt.locs, Pt.cells, Pt.slots] at X' l' y' z' st' hQ'
  subst l' y' z'
  exact own_tr st' (k T' _ _ ⟨⟨hx, hby, hml, hown, hnm, hrt, hlk, hZ⟩, _, X', rfl, own_Fw_app N hQ'.1 hws hsz⟩ hQ'.2.1 hQ'.2.2.1 hQ'.2.2.2)
theorem own_nf (W : own_W p l e R s m args below meth c Z y ret code ml ws T h cells slots) {C0 : String} {yc : MethodName} (wse : (Jvm.Cond.selects C0 yc yc).before a0 Z = true) : NotFace s yc := by
  have hsz := own_le W
  obtain ⟨⟨hx, hby, hml, hown, hnm, hrt, hlk, hZ⟩, locs, X, eT, N⟩ := W
  exact notFace_of_selects (args := #[]) (mvT hZ wse)
theorem own_initO (W : own_W p l e R s m args below meth c Z y ret code ml ws T h cells slots) {i : Nat} {a : Addr} (wt : Nat) {pc : Nat} (pc' : Nat) {L : Array Slot} {st : List Value} (hd : decode code pc = .ok (.invokespecial i, 3)) (w1 : (Jvm.Cond.methodLink y.cls i Lib.objectInit).before a0 Z = true) (w2 : (Jvm.Cond.instanceMethod Lib.objectInit).before a0 Z = true) (w3 : (Jvm.Cond.code Lib.objectInit ⟨#[0xb1]⟩ 1 none).before a0 Z = true) (hL : L.size = ml) (hwt : (st.map fun v => v.category).sum ≤ wt) (hf : 1 ≤ R.frames) (hlo : wt + 12 ≤ R.locals) (hp : pc + 3 = pc') (k : ∀ T', own_W p l e R s m args below meth c Z y ret code ml ws T' h cells slots → own_Go p e below C T' (mkF m pc' L st)) : own_Go p e below C T (mkF m pc L (.ref a :: st)) := by
  have hsz := own_le W
  obtain ⟨⟨hx, hby, hml, hown, hnm, hrt, hlk, hZ⟩, locs, X, eT, N⟩ := W
  subst hp
  obtain ⟨T', X', e', st'⟩ := initO X hx hZ hown w1 w2 w3 eT (g := mkF m pc L (.ref a :: st)) rfl (by rw [hml]; exact hL) rfl (hb hby hd) hf (W := wt) (by show 2 * 0 + _ ≤ _; omega) hlo
  exact own_st st' (k T' ⟨⟨hx, hby, hml, hown, hnm, hrt, hlk, hZ⟩, locs, X', e', N⟩)
theorem own_bz {P : Prop} [Decidable P] : (if P then (1 : Int32) else 0) &&& 1 = if P then (1 : Int32) else 0 := by split <;> rfl
end OwnKit

theorem wd0 {a0 : Array Value} {Z : State} (hw : ∀ d ∈ tables_1, d.before a0 Z = true) : (Jvm.Cond.constant "com/example/redelivery/redelivery/engine/MemoryLogDeletesBeforePinLaw" (7 : Nat) (2147483647 : Int32)).before a0 Z = true := hw _ (List.mem_of_getElem? (i := 0) rfl)
theorem wd1 {a0 : Array Value} {Z : State} (hw : ∀ d ∈ tables_1, d.before a0 Z = true) : (Jvm.Cond.classLink "com/example/redelivery/redelivery/engine/MemoryLogDeletesBeforePinLaw" (10 : Nat) "java/util/ArrayList").before a0 Z = true := hw _ (List.mem_of_getElem? (i := 1) rfl)
theorem wd2 {a0 : Array Value} {Z : State} (hw : ∀ d ∈ tables_1, d.before a0 Z = true) : (Jvm.Cond.instantiable "java/util/ArrayList" (3 : Nat)).before a0 Z = true := hw _ (List.mem_of_getElem? (i := 2) rfl)
theorem wd3 {a0 : Array Value} {Z : State} (hw : ∀ d ∈ tables_1, d.before a0 Z = true) : (Jvm.Cond.initialized "java/util/ArrayList").before a0 Z = true := hw _ (List.mem_of_getElem? (i := 3) rfl)
theorem wd4 {a0 : Array Value} {Z : State} (hw : ∀ d ∈ tables_1, d.before a0 Z = true) : (Jvm.Cond.methodLink "com/example/redelivery/redelivery/engine/MemoryLogDeletesBeforePinLaw" (12 : Nat) ({ cls := "java/util/ArrayList", name := "<init>", desc := "()V" } : Jvm.MethodName)).before a0 Z = true := hw _ (List.mem_of_getElem? (i := 4) rfl)
theorem wd5 {a0 : Array Value} {Z : State} (hw : ∀ d ∈ tables_1, d.before a0 Z = true) : (Jvm.Cond.instanceMethod ({ cls := "java/util/ArrayList", name := "<init>", desc := "()V" } : Jvm.MethodName)).before a0 Z = true := hw _ (List.mem_of_getElem? (i := 5) rfl)
theorem wd6 {a0 : Array Value} {Z : State} (hw : ∀ d ∈ tables_1, d.before a0 Z = true) : (Jvm.Cond.code ({ cls := "java/util/ArrayList", name := "<init>", desc := "()V" } : Jvm.MethodName) jdk_38_method_2_code (1 : Nat) (Option.none : Option Jvm.ClassFile.FieldType)).before a0 Z = true := hw _ (List.mem_of_getElem? (i := 6) rfl)
theorem wd7 {a0 : Array Value} {Z : State} (hw : ∀ d ∈ tables_1, d.before a0 Z = true) : (Jvm.Cond.methodLink "java/util/ArrayList" (1 : Nat) ({ cls := "java/util/AbstractList", name := "<init>", desc := "()V" } : Jvm.MethodName)).before a0 Z = true := hw _ (List.mem_of_getElem? (i := 7) rfl)
theorem wd8 {a0 : Array Value} {Z : State} (hw : ∀ d ∈ tables_1, d.before a0 Z = true) : (Jvm.Cond.instanceMethod ({ cls := "java/util/AbstractList", name := "<init>", desc := "()V" } : Jvm.MethodName)).before a0 Z = true := hw _ (List.mem_of_getElem? (i := 8) rfl)
theorem wd11 {a0 : Array Value} {Z : State} (hw : ∀ d ∈ tables_1, d.before a0 Z = true) : (Jvm.Cond.initialized "java/util/AbstractList").before a0 Z = true := hw _ (List.mem_of_getElem? (i := 11) rfl)
theorem wd12 {a0 : Array Value} {Z : State} (hw : ∀ d ∈ tables_1, d.before a0 Z = true) : (Jvm.Cond.code ({ cls := "java/util/AbstractList", name := "<init>", desc := "()V" } : Jvm.MethodName) jdk_39_method_1_code (1 : Nat) (Option.none : Option Jvm.ClassFile.FieldType)).before a0 Z = true := hw _ (List.mem_of_getElem? (i := 12) rfl)
theorem wd13 {a0 : Array Value} {Z : State} (hw : ∀ d ∈ tables_1, d.before a0 Z = true) : (Jvm.Cond.methodLink "java/util/AbstractList" (1 : Nat) ({ cls := "java/util/AbstractCollection", name := "<init>", desc := "()V" } : Jvm.MethodName)).before a0 Z = true := hw _ (List.mem_of_getElem? (i := 13) rfl)
theorem wd14 {a0 : Array Value} {Z : State} (hw : ∀ d ∈ tables_1, d.before a0 Z = true) : (Jvm.Cond.instanceMethod ({ cls := "java/util/AbstractCollection", name := "<init>", desc := "()V" } : Jvm.MethodName)).before a0 Z = true := hw _ (List.mem_of_getElem? (i := 14) rfl)
theorem wd17 {a0 : Array Value} {Z : State} (hw : ∀ d ∈ tables_1, d.before a0 Z = true) : (Jvm.Cond.initialized "java/util/AbstractCollection").before a0 Z = true := hw _ (List.mem_of_getElem? (i := 17) rfl)
theorem wd18 {a0 : Array Value} {Z : State} (hw : ∀ d ∈ tables_1, d.before a0 Z = true) : (Jvm.Cond.code ({ cls := "java/util/AbstractCollection", name := "<init>", desc := "()V" } : Jvm.MethodName) jdk_22_method_1_code (1 : Nat) (Option.none : Option Jvm.ClassFile.FieldType)).before a0 Z = true := hw _ (List.mem_of_getElem? (i := 18) rfl)
theorem wd19 {a0 : Array Value} {Z : State} (hw : ∀ d ∈ tables_1, d.before a0 Z = true) : (Jvm.Cond.methodLink "java/util/AbstractCollection" (1 : Nat) ({ cls := "java/lang/Object", name := "<init>", desc := "()V" } : Jvm.MethodName)).before a0 Z = true := hw _ (List.mem_of_getElem? (i := 19) rfl)
theorem wd20 {a0 : Array Value} {Z : State} (hw : ∀ d ∈ tables_1, d.before a0 Z = true) : (Jvm.Cond.instanceMethod ({ cls := "java/lang/Object", name := "<init>", desc := "()V" } : Jvm.MethodName)).before a0 Z = true := hw _ (List.mem_of_getElem? (i := 20) rfl)
theorem wd21 {a0 : Array Value} {Z : State} (hw : ∀ d ∈ tables_1, d.before a0 Z = true) : (Jvm.Cond.code ({ cls := "java/lang/Object", name := "<init>", desc := "()V" } : Jvm.MethodName) object_method_1_code (1 : Nat) (Option.none : Option Jvm.ClassFile.FieldType)).before a0 Z = true := hw _ (List.mem_of_getElem? (i := 21) rfl)
theorem wd22 {a0 : Array Value} {Z : State} (hw : ∀ d ∈ tables_1, d.before a0 Z = true) : (Jvm.Cond.fieldLink "java/util/AbstractList" (7 : Nat) "java/util/AbstractList" "modCount" "I").before a0 Z = true := hw _ (List.mem_of_getElem? (i := 22) rfl)
theorem wd23 {a0 : Array Value} {Z : State} (hw : ∀ d ∈ tables_1, d.before a0 Z = true) : (Jvm.Cond.lays "java/util/ArrayList" "java/util/AbstractList" "modCount" "I").before a0 Z = true := hw _ (List.mem_of_getElem? (i := 23) rfl)
theorem wd24 {a0 : Array Value} {Z : State} (hw : ∀ d ∈ tables_1, d.before a0 Z = true) : (Jvm.Cond.fieldLink "java/util/ArrayList" (39 : Nat) "java/util/ArrayList" "DEFAULTCAPACITY_EMPTY_ELEMENTDATA" "[Ljava/lang/Object;").before a0 Z = true := hw _ (List.mem_of_getElem? (i := 24) rfl)
theorem wd25 {a0 : Array Value} {Z : State} (hw : ∀ d ∈ tables_1, d.before a0 Z = true) : (Jvm.Cond.fieldLink "java/util/ArrayList" (9 : Nat) "java/util/ArrayList" "elementData" "[Ljava/lang/Object;").before a0 Z = true := hw _ (List.mem_of_getElem? (i := 25) rfl)
theorem wd26 {a0 : Array Value} {Z : State} (hw : ∀ d ∈ tables_1, d.before a0 Z = true) : (Jvm.Cond.lays "java/util/ArrayList" "java/util/ArrayList" "elementData" "[Ljava/lang/Object;").before a0 Z = true := hw _ (List.mem_of_getElem? (i := 26) rfl)
theorem wd27 {a0 : Array Value} {Z : State} (hw : ∀ d ∈ tables_1, d.before a0 Z = true) : (Jvm.Cond.arrayClass Jvm.ClassFile.FieldType.byte).before a0 Z = true := hw _ (List.mem_of_getElem? (i := 27) rfl)
theorem wd28 {a0 : Array Value} {Z : State} (hw : ∀ d ∈ tables_1, d.before a0 Z = true) : (Jvm.Cond.methodLink "com/example/redelivery/redelivery/engine/MemoryLogDeletesBeforePinLaw" (13 : Nat) ({ cls := "java/util/ArrayList", name := "add", desc := "(Ljava/lang/Object;)Z" } : Jvm.MethodName)).before a0 Z = true := hw _ (List.mem_of_getElem? (i := 28) rfl)
theorem wd29 {a0 : Array Value} {Z : State} (hw : ∀ d ∈ tables_1, d.before a0 Z = true) : (Jvm.Cond.declares ({ cls := "java/util/ArrayList", name := "add", desc := "(Ljava/lang/Object;)Z" } : Jvm.MethodName)).before a0 Z = true := hw _ (List.mem_of_getElem? (i := 29) rfl)
theorem wd30 {a0 : Array Value} {Z : State} (hw : ∀ d ∈ tables_1, d.before a0 Z = true) : (Jvm.Cond.instanceMethod ({ cls := "java/util/ArrayList", name := "add", desc := "(Ljava/lang/Object;)Z" } : Jvm.MethodName)).before a0 Z = true := hw _ (List.mem_of_getElem? (i := 30) rfl)
theorem wd31 {a0 : Array Value} {Z : State} (hw : ∀ d ∈ tables_1, d.before a0 Z = true) : (Jvm.Cond.selects "java/util/ArrayList" ({ cls := "java/util/ArrayList", name := "add", desc := "(Ljava/lang/Object;)Z" } : Jvm.MethodName) ({ cls := "java/util/ArrayList", name := "add", desc := "(Ljava/lang/Object;)Z" } : Jvm.MethodName)).before a0 Z = true := hw _ (List.mem_of_getElem? (i := 31) rfl)
theorem wd32 {a0 : Array Value} {Z : State} (hw : ∀ d ∈ tables_1, d.before a0 Z = true) : (Jvm.Cond.code ({ cls := "java/util/ArrayList", name := "add", desc := "(Ljava/lang/Object;)Z" } : Jvm.MethodName) jdk_38_method_25_code (2 : Nat) (Option.some Jvm.ClassFile.FieldType.boolean)).before a0 Z = true := hw _ (List.mem_of_getElem? (i := 32) rfl)
theorem wd33 {a0 : Array Value} {Z : State} (hw : ∀ d ∈ tables_1, d.before a0 Z = true) : (Jvm.Cond.fieldLink "java/util/ArrayList" (63 : Nat) "java/util/ArrayList" "modCount" "I").before a0 Z = true := hw _ (List.mem_of_getElem? (i := 33) rfl)
theorem wd34 {a0 : Array Value} {Z : State} (hw : ∀ d ∈ tables_1, d.before a0 Z = true) : (Jvm.Cond.sameField "java/util/ArrayList" "java/util/AbstractList" "modCount" "I").before a0 Z = true := hw _ (List.mem_of_getElem? (i := 34) rfl)
theorem wd35 {a0 : Array Value} {Z : State} (hw : ∀ d ∈ tables_1, d.before a0 Z = true) : (Jvm.Cond.fieldLink "java/util/ArrayList" (48 : Nat) "java/util/ArrayList" "size" "I").before a0 Z = true := hw _ (List.mem_of_getElem? (i := 35) rfl)
theorem wd36 {a0 : Array Value} {Z : State} (hw : ∀ d ∈ tables_1, d.before a0 Z = true) : (Jvm.Cond.lays "java/util/ArrayList" "java/util/ArrayList" "size" "I").before a0 Z = true := hw _ (List.mem_of_getElem? (i := 36) rfl)
theorem wd37 {a0 : Array Value} {Z : State} (hw : ∀ d ∈ tables_1, d.before a0 Z = true) : (Jvm.Cond.methodLink "java/util/ArrayList" (131 : Nat) ({ cls := "java/util/ArrayList", name := "add", desc := "(Ljava/lang/Object;[Ljava/lang/Object;I)V" } : Jvm.MethodName)).before a0 Z = true := hw _ (List.mem_of_getElem? (i := 37) rfl)
theorem wd38 {a0 : Array Value} {Z : State} (hw : ∀ d ∈ tables_1, d.before a0 Z = true) : (Jvm.Cond.instanceMethod ({ cls := "java/util/ArrayList", name := "add", desc := "(Ljava/lang/Object;[Ljava/lang/Object;I)V" } : Jvm.MethodName)).before a0 Z = true := hw _ (List.mem_of_getElem? (i := 38) rfl)
theorem wd39 {a0 : Array Value} {Z : State} (hw : ∀ d ∈ tables_1, d.before a0 Z = true) : (Jvm.Cond.privateMethod ({ cls := "java/util/ArrayList", name := "add", desc := "(Ljava/lang/Object;[Ljava/lang/Object;I)V" } : Jvm.MethodName)).before a0 Z = true := hw _ (List.mem_of_getElem? (i := 39) rfl)
theorem wd40 {a0 : Array Value} {Z : State} (hw : ∀ d ∈ tables_1, d.before a0 Z = true) : (Jvm.Cond.selects "java/util/ArrayList" ({ cls := "java/util/ArrayList", name := "add", desc := "(Ljava/lang/Object;[Ljava/lang/Object;I)V" } : Jvm.MethodName) ({ cls := "java/util/ArrayList", name := "add", desc := "(Ljava/lang/Object;[Ljava/lang/Object;I)V" } : Jvm.MethodName)).before a0 Z = true := hw _ (List.mem_of_getElem? (i := 40) rfl)
theorem wd41 {a0 : Array Value} {Z : State} (hw : ∀ d ∈ tables_1, d.before a0 Z = true) : (Jvm.Cond.code ({ cls := "java/util/ArrayList", name := "add", desc := "(Ljava/lang/Object;[Ljava/lang/Object;I)V" } : Jvm.MethodName) jdk_38_method_24_code (4 : Nat) (Option.none : Option Jvm.ClassFile.FieldType)).before a0 Z = true := hw _ (List.mem_of_getElem? (i := 41) rfl)
theorem wd42 {a0 : Array Value} {Z : State} (hw : ∀ d ∈ tables_1, d.before a0 Z = true) : (Jvm.Cond.methodLink "java/util/ArrayList" (129 : Nat) ({ cls := "java/util/ArrayList", name := "grow", desc := "()[Ljava/lang/Object;" } : Jvm.MethodName)).before a0 Z = true := hw _ (List.mem_of_getElem? (i := 42) rfl)
theorem wd43 {a0 : Array Value} {Z : State} (hw : ∀ d ∈ tables_1, d.before a0 Z = true) : (Jvm.Cond.instanceMethod ({ cls := "java/util/ArrayList", name := "grow", desc := "()[Ljava/lang/Object;" } : Jvm.MethodName)).before a0 Z = true := hw _ (List.mem_of_getElem? (i := 43) rfl)
theorem wd44 {a0 : Array Value} {Z : State} (hw : ∀ d ∈ tables_1, d.before a0 Z = true) : (Jvm.Cond.privateMethod ({ cls := "java/util/ArrayList", name := "grow", desc := "()[Ljava/lang/Object;" } : Jvm.MethodName)).before a0 Z = true := hw _ (List.mem_of_getElem? (i := 44) rfl)
theorem wd45 {a0 : Array Value} {Z : State} (hw : ∀ d ∈ tables_1, d.before a0 Z = true) : (Jvm.Cond.selects "java/util/ArrayList" ({ cls := "java/util/ArrayList", name := "grow", desc := "()[Ljava/lang/Object;" } : Jvm.MethodName) ({ cls := "java/util/ArrayList", name := "grow", desc := "()[Ljava/lang/Object;" } : Jvm.MethodName)).before a0 Z = true := hw _ (List.mem_of_getElem? (i := 45) rfl)
theorem wd46 {a0 : Array Value} {Z : State} (hw : ∀ d ∈ tables_1, d.before a0 Z = true) : (Jvm.Cond.code ({ cls := "java/util/ArrayList", name := "grow", desc := "()[Ljava/lang/Object;" } : Jvm.MethodName) jdk_38_method_7_code (1 : Nat) (Option.some (Jvm.ClassFile.FieldType.array (Jvm.ClassFile.FieldType.object "java/lang/Object")))).before a0 Z = true := hw _ (List.mem_of_getElem? (i := 46) rfl)
theorem wd47 {a0 : Array Value} {Z : State} (hw : ∀ d ∈ tables_1, d.before a0 Z = true) : (Jvm.Cond.methodLink "java/util/ArrayList" (69 : Nat) ({ cls := "java/util/ArrayList", name := "grow", desc := "(I)[Ljava/lang/Object;" } : Jvm.MethodName)).before a0 Z = true := hw _ (List.mem_of_getElem? (i := 47) rfl)
theorem wd48 {a0 : Array Value} {Z : State} (hw : ∀ d ∈ tables_1, d.before a0 Z = true) : (Jvm.Cond.instanceMethod ({ cls := "java/util/ArrayList", name := "grow", desc := "(I)[Ljava/lang/Object;" } : Jvm.MethodName)).before a0 Z = true := hw _ (List.mem_of_getElem? (i := 48) rfl)
theorem wd49 {a0 : Array Value} {Z : State} (hw : ∀ d ∈ tables_1, d.before a0 Z = true) : (Jvm.Cond.privateMethod ({ cls := "java/util/ArrayList", name := "grow", desc := "(I)[Ljava/lang/Object;" } : Jvm.MethodName)).before a0 Z = true := hw _ (List.mem_of_getElem? (i := 49) rfl)
theorem wd50 {a0 : Array Value} {Z : State} (hw : ∀ d ∈ tables_1, d.before a0 Z = true) : (Jvm.Cond.selects "java/util/ArrayList" ({ cls := "java/util/ArrayList", name := "grow", desc := "(I)[Ljava/lang/Object;" } : Jvm.MethodName) ({ cls := "java/util/ArrayList", name := "grow", desc := "(I)[Ljava/lang/Object;" } : Jvm.MethodName)).before a0 Z = true := hw _ (List.mem_of_getElem? (i := 50) rfl)
theorem wd51 {a0 : Array Value} {Z : State} (hw : ∀ d ∈ tables_1, d.before a0 Z = true) : (Jvm.Cond.code ({ cls := "java/util/ArrayList", name := "grow", desc := "(I)[Ljava/lang/Object;" } : Jvm.MethodName) jdk_38_method_6_code (4 : Nat) (Option.some (Jvm.ClassFile.FieldType.array (Jvm.ClassFile.FieldType.object "java/lang/Object")))).before a0 Z = true := hw _ (List.mem_of_getElem? (i := 51) rfl)
theorem wd52 {a0 : Array Value} {Z : State} (hw : ∀ d ∈ tables_1, d.before a0 Z = true) : (Jvm.Cond.methodLink "java/util/ArrayList" (79 : Nat) ({ cls := "java/lang/Math", name := "max", desc := "(II)I" } : Jvm.MethodName)).before a0 Z = true := hw _ (List.mem_of_getElem? (i := 52) rfl)
theorem wd53 {a0 : Array Value} {Z : State} (hw : ∀ d ∈ tables_1, d.before a0 Z = true) : (Jvm.Cond.static ({ cls := "java/lang/Math", name := "max", desc := "(II)I" } : Jvm.MethodName)).before a0 Z = true := hw _ (List.mem_of_getElem? (i := 53) rfl)
theorem wd54 {a0 : Array Value} {Z : State} (hw : ∀ d ∈ tables_1, d.before a0 Z = true) : (Jvm.Cond.initialized "java/lang/Math").before a0 Z = true := hw _ (List.mem_of_getElem? (i := 54) rfl)
theorem wd55 {a0 : Array Value} {Z : State} (hw : ∀ d ∈ tables_1, d.before a0 Z = true) : (Jvm.Cond.code ({ cls := "java/lang/Math", name := "max", desc := "(II)I" } : Jvm.MethodName) jdk_29_method_65_code (2 : Nat) (Option.some Jvm.ClassFile.FieldType.int)).before a0 Z = true := hw _ (List.mem_of_getElem? (i := 55) rfl)
theorem wd56 {a0 : Array Value} {Z : State} (hw : ∀ d ∈ tables_1, d.before a0 Z = true) : (Jvm.Cond.classLink "java/util/ArrayList" (7 : Nat) "java/lang/Object").before a0 Z = true := hw _ (List.mem_of_getElem? (i := 56) rfl)
theorem wd57 {a0 : Array Value} {Z : State} (hw : ∀ d ∈ tables_1, d.before a0 Z = true) : (Jvm.Cond.arrayOver (Jvm.ClassFile.FieldType.object "java/lang/Object")).before a0 Z = true := hw _ (List.mem_of_getElem? (i := 57) rfl)
theorem wd58 {a0 : Array Value} {Z : State} (hw : ∀ d ∈ tables_1, d.before a0 Z = true) : (Jvm.Cond.castable "[B" "java/lang/Object").before a0 Z = true := hw _ (List.mem_of_getElem? (i := 58) rfl)
theorem wd59 {a0 : Array Value} {Z : State} (hw : ∀ d ∈ tables_1, d.before a0 Z = true) : (Jvm.Cond.classLink "com/example/redelivery/redelivery/engine/MemoryLogDeletesBeforePinLaw" (17 : Nat) "com/example/redelivery/redelivery/engine/MemoryLog").before a0 Z = true := hw _ (List.mem_of_getElem? (i := 59) rfl)
theorem wd60 {a0 : Array Value} {Z : State} (hw : ∀ d ∈ tables_1, d.before a0 Z = true) : (Jvm.Cond.instantiable "com/example/redelivery/redelivery/engine/MemoryLog" (4 : Nat)).before a0 Z = true := hw _ (List.mem_of_getElem? (i := 60) rfl)
theorem wd61 {a0 : Array Value} {Z : State} (hw : ∀ d ∈ tables_1, d.before a0 Z = true) : (Jvm.Cond.initialized "com/example/redelivery/redelivery/engine/MemoryLog").before a0 Z = true := hw _ (List.mem_of_getElem? (i := 61) rfl)
theorem wd62 {a0 : Array Value} {Z : State} (hw : ∀ d ∈ tables_1, d.before a0 Z = true) : (Jvm.Cond.methodLink "com/example/redelivery/redelivery/engine/MemoryLogDeletesBeforePinLaw" (19 : Nat) ({ cls := "com/example/redelivery/redelivery/engine/MemoryLog", name := "<init>", desc := "()V" } : Jvm.MethodName)).before a0 Z = true := hw _ (List.mem_of_getElem? (i := 62) rfl)
theorem wd63 {a0 : Array Value} {Z : State} (hw : ∀ d ∈ tables_1, d.before a0 Z = true) : (Jvm.Cond.instanceMethod ({ cls := "com/example/redelivery/redelivery/engine/MemoryLog", name := "<init>", desc := "()V" } : Jvm.MethodName)).before a0 Z = true := hw _ (List.mem_of_getElem? (i := 63) rfl)
theorem wd64 {a0 : Array Value} {Z : State} (hw : ∀ d ∈ tables_1, d.before a0 Z = true) : (Jvm.Cond.code ({ cls := "com/example/redelivery/redelivery/engine/MemoryLog", name := "<init>", desc := "()V" } : Jvm.MethodName) prog_7_method_1_code (1 : Nat) (Option.none : Option Jvm.ClassFile.FieldType)).before a0 Z = true := hw _ (List.mem_of_getElem? (i := 64) rfl)
theorem wd65 {a0 : Array Value} {Z : State} (hw : ∀ d ∈ tables_1, d.before a0 Z = true) : (Jvm.Cond.methodLink "com/example/redelivery/redelivery/engine/MemoryLog" (1 : Nat) ({ cls := "java/lang/Object", name := "<init>", desc := "()V" } : Jvm.MethodName)).before a0 Z = true := hw _ (List.mem_of_getElem? (i := 65) rfl)
theorem wd66 {a0 : Array Value} {Z : State} (hw : ∀ d ∈ tables_1, d.before a0 Z = true) : (Jvm.Cond.classLink "com/example/redelivery/redelivery/engine/MemoryLog" (7 : Nat) "java/util/ArrayList").before a0 Z = true := hw _ (List.mem_of_getElem? (i := 66) rfl)
theorem wd67 {a0 : Array Value} {Z : State} (hw : ∀ d ∈ tables_1, d.before a0 Z = true) : (Jvm.Cond.methodLink "com/example/redelivery/redelivery/engine/MemoryLog" (9 : Nat) ({ cls := "java/util/ArrayList", name := "<init>", desc := "()V" } : Jvm.MethodName)).before a0 Z = true := hw _ (List.mem_of_getElem? (i := 67) rfl)
theorem wd68 {a0 : Array Value} {Z : State} (hw : ∀ d ∈ tables_1, d.before a0 Z = true) : (Jvm.Cond.fieldLink "com/example/redelivery/redelivery/engine/MemoryLog" (10 : Nat) "com/example/redelivery/redelivery/engine/MemoryLog" "messages" "Ljava/util/List;").before a0 Z = true := hw _ (List.mem_of_getElem? (i := 68) rfl)
theorem wd69 {a0 : Array Value} {Z : State} (hw : ∀ d ∈ tables_1, d.before a0 Z = true) : (Jvm.Cond.laysFinal "com/example/redelivery/redelivery/engine/MemoryLog" "com/example/redelivery/redelivery/engine/MemoryLog" "messages" "Ljava/util/List;").before a0 Z = true := hw _ (List.mem_of_getElem? (i := 69) rfl)
theorem wd70 {a0 : Array Value} {Z : State} (hw : ∀ d ∈ tables_1, d.before a0 Z = true) : (Jvm.Cond.methodLink "com/example/redelivery/redelivery/engine/MemoryLogDeletesBeforePinLaw" (20 : Nat) ({ cls := "com/example/redelivery/redelivery/engine/MemoryLog", name := "deletesBefore", desc := "(J)Z" } : Jvm.MethodName)).before a0 Z = true := hw _ (List.mem_of_getElem? (i := 70) rfl)
theorem wd71 {a0 : Array Value} {Z : State} (hw : ∀ d ∈ tables_1, d.before a0 Z = true) : (Jvm.Cond.declares ({ cls := "com/example/redelivery/redelivery/engine/MemoryLog", name := "deletesBefore", desc := "(J)Z" } : Jvm.MethodName)).before a0 Z = true := hw _ (List.mem_of_getElem? (i := 71) rfl)
theorem wd72 {a0 : Array Value} {Z : State} (hw : ∀ d ∈ tables_1, d.before a0 Z = true) : (Jvm.Cond.instanceMethod ({ cls := "com/example/redelivery/redelivery/engine/MemoryLog", name := "deletesBefore", desc := "(J)Z" } : Jvm.MethodName)).before a0 Z = true := hw _ (List.mem_of_getElem? (i := 72) rfl)
theorem wd73 {a0 : Array Value} {Z : State} (hw : ∀ d ∈ tables_1, d.before a0 Z = true) : (Jvm.Cond.selects "com/example/redelivery/redelivery/engine/MemoryLog" ({ cls := "com/example/redelivery/redelivery/engine/MemoryLog", name := "deletesBefore", desc := "(J)Z" } : Jvm.MethodName) ({ cls := "com/example/redelivery/redelivery/engine/MemoryLog", name := "deletesBefore", desc := "(J)Z" } : Jvm.MethodName)).before a0 Z = true := hw _ (List.mem_of_getElem? (i := 73) rfl)
theorem wd74 {a0 : Array Value} {Z : State} (hw : ∀ d ∈ tables_1, d.before a0 Z = true) : (Jvm.Cond.code ({ cls := "com/example/redelivery/redelivery/engine/MemoryLog", name := "deletesBefore", desc := "(J)Z" } : Jvm.MethodName) prog_7_method_5_code (3 : Nat) (Option.some Jvm.ClassFile.FieldType.boolean)).before a0 Z = true := hw _ (List.mem_of_getElem? (i := 74) rfl)
theorem wd75 {a0 : Array Value} {Z : State} (hw : ∀ d ∈ tables_1, d.before a0 Z = true) : (Jvm.Cond.fieldLink "com/example/redelivery/redelivery/engine/MemoryLog" (50 : Nat) "com/example/redelivery/redelivery/engine/MemoryLog" "first" "J").before a0 Z = true := hw _ (List.mem_of_getElem? (i := 75) rfl)
theorem wd76 {a0 : Array Value} {Z : State} (hw : ∀ d ∈ tables_1, d.before a0 Z = true) : (Jvm.Cond.lays "com/example/redelivery/redelivery/engine/MemoryLog" "com/example/redelivery/redelivery/engine/MemoryLog" "first" "J").before a0 Z = true := hw _ (List.mem_of_getElem? (i := 76) rfl)
theorem wd77 {a0 : Array Value} {Z : State} (hw : ∀ d ∈ tables_1, d.before a0 Z = true) : (Jvm.Cond.methodLink "com/example/redelivery/redelivery/engine/MemoryLogDeletesBeforePinLaw" (24 : Nat) ({ cls := "com/example/redelivery/redelivery/engine/MemoryLog", name := "append", desc := "(JLjava/util/List;)V" } : Jvm.MethodName)).before a0 Z = true := hw _ (List.mem_of_getElem? (i := 77) rfl)
theorem wd78 {a0 : Array Value} {Z : State} (hw : ∀ d ∈ tables_1, d.before a0 Z = true) : (Jvm.Cond.declares ({ cls := "com/example/redelivery/redelivery/engine/MemoryLog", name := "append", desc := "(JLjava/util/List;)V" } : Jvm.MethodName)).before a0 Z = true := hw _ (List.mem_of_getElem? (i := 78) rfl)
theorem wd79 {a0 : Array Value} {Z : State} (hw : ∀ d ∈ tables_1, d.before a0 Z = true) : (Jvm.Cond.instanceMethod ({ cls := "com/example/redelivery/redelivery/engine/MemoryLog", name := "append", desc := "(JLjava/util/List;)V" } : Jvm.MethodName)).before a0 Z = true := hw _ (List.mem_of_getElem? (i := 79) rfl)
theorem wd80 {a0 : Array Value} {Z : State} (hw : ∀ d ∈ tables_1, d.before a0 Z = true) : (Jvm.Cond.selects "com/example/redelivery/redelivery/engine/MemoryLog" ({ cls := "com/example/redelivery/redelivery/engine/MemoryLog", name := "append", desc := "(JLjava/util/List;)V" } : Jvm.MethodName) ({ cls := "com/example/redelivery/redelivery/engine/MemoryLog", name := "append", desc := "(JLjava/util/List;)V" } : Jvm.MethodName)).before a0 Z = true := hw _ (List.mem_of_getElem? (i := 80) rfl)
theorem wd81 {a0 : Array Value} {Z : State} (hw : ∀ d ∈ tables_1, d.before a0 Z = true) : (Jvm.Cond.code ({ cls := "com/example/redelivery/redelivery/engine/MemoryLog", name := "append", desc := "(JLjava/util/List;)V" } : Jvm.MethodName) prog_7_method_3_code (6 : Nat) (Option.none : Option Jvm.ClassFile.FieldType)).before a0 Z = true := hw _ (List.mem_of_getElem? (i := 81) rfl)
theorem wd82 {a0 : Array Value} {Z : State} (hw : ∀ d ∈ tables_1, d.before a0 Z = true) : (Jvm.Cond.methodLink "com/example/redelivery/redelivery/engine/MemoryLog" (28 : Nat) ({ cls := "java/util/List", name := "iterator", desc := "()Ljava/util/Iterator;" } : Jvm.MethodName)).before a0 Z = true := hw _ (List.mem_of_getElem? (i := 82) rfl)
theorem wd83 {a0 : Array Value} {Z : State} (hw : ∀ d ∈ tables_1, d.before a0 Z = true) : (Jvm.Cond.declares ({ cls := "java/util/List", name := "iterator", desc := "()Ljava/util/Iterator;" } : Jvm.MethodName)).before a0 Z = true := hw _ (List.mem_of_getElem? (i := 83) rfl)
theorem wd84 {a0 : Array Value} {Z : State} (hw : ∀ d ∈ tables_1, d.before a0 Z = true) : (Jvm.Cond.interfaceMethod "java/util/List" "java/util/List" "iterator" "()Ljava/util/Iterator;").before a0 Z = true := hw _ (List.mem_of_getElem? (i := 84) rfl)
theorem wd85 {a0 : Array Value} {Z : State} (hw : ∀ d ∈ tables_1, d.before a0 Z = true) : (Jvm.Cond.selects "java/util/ArrayList" ({ cls := "java/util/List", name := "iterator", desc := "()Ljava/util/Iterator;" } : Jvm.MethodName) ({ cls := "java/util/ArrayList", name := "iterator", desc := "()Ljava/util/Iterator;" } : Jvm.MethodName)).before a0 Z = true := hw _ (List.mem_of_getElem? (i := 85) rfl)
theorem wd86 {a0 : Array Value} {Z : State} (hw : ∀ d ∈ tables_1, d.before a0 Z = true) : (Jvm.Cond.instanceMethod ({ cls := "java/util/ArrayList", name := "iterator", desc := "()Ljava/util/Iterator;" } : Jvm.MethodName)).before a0 Z = true := hw _ (List.mem_of_getElem? (i := 86) rfl)
theorem wd87 {a0 : Array Value} {Z : State} (hw : ∀ d ∈ tables_1, d.before a0 Z = true) : (Jvm.Cond.publicMethod ({ cls := "java/util/ArrayList", name := "iterator", desc := "()Ljava/util/Iterator;" } : Jvm.MethodName)).before a0 Z = true := hw _ (List.mem_of_getElem? (i := 87) rfl)
theorem wd88 {a0 : Array Value} {Z : State} (hw : ∀ d ∈ tables_1, d.before a0 Z = true) : (Jvm.Cond.unhidden "java/util/ArrayList" "iterator" "()Ljava/util/Iterator;").before a0 Z = true := hw _ (List.mem_of_getElem? (i := 88) rfl)
theorem wd89 {a0 : Array Value} {Z : State} (hw : ∀ d ∈ tables_1, d.before a0 Z = true) : (Jvm.Cond.castable "java/util/ArrayList" "java/util/List").before a0 Z = true := hw _ (List.mem_of_getElem? (i := 89) rfl)
theorem wd90 {a0 : Array Value} {Z : State} (hw : ∀ d ∈ tables_1, d.before a0 Z = true) : (Jvm.Cond.code ({ cls := "java/util/ArrayList", name := "iterator", desc := "()Ljava/util/Iterator;" } : Jvm.MethodName) jdk_38_method_55_code (1 : Nat) (Option.some (Jvm.ClassFile.FieldType.object "java/util/Iterator"))).before a0 Z = true := hw _ (List.mem_of_getElem? (i := 90) rfl)
theorem wd91 {a0 : Array Value} {Z : State} (hw : ∀ d ∈ tables_1, d.before a0 Z = true) : (Jvm.Cond.classLink "java/util/ArrayList" (267 : Nat) "java/util/ArrayList$Itr").before a0 Z = true := hw _ (List.mem_of_getElem? (i := 91) rfl)
theorem wd92 {a0 : Array Value} {Z : State} (hw : ∀ d ∈ tables_1, d.before a0 Z = true) : (Jvm.Cond.instantiable "java/util/ArrayList$Itr" (4 : Nat)).before a0 Z = true := hw _ (List.mem_of_getElem? (i := 92) rfl)
theorem wd93 {a0 : Array Value} {Z : State} (hw : ∀ d ∈ tables_1, d.before a0 Z = true) : (Jvm.Cond.initialized "java/util/ArrayList$Itr").before a0 Z = true := hw _ (List.mem_of_getElem? (i := 93) rfl)
theorem wd94 {a0 : Array Value} {Z : State} (hw : ∀ d ∈ tables_1, d.before a0 Z = true) : (Jvm.Cond.methodLink "java/util/ArrayList" (269 : Nat) ({ cls := "java/util/ArrayList$Itr", name := "<init>", desc := "(Ljava/util/ArrayList;)V" } : Jvm.MethodName)).before a0 Z = true := hw _ (List.mem_of_getElem? (i := 94) rfl)
theorem wd95 {a0 : Array Value} {Z : State} (hw : ∀ d ∈ tables_1, d.before a0 Z = true) : (Jvm.Cond.instanceMethod ({ cls := "java/util/ArrayList$Itr", name := "<init>", desc := "(Ljava/util/ArrayList;)V" } : Jvm.MethodName)).before a0 Z = true := hw _ (List.mem_of_getElem? (i := 95) rfl)
theorem wd97 {a0 : Array Value} {Z : State} (hw : ∀ d ∈ tables_1, d.before a0 Z = true) : (Jvm.Cond.code ({ cls := "java/util/ArrayList$Itr", name := "<init>", desc := "(Ljava/util/ArrayList;)V" } : Jvm.MethodName) jdk_49_method_1_code (2 : Nat) (Option.none : Option Jvm.ClassFile.FieldType)).before a0 Z = true := hw _ (List.mem_of_getElem? (i := 97) rfl)
theorem wd98 {a0 : Array Value} {Z : State} (hw : ∀ d ∈ tables_1, d.before a0 Z = true) : (Jvm.Cond.fieldLink "java/util/ArrayList$Itr" (1 : Nat) "java/util/ArrayList$Itr" "this$0" "Ljava/util/ArrayList;").before a0 Z = true := hw _ (List.mem_of_getElem? (i := 98) rfl)
theorem wd99 {a0 : Array Value} {Z : State} (hw : ∀ d ∈ tables_1, d.before a0 Z = true) : (Jvm.Cond.laysFinal "java/util/ArrayList$Itr" "java/util/ArrayList$Itr" "this$0" "Ljava/util/ArrayList;").before a0 Z = true := hw _ (List.mem_of_getElem? (i := 99) rfl)
theorem wd100 {a0 : Array Value} {Z : State} (hw : ∀ d ∈ tables_1, d.before a0 Z = true) : (Jvm.Cond.methodLink "java/util/ArrayList$Itr" (7 : Nat) ({ cls := "java/lang/Object", name := "<init>", desc := "()V" } : Jvm.MethodName)).before a0 Z = true := hw _ (List.mem_of_getElem? (i := 100) rfl)
theorem wd101 {a0 : Array Value} {Z : State} (hw : ∀ d ∈ tables_1, d.before a0 Z = true) : (Jvm.Cond.fieldLink "java/util/ArrayList$Itr" (13 : Nat) "java/util/ArrayList$Itr" "lastRet" "I").before a0 Z = true := hw _ (List.mem_of_getElem? (i := 101) rfl)
theorem wd102 {a0 : Array Value} {Z : State} (hw : ∀ d ∈ tables_1, d.before a0 Z = true) : (Jvm.Cond.lays "java/util/ArrayList$Itr" "java/util/ArrayList$Itr" "lastRet" "I").before a0 Z = true := hw _ (List.mem_of_getElem? (i := 102) rfl)
theorem wd103 {a0 : Array Value} {Z : State} (hw : ∀ d ∈ tables_1, d.before a0 Z = true) : (Jvm.Cond.fieldLink "java/util/ArrayList$Itr" (17 : Nat) "java/util/ArrayList" "modCount" "I").before a0 Z = true := hw _ (List.mem_of_getElem? (i := 103) rfl)
theorem wd104 {a0 : Array Value} {Z : State} (hw : ∀ d ∈ tables_1, d.before a0 Z = true) : (Jvm.Cond.fieldLink "java/util/ArrayList$Itr" (22 : Nat) "java/util/ArrayList$Itr" "expectedModCount" "I").before a0 Z = true := hw _ (List.mem_of_getElem? (i := 104) rfl)
theorem wd105 {a0 : Array Value} {Z : State} (hw : ∀ d ∈ tables_1, d.before a0 Z = true) : (Jvm.Cond.lays "java/util/ArrayList$Itr" "java/util/ArrayList$Itr" "expectedModCount" "I").before a0 Z = true := hw _ (List.mem_of_getElem? (i := 105) rfl)
theorem wd106 {a0 : Array Value} {Z : State} (hw : ∀ d ∈ tables_1, d.before a0 Z = true) : (Jvm.Cond.methodLink "com/example/redelivery/redelivery/engine/MemoryLog" (32 : Nat) ({ cls := "java/util/Iterator", name := "hasNext", desc := "()Z" } : Jvm.MethodName)).before a0 Z = true := hw _ (List.mem_of_getElem? (i := 106) rfl)
theorem wd107 {a0 : Array Value} {Z : State} (hw : ∀ d ∈ tables_1, d.before a0 Z = true) : (Jvm.Cond.declares ({ cls := "java/util/Iterator", name := "hasNext", desc := "()Z" } : Jvm.MethodName)).before a0 Z = true := hw _ (List.mem_of_getElem? (i := 107) rfl)
theorem wd108 {a0 : Array Value} {Z : State} (hw : ∀ d ∈ tables_1, d.before a0 Z = true) : (Jvm.Cond.interfaceMethod "java/util/Iterator" "java/util/Iterator" "hasNext" "()Z").before a0 Z = true := hw _ (List.mem_of_getElem? (i := 108) rfl)
theorem wd109 {a0 : Array Value} {Z : State} (hw : ∀ d ∈ tables_1, d.before a0 Z = true) : (Jvm.Cond.selects "java/util/ArrayList$Itr" ({ cls := "java/util/Iterator", name := "hasNext", desc := "()Z" } : Jvm.MethodName) ({ cls := "java/util/ArrayList$Itr", name := "hasNext", desc := "()Z" } : Jvm.MethodName)).before a0 Z = true := hw _ (List.mem_of_getElem? (i := 109) rfl)
theorem wd110 {a0 : Array Value} {Z : State} (hw : ∀ d ∈ tables_1, d.before a0 Z = true) : (Jvm.Cond.instanceMethod ({ cls := "java/util/ArrayList$Itr", name := "hasNext", desc := "()Z" } : Jvm.MethodName)).before a0 Z = true := hw _ (List.mem_of_getElem? (i := 110) rfl)
theorem wd111 {a0 : Array Value} {Z : State} (hw : ∀ d ∈ tables_1, d.before a0 Z = true) : (Jvm.Cond.publicMethod ({ cls := "java/util/ArrayList$Itr", name := "hasNext", desc := "()Z" } : Jvm.MethodName)).before a0 Z = true := hw _ (List.mem_of_getElem? (i := 111) rfl)
theorem wd112 {a0 : Array Value} {Z : State} (hw : ∀ d ∈ tables_1, d.before a0 Z = true) : (Jvm.Cond.unhidden "java/util/ArrayList$Itr" "hasNext" "()Z").before a0 Z = true := hw _ (List.mem_of_getElem? (i := 112) rfl)
theorem wd113 {a0 : Array Value} {Z : State} (hw : ∀ d ∈ tables_1, d.before a0 Z = true) : (Jvm.Cond.castable "java/util/ArrayList$Itr" "java/util/Iterator").before a0 Z = true := hw _ (List.mem_of_getElem? (i := 113) rfl)
theorem wd114 {a0 : Array Value} {Z : State} (hw : ∀ d ∈ tables_1, d.before a0 Z = true) : (Jvm.Cond.code ({ cls := "java/util/ArrayList$Itr", name := "hasNext", desc := "()Z" } : Jvm.MethodName) jdk_49_method_2_code (1 : Nat) (Option.some Jvm.ClassFile.FieldType.boolean)).before a0 Z = true := hw _ (List.mem_of_getElem? (i := 114) rfl)
theorem wd115 {a0 : Array Value} {Z : State} (hw : ∀ d ∈ tables_1, d.before a0 Z = true) : (Jvm.Cond.fieldLink "java/util/ArrayList$Itr" (25 : Nat) "java/util/ArrayList$Itr" "cursor" "I").before a0 Z = true := hw _ (List.mem_of_getElem? (i := 115) rfl)
theorem wd116 {a0 : Array Value} {Z : State} (hw : ∀ d ∈ tables_1, d.before a0 Z = true) : (Jvm.Cond.lays "java/util/ArrayList$Itr" "java/util/ArrayList$Itr" "cursor" "I").before a0 Z = true := hw _ (List.mem_of_getElem? (i := 116) rfl)
theorem wd117 {a0 : Array Value} {Z : State} (hw : ∀ d ∈ tables_1, d.before a0 Z = true) : (Jvm.Cond.fieldLinkNest "java/util/ArrayList$Itr" (28 : Nat) "java/util/ArrayList" "size" "I" "java/util/ArrayList").before a0 Z = true := hw _ (List.mem_of_getElem? (i := 117) rfl)
theorem wd118 {a0 : Array Value} {Z : State} (hw : ∀ d ∈ tables_1, d.before a0 Z = true) : (Jvm.Cond.methodLink "com/example/redelivery/redelivery/engine/MemoryLog" (38 : Nat) ({ cls := "java/util/Iterator", name := "next", desc := "()Ljava/lang/Object;" } : Jvm.MethodName)).before a0 Z = true := hw _ (List.mem_of_getElem? (i := 118) rfl)
theorem wd119 {a0 : Array Value} {Z : State} (hw : ∀ d ∈ tables_1, d.before a0 Z = true) : (Jvm.Cond.declares ({ cls := "java/util/Iterator", name := "next", desc := "()Ljava/lang/Object;" } : Jvm.MethodName)).before a0 Z = true := hw _ (List.mem_of_getElem? (i := 119) rfl)
theorem wd120 {a0 : Array Value} {Z : State} (hw : ∀ d ∈ tables_1, d.before a0 Z = true) : (Jvm.Cond.interfaceMethod "java/util/Iterator" "java/util/Iterator" "next" "()Ljava/lang/Object;").before a0 Z = true := hw _ (List.mem_of_getElem? (i := 120) rfl)
theorem wd121 {a0 : Array Value} {Z : State} (hw : ∀ d ∈ tables_1, d.before a0 Z = true) : (Jvm.Cond.selects "java/util/ArrayList$Itr" ({ cls := "java/util/Iterator", name := "next", desc := "()Ljava/lang/Object;" } : Jvm.MethodName) ({ cls := "java/util/ArrayList$Itr", name := "next", desc := "()Ljava/lang/Object;" } : Jvm.MethodName)).before a0 Z = true := hw _ (List.mem_of_getElem? (i := 121) rfl)
theorem wd122 {a0 : Array Value} {Z : State} (hw : ∀ d ∈ tables_1, d.before a0 Z = true) : (Jvm.Cond.instanceMethod ({ cls := "java/util/ArrayList$Itr", name := "next", desc := "()Ljava/lang/Object;" } : Jvm.MethodName)).before a0 Z = true := hw _ (List.mem_of_getElem? (i := 122) rfl)
theorem wd123 {a0 : Array Value} {Z : State} (hw : ∀ d ∈ tables_1, d.before a0 Z = true) : (Jvm.Cond.publicMethod ({ cls := "java/util/ArrayList$Itr", name := "next", desc := "()Ljava/lang/Object;" } : Jvm.MethodName)).before a0 Z = true := hw _ (List.mem_of_getElem? (i := 123) rfl)
theorem wd124 {a0 : Array Value} {Z : State} (hw : ∀ d ∈ tables_1, d.before a0 Z = true) : (Jvm.Cond.unhidden "java/util/ArrayList$Itr" "next" "()Ljava/lang/Object;").before a0 Z = true := hw _ (List.mem_of_getElem? (i := 124) rfl)
theorem wd125 {a0 : Array Value} {Z : State} (hw : ∀ d ∈ tables_1, d.before a0 Z = true) : (Jvm.Cond.code ({ cls := "java/util/ArrayList$Itr", name := "next", desc := "()Ljava/lang/Object;" } : Jvm.MethodName) jdk_49_method_3_code (3 : Nat) (Option.some (Jvm.ClassFile.FieldType.object "java/lang/Object"))).before a0 Z = true := hw _ (List.mem_of_getElem? (i := 125) rfl)
theorem wd126 {a0 : Array Value} {Z : State} (hw : ∀ d ∈ tables_1, d.before a0 Z = true) : (Jvm.Cond.methodLink "java/util/ArrayList$Itr" (31 : Nat) ({ cls := "java/util/ArrayList$Itr", name := "checkForComodification", desc := "()V" } : Jvm.MethodName)).before a0 Z = true := hw _ (List.mem_of_getElem? (i := 126) rfl)
theorem wd127 {a0 : Array Value} {Z : State} (hw : ∀ d ∈ tables_1, d.before a0 Z = true) : (Jvm.Cond.declares ({ cls := "java/util/ArrayList$Itr", name := "checkForComodification", desc := "()V" } : Jvm.MethodName)).before a0 Z = true := hw _ (List.mem_of_getElem? (i := 127) rfl)
theorem wd128 {a0 : Array Value} {Z : State} (hw : ∀ d ∈ tables_1, d.before a0 Z = true) : (Jvm.Cond.instanceMethod ({ cls := "java/util/ArrayList$Itr", name := "checkForComodification", desc := "()V" } : Jvm.MethodName)).before a0 Z = true := hw _ (List.mem_of_getElem? (i := 128) rfl)
theorem wd129 {a0 : Array Value} {Z : State} (hw : ∀ d ∈ tables_1, d.before a0 Z = true) : (Jvm.Cond.selects "java/util/ArrayList$Itr" ({ cls := "java/util/ArrayList$Itr", name := "checkForComodification", desc := "()V" } : Jvm.MethodName) ({ cls := "java/util/ArrayList$Itr", name := "checkForComodification", desc := "()V" } : Jvm.MethodName)).before a0 Z = true := hw _ (List.mem_of_getElem? (i := 129) rfl)
theorem wd130 {a0 : Array Value} {Z : State} (hw : ∀ d ∈ tables_1, d.before a0 Z = true) : (Jvm.Cond.code ({ cls := "java/util/ArrayList$Itr", name := "checkForComodification", desc := "()V" } : Jvm.MethodName) jdk_49_method_6_code (1 : Nat) (Option.none : Option Jvm.ClassFile.FieldType)).before a0 Z = true := hw _ (List.mem_of_getElem? (i := 130) rfl)
theorem wd131 {a0 : Array Value} {Z : State} (hw : ∀ d ∈ tables_1, d.before a0 Z = true) : (Jvm.Cond.fieldLink "java/util/ArrayList$Itr" (37 : Nat) "java/util/ArrayList" "elementData" "[Ljava/lang/Object;").before a0 Z = true := hw _ (List.mem_of_getElem? (i := 131) rfl)
theorem wd132 {a0 : Array Value} {Z : State} (hw : ∀ d ∈ tables_1, d.before a0 Z = true) : (Jvm.Cond.classLink "com/example/redelivery/redelivery/engine/MemoryLog" (26 : Nat) "[B").before a0 Z = true := hw _ (List.mem_of_getElem? (i := 132) rfl)
theorem wd133 {a0 : Array Value} {Z : State} (hw : ∀ d ∈ tables_1, d.before a0 Z = true) : (Jvm.Cond.castable "[B" "[B").before a0 Z = true := hw _ (List.mem_of_getElem? (i := 133) rfl)
theorem wd134 {a0 : Array Value} {Z : State} (hw : ∀ d ∈ tables_1, d.before a0 Z = true) : (Jvm.Cond.methodLink "com/example/redelivery/redelivery/engine/MemoryLog" (42 : Nat) ({ cls := "java/util/List", name := "add", desc := "(Ljava/lang/Object;)Z" } : Jvm.MethodName)).before a0 Z = true := hw _ (List.mem_of_getElem? (i := 134) rfl)
theorem wd135 {a0 : Array Value} {Z : State} (hw : ∀ d ∈ tables_1, d.before a0 Z = true) : (Jvm.Cond.declares ({ cls := "java/util/List", name := "add", desc := "(Ljava/lang/Object;)Z" } : Jvm.MethodName)).before a0 Z = true := hw _ (List.mem_of_getElem? (i := 135) rfl)
theorem wd136 {a0 : Array Value} {Z : State} (hw : ∀ d ∈ tables_1, d.before a0 Z = true) : (Jvm.Cond.interfaceMethod "java/util/List" "java/util/List" "add" "(Ljava/lang/Object;)Z").before a0 Z = true := hw _ (List.mem_of_getElem? (i := 136) rfl)
theorem wd137 {a0 : Array Value} {Z : State} (hw : ∀ d ∈ tables_1, d.before a0 Z = true) : (Jvm.Cond.selects "java/util/ArrayList" ({ cls := "java/util/List", name := "add", desc := "(Ljava/lang/Object;)Z" } : Jvm.MethodName) ({ cls := "java/util/ArrayList", name := "add", desc := "(Ljava/lang/Object;)Z" } : Jvm.MethodName)).before a0 Z = true := hw _ (List.mem_of_getElem? (i := 137) rfl)
theorem wd138 {a0 : Array Value} {Z : State} (hw : ∀ d ∈ tables_1, d.before a0 Z = true) : (Jvm.Cond.publicMethod ({ cls := "java/util/ArrayList", name := "add", desc := "(Ljava/lang/Object;)Z" } : Jvm.MethodName)).before a0 Z = true := hw _ (List.mem_of_getElem? (i := 138) rfl)
theorem wd139 {a0 : Array Value} {Z : State} (hw : ∀ d ∈ tables_1, d.before a0 Z = true) : (Jvm.Cond.unhidden "java/util/ArrayList" "add" "(Ljava/lang/Object;)Z").before a0 Z = true := hw _ (List.mem_of_getElem? (i := 139) rfl)
theorem wd140 {a0 : Array Value} {Z : State} (hw : ∀ d ∈ tables_1, d.before a0 Z = true) : (Jvm.Cond.fieldLink "com/example/redelivery/redelivery/engine/MemoryLog" (46 : Nat) "com/example/redelivery/redelivery/engine/MemoryLog" "payload" "J").before a0 Z = true := hw _ (List.mem_of_getElem? (i := 140) rfl)
theorem wd141 {a0 : Array Value} {Z : State} (hw : ∀ d ∈ tables_1, d.before a0 Z = true) : (Jvm.Cond.lays "com/example/redelivery/redelivery/engine/MemoryLog" "com/example/redelivery/redelivery/engine/MemoryLog" "payload" "J").before a0 Z = true := hw _ (List.mem_of_getElem? (i := 141) rfl)
theorem wd142 {a0 : Array Value} {Z : State} (hw : ∀ d ∈ tables_1, d.before a0 Z = true) : (Jvm.Cond.methodLink "com/example/redelivery/redelivery/engine/MemoryLogDeletesBeforePinLaw" (28 : Nat) ({ cls := "com/example/redelivery/redelivery/engine/MemoryLog", name := "dropBefore", desc := "(J)V" } : Jvm.MethodName)).before a0 Z = true := hw _ (List.mem_of_getElem? (i := 142) rfl)
theorem wd143 {a0 : Array Value} {Z : State} (hw : ∀ d ∈ tables_1, d.before a0 Z = true) : (Jvm.Cond.declares ({ cls := "com/example/redelivery/redelivery/engine/MemoryLog", name := "dropBefore", desc := "(J)V" } : Jvm.MethodName)).before a0 Z = true := hw _ (List.mem_of_getElem? (i := 143) rfl)
theorem wd144 {a0 : Array Value} {Z : State} (hw : ∀ d ∈ tables_1, d.before a0 Z = true) : (Jvm.Cond.instanceMethod ({ cls := "com/example/redelivery/redelivery/engine/MemoryLog", name := "dropBefore", desc := "(J)V" } : Jvm.MethodName)).before a0 Z = true := hw _ (List.mem_of_getElem? (i := 144) rfl)
theorem wd145 {a0 : Array Value} {Z : State} (hw : ∀ d ∈ tables_1, d.before a0 Z = true) : (Jvm.Cond.selects "com/example/redelivery/redelivery/engine/MemoryLog" ({ cls := "com/example/redelivery/redelivery/engine/MemoryLog", name := "dropBefore", desc := "(J)V" } : Jvm.MethodName) ({ cls := "com/example/redelivery/redelivery/engine/MemoryLog", name := "dropBefore", desc := "(J)V" } : Jvm.MethodName)).before a0 Z = true := hw _ (List.mem_of_getElem? (i := 145) rfl)
theorem wd146 {a0 : Array Value} {Z : State} (hw : ∀ d ∈ tables_1, d.before a0 Z = true) : (Jvm.Cond.code ({ cls := "com/example/redelivery/redelivery/engine/MemoryLog", name := "dropBefore", desc := "(J)V" } : Jvm.MethodName) prog_7_method_4_code (5 : Nat) (Option.none : Option Jvm.ClassFile.FieldType)).before a0 Z = true := hw _ (List.mem_of_getElem? (i := 146) rfl)
theorem wd147 {a0 : Array Value} {Z : State} (hw : ∀ d ∈ tables_1, d.before a0 Z = true) : (Jvm.Cond.methodLink "com/example/redelivery/redelivery/engine/MemoryLog" (16 : Nat) ({ cls := "com/example/redelivery/redelivery/engine/MemoryLog", name := "slot", desc := "(J)I" } : Jvm.MethodName)).before a0 Z = true := hw _ (List.mem_of_getElem? (i := 147) rfl)
theorem wd148 {a0 : Array Value} {Z : State} (hw : ∀ d ∈ tables_1, d.before a0 Z = true) : (Jvm.Cond.instanceMethod ({ cls := "com/example/redelivery/redelivery/engine/MemoryLog", name := "slot", desc := "(J)I" } : Jvm.MethodName)).before a0 Z = true := hw _ (List.mem_of_getElem? (i := 148) rfl)
theorem wd149 {a0 : Array Value} {Z : State} (hw : ∀ d ∈ tables_1, d.before a0 Z = true) : (Jvm.Cond.privateMethod ({ cls := "com/example/redelivery/redelivery/engine/MemoryLog", name := "slot", desc := "(J)I" } : Jvm.MethodName)).before a0 Z = true := hw _ (List.mem_of_getElem? (i := 149) rfl)
theorem wd150 {a0 : Array Value} {Z : State} (hw : ∀ d ∈ tables_1, d.before a0 Z = true) : (Jvm.Cond.code ({ cls := "com/example/redelivery/redelivery/engine/MemoryLog", name := "slot", desc := "(J)I" } : Jvm.MethodName) prog_7_method_8_code (3 : Nat) (Option.some Jvm.ClassFile.FieldType.int)).before a0 Z = true := hw _ (List.mem_of_getElem? (i := 150) rfl)
theorem wd151 {a0 : Array Value} {Z : State} (hw : ∀ d ∈ tables_1, d.before a0 Z = true) : (Jvm.Cond.fieldLink "com/example/redelivery/redelivery/engine/MemoryLog" (68 : Nat) "com/example/redelivery/redelivery/engine/MemoryLog" "listedFirst" "J").before a0 Z = true := hw _ (List.mem_of_getElem? (i := 151) rfl)
theorem wd152 {a0 : Array Value} {Z : State} (hw : ∀ d ∈ tables_1, d.before a0 Z = true) : (Jvm.Cond.lays "com/example/redelivery/redelivery/engine/MemoryLog" "com/example/redelivery/redelivery/engine/MemoryLog" "listedFirst" "J").before a0 Z = true := hw _ (List.mem_of_getElem? (i := 152) rfl)
theorem wd153 {a0 : Array Value} {Z : State} (hw : ∀ d ∈ tables_1, d.before a0 Z = true) : (Jvm.Cond.methodLink "com/example/redelivery/redelivery/engine/MemoryLog" (53 : Nat) ({ cls := "java/util/List", name := "set", desc := "(ILjava/lang/Object;)Ljava/lang/Object;" } : Jvm.MethodName)).before a0 Z = true := hw _ (List.mem_of_getElem? (i := 153) rfl)
theorem wd154 {a0 : Array Value} {Z : State} (hw : ∀ d ∈ tables_1, d.before a0 Z = true) : (Jvm.Cond.declares ({ cls := "java/util/List", name := "set", desc := "(ILjava/lang/Object;)Ljava/lang/Object;" } : Jvm.MethodName)).before a0 Z = true := hw _ (List.mem_of_getElem? (i := 154) rfl)
theorem wd155 {a0 : Array Value} {Z : State} (hw : ∀ d ∈ tables_1, d.before a0 Z = true) : (Jvm.Cond.interfaceMethod "java/util/List" "java/util/List" "set" "(ILjava/lang/Object;)Ljava/lang/Object;").before a0 Z = true := hw _ (List.mem_of_getElem? (i := 155) rfl)
theorem wd156 {a0 : Array Value} {Z : State} (hw : ∀ d ∈ tables_1, d.before a0 Z = true) : (Jvm.Cond.selects "java/util/ArrayList" ({ cls := "java/util/List", name := "set", desc := "(ILjava/lang/Object;)Ljava/lang/Object;" } : Jvm.MethodName) ({ cls := "java/util/ArrayList", name := "set", desc := "(ILjava/lang/Object;)Ljava/lang/Object;" } : Jvm.MethodName)).before a0 Z = true := hw _ (List.mem_of_getElem? (i := 156) rfl)
theorem wd157 {a0 : Array Value} {Z : State} (hw : ∀ d ∈ tables_1, d.before a0 Z = true) : (Jvm.Cond.instanceMethod ({ cls := "java/util/ArrayList", name := "set", desc := "(ILjava/lang/Object;)Ljava/lang/Object;" } : Jvm.MethodName)).before a0 Z = true := hw _ (List.mem_of_getElem? (i := 157) rfl)
theorem wd158 {a0 : Array Value} {Z : State} (hw : ∀ d ∈ tables_1, d.before a0 Z = true) : (Jvm.Cond.publicMethod ({ cls := "java/util/ArrayList", name := "set", desc := "(ILjava/lang/Object;)Ljava/lang/Object;" } : Jvm.MethodName)).before a0 Z = true := hw _ (List.mem_of_getElem? (i := 158) rfl)
theorem wd159 {a0 : Array Value} {Z : State} (hw : ∀ d ∈ tables_1, d.before a0 Z = true) : (Jvm.Cond.unhidden "java/util/ArrayList" "set" "(ILjava/lang/Object;)Ljava/lang/Object;").before a0 Z = true := hw _ (List.mem_of_getElem? (i := 159) rfl)
theorem wd160 {a0 : Array Value} {Z : State} (hw : ∀ d ∈ tables_1, d.before a0 Z = true) : (Jvm.Cond.code ({ cls := "java/util/ArrayList", name := "set", desc := "(ILjava/lang/Object;)Ljava/lang/Object;" } : Jvm.MethodName) jdk_38_method_23_code (4 : Nat) (Option.some (Jvm.ClassFile.FieldType.object "java/lang/Object"))).before a0 Z = true := hw _ (List.mem_of_getElem? (i := 160) rfl)
theorem wd161 {a0 : Array Value} {Z : State} (hw : ∀ d ∈ tables_1, d.before a0 Z = true) : (Jvm.Cond.methodLink "java/util/ArrayList" (118 : Nat) ({ cls := "java/util/Objects", name := "checkIndex", desc := "(II)I" } : Jvm.MethodName)).before a0 Z = true := hw _ (List.mem_of_getElem? (i := 161) rfl)
theorem wd162 {a0 : Array Value} {Z : State} (hw : ∀ d ∈ tables_1, d.before a0 Z = true) : (Jvm.Cond.static ({ cls := "java/util/Objects", name := "checkIndex", desc := "(II)I" } : Jvm.MethodName)).before a0 Z = true := hw _ (List.mem_of_getElem? (i := 162) rfl)
theorem wd163 {a0 : Array Value} {Z : State} (hw : ∀ d ∈ tables_1, d.before a0 Z = true) : (Jvm.Cond.initialized "java/util/Objects").before a0 Z = true := hw _ (List.mem_of_getElem? (i := 163) rfl)
theorem wd164 {a0 : Array Value} {Z : State} (hw : ∀ d ∈ tables_1, d.before a0 Z = true) : (Jvm.Cond.code ({ cls := "java/util/Objects", name := "checkIndex", desc := "(II)I" } : Jvm.MethodName) jdk_31_method_17_code (2 : Nat) (Option.some Jvm.ClassFile.FieldType.int)).before a0 Z = true := hw _ (List.mem_of_getElem? (i := 164) rfl)
theorem wd165 {a0 : Array Value} {Z : State} (hw : ∀ d ∈ tables_1, d.before a0 Z = true) : (Jvm.Cond.methodLink "java/util/Objects" (105 : Nat) ({ cls := "jdk/internal/util/Preconditions", name := "checkIndex", desc := "(IILjava/util/function/BiFunction;)I" } : Jvm.MethodName)).before a0 Z = true := hw _ (List.mem_of_getElem? (i := 165) rfl)
theorem wd166 {a0 : Array Value} {Z : State} (hw : ∀ d ∈ tables_1, d.before a0 Z = true) : (Jvm.Cond.static ({ cls := "jdk/internal/util/Preconditions", name := "checkIndex", desc := "(IILjava/util/function/BiFunction;)I" } : Jvm.MethodName)).before a0 Z = true := hw _ (List.mem_of_getElem? (i := 166) rfl)
theorem wd167 {a0 : Array Value} {Z : State} (hw : ∀ d ∈ tables_1, d.before a0 Z = true) : (Jvm.Cond.initialized "jdk/internal/util/Preconditions").before a0 Z = true := hw _ (List.mem_of_getElem? (i := 167) rfl)
theorem wd168 {a0 : Array Value} {Z : State} (hw : ∀ d ∈ tables_1, d.before a0 Z = true) : (Jvm.Cond.code ({ cls := "jdk/internal/util/Preconditions", name := "checkIndex", desc := "(IILjava/util/function/BiFunction;)I" } : Jvm.MethodName) jdk_41_method_11_code (3 : Nat) (Option.some Jvm.ClassFile.FieldType.int)).before a0 Z = true := hw _ (List.mem_of_getElem? (i := 168) rfl)
theorem wd169 {a0 : Array Value} {Z : State} (hw : ∀ d ∈ tables_1, d.before a0 Z = true) : (Jvm.Cond.methodLink "java/util/ArrayList" (123 : Nat) ({ cls := "java/util/ArrayList", name := "elementData", desc := "(I)Ljava/lang/Object;" } : Jvm.MethodName)).before a0 Z = true := hw _ (List.mem_of_getElem? (i := 169) rfl)
theorem wd170 {a0 : Array Value} {Z : State} (hw : ∀ d ∈ tables_1, d.before a0 Z = true) : (Jvm.Cond.declares ({ cls := "java/util/ArrayList", name := "elementData", desc := "(I)Ljava/lang/Object;" } : Jvm.MethodName)).before a0 Z = true := hw _ (List.mem_of_getElem? (i := 170) rfl)
theorem wd171 {a0 : Array Value} {Z : State} (hw : ∀ d ∈ tables_1, d.before a0 Z = true) : (Jvm.Cond.instanceMethod ({ cls := "java/util/ArrayList", name := "elementData", desc := "(I)Ljava/lang/Object;" } : Jvm.MethodName)).before a0 Z = true := hw _ (List.mem_of_getElem? (i := 171) rfl)
theorem wd172 {a0 : Array Value} {Z : State} (hw : ∀ d ∈ tables_1, d.before a0 Z = true) : (Jvm.Cond.selects "java/util/ArrayList" ({ cls := "java/util/ArrayList", name := "elementData", desc := "(I)Ljava/lang/Object;" } : Jvm.MethodName) ({ cls := "java/util/ArrayList", name := "elementData", desc := "(I)Ljava/lang/Object;" } : Jvm.MethodName)).before a0 Z = true := hw _ (List.mem_of_getElem? (i := 172) rfl)
theorem wd173 {a0 : Array Value} {Z : State} (hw : ∀ d ∈ tables_1, d.before a0 Z = true) : (Jvm.Cond.code ({ cls := "java/util/ArrayList", name := "elementData", desc := "(I)Ljava/lang/Object;" } : Jvm.MethodName) jdk_38_method_18_code (2 : Nat) (Option.some (Jvm.ClassFile.FieldType.object "java/lang/Object"))).before a0 Z = true := hw _ (List.mem_of_getElem? (i := 173) rfl)
theorem wd174 {a0 : Array Value} {Z : State} (hw : ∀ d ∈ tables_1, d.before a0 Z = true) : (Jvm.Cond.methodLink "com/example/redelivery/redelivery/engine/MemoryLog" (57 : Nat) ({ cls := "java/util/List", name := "size", desc := "()I" } : Jvm.MethodName)).before a0 Z = true := hw _ (List.mem_of_getElem? (i := 174) rfl)
theorem wd175 {a0 : Array Value} {Z : State} (hw : ∀ d ∈ tables_1, d.before a0 Z = true) : (Jvm.Cond.declares ({ cls := "java/util/List", name := "size", desc := "()I" } : Jvm.MethodName)).before a0 Z = true := hw _ (List.mem_of_getElem? (i := 175) rfl)
theorem wd176 {a0 : Array Value} {Z : State} (hw : ∀ d ∈ tables_1, d.before a0 Z = true) : (Jvm.Cond.interfaceMethod "java/util/List" "java/util/List" "size" "()I").before a0 Z = true := hw _ (List.mem_of_getElem? (i := 176) rfl)
theorem wd177 {a0 : Array Value} {Z : State} (hw : ∀ d ∈ tables_1, d.before a0 Z = true) : (Jvm.Cond.selects "java/util/ArrayList" ({ cls := "java/util/List", name := "size", desc := "()I" } : Jvm.MethodName) ({ cls := "java/util/ArrayList", name := "size", desc := "()I" } : Jvm.MethodName)).before a0 Z = true := hw _ (List.mem_of_getElem? (i := 177) rfl)
theorem wd178 {a0 : Array Value} {Z : State} (hw : ∀ d ∈ tables_1, d.before a0 Z = true) : (Jvm.Cond.instanceMethod ({ cls := "java/util/ArrayList", name := "size", desc := "()I" } : Jvm.MethodName)).before a0 Z = true := hw _ (List.mem_of_getElem? (i := 178) rfl)
theorem wd179 {a0 : Array Value} {Z : State} (hw : ∀ d ∈ tables_1, d.before a0 Z = true) : (Jvm.Cond.publicMethod ({ cls := "java/util/ArrayList", name := "size", desc := "()I" } : Jvm.MethodName)).before a0 Z = true := hw _ (List.mem_of_getElem? (i := 179) rfl)
theorem wd180 {a0 : Array Value} {Z : State} (hw : ∀ d ∈ tables_1, d.before a0 Z = true) : (Jvm.Cond.unhidden "java/util/ArrayList" "size" "()I").before a0 Z = true := hw _ (List.mem_of_getElem? (i := 180) rfl)
theorem wd181 {a0 : Array Value} {Z : State} (hw : ∀ d ∈ tables_1, d.before a0 Z = true) : (Jvm.Cond.code ({ cls := "java/util/ArrayList", name := "size", desc := "()I" } : Jvm.MethodName) jdk_38_method_8_code (1 : Nat) (Option.some Jvm.ClassFile.FieldType.int)).before a0 Z = true := hw _ (List.mem_of_getElem? (i := 181) rfl)
theorem wd182 {a0 : Array Value} {Z : State} (hw : ∀ d ∈ tables_1, d.before a0 Z = true) : (Jvm.Cond.methodLink "com/example/redelivery/redelivery/engine/MemoryLog" (61 : Nat) ({ cls := "java/util/List", name := "subList", desc := "(II)Ljava/util/List;" } : Jvm.MethodName)).before a0 Z = true := hw _ (List.mem_of_getElem? (i := 182) rfl)
theorem wd183 {a0 : Array Value} {Z : State} (hw : ∀ d ∈ tables_1, d.before a0 Z = true) : (Jvm.Cond.declares ({ cls := "java/util/List", name := "subList", desc := "(II)Ljava/util/List;" } : Jvm.MethodName)).before a0 Z = true := hw _ (List.mem_of_getElem? (i := 183) rfl)
theorem wd184 {a0 : Array Value} {Z : State} (hw : ∀ d ∈ tables_1, d.before a0 Z = true) : (Jvm.Cond.interfaceMethod "java/util/List" "java/util/List" "subList" "(II)Ljava/util/List;").before a0 Z = true := hw _ (List.mem_of_getElem? (i := 184) rfl)
theorem wd185 {a0 : Array Value} {Z : State} (hw : ∀ d ∈ tables_1, d.before a0 Z = true) : (Jvm.Cond.selects "java/util/ArrayList" ({ cls := "java/util/List", name := "subList", desc := "(II)Ljava/util/List;" } : Jvm.MethodName) ({ cls := "java/util/ArrayList", name := "subList", desc := "(II)Ljava/util/List;" } : Jvm.MethodName)).before a0 Z = true := hw _ (List.mem_of_getElem? (i := 185) rfl)
theorem wd186 {a0 : Array Value} {Z : State} (hw : ∀ d ∈ tables_1, d.before a0 Z = true) : (Jvm.Cond.instanceMethod ({ cls := "java/util/ArrayList", name := "subList", desc := "(II)Ljava/util/List;" } : Jvm.MethodName)).before a0 Z = true := hw _ (List.mem_of_getElem? (i := 186) rfl)
theorem wd187 {a0 : Array Value} {Z : State} (hw : ∀ d ∈ tables_1, d.before a0 Z = true) : (Jvm.Cond.publicMethod ({ cls := "java/util/ArrayList", name := "subList", desc := "(II)Ljava/util/List;" } : Jvm.MethodName)).before a0 Z = true := hw _ (List.mem_of_getElem? (i := 187) rfl)
theorem wd188 {a0 : Array Value} {Z : State} (hw : ∀ d ∈ tables_1, d.before a0 Z = true) : (Jvm.Cond.unhidden "java/util/ArrayList" "subList" "(II)Ljava/util/List;").before a0 Z = true := hw _ (List.mem_of_getElem? (i := 188) rfl)
theorem wd189 {a0 : Array Value} {Z : State} (hw : ∀ d ∈ tables_1, d.before a0 Z = true) : (Jvm.Cond.code ({ cls := "java/util/ArrayList", name := "subList", desc := "(II)Ljava/util/List;" } : Jvm.MethodName) jdk_38_method_56_code (3 : Nat) (Option.some (Jvm.ClassFile.FieldType.object "java/util/List"))).before a0 Z = true := hw _ (List.mem_of_getElem? (i := 189) rfl)
theorem wd190 {a0 : Array Value} {Z : State} (hw : ∀ d ∈ tables_1, d.before a0 Z = true) : (Jvm.Cond.methodLink "java/util/ArrayList" (272 : Nat) ({ cls := "java/util/ArrayList", name := "subListRangeCheck", desc := "(III)V" } : Jvm.MethodName)).before a0 Z = true := hw _ (List.mem_of_getElem? (i := 190) rfl)
theorem wd191 {a0 : Array Value} {Z : State} (hw : ∀ d ∈ tables_1, d.before a0 Z = true) : (Jvm.Cond.sameMethod "java/util/ArrayList" "java/util/AbstractList" "subListRangeCheck" "(III)V").before a0 Z = true := hw _ (List.mem_of_getElem? (i := 191) rfl)
theorem wd192 {a0 : Array Value} {Z : State} (hw : ∀ d ∈ tables_1, d.before a0 Z = true) : (Jvm.Cond.static ({ cls := "java/util/AbstractList", name := "subListRangeCheck", desc := "(III)V" } : Jvm.MethodName)).before a0 Z = true := hw _ (List.mem_of_getElem? (i := 192) rfl)
theorem wd193 {a0 : Array Value} {Z : State} (hw : ∀ d ∈ tables_1, d.before a0 Z = true) : (Jvm.Cond.code ({ cls := "java/util/AbstractList", name := "subListRangeCheck", desc := "(III)V" } : Jvm.MethodName) jdk_39_method_15_code (3 : Nat) (Option.none : Option Jvm.ClassFile.FieldType)).before a0 Z = true := hw _ (List.mem_of_getElem? (i := 193) rfl)
theorem wd194 {a0 : Array Value} {Z : State} (hw : ∀ d ∈ tables_1, d.before a0 Z = true) : (Jvm.Cond.classLink "java/util/ArrayList" (276 : Nat) "java/util/ArrayList$SubList").before a0 Z = true := hw _ (List.mem_of_getElem? (i := 194) rfl)
theorem wd195 {a0 : Array Value} {Z : State} (hw : ∀ d ∈ tables_1, d.before a0 Z = true) : (Jvm.Cond.instantiable "java/util/ArrayList$SubList" (5 : Nat)).before a0 Z = true := hw _ (List.mem_of_getElem? (i := 195) rfl)
theorem wd196 {a0 : Array Value} {Z : State} (hw : ∀ d ∈ tables_1, d.before a0 Z = true) : (Jvm.Cond.initialized "java/util/ArrayList$SubList").before a0 Z = true := hw _ (List.mem_of_getElem? (i := 196) rfl)
theorem wd197 {a0 : Array Value} {Z : State} (hw : ∀ d ∈ tables_1, d.before a0 Z = true) : (Jvm.Cond.methodLink "java/util/ArrayList" (278 : Nat) ({ cls := "java/util/ArrayList$SubList", name := "<init>", desc := "(Ljava/util/ArrayList;II)V" } : Jvm.MethodName)).before a0 Z = true := hw _ (List.mem_of_getElem? (i := 197) rfl)
theorem wd198 {a0 : Array Value} {Z : State} (hw : ∀ d ∈ tables_1, d.before a0 Z = true) : (Jvm.Cond.instanceMethod ({ cls := "java/util/ArrayList$SubList", name := "<init>", desc := "(Ljava/util/ArrayList;II)V" } : Jvm.MethodName)).before a0 Z = true := hw _ (List.mem_of_getElem? (i := 198) rfl)
theorem wd200 {a0 : Array Value} {Z : State} (hw : ∀ d ∈ tables_1, d.before a0 Z = true) : (Jvm.Cond.code ({ cls := "java/util/ArrayList$SubList", name := "<init>", desc := "(Ljava/util/ArrayList;II)V" } : Jvm.MethodName) jdk_130_method_1_code (4 : Nat) (Option.none : Option Jvm.ClassFile.FieldType)).before a0 Z = true := hw _ (List.mem_of_getElem? (i := 200) rfl)
theorem wd201 {a0 : Array Value} {Z : State} (hw : ∀ d ∈ tables_1, d.before a0 Z = true) : (Jvm.Cond.methodLink "java/util/ArrayList$SubList" (1 : Nat) ({ cls := "java/util/AbstractList", name := "<init>", desc := "()V" } : Jvm.MethodName)).before a0 Z = true := hw _ (List.mem_of_getElem? (i := 201) rfl)
theorem wd204 {a0 : Array Value} {Z : State} (hw : ∀ d ∈ tables_1, d.before a0 Z = true) : (Jvm.Cond.lays "java/util/ArrayList$SubList" "java/util/AbstractList" "modCount" "I").before a0 Z = true := hw _ (List.mem_of_getElem? (i := 204) rfl)
theorem wd205 {a0 : Array Value} {Z : State} (hw : ∀ d ∈ tables_1, d.before a0 Z = true) : (Jvm.Cond.fieldLink "java/util/ArrayList$SubList" (7 : Nat) "java/util/ArrayList$SubList" "root" "Ljava/util/ArrayList;").before a0 Z = true := hw _ (List.mem_of_getElem? (i := 205) rfl)
theorem wd206 {a0 : Array Value} {Z : State} (hw : ∀ d ∈ tables_1, d.before a0 Z = true) : (Jvm.Cond.laysFinal "java/util/ArrayList$SubList" "java/util/ArrayList$SubList" "root" "Ljava/util/ArrayList;").before a0 Z = true := hw _ (List.mem_of_getElem? (i := 206) rfl)
theorem wd207 {a0 : Array Value} {Z : State} (hw : ∀ d ∈ tables_1, d.before a0 Z = true) : (Jvm.Cond.fieldLink "java/util/ArrayList$SubList" (13 : Nat) "java/util/ArrayList$SubList" "parent" "Ljava/util/ArrayList$SubList;").before a0 Z = true := hw _ (List.mem_of_getElem? (i := 207) rfl)
theorem wd208 {a0 : Array Value} {Z : State} (hw : ∀ d ∈ tables_1, d.before a0 Z = true) : (Jvm.Cond.laysFinal "java/util/ArrayList$SubList" "java/util/ArrayList$SubList" "parent" "Ljava/util/ArrayList$SubList;").before a0 Z = true := hw _ (List.mem_of_getElem? (i := 208) rfl)
theorem wd209 {a0 : Array Value} {Z : State} (hw : ∀ d ∈ tables_1, d.before a0 Z = true) : (Jvm.Cond.fieldLink "java/util/ArrayList$SubList" (17 : Nat) "java/util/ArrayList$SubList" "offset" "I").before a0 Z = true := hw _ (List.mem_of_getElem? (i := 209) rfl)
theorem wd210 {a0 : Array Value} {Z : State} (hw : ∀ d ∈ tables_1, d.before a0 Z = true) : (Jvm.Cond.laysFinal "java/util/ArrayList$SubList" "java/util/ArrayList$SubList" "offset" "I").before a0 Z = true := hw _ (List.mem_of_getElem? (i := 210) rfl)
theorem wd211 {a0 : Array Value} {Z : State} (hw : ∀ d ∈ tables_1, d.before a0 Z = true) : (Jvm.Cond.fieldLink "java/util/ArrayList$SubList" (21 : Nat) "java/util/ArrayList$SubList" "size" "I").before a0 Z = true := hw _ (List.mem_of_getElem? (i := 211) rfl)
theorem wd212 {a0 : Array Value} {Z : State} (hw : ∀ d ∈ tables_1, d.before a0 Z = true) : (Jvm.Cond.lays "java/util/ArrayList$SubList" "java/util/ArrayList$SubList" "size" "I").before a0 Z = true := hw _ (List.mem_of_getElem? (i := 212) rfl)
theorem wd213 {a0 : Array Value} {Z : State} (hw : ∀ d ∈ tables_1, d.before a0 Z = true) : (Jvm.Cond.fieldLink "java/util/ArrayList$SubList" (24 : Nat) "java/util/ArrayList" "modCount" "I").before a0 Z = true := hw _ (List.mem_of_getElem? (i := 213) rfl)
theorem wd214 {a0 : Array Value} {Z : State} (hw : ∀ d ∈ tables_1, d.before a0 Z = true) : (Jvm.Cond.fieldLink "java/util/ArrayList$SubList" (29 : Nat) "java/util/ArrayList$SubList" "modCount" "I").before a0 Z = true := hw _ (List.mem_of_getElem? (i := 214) rfl)
theorem wd215 {a0 : Array Value} {Z : State} (hw : ∀ d ∈ tables_1, d.before a0 Z = true) : (Jvm.Cond.sameField "java/util/ArrayList$SubList" "java/util/AbstractList" "modCount" "I").before a0 Z = true := hw _ (List.mem_of_getElem? (i := 215) rfl)
theorem wd216 {a0 : Array Value} {Z : State} (hw : ∀ d ∈ tables_1, d.before a0 Z = true) : (Jvm.Cond.methodLink "com/example/redelivery/redelivery/engine/MemoryLog" (65 : Nat) ({ cls := "java/util/List", name := "clear", desc := "()V" } : Jvm.MethodName)).before a0 Z = true := hw _ (List.mem_of_getElem? (i := 216) rfl)
theorem wd217 {a0 : Array Value} {Z : State} (hw : ∀ d ∈ tables_1, d.before a0 Z = true) : (Jvm.Cond.declares ({ cls := "java/util/List", name := "clear", desc := "()V" } : Jvm.MethodName)).before a0 Z = true := hw _ (List.mem_of_getElem? (i := 217) rfl)
theorem wd218 {a0 : Array Value} {Z : State} (hw : ∀ d ∈ tables_1, d.before a0 Z = true) : (Jvm.Cond.interfaceMethod "java/util/List" "java/util/List" "clear" "()V").before a0 Z = true := hw _ (List.mem_of_getElem? (i := 218) rfl)
theorem wd219 {a0 : Array Value} {Z : State} (hw : ∀ d ∈ tables_1, d.before a0 Z = true) : (Jvm.Cond.selects "java/util/ArrayList$SubList" ({ cls := "java/util/List", name := "clear", desc := "()V" } : Jvm.MethodName) ({ cls := "java/util/AbstractList", name := "clear", desc := "()V" } : Jvm.MethodName)).before a0 Z = true := hw _ (List.mem_of_getElem? (i := 219) rfl)
theorem wd220 {a0 : Array Value} {Z : State} (hw : ∀ d ∈ tables_1, d.before a0 Z = true) : (Jvm.Cond.instanceMethod ({ cls := "java/util/AbstractList", name := "clear", desc := "()V" } : Jvm.MethodName)).before a0 Z = true := hw _ (List.mem_of_getElem? (i := 220) rfl)
theorem wd221 {a0 : Array Value} {Z : State} (hw : ∀ d ∈ tables_1, d.before a0 Z = true) : (Jvm.Cond.publicMethod ({ cls := "java/util/AbstractList", name := "clear", desc := "()V" } : Jvm.MethodName)).before a0 Z = true := hw _ (List.mem_of_getElem? (i := 221) rfl)
theorem wd222 {a0 : Array Value} {Z : State} (hw : ∀ d ∈ tables_1, d.before a0 Z = true) : (Jvm.Cond.unhidden "java/util/ArrayList$SubList" "clear" "()V").before a0 Z = true := hw _ (List.mem_of_getElem? (i := 222) rfl)
theorem wd223 {a0 : Array Value} {Z : State} (hw : ∀ d ∈ tables_1, d.before a0 Z = true) : (Jvm.Cond.castable "java/util/ArrayList$SubList" "java/util/List").before a0 Z = true := hw _ (List.mem_of_getElem? (i := 223) rfl)
theorem wd224 {a0 : Array Value} {Z : State} (hw : ∀ d ∈ tables_1, d.before a0 Z = true) : (Jvm.Cond.code ({ cls := "java/util/AbstractList", name := "clear", desc := "()V" } : Jvm.MethodName) jdk_39_method_9_code (1 : Nat) (Option.none : Option Jvm.ClassFile.FieldType)).before a0 Z = true := hw _ (List.mem_of_getElem? (i := 224) rfl)
theorem wd225 {a0 : Array Value} {Z : State} (hw : ∀ d ∈ tables_1, d.before a0 Z = true) : (Jvm.Cond.methodLink "java/util/AbstractList" (13 : Nat) ({ cls := "java/util/AbstractList", name := "size", desc := "()I" } : Jvm.MethodName)).before a0 Z = true := hw _ (List.mem_of_getElem? (i := 225) rfl)
theorem wd226 {a0 : Array Value} {Z : State} (hw : ∀ d ∈ tables_1, d.before a0 Z = true) : (Jvm.Cond.sameMethod "java/util/AbstractList" "java/util/AbstractCollection" "size" "()I").before a0 Z = true := hw _ (List.mem_of_getElem? (i := 226) rfl)
theorem wd227 {a0 : Array Value} {Z : State} (hw : ∀ d ∈ tables_1, d.before a0 Z = true) : (Jvm.Cond.declares ({ cls := "java/util/AbstractCollection", name := "size", desc := "()I" } : Jvm.MethodName)).before a0 Z = true := hw _ (List.mem_of_getElem? (i := 227) rfl)
theorem wd228 {a0 : Array Value} {Z : State} (hw : ∀ d ∈ tables_1, d.before a0 Z = true) : (Jvm.Cond.selects "java/util/ArrayList$SubList" ({ cls := "java/util/AbstractList", name := "size", desc := "()I" } : Jvm.MethodName) ({ cls := "java/util/ArrayList$SubList", name := "size", desc := "()I" } : Jvm.MethodName)).before a0 Z = true := hw _ (List.mem_of_getElem? (i := 228) rfl)
theorem wd229 {a0 : Array Value} {Z : State} (hw : ∀ d ∈ tables_1, d.before a0 Z = true) : (Jvm.Cond.instanceMethod ({ cls := "java/util/ArrayList$SubList", name := "size", desc := "()I" } : Jvm.MethodName)).before a0 Z = true := hw _ (List.mem_of_getElem? (i := 229) rfl)
theorem wd230 {a0 : Array Value} {Z : State} (hw : ∀ d ∈ tables_1, d.before a0 Z = true) : (Jvm.Cond.code ({ cls := "java/util/ArrayList$SubList", name := "size", desc := "()I" } : Jvm.MethodName) jdk_130_method_5_code (1 : Nat) (Option.some Jvm.ClassFile.FieldType.int)).before a0 Z = true := hw _ (List.mem_of_getElem? (i := 230) rfl)
theorem wd231 {a0 : Array Value} {Z : State} (hw : ∀ d ∈ tables_1, d.before a0 Z = true) : (Jvm.Cond.methodLink "java/util/ArrayList$SubList" (36 : Nat) ({ cls := "java/util/ArrayList$SubList", name := "checkForComodification", desc := "()V" } : Jvm.MethodName)).before a0 Z = true := hw _ (List.mem_of_getElem? (i := 231) rfl)
theorem wd232 {a0 : Array Value} {Z : State} (hw : ∀ d ∈ tables_1, d.before a0 Z = true) : (Jvm.Cond.instanceMethod ({ cls := "java/util/ArrayList$SubList", name := "checkForComodification", desc := "()V" } : Jvm.MethodName)).before a0 Z = true := hw _ (List.mem_of_getElem? (i := 232) rfl)
theorem wd233 {a0 : Array Value} {Z : State} (hw : ∀ d ∈ tables_1, d.before a0 Z = true) : (Jvm.Cond.privateMethod ({ cls := "java/util/ArrayList$SubList", name := "checkForComodification", desc := "()V" } : Jvm.MethodName)).before a0 Z = true := hw _ (List.mem_of_getElem? (i := 233) rfl)
theorem wd234 {a0 : Array Value} {Z : State} (hw : ∀ d ∈ tables_1, d.before a0 Z = true) : (Jvm.Cond.selects "java/util/ArrayList$SubList" ({ cls := "java/util/ArrayList$SubList", name := "checkForComodification", desc := "()V" } : Jvm.MethodName) ({ cls := "java/util/ArrayList$SubList", name := "checkForComodification", desc := "()V" } : Jvm.MethodName)).before a0 Z = true := hw _ (List.mem_of_getElem? (i := 234) rfl)
theorem wd235 {a0 : Array Value} {Z : State} (hw : ∀ d ∈ tables_1, d.before a0 Z = true) : (Jvm.Cond.code ({ cls := "java/util/ArrayList$SubList", name := "checkForComodification", desc := "()V" } : Jvm.MethodName) jdk_130_method_28_code (1 : Nat) (Option.none : Option Jvm.ClassFile.FieldType)).before a0 Z = true := hw _ (List.mem_of_getElem? (i := 235) rfl)
theorem wd236 {a0 : Array Value} {Z : State} (hw : ∀ d ∈ tables_1, d.before a0 Z = true) : (Jvm.Cond.methodLink "java/util/AbstractList" (59 : Nat) ({ cls := "java/util/AbstractList", name := "removeRange", desc := "(II)V" } : Jvm.MethodName)).before a0 Z = true := hw _ (List.mem_of_getElem? (i := 236) rfl)
theorem wd237 {a0 : Array Value} {Z : State} (hw : ∀ d ∈ tables_1, d.before a0 Z = true) : (Jvm.Cond.declares ({ cls := "java/util/AbstractList", name := "removeRange", desc := "(II)V" } : Jvm.MethodName)).before a0 Z = true := hw _ (List.mem_of_getElem? (i := 237) rfl)
theorem wd239 {a0 : Array Value} {Z : State} (hw : ∀ d ∈ tables_1, d.before a0 Z = true) : (Jvm.Cond.selects "java/util/ArrayList$SubList" ({ cls := "java/util/AbstractList", name := "removeRange", desc := "(II)V" } : Jvm.MethodName) ({ cls := "java/util/ArrayList$SubList", name := "removeRange", desc := "(II)V" } : Jvm.MethodName)).before a0 Z = true := hw _ (List.mem_of_getElem? (i := 239) rfl)
theorem wd240 {a0 : Array Value} {Z : State} (hw : ∀ d ∈ tables_1, d.before a0 Z = true) : (Jvm.Cond.instanceMethod ({ cls := "java/util/ArrayList$SubList", name := "removeRange", desc := "(II)V" } : Jvm.MethodName)).before a0 Z = true := hw _ (List.mem_of_getElem? (i := 240) rfl)
theorem wd241 {a0 : Array Value} {Z : State} (hw : ∀ d ∈ tables_1, d.before a0 Z = true) : (Jvm.Cond.code ({ cls := "java/util/ArrayList$SubList", name := "removeRange", desc := "(II)V" } : Jvm.MethodName) jdk_130_method_8_code (3 : Nat) (Option.none : Option Jvm.ClassFile.FieldType)).before a0 Z = true := hw _ (List.mem_of_getElem? (i := 241) rfl)
theorem wd242 {a0 : Array Value} {Z : State} (hw : ∀ d ∈ tables_1, d.before a0 Z = true) : (Jvm.Cond.methodLink "java/util/ArrayList$SubList" (60 : Nat) ({ cls := "java/util/ArrayList", name := "removeRange", desc := "(II)V" } : Jvm.MethodName)).before a0 Z = true := hw _ (List.mem_of_getElem? (i := 242) rfl)
theorem wd243 {a0 : Array Value} {Z : State} (hw : ∀ d ∈ tables_1, d.before a0 Z = true) : (Jvm.Cond.declares ({ cls := "java/util/ArrayList", name := "removeRange", desc := "(II)V" } : Jvm.MethodName)).before a0 Z = true := hw _ (List.mem_of_getElem? (i := 243) rfl)
theorem wd244 {a0 : Array Value} {Z : State} (hw : ∀ d ∈ tables_1, d.before a0 Z = true) : (Jvm.Cond.instanceMethod ({ cls := "java/util/ArrayList", name := "removeRange", desc := "(II)V" } : Jvm.MethodName)).before a0 Z = true := hw _ (List.mem_of_getElem? (i := 244) rfl)
theorem wd245 {a0 : Array Value} {Z : State} (hw : ∀ d ∈ tables_1, d.before a0 Z = true) : (Jvm.Cond.selects "java/util/ArrayList" ({ cls := "java/util/ArrayList", name := "removeRange", desc := "(II)V" } : Jvm.MethodName) ({ cls := "java/util/ArrayList", name := "removeRange", desc := "(II)V" } : Jvm.MethodName)).before a0 Z = true := hw _ (List.mem_of_getElem? (i := 245) rfl)
theorem wd246 {a0 : Array Value} {Z : State} (hw : ∀ d ∈ tables_1, d.before a0 Z = true) : (Jvm.Cond.code ({ cls := "java/util/ArrayList", name := "removeRange", desc := "(II)V" } : Jvm.MethodName) jdk_38_method_43_code (3 : Nat) (Option.none : Option Jvm.ClassFile.FieldType)).before a0 Z = true := hw _ (List.mem_of_getElem? (i := 246) rfl)
theorem wd247 {a0 : Array Value} {Z : State} (hw : ∀ d ∈ tables_1, d.before a0 Z = true) : (Jvm.Cond.methodLink "java/util/ArrayList" (194 : Nat) ({ cls := "java/util/ArrayList", name := "shiftTailOverGap", desc := "([Ljava/lang/Object;II)V" } : Jvm.MethodName)).before a0 Z = true := hw _ (List.mem_of_getElem? (i := 247) rfl)
theorem wd248 {a0 : Array Value} {Z : State} (hw : ∀ d ∈ tables_1, d.before a0 Z = true) : (Jvm.Cond.instanceMethod ({ cls := "java/util/ArrayList", name := "shiftTailOverGap", desc := "([Ljava/lang/Object;II)V" } : Jvm.MethodName)).before a0 Z = true := hw _ (List.mem_of_getElem? (i := 248) rfl)
theorem wd249 {a0 : Array Value} {Z : State} (hw : ∀ d ∈ tables_1, d.before a0 Z = true) : (Jvm.Cond.privateMethod ({ cls := "java/util/ArrayList", name := "shiftTailOverGap", desc := "([Ljava/lang/Object;II)V" } : Jvm.MethodName)).before a0 Z = true := hw _ (List.mem_of_getElem? (i := 249) rfl)
theorem wd250 {a0 : Array Value} {Z : State} (hw : ∀ d ∈ tables_1, d.before a0 Z = true) : (Jvm.Cond.selects "java/util/ArrayList" ({ cls := "java/util/ArrayList", name := "shiftTailOverGap", desc := "([Ljava/lang/Object;II)V" } : Jvm.MethodName) ({ cls := "java/util/ArrayList", name := "shiftTailOverGap", desc := "([Ljava/lang/Object;II)V" } : Jvm.MethodName)).before a0 Z = true := hw _ (List.mem_of_getElem? (i := 250) rfl)
theorem wd251 {a0 : Array Value} {Z : State} (hw : ∀ d ∈ tables_1, d.before a0 Z = true) : (Jvm.Cond.code ({ cls := "java/util/ArrayList", name := "shiftTailOverGap", desc := "([Ljava/lang/Object;II)V" } : Jvm.MethodName) jdk_38_method_44_code (6 : Nat) (Option.none : Option Jvm.ClassFile.FieldType)).before a0 Z = true := hw _ (List.mem_of_getElem? (i := 251) rfl)
theorem wd252 {a0 : Array Value} {Z : State} (hw : ∀ d ∈ tables_1, d.before a0 Z = true) : (Jvm.Cond.methodLink "java/util/ArrayList" (112 : Nat) ({ cls := "java/lang/System", name := "arraycopy", desc := "(Ljava/lang/Object;ILjava/lang/Object;II)V" } : Jvm.MethodName)).before a0 Z = true := hw _ (List.mem_of_getElem? (i := 252) rfl)
theorem wd253 {a0 : Array Value} {Z : State} (hw : ∀ d ∈ tables_1, d.before a0 Z = true) : (Jvm.Cond.static ({ cls := "java/lang/System", name := "arraycopy", desc := "(Ljava/lang/Object;ILjava/lang/Object;II)V" } : Jvm.MethodName)).before a0 Z = true := hw _ (List.mem_of_getElem? (i := 253) rfl)
theorem wd254 {a0 : Array Value} {Z : State} (hw : ∀ d ∈ tables_1, d.before a0 Z = true) : (Jvm.Cond.initialized "java/lang/System").before a0 Z = true := hw _ (List.mem_of_getElem? (i := 254) rfl)
theorem wd255 {a0 : Array Value} {Z : State} (hw : ∀ d ∈ tables_1, d.before a0 Z = true) : (Jvm.Cond.native ({ cls := "java/lang/System", name := "arraycopy", desc := "(Ljava/lang/Object;ILjava/lang/Object;II)V" } : Jvm.MethodName)).before a0 Z = true := hw _ (List.mem_of_getElem? (i := 255) rfl)
theorem wd256 {a0 : Array Value} {Z : State} (hw : ∀ d ∈ tables_1, d.before a0 Z = true) : (Jvm.Cond.methodLink "java/util/ArrayList$SubList" (54 : Nat) ({ cls := "java/util/ArrayList$SubList", name := "updateSizeAndModCount", desc := "(I)V" } : Jvm.MethodName)).before a0 Z = true := hw _ (List.mem_of_getElem? (i := 256) rfl)
theorem wd257 {a0 : Array Value} {Z : State} (hw : ∀ d ∈ tables_1, d.before a0 Z = true) : (Jvm.Cond.instanceMethod ({ cls := "java/util/ArrayList$SubList", name := "updateSizeAndModCount", desc := "(I)V" } : Jvm.MethodName)).before a0 Z = true := hw _ (List.mem_of_getElem? (i := 257) rfl)
theorem wd258 {a0 : Array Value} {Z : State} (hw : ∀ d ∈ tables_1, d.before a0 Z = true) : (Jvm.Cond.privateMethod ({ cls := "java/util/ArrayList$SubList", name := "updateSizeAndModCount", desc := "(I)V" } : Jvm.MethodName)).before a0 Z = true := hw _ (List.mem_of_getElem? (i := 258) rfl)
theorem wd259 {a0 : Array Value} {Z : State} (hw : ∀ d ∈ tables_1, d.before a0 Z = true) : (Jvm.Cond.selects "java/util/ArrayList$SubList" ({ cls := "java/util/ArrayList$SubList", name := "updateSizeAndModCount", desc := "(I)V" } : Jvm.MethodName) ({ cls := "java/util/ArrayList$SubList", name := "updateSizeAndModCount", desc := "(I)V" } : Jvm.MethodName)).before a0 Z = true := hw _ (List.mem_of_getElem? (i := 259) rfl)
theorem wd260 {a0 : Array Value} {Z : State} (hw : ∀ d ∈ tables_1, d.before a0 Z = true) : (Jvm.Cond.code ({ cls := "java/util/ArrayList$SubList", name := "updateSizeAndModCount", desc := "(I)V" } : Jvm.MethodName) jdk_130_method_29_code (3 : Nat) (Option.none : Option Jvm.ClassFile.FieldType)).before a0 Z = true := hw _ (List.mem_of_getElem? (i := 260) rfl)
theorem wd261 {a0 : Array Value} {Z : State} (hw : ∀ d ∈ tables_1, d.before a0 Z = true) : (Jvm.Cond.constantLong "com/example/redelivery/redelivery/engine/MemoryLogDeletesBeforePinLaw" (8 : Nat) (3 : Int64)).before a0 Z = true := hw _ (List.mem_of_getElem? (i := 261) rfl)
theorem d3_0 : decode jdk_22_method_1_code 0 = .ok (.aload_n 0, 1) := by decide +kernel
theorem d3_1 : decode jdk_22_method_1_code 1 = .ok (.invokespecial 1, 3) := by decide +kernel
theorem d3_4 : decode jdk_22_method_1_code 4 = .ok (.return_, 1) := by decide +kernel
theorem pn_3 : plainName "java/util/AbstractCollection" = true := by first | (simp [plainName, overriddenIn]; done) | decide +kernel
theorem d2_0 : decode jdk_39_method_1_code 0 = .ok (.aload_n 0, 1) := by decide +kernel
theorem pd_0 : parseMethodDescriptor "()V" = some ⟨[], none⟩ := by decide +kernel
theorem d2_1 : decode jdk_39_method_1_code 1 = .ok (.invokespecial 1, 3) := by decide +kernel
theorem d2_4 : decode jdk_39_method_1_code 4 = .ok (.aload_n 0, 1) := by decide +kernel
theorem d2_5 : decode jdk_39_method_1_code 5 = .ok (.iconst 0, 1) := by decide +kernel
theorem d2_6 : decode jdk_39_method_1_code 6 = .ok (.putfield 7, 3) := by decide +kernel
theorem d2_9 : decode jdk_39_method_1_code 9 = .ok (.return_, 1) := by decide +kernel
theorem pn_2 : plainName "java/util/AbstractList" = true := by first | (simp [plainName, overriddenIn]; done) | decide +kernel
theorem d1_0 : decode jdk_38_method_2_code 0 = .ok (.aload_n 0, 1) := by decide +kernel
theorem d1_1 : decode jdk_38_method_2_code 1 = .ok (.invokespecial 1, 3) := by decide +kernel
theorem d1_4 : decode jdk_38_method_2_code 4 = .ok (.aload_n 0, 1) := by decide +kernel
theorem d1_5 : decode jdk_38_method_2_code 5 = .ok (.getstatic 39, 3) := by decide +kernel
theorem d1_8 : decode jdk_38_method_2_code 8 = .ok (.putfield 9, 3) := by decide +kernel
theorem d1_11 : decode jdk_38_method_2_code 11 = .ok (.return_, 1) := by decide +kernel
theorem pn_1 : plainName "java/util/ArrayList" = true := by first | (simp [plainName, overriddenIn]; done) | decide +kernel
theorem d9_0 : decode jdk_29_method_65_code 0 = .ok (.iload_n 0, 1) := by decide +kernel
theorem d9_1 : decode jdk_29_method_65_code 1 = .ok (.iload_n 1, 1) := by decide +kernel
theorem d9_2 : decode jdk_29_method_65_code 2 = .ok (.if_icmp .lt 7, 3) := by decide +kernel
theorem d9_9 : decode jdk_29_method_65_code 9 = .ok (.iload_n 1, 1) := by decide +kernel
theorem d9_5 : decode jdk_29_method_65_code 5 = .ok (.iload_n 0, 1) := by decide +kernel
theorem d9_6 : decode jdk_29_method_65_code 6 = .ok (.goto 4, 3) := by decide +kernel
theorem d9_10 : decode jdk_29_method_65_code 10 = .ok (.ireturn, 1) := by decide +kernel
theorem d8_0 : decode jdk_38_method_6_code 0 = .ok (.aload_n 0, 1) := by decide +kernel
theorem d8_1 : decode jdk_38_method_6_code 1 = .ok (.getfield 9, 3) := by decide +kernel
theorem d8_4 : decode jdk_38_method_6_code 4 = .ok (.arraylength, 1) := by decide +kernel
theorem d8_5 : decode jdk_38_method_6_code 5 = .ok (.istore_n 2, 1) := by decide +kernel
theorem d8_6 : decode jdk_38_method_6_code 6 = .ok (.iload_n 2, 1) := by decide +kernel
theorem d8_7 : decode jdk_38_method_6_code 7 = .ok (.ifCond .gt 13, 3) := by decide +kernel
theorem d8_10 : decode jdk_38_method_6_code 10 = .ok (.aload_n 0, 1) := by decide +kernel
theorem d8_11 : decode jdk_38_method_6_code 11 = .ok (.getfield 9, 3) := by decide +kernel
theorem d8_14 : decode jdk_38_method_6_code 14 = .ok (.getstatic 39, 3) := by decide +kernel
theorem d8_17 : decode jdk_38_method_6_code 17 = .ok (.if_acmp .eq 28, 3) := by decide +kernel
theorem d8_45 : decode jdk_38_method_6_code 45 = .ok (.aload_n 0, 1) := by decide +kernel
theorem d8_46 : decode jdk_38_method_6_code 46 = .ok (.bipush 10, 2) := by decide +kernel
theorem d8_48 : decode jdk_38_method_6_code 48 = .ok (.iload_n 1, 1) := by decide +kernel
theorem pd_1 : parseMethodDescriptor "(II)I" = some ⟨[.int, .int], some .int⟩ := by decide +kernel
theorem d8_49 : decode jdk_38_method_6_code 49 = .ok (.invokestatic 79, 3) := by decide +kernel
theorem d8_52 : decode jdk_38_method_6_code 52 = .ok (.anewarray 7, 3) := by decide +kernel
theorem d8_55 : decode jdk_38_method_6_code 55 = .ok (.dup_x1, 1) := by decide +kernel
theorem d8_56 : decode jdk_38_method_6_code 56 = .ok (.putfield 9, 3) := by decide +kernel
theorem d8_59 : decode jdk_38_method_6_code 59 = .ok (.areturn, 1) := by decide +kernel
theorem pn_8 : plainName "java/util/ArrayList" = true := by first | (simp [plainName, overriddenIn]; done) | decide +kernel
theorem d7_0 : decode jdk_38_method_7_code 0 = .ok (.aload_n 0, 1) := by decide +kernel
theorem d7_1 : decode jdk_38_method_7_code 1 = .ok (.aload_n 0, 1) := by decide +kernel
theorem d7_2 : decode jdk_38_method_7_code 2 = .ok (.getfield 48, 3) := by decide +kernel
theorem d7_5 : decode jdk_38_method_7_code 5 = .ok (.iconst 1, 1) := by decide +kernel
theorem d7_6 : decode jdk_38_method_7_code 6 = .ok (.iadd, 1) := by decide +kernel
theorem pd_2 : parseMethodDescriptor "(I)[Ljava/lang/Object;" = some ⟨[.int], some (.array (.object "java/lang/Object"))⟩ := by decide +kernel
theorem d7_7 : decode jdk_38_method_7_code 7 = .ok (.invokevirtual 69, 3) := by decide +kernel
theorem d7_10 : decode jdk_38_method_7_code 10 = .ok (.areturn, 1) := by decide +kernel
theorem pn_7 : plainName "java/util/ArrayList" = true := by first | (simp [plainName, overriddenIn]; done) | decide +kernel
theorem d6_0 : decode jdk_38_method_24_code 0 = .ok (.iload_n 3, 1) := by decide +kernel
theorem d6_1 : decode jdk_38_method_24_code 1 = .ok (.aload_n 2, 1) := by decide +kernel
theorem d6_2 : decode jdk_38_method_24_code 2 = .ok (.arraylength, 1) := by decide +kernel
theorem d6_3 : decode jdk_38_method_24_code 3 = .ok (.if_icmp .ne 8, 3) := by decide +kernel
theorem d6_6 : decode jdk_38_method_24_code 6 = .ok (.aload_n 0, 1) := by decide +kernel
theorem pd_3 : parseMethodDescriptor "()[Ljava/lang/Object;" = some ⟨[], some (.array (.object "java/lang/Object"))⟩ := by decide +kernel
theorem d6_7 : decode jdk_38_method_24_code 7 = .ok (.invokevirtual 129, 3) := by decide +kernel
theorem d6_10 : decode jdk_38_method_24_code 10 = .ok (.astore_n 2, 1) := by decide +kernel
theorem d6_11 : decode jdk_38_method_24_code 11 = .ok (.aload_n 2, 1) := by decide +kernel
theorem d6_12 : decode jdk_38_method_24_code 12 = .ok (.iload_n 3, 1) := by decide +kernel
theorem d6_13 : decode jdk_38_method_24_code 13 = .ok (.aload_n 1, 1) := by decide +kernel
theorem d6_14 : decode jdk_38_method_24_code 14 = .ok (.aastore, 1) := by decide +kernel
theorem d6_15 : decode jdk_38_method_24_code 15 = .ok (.aload_n 0, 1) := by decide +kernel
theorem d6_16 : decode jdk_38_method_24_code 16 = .ok (.iload_n 3, 1) := by decide +kernel
theorem d6_17 : decode jdk_38_method_24_code 17 = .ok (.iconst 1, 1) := by decide +kernel
theorem d6_18 : decode jdk_38_method_24_code 18 = .ok (.iadd, 1) := by decide +kernel
theorem d6_19 : decode jdk_38_method_24_code 19 = .ok (.putfield 48, 3) := by decide +kernel
theorem d6_22 : decode jdk_38_method_24_code 22 = .ok (.return_, 1) := by decide +kernel
theorem pn_6 : plainName "java/util/ArrayList" = true := by first | (simp [plainName, overriddenIn]; done) | decide +kernel
theorem d5_0 : decode jdk_38_method_25_code 0 = .ok (.aload_n 0, 1) := by decide +kernel
theorem d5_1 : decode jdk_38_method_25_code 1 = .ok (.dup, 1) := by decide +kernel
theorem d5_2 : decode jdk_38_method_25_code 2 = .ok (.getfield 63, 3) := by decide +kernel
theorem d5_5 : decode jdk_38_method_25_code 5 = .ok (.iconst 1, 1) := by decide +kernel
theorem d5_6 : decode jdk_38_method_25_code 6 = .ok (.iadd, 1) := by decide +kernel
theorem d5_7 : decode jdk_38_method_25_code 7 = .ok (.putfield 63, 3) := by decide +kernel
theorem d5_10 : decode jdk_38_method_25_code 10 = .ok (.aload_n 0, 1) := by decide +kernel
theorem d5_11 : decode jdk_38_method_25_code 11 = .ok (.aload_n 1, 1) := by decide +kernel
theorem d5_12 : decode jdk_38_method_25_code 12 = .ok (.aload_n 0, 1) := by decide +kernel
theorem d5_13 : decode jdk_38_method_25_code 13 = .ok (.getfield 9, 3) := by decide +kernel
theorem d5_16 : decode jdk_38_method_25_code 16 = .ok (.aload_n 0, 1) := by decide +kernel
theorem d5_17 : decode jdk_38_method_25_code 17 = .ok (.getfield 48, 3) := by decide +kernel
theorem pd_4 : parseMethodDescriptor "(Ljava/lang/Object;[Ljava/lang/Object;I)V" = some ⟨[(.object "java/lang/Object"), (.array (.object "java/lang/Object")), .int], none⟩ := by decide +kernel
theorem d5_20 : decode jdk_38_method_25_code 20 = .ok (.invokevirtual 131, 3) := by decide +kernel
theorem d5_23 : decode jdk_38_method_25_code 23 = .ok (.iconst 1, 1) := by decide +kernel
theorem d5_24 : decode jdk_38_method_25_code 24 = .ok (.ireturn, 1) := by decide +kernel
theorem pn_5 : plainName "java/util/ArrayList" = true := by first | (simp [plainName, overriddenIn]; done) | decide +kernel
theorem d14_0 : decode jdk_49_method_1_code 0 = .ok (.aload_n 0, 1) := by decide +kernel
theorem d14_1 : decode jdk_49_method_1_code 1 = .ok (.aload_n 1, 1) := by decide +kernel
theorem d14_2 : decode jdk_49_method_1_code 2 = .ok (.putfield 1, 3) := by decide +kernel
theorem d14_5 : decode jdk_49_method_1_code 5 = .ok (.aload_n 0, 1) := by decide +kernel
theorem d14_6 : decode jdk_49_method_1_code 6 = .ok (.invokespecial 7, 3) := by decide +kernel
theorem d14_9 : decode jdk_49_method_1_code 9 = .ok (.aload_n 0, 1) := by decide +kernel
theorem d14_10 : decode jdk_49_method_1_code 10 = .ok (.iconst (-1), 1) := by decide +kernel
theorem d14_11 : decode jdk_49_method_1_code 11 = .ok (.putfield 13, 3) := by decide +kernel
theorem d14_14 : decode jdk_49_method_1_code 14 = .ok (.aload_n 0, 1) := by decide +kernel
theorem d14_15 : decode jdk_49_method_1_code 15 = .ok (.aload_n 0, 1) := by decide +kernel
theorem d14_16 : decode jdk_49_method_1_code 16 = .ok (.getfield 1, 3) := by decide +kernel
theorem d14_19 : decode jdk_49_method_1_code 19 = .ok (.getfield 17, 3) := by decide +kernel
theorem d14_22 : decode jdk_49_method_1_code 22 = .ok (.putfield 22, 3) := by decide +kernel
theorem d14_25 : decode jdk_49_method_1_code 25 = .ok (.return_, 1) := by decide +kernel
theorem pn_14 : plainName "java/util/ArrayList$Itr" = true := by first | (simp [plainName, overriddenIn]; done) | decide +kernel
theorem d13_0 : decode jdk_38_method_55_code 0 = .ok (.new 267, 3) := by decide +kernel
theorem d13_3 : decode jdk_38_method_55_code 3 = .ok (.dup, 1) := by decide +kernel
theorem d13_4 : decode jdk_38_method_55_code 4 = .ok (.aload_n 0, 1) := by decide +kernel
theorem pd_5 : parseMethodDescriptor "(Ljava/util/ArrayList;)V" = some ⟨[(.object "java/util/ArrayList")], none⟩ := by decide +kernel
theorem d13_5 : decode jdk_38_method_55_code 5 = .ok (.invokespecial 269, 3) := by decide +kernel
theorem d13_8 : decode jdk_38_method_55_code 8 = .ok (.areturn, 1) := by decide +kernel
theorem pn_13 : plainName "java/util/ArrayList" = true := by first | (simp [plainName, overriddenIn]; done) | decide +kernel
theorem d15_0 : decode jdk_49_method_2_code 0 = .ok (.aload_n 0, 1) := by decide +kernel
theorem d15_1 : decode jdk_49_method_2_code 1 = .ok (.getfield 25, 3) := by decide +kernel
theorem d15_4 : decode jdk_49_method_2_code 4 = .ok (.aload_n 0, 1) := by decide +kernel
theorem d15_5 : decode jdk_49_method_2_code 5 = .ok (.getfield 1, 3) := by decide +kernel
theorem d15_8 : decode jdk_49_method_2_code 8 = .ok (.getfield 28, 3) := by decide +kernel
theorem d15_11 : decode jdk_49_method_2_code 11 = .ok (.if_icmp .eq 7, 3) := by decide +kernel
theorem d15_18 : decode jdk_49_method_2_code 18 = .ok (.iconst 0, 1) := by decide +kernel
theorem d15_14 : decode jdk_49_method_2_code 14 = .ok (.iconst 1, 1) := by decide +kernel
theorem d15_15 : decode jdk_49_method_2_code 15 = .ok (.goto 4, 3) := by decide +kernel
theorem d15_19 : decode jdk_49_method_2_code 19 = .ok (.ireturn, 1) := by decide +kernel
theorem pn_15 : plainName "java/util/ArrayList$Itr" = true := by first | (simp [plainName, overriddenIn]; done) | decide +kernel
theorem d17_0 : decode jdk_49_method_6_code 0 = .ok (.aload_n 0, 1) := by decide +kernel
theorem d17_1 : decode jdk_49_method_6_code 1 = .ok (.getfield 1, 3) := by decide +kernel
theorem d17_4 : decode jdk_49_method_6_code 4 = .ok (.getfield 17, 3) := by decide +kernel
theorem d17_7 : decode jdk_49_method_6_code 7 = .ok (.aload_n 0, 1) := by decide +kernel
theorem d17_8 : decode jdk_49_method_6_code 8 = .ok (.getfield 22, 3) := by decide +kernel
theorem d17_11 : decode jdk_49_method_6_code 11 = .ok (.if_icmp .eq 11, 3) := by decide +kernel
theorem d17_22 : decode jdk_49_method_6_code 22 = .ok (.return_, 1) := by decide +kernel
theorem pn_17 : plainName "java/util/ArrayList$Itr" = true := by first | (simp [plainName, overriddenIn]; done) | decide +kernel
theorem d16_0 : decode jdk_49_method_3_code 0 = .ok (.aload_n 0, 1) := by decide +kernel
theorem d16_1 : decode jdk_49_method_3_code 1 = .ok (.invokevirtual 31, 3) := by decide +kernel
theorem d16_4 : decode jdk_49_method_3_code 4 = .ok (.aload_n 0, 1) := by decide +kernel
theorem d16_5 : decode jdk_49_method_3_code 5 = .ok (.getfield 25, 3) := by decide +kernel
theorem d16_8 : decode jdk_49_method_3_code 8 = .ok (.istore_n 1, 1) := by decide +kernel
theorem d16_9 : decode jdk_49_method_3_code 9 = .ok (.iload_n 1, 1) := by decide +kernel
theorem d16_10 : decode jdk_49_method_3_code 10 = .ok (.aload_n 0, 1) := by decide +kernel
theorem d16_11 : decode jdk_49_method_3_code 11 = .ok (.getfield 1, 3) := by decide +kernel
theorem d16_14 : decode jdk_49_method_3_code 14 = .ok (.getfield 28, 3) := by decide +kernel
theorem d16_17 : decode jdk_49_method_3_code 17 = .ok (.if_icmp .lt 11, 3) := by decide +kernel
theorem d16_28 : decode jdk_49_method_3_code 28 = .ok (.aload_n 0, 1) := by decide +kernel
theorem d16_29 : decode jdk_49_method_3_code 29 = .ok (.getfield 1, 3) := by decide +kernel
theorem d16_32 : decode jdk_49_method_3_code 32 = .ok (.getfield 37, 3) := by decide +kernel
theorem d16_35 : decode jdk_49_method_3_code 35 = .ok (.astore_n 2, 1) := by decide +kernel
theorem d16_36 : decode jdk_49_method_3_code 36 = .ok (.iload_n 1, 1) := by decide +kernel
theorem d16_37 : decode jdk_49_method_3_code 37 = .ok (.aload_n 2, 1) := by decide +kernel
theorem d16_38 : decode jdk_49_method_3_code 38 = .ok (.arraylength, 1) := by decide +kernel
theorem d16_39 : decode jdk_49_method_3_code 39 = .ok (.if_icmp .lt 11, 3) := by decide +kernel
theorem d16_50 : decode jdk_49_method_3_code 50 = .ok (.aload_n 0, 1) := by decide +kernel
theorem d16_51 : decode jdk_49_method_3_code 51 = .ok (.iload_n 1, 1) := by decide +kernel
theorem d16_52 : decode jdk_49_method_3_code 52 = .ok (.iconst 1, 1) := by decide +kernel
theorem d16_53 : decode jdk_49_method_3_code 53 = .ok (.iadd, 1) := by decide +kernel
theorem d16_54 : decode jdk_49_method_3_code 54 = .ok (.putfield 25, 3) := by decide +kernel
theorem d16_57 : decode jdk_49_method_3_code 57 = .ok (.aload_n 2, 1) := by decide +kernel
theorem d16_58 : decode jdk_49_method_3_code 58 = .ok (.aload_n 0, 1) := by decide +kernel
theorem d16_59 : decode jdk_49_method_3_code 59 = .ok (.iload_n 1, 1) := by decide +kernel
theorem d16_60 : decode jdk_49_method_3_code 60 = .ok (.dup_x1, 1) := by decide +kernel
theorem d16_61 : decode jdk_49_method_3_code 61 = .ok (.putfield 13, 3) := by decide +kernel
theorem d16_64 : decode jdk_49_method_3_code 64 = .ok (.aaload, 1) := by decide +kernel
theorem d16_65 : decode jdk_49_method_3_code 65 = .ok (.areturn, 1) := by decide +kernel
theorem pn_16 : plainName "java/util/ArrayList$Itr" = true := by first | (simp [plainName, overriddenIn]; done) | decide +kernel
theorem d10_0 : decode prog_7_method_1_code 0 = .ok (.aload_n 0, 1) := by decide +kernel
theorem d10_1 : decode prog_7_method_1_code 1 = .ok (.invokespecial 1, 3) := by decide +kernel
theorem d10_4 : decode prog_7_method_1_code 4 = .ok (.aload_n 0, 1) := by decide +kernel
theorem d10_5 : decode prog_7_method_1_code 5 = .ok (.new 7, 3) := by decide +kernel
theorem d10_8 : decode prog_7_method_1_code 8 = .ok (.dup, 1) := by decide +kernel
theorem d10_9 : decode prog_7_method_1_code 9 = .ok (.invokespecial 9, 3) := by decide +kernel
theorem d10_12 : decode prog_7_method_1_code 12 = .ok (.putfield 10, 3) := by decide +kernel
theorem d10_15 : decode prog_7_method_1_code 15 = .ok (.return_, 1) := by decide +kernel
theorem pn_10 : plainName "com/example/redelivery/redelivery/engine/MemoryLog" = true := by first | (simp [plainName, overriddenIn]; done) | decide +kernel
theorem d11_0 : decode prog_7_method_5_code 0 = .ok (.lload_n 1, 1) := by decide +kernel
theorem d11_1 : decode prog_7_method_5_code 1 = .ok (.aload_n 0, 1) := by decide +kernel
theorem d11_2 : decode prog_7_method_5_code 2 = .ok (.getfield 50, 3) := by decide +kernel
theorem d11_5 : decode prog_7_method_5_code 5 = .ok (.lcmp, 1) := by decide +kernel
theorem d11_6 : decode prog_7_method_5_code 6 = .ok (.ifCond .le 7, 3) := by decide +kernel
theorem d11_9 : decode prog_7_method_5_code 9 = .ok (.iconst 1, 1) := by decide +kernel
theorem d11_10 : decode prog_7_method_5_code 10 = .ok (.goto 4, 3) := by decide +kernel
theorem d11_13 : decode prog_7_method_5_code 13 = .ok (.iconst 0, 1) := by decide +kernel
theorem d11_14 : decode prog_7_method_5_code 14 = .ok (.ireturn, 1) := by decide +kernel
theorem pn_11 : plainName "com/example/redelivery/redelivery/engine/MemoryLog" = true := by first | (simp [plainName, overriddenIn]; done) | decide +kernel
theorem d12_0 : decode prog_7_method_3_code 0 = .ok (.aload_n 3, 1) := by decide +kernel
theorem pd_6 : parseMethodDescriptor "()Ljava/util/Iterator;" = some ⟨[], some (.object "java/util/Iterator")⟩ := by decide +kernel
theorem d12_1 : decode prog_7_method_3_code 1 = .ok (.invokeinterface 28 1, 5) := by decide +kernel
theorem d12_6 : decode prog_7_method_3_code 6 = .ok (.astore 4, 2) := by decide +kernel
theorem d12_8 : decode prog_7_method_3_code 8 = .ok (.aload 4, 2) := by decide +kernel
theorem pd_7 : parseMethodDescriptor "()Z" = some ⟨[], some .boolean⟩ := by decide +kernel
theorem d12_10 : decode prog_7_method_3_code 10 = .ok (.invokeinterface 32 1, 5) := by decide +kernel
theorem d12_15 : decode prog_7_method_3_code 15 = .ok (.ifCond .eq 43, 3) := by decide +kernel
theorem d12_58 : decode prog_7_method_3_code 58 = .ok (.return_, 1) := by decide +kernel
theorem pn_12 : plainName "com/example/redelivery/redelivery/engine/MemoryLog" = true := by first | (simp [plainName, overriddenIn]; done) | decide +kernel
theorem d12_18 : decode prog_7_method_3_code 18 = .ok (.aload 4, 2) := by decide +kernel
theorem pd_8 : parseMethodDescriptor "()Ljava/lang/Object;" = some ⟨[], some (.object "java/lang/Object")⟩ := by decide +kernel
theorem d12_20 : decode prog_7_method_3_code 20 = .ok (.invokeinterface 38 1, 5) := by decide +kernel
theorem d12_25 : decode prog_7_method_3_code 25 = .ok (.checkcast 26, 3) := by decide +kernel
theorem d12_28 : decode prog_7_method_3_code 28 = .ok (.astore 5, 2) := by decide +kernel
theorem d12_30 : decode prog_7_method_3_code 30 = .ok (.aload_n 0, 1) := by decide +kernel
theorem d12_31 : decode prog_7_method_3_code 31 = .ok (.getfield 10, 3) := by decide +kernel
theorem d12_34 : decode prog_7_method_3_code 34 = .ok (.aload 5, 2) := by decide +kernel
theorem pd_9 : parseMethodDescriptor "(Ljava/lang/Object;)Z" = some ⟨[(.object "java/lang/Object")], some .boolean⟩ := by decide +kernel
theorem d12_36 : decode prog_7_method_3_code 36 = .ok (.invokeinterface 42 2, 5) := by decide +kernel
theorem d12_41 : decode prog_7_method_3_code 41 = .ok (.pop, 1) := by decide +kernel
theorem d12_42 : decode prog_7_method_3_code 42 = .ok (.aload_n 0, 1) := by decide +kernel
theorem d12_43 : decode prog_7_method_3_code 43 = .ok (.dup, 1) := by decide +kernel
theorem d12_44 : decode prog_7_method_3_code 44 = .ok (.getfield 46, 3) := by decide +kernel
theorem d12_47 : decode prog_7_method_3_code 47 = .ok (.aload 5, 2) := by decide +kernel
theorem d12_49 : decode prog_7_method_3_code 49 = .ok (.arraylength, 1) := by decide +kernel
theorem d12_50 : decode prog_7_method_3_code 50 = .ok (.i2l, 1) := by decide +kernel
theorem d12_51 : decode prog_7_method_3_code 51 = .ok (.ladd, 1) := by decide +kernel
theorem d12_52 : decode prog_7_method_3_code 52 = .ok (.putfield 46, 3) := by decide +kernel
theorem d12_55 : decode prog_7_method_3_code 55 = .ok (.goto (-47), 3) := by decide +kernel
theorem d22_0 : decode jdk_41_method_11_code 0 = .ok (.iload_n 0, 1) := by decide +kernel
theorem d22_1 : decode jdk_41_method_11_code 1 = .ok (.ifCond .lt 8, 3) := by decide +kernel
theorem d22_4 : decode jdk_41_method_11_code 4 = .ok (.iload_n 0, 1) := by decide +kernel
theorem d22_5 : decode jdk_41_method_11_code 5 = .ok (.iload_n 1, 1) := by decide +kernel
theorem d22_6 : decode jdk_41_method_11_code 6 = .ok (.if_icmp .lt 10, 3) := by decide +kernel
theorem d22_16 : decode jdk_41_method_11_code 16 = .ok (.iload_n 0, 1) := by decide +kernel
theorem d22_17 : decode jdk_41_method_11_code 17 = .ok (.ireturn, 1) := by decide +kernel
theorem pn_22 : plainName "jdk/internal/util/Preconditions" = true := by first | (simp [plainName, overriddenIn]; done) | decide +kernel
theorem d21_0 : decode jdk_31_method_17_code 0 = .ok (.iload_n 0, 1) := by decide +kernel
theorem d21_1 : decode jdk_31_method_17_code 1 = .ok (.iload_n 1, 1) := by decide +kernel
theorem d21_2 : decode jdk_31_method_17_code 2 = .ok (.aconst_null, 1) := by decide +kernel
theorem pd_10 : parseMethodDescriptor "(IILjava/util/function/BiFunction;)I" = some ⟨[.int, .int, (.object "java/util/function/BiFunction")], some .int⟩ := by decide +kernel
theorem d21_3 : decode jdk_31_method_17_code 3 = .ok (.invokestatic 105, 3) := by decide +kernel
theorem d21_6 : decode jdk_31_method_17_code 6 = .ok (.ireturn, 1) := by decide +kernel
theorem pn_21 : plainName "java/util/Objects" = true := by first | (simp [plainName, overriddenIn]; done) | decide +kernel
theorem d23_0 : decode jdk_38_method_18_code 0 = .ok (.aload_n 0, 1) := by decide +kernel
theorem d23_1 : decode jdk_38_method_18_code 1 = .ok (.getfield 9, 3) := by decide +kernel
theorem d23_4 : decode jdk_38_method_18_code 4 = .ok (.iload_n 1, 1) := by decide +kernel
theorem d23_5 : decode jdk_38_method_18_code 5 = .ok (.aaload, 1) := by decide +kernel
theorem d23_6 : decode jdk_38_method_18_code 6 = .ok (.areturn, 1) := by decide +kernel
theorem pn_23 : plainName "java/util/ArrayList" = true := by first | (simp [plainName, overriddenIn]; done) | decide +kernel
theorem d20_0 : decode jdk_38_method_23_code 0 = .ok (.iload_n 1, 1) := by decide +kernel
theorem d20_1 : decode jdk_38_method_23_code 1 = .ok (.aload_n 0, 1) := by decide +kernel
theorem d20_2 : decode jdk_38_method_23_code 2 = .ok (.getfield 48, 3) := by decide +kernel
theorem d20_5 : decode jdk_38_method_23_code 5 = .ok (.invokestatic 118, 3) := by decide +kernel
theorem d20_8 : decode jdk_38_method_23_code 8 = .ok (.pop, 1) := by decide +kernel
theorem d20_9 : decode jdk_38_method_23_code 9 = .ok (.aload_n 0, 1) := by decide +kernel
theorem d20_10 : decode jdk_38_method_23_code 10 = .ok (.iload_n 1, 1) := by decide +kernel
theorem pd_11 : parseMethodDescriptor "(I)Ljava/lang/Object;" = some ⟨[.int], some (.object "java/lang/Object")⟩ := by decide +kernel
theorem d20_11 : decode jdk_38_method_23_code 11 = .ok (.invokevirtual 123, 3) := by decide +kernel
theorem d20_14 : decode jdk_38_method_23_code 14 = .ok (.astore_n 3, 1) := by decide +kernel
theorem d20_15 : decode jdk_38_method_23_code 15 = .ok (.aload_n 0, 1) := by decide +kernel
theorem d20_16 : decode jdk_38_method_23_code 16 = .ok (.getfield 9, 3) := by decide +kernel
theorem d20_19 : decode jdk_38_method_23_code 19 = .ok (.iload_n 1, 1) := by decide +kernel
theorem d20_20 : decode jdk_38_method_23_code 20 = .ok (.aload_n 2, 1) := by decide +kernel
theorem d20_21 : decode jdk_38_method_23_code 21 = .ok (.aastore, 1) := by decide +kernel
theorem d20_22 : decode jdk_38_method_23_code 22 = .ok (.aload_n 3, 1) := by decide +kernel
theorem d20_23 : decode jdk_38_method_23_code 23 = .ok (.areturn, 1) := by decide +kernel
theorem pn_20 : plainName "java/util/ArrayList" = true := by first | (simp [plainName, overriddenIn]; done) | decide +kernel
theorem d24_0 : decode jdk_38_method_8_code 0 = .ok (.aload_n 0, 1) := by decide +kernel
theorem d24_1 : decode jdk_38_method_8_code 1 = .ok (.getfield 48, 3) := by decide +kernel
theorem d24_4 : decode jdk_38_method_8_code 4 = .ok (.ireturn, 1) := by decide +kernel
theorem pn_24 : plainName "java/util/ArrayList" = true := by first | (simp [plainName, overriddenIn]; done) | decide +kernel
theorem d19_0 : decode prog_7_method_8_code 0 = .ok (.lload_n 1, 1) := by decide +kernel
theorem d19_1 : decode prog_7_method_8_code 1 = .ok (.aload_n 0, 1) := by decide +kernel
theorem d19_2 : decode prog_7_method_8_code 2 = .ok (.getfield 68, 3) := by decide +kernel
theorem d19_5 : decode prog_7_method_8_code 5 = .ok (.lsub, 1) := by decide +kernel
theorem d19_6 : decode prog_7_method_8_code 6 = .ok (.l2i, 1) := by decide +kernel
theorem d19_7 : decode prog_7_method_8_code 7 = .ok (.ireturn, 1) := by decide +kernel
theorem pn_19 : plainName "com/example/redelivery/redelivery/engine/MemoryLog" = true := by first | (simp [plainName, overriddenIn]; done) | decide +kernel
theorem d26_0 : decode jdk_39_method_15_code 0 = .ok (.iload_n 0, 1) := by decide +kernel
theorem d26_1 : decode jdk_39_method_15_code 1 = .ok (.ifCond .ge 30, 3) := by decide +kernel
theorem d26_31 : decode jdk_39_method_15_code 31 = .ok (.iload_n 1, 1) := by decide +kernel
theorem d26_32 : decode jdk_39_method_15_code 32 = .ok (.iload_n 2, 1) := by decide +kernel
theorem d26_33 : decode jdk_39_method_15_code 33 = .ok (.if_icmp .le 30, 3) := by decide +kernel
theorem d26_63 : decode jdk_39_method_15_code 63 = .ok (.iload_n 0, 1) := by decide +kernel
theorem d26_64 : decode jdk_39_method_15_code 64 = .ok (.iload_n 1, 1) := by decide +kernel
theorem d26_65 : decode jdk_39_method_15_code 65 = .ok (.if_icmp .le 44, 3) := by decide +kernel
theorem d26_109 : decode jdk_39_method_15_code 109 = .ok (.return_, 1) := by decide +kernel
theorem pn_26 : plainName "java/util/AbstractList" = true := by first | (simp [plainName, overriddenIn]; done) | decide +kernel
theorem d27_0 : decode jdk_130_method_1_code 0 = .ok (.aload_n 0, 1) := by decide +kernel
theorem d27_1 : decode jdk_130_method_1_code 1 = .ok (.invokespecial 1, 3) := by decide +kernel
theorem d27_4 : decode jdk_130_method_1_code 4 = .ok (.aload_n 0, 1) := by decide +kernel
theorem d27_5 : decode jdk_130_method_1_code 5 = .ok (.aload_n 1, 1) := by decide +kernel
theorem d27_6 : decode jdk_130_method_1_code 6 = .ok (.putfield 7, 3) := by decide +kernel
theorem d27_9 : decode jdk_130_method_1_code 9 = .ok (.aload_n 0, 1) := by decide +kernel
theorem d27_10 : decode jdk_130_method_1_code 10 = .ok (.aconst_null, 1) := by decide +kernel
theorem d27_11 : decode jdk_130_method_1_code 11 = .ok (.putfield 13, 3) := by decide +kernel
theorem d27_14 : decode jdk_130_method_1_code 14 = .ok (.aload_n 0, 1) := by decide +kernel
theorem d27_15 : decode jdk_130_method_1_code 15 = .ok (.iload_n 2, 1) := by decide +kernel
theorem d27_16 : decode jdk_130_method_1_code 16 = .ok (.putfield 17, 3) := by decide +kernel
theorem d27_19 : decode jdk_130_method_1_code 19 = .ok (.aload_n 0, 1) := by decide +kernel
theorem d27_20 : decode jdk_130_method_1_code 20 = .ok (.iload_n 3, 1) := by decide +kernel
theorem d27_21 : decode jdk_130_method_1_code 21 = .ok (.iload_n 2, 1) := by decide +kernel
theorem d27_22 : decode jdk_130_method_1_code 22 = .ok (.isub, 1) := by decide +kernel
theorem d27_23 : decode jdk_130_method_1_code 23 = .ok (.putfield 21, 3) := by decide +kernel
theorem d27_26 : decode jdk_130_method_1_code 26 = .ok (.aload_n 0, 1) := by decide +kernel
theorem d27_27 : decode jdk_130_method_1_code 27 = .ok (.aload_n 1, 1) := by decide +kernel
theorem d27_28 : decode jdk_130_method_1_code 28 = .ok (.getfield 24, 3) := by decide +kernel
theorem d27_31 : decode jdk_130_method_1_code 31 = .ok (.putfield 29, 3) := by decide +kernel
theorem d27_34 : decode jdk_130_method_1_code 34 = .ok (.return_, 1) := by decide +kernel
theorem pn_27 : plainName "java/util/ArrayList$SubList" = true := by first | (simp [plainName, overriddenIn]; done) | decide +kernel
theorem d25_0 : decode jdk_38_method_56_code 0 = .ok (.iload_n 1, 1) := by decide +kernel
theorem d25_1 : decode jdk_38_method_56_code 1 = .ok (.iload_n 2, 1) := by decide +kernel
theorem d25_2 : decode jdk_38_method_56_code 2 = .ok (.aload_n 0, 1) := by decide +kernel
theorem d25_3 : decode jdk_38_method_56_code 3 = .ok (.getfield 48, 3) := by decide +kernel
theorem pd_12 : parseMethodDescriptor "(III)V" = some ⟨[.int, .int, .int], none⟩ := by decide +kernel
theorem d25_6 : decode jdk_38_method_56_code 6 = .ok (.invokestatic 272, 3) := by decide +kernel
theorem d25_9 : decode jdk_38_method_56_code 9 = .ok (.new 276, 3) := by decide +kernel
theorem d25_12 : decode jdk_38_method_56_code 12 = .ok (.dup, 1) := by decide +kernel
theorem d25_13 : decode jdk_38_method_56_code 13 = .ok (.aload_n 0, 1) := by decide +kernel
theorem d25_14 : decode jdk_38_method_56_code 14 = .ok (.iload_n 1, 1) := by decide +kernel
theorem d25_15 : decode jdk_38_method_56_code 15 = .ok (.iload_n 2, 1) := by decide +kernel
theorem pd_13 : parseMethodDescriptor "(Ljava/util/ArrayList;II)V" = some ⟨[(.object "java/util/ArrayList"), .int, .int], none⟩ := by decide +kernel
theorem d25_16 : decode jdk_38_method_56_code 16 = .ok (.invokespecial 278, 3) := by decide +kernel
theorem d25_19 : decode jdk_38_method_56_code 19 = .ok (.areturn, 1) := by decide +kernel
theorem pn_25 : plainName "java/util/ArrayList" = true := by first | (simp [plainName, overriddenIn]; done) | decide +kernel
theorem d30_0 : decode jdk_130_method_28_code 0 = .ok (.aload_n 0, 1) := by decide +kernel
theorem d30_1 : decode jdk_130_method_28_code 1 = .ok (.getfield 7, 3) := by decide +kernel
theorem d30_4 : decode jdk_130_method_28_code 4 = .ok (.getfield 24, 3) := by decide +kernel
theorem d30_7 : decode jdk_130_method_28_code 7 = .ok (.aload_n 0, 1) := by decide +kernel
theorem d30_8 : decode jdk_130_method_28_code 8 = .ok (.getfield 29, 3) := by decide +kernel
theorem d30_11 : decode jdk_130_method_28_code 11 = .ok (.if_icmp .eq 11, 3) := by decide +kernel
theorem d30_22 : decode jdk_130_method_28_code 22 = .ok (.return_, 1) := by decide +kernel
theorem pn_30 : plainName "java/util/ArrayList$SubList" = true := by first | (simp [plainName, overriddenIn]; done) | decide +kernel
theorem d29_0 : decode jdk_130_method_5_code 0 = .ok (.aload_n 0, 1) := by decide +kernel
theorem d29_1 : decode jdk_130_method_5_code 1 = .ok (.invokevirtual 36, 3) := by decide +kernel
theorem d29_4 : decode jdk_130_method_5_code 4 = .ok (.aload_n 0, 1) := by decide +kernel
theorem d29_5 : decode jdk_130_method_5_code 5 = .ok (.getfield 21, 3) := by decide +kernel
theorem d29_8 : decode jdk_130_method_5_code 8 = .ok (.ireturn, 1) := by decide +kernel
theorem pn_29 : plainName "java/util/ArrayList$SubList" = true := by first | (simp [plainName, overriddenIn]; done) | decide +kernel
theorem d34_0 : decode jdk_130_method_29_code 0 = .ok (.aload_n 0, 1) := by decide +kernel
theorem d34_1 : decode jdk_130_method_29_code 1 = .ok (.astore_n 2, 1) := by decide +kernel
theorem d34_2 : decode jdk_130_method_29_code 2 = .ok (.aload_n 2, 1) := by decide +kernel
theorem d34_3 : decode jdk_130_method_29_code 3 = .ok (.dup, 1) := by decide +kernel
theorem d34_4 : decode jdk_130_method_29_code 4 = .ok (.getfield 21, 3) := by decide +kernel
theorem d34_7 : decode jdk_130_method_29_code 7 = .ok (.iload_n 1, 1) := by decide +kernel
theorem d34_8 : decode jdk_130_method_29_code 8 = .ok (.iadd, 1) := by decide +kernel
theorem d34_9 : decode jdk_130_method_29_code 9 = .ok (.putfield 21, 3) := by decide +kernel
theorem d34_12 : decode jdk_130_method_29_code 12 = .ok (.aload_n 2, 1) := by decide +kernel
theorem d34_13 : decode jdk_130_method_29_code 13 = .ok (.aload_n 0, 1) := by decide +kernel
theorem d34_14 : decode jdk_130_method_29_code 14 = .ok (.getfield 7, 3) := by decide +kernel
theorem d34_17 : decode jdk_130_method_29_code 17 = .ok (.getfield 24, 3) := by decide +kernel
theorem d34_20 : decode jdk_130_method_29_code 20 = .ok (.putfield 29, 3) := by decide +kernel
theorem d34_23 : decode jdk_130_method_29_code 23 = .ok (.aload_n 2, 1) := by decide +kernel
theorem d34_24 : decode jdk_130_method_29_code 24 = .ok (.getfield 13, 3) := by decide +kernel
theorem d34_27 : decode jdk_130_method_29_code 27 = .ok (.astore_n 2, 1) := by decide +kernel
theorem d34_28 : decode jdk_130_method_29_code 28 = .ok (.aload_n 2, 1) := by decide +kernel
theorem d34_29 : decode jdk_130_method_29_code 29 = .ok (.ifnonnull (-27), 3) := by decide +kernel
theorem d34_32 : decode jdk_130_method_29_code 32 = .ok (.return_, 1) := by decide +kernel
theorem pn_34 : plainName "java/util/ArrayList$SubList" = true := by first | (simp [plainName, overriddenIn]; done) | decide +kernel
theorem d33_0 : decode jdk_38_method_44_code 0 = .ok (.aload_n 1, 1) := by decide +kernel
theorem d33_1 : decode jdk_38_method_44_code 1 = .ok (.iload_n 3, 1) := by decide +kernel
theorem d33_2 : decode jdk_38_method_44_code 2 = .ok (.aload_n 1, 1) := by decide +kernel
theorem d33_3 : decode jdk_38_method_44_code 3 = .ok (.iload_n 2, 1) := by decide +kernel
theorem d33_4 : decode jdk_38_method_44_code 4 = .ok (.aload_n 0, 1) := by decide +kernel
theorem d33_5 : decode jdk_38_method_44_code 5 = .ok (.getfield 48, 3) := by decide +kernel
theorem d33_8 : decode jdk_38_method_44_code 8 = .ok (.iload_n 3, 1) := by decide +kernel
theorem d33_9 : decode jdk_38_method_44_code 9 = .ok (.isub, 1) := by decide +kernel
theorem d33_10 : decode jdk_38_method_44_code 10 = .ok (.invokestatic 112, 3) := by decide +kernel
theorem d33_13 : decode jdk_38_method_44_code 13 = .ok (.aload_n 0, 1) := by decide +kernel
theorem d33_14 : decode jdk_38_method_44_code 14 = .ok (.getfield 48, 3) := by decide +kernel
theorem d33_17 : decode jdk_38_method_44_code 17 = .ok (.istore 4, 2) := by decide +kernel
theorem d33_19 : decode jdk_38_method_44_code 19 = .ok (.aload_n 0, 1) := by decide +kernel
theorem d33_20 : decode jdk_38_method_44_code 20 = .ok (.dup, 1) := by decide +kernel
theorem d33_21 : decode jdk_38_method_44_code 21 = .ok (.getfield 48, 3) := by decide +kernel
theorem d33_24 : decode jdk_38_method_44_code 24 = .ok (.iload_n 3, 1) := by decide +kernel
theorem d33_25 : decode jdk_38_method_44_code 25 = .ok (.iload_n 2, 1) := by decide +kernel
theorem d33_26 : decode jdk_38_method_44_code 26 = .ok (.isub, 1) := by decide +kernel
theorem d33_27 : decode jdk_38_method_44_code 27 = .ok (.isub, 1) := by decide +kernel
theorem d33_28 : decode jdk_38_method_44_code 28 = .ok (.dup_x1, 1) := by decide +kernel
theorem d33_29 : decode jdk_38_method_44_code 29 = .ok (.putfield 48, 3) := by decide +kernel
theorem d33_32 : decode jdk_38_method_44_code 32 = .ok (.istore 5, 2) := by decide +kernel
theorem d33_34 : decode jdk_38_method_44_code 34 = .ok (.iload 5, 2) := by decide +kernel
theorem d33_36 : decode jdk_38_method_44_code 36 = .ok (.iload 4, 2) := by decide +kernel
theorem d33_38 : decode jdk_38_method_44_code 38 = .ok (.if_icmp .ge 14, 3) := by decide +kernel
theorem d33_52 : decode jdk_38_method_44_code 52 = .ok (.return_, 1) := by decide +kernel
theorem pn_33 : plainName "java/util/ArrayList" = true := by first | (simp [plainName, overriddenIn]; done) | decide +kernel
theorem d32_0 : decode jdk_38_method_43_code 0 = .ok (.iload_n 1, 1) := by decide +kernel
theorem d32_1 : decode jdk_38_method_43_code 1 = .ok (.iload_n 2, 1) := by decide +kernel
theorem d32_2 : decode jdk_38_method_43_code 2 = .ok (.if_icmp .le 16, 3) := by decide +kernel
theorem d32_18 : decode jdk_38_method_43_code 18 = .ok (.aload_n 0, 1) := by decide +kernel
theorem d32_19 : decode jdk_38_method_43_code 19 = .ok (.dup, 1) := by decide +kernel
theorem d32_20 : decode jdk_38_method_43_code 20 = .ok (.getfield 63, 3) := by decide +kernel
theorem d32_23 : decode jdk_38_method_43_code 23 = .ok (.iconst 1, 1) := by decide +kernel
theorem d32_24 : decode jdk_38_method_43_code 24 = .ok (.iadd, 1) := by decide +kernel
theorem d32_25 : decode jdk_38_method_43_code 25 = .ok (.putfield 63, 3) := by decide +kernel
theorem d32_28 : decode jdk_38_method_43_code 28 = .ok (.aload_n 0, 1) := by decide +kernel
theorem d32_29 : decode jdk_38_method_43_code 29 = .ok (.aload_n 0, 1) := by decide +kernel
theorem d32_30 : decode jdk_38_method_43_code 30 = .ok (.getfield 9, 3) := by decide +kernel
theorem d32_33 : decode jdk_38_method_43_code 33 = .ok (.iload_n 1, 1) := by decide +kernel
theorem d32_34 : decode jdk_38_method_43_code 34 = .ok (.iload_n 2, 1) := by decide +kernel
theorem pd_14 : parseMethodDescriptor "([Ljava/lang/Object;II)V" = some ⟨[(.array (.object "java/lang/Object")), .int, .int], none⟩ := by decide +kernel
theorem d32_35 : decode jdk_38_method_43_code 35 = .ok (.invokevirtual 194, 3) := by decide +kernel
theorem d32_38 : decode jdk_38_method_43_code 38 = .ok (.return_, 1) := by decide +kernel
theorem pn_32 : plainName "java/util/ArrayList" = true := by first | (simp [plainName, overriddenIn]; done) | decide +kernel
theorem d31_0 : decode jdk_130_method_8_code 0 = .ok (.aload_n 0, 1) := by decide +kernel
theorem d31_1 : decode jdk_130_method_8_code 1 = .ok (.invokevirtual 36, 3) := by decide +kernel
theorem d31_4 : decode jdk_130_method_8_code 4 = .ok (.aload_n 0, 1) := by decide +kernel
theorem d31_5 : decode jdk_130_method_8_code 5 = .ok (.getfield 7, 3) := by decide +kernel
theorem d31_8 : decode jdk_130_method_8_code 8 = .ok (.aload_n 0, 1) := by decide +kernel
theorem d31_9 : decode jdk_130_method_8_code 9 = .ok (.getfield 17, 3) := by decide +kernel
theorem d31_12 : decode jdk_130_method_8_code 12 = .ok (.iload_n 1, 1) := by decide +kernel
theorem d31_13 : decode jdk_130_method_8_code 13 = .ok (.iadd, 1) := by decide +kernel
theorem d31_14 : decode jdk_130_method_8_code 14 = .ok (.aload_n 0, 1) := by decide +kernel
theorem d31_15 : decode jdk_130_method_8_code 15 = .ok (.getfield 17, 3) := by decide +kernel
theorem d31_18 : decode jdk_130_method_8_code 18 = .ok (.iload_n 2, 1) := by decide +kernel
theorem d31_19 : decode jdk_130_method_8_code 19 = .ok (.iadd, 1) := by decide +kernel
theorem pd_15 : parseMethodDescriptor "(II)V" = some ⟨[.int, .int], none⟩ := by decide +kernel
theorem d31_20 : decode jdk_130_method_8_code 20 = .ok (.invokevirtual 60, 3) := by decide +kernel
theorem d31_23 : decode jdk_130_method_8_code 23 = .ok (.aload_n 0, 1) := by decide +kernel
theorem d31_24 : decode jdk_130_method_8_code 24 = .ok (.iload_n 1, 1) := by decide +kernel
theorem d31_25 : decode jdk_130_method_8_code 25 = .ok (.iload_n 2, 1) := by decide +kernel
theorem d31_26 : decode jdk_130_method_8_code 26 = .ok (.isub, 1) := by decide +kernel
theorem pd_16 : parseMethodDescriptor "(I)V" = some ⟨[.int], none⟩ := by decide +kernel
theorem d31_27 : decode jdk_130_method_8_code 27 = .ok (.invokevirtual 54, 3) := by decide +kernel
theorem d31_30 : decode jdk_130_method_8_code 30 = .ok (.return_, 1) := by decide +kernel
theorem pn_31 : plainName "java/util/ArrayList$SubList" = true := by first | (simp [plainName, overriddenIn]; done) | decide +kernel
theorem d28_0 : decode jdk_39_method_9_code 0 = .ok (.aload_n 0, 1) := by decide +kernel
theorem d28_1 : decode jdk_39_method_9_code 1 = .ok (.iconst 0, 1) := by decide +kernel
theorem d28_2 : decode jdk_39_method_9_code 2 = .ok (.aload_n 0, 1) := by decide +kernel
theorem pd_17 : parseMethodDescriptor "()I" = some ⟨[], some .int⟩ := by decide +kernel
theorem d28_3 : decode jdk_39_method_9_code 3 = .ok (.invokevirtual 13, 3) := by decide +kernel
theorem d28_6 : decode jdk_39_method_9_code 6 = .ok (.invokevirtual 59, 3) := by decide +kernel
theorem d28_9 : decode jdk_39_method_9_code 9 = .ok (.return_, 1) := by decide +kernel
theorem pn_28 : plainName "java/util/AbstractList" = true := by first | (simp [plainName, overriddenIn]; done) | decide +kernel
theorem d33_41 : decode jdk_38_method_44_code 41 = .ok (.aload_n 1, 1) := by decide +kernel
theorem d33_42 : decode jdk_38_method_44_code 42 = .ok (.iload 5, 2) := by decide +kernel
theorem d33_44 : decode jdk_38_method_44_code 44 = .ok (.aconst_null, 1) := by decide +kernel
theorem d33_45 : decode jdk_38_method_44_code 45 = .ok (.aastore, 1) := by decide +kernel
theorem d33_46 : decode jdk_38_method_44_code 46 = .ok (.iinc 5 1, 3) := by decide +kernel
theorem d33_49 : decode jdk_38_method_44_code 49 = .ok (.goto (-15), 3) := by decide +kernel
theorem d18_0 : decode prog_7_method_4_code 0 = .ok (.aload_n 0, 1) := by decide +kernel
theorem d18_1 : decode prog_7_method_4_code 1 = .ok (.getfield 50, 3) := by decide +kernel
theorem d18_4 : decode prog_7_method_4_code 4 = .ok (.lstore_n 3, 1) := by decide +kernel
theorem d18_5 : decode prog_7_method_4_code 5 = .ok (.lload_n 3, 1) := by decide +kernel
theorem d18_6 : decode prog_7_method_4_code 6 = .ok (.lload_n 1, 1) := by decide +kernel
theorem d18_7 : decode prog_7_method_4_code 7 = .ok (.lcmp, 1) := by decide +kernel
theorem d18_8 : decode prog_7_method_4_code 8 = .ok (.ifCond .ge 39, 3) := by decide +kernel
theorem d18_47 : decode prog_7_method_4_code 47 = .ok (.aload_n 0, 1) := by decide +kernel
theorem d18_48 : decode prog_7_method_4_code 48 = .ok (.lload_n 1, 1) := by decide +kernel
theorem d18_49 : decode prog_7_method_4_code 49 = .ok (.putfield 50, 3) := by decide +kernel
theorem d18_52 : decode prog_7_method_4_code 52 = .ok (.aload_n 0, 1) := by decide +kernel
theorem d18_53 : decode prog_7_method_4_code 53 = .ok (.aload_n 0, 1) := by decide +kernel
theorem d18_54 : decode prog_7_method_4_code 54 = .ok (.getfield 50, 3) := by decide +kernel
theorem pd_18 : parseMethodDescriptor "(J)I" = some ⟨[.long], some .int⟩ := by decide +kernel
theorem d18_57 : decode prog_7_method_4_code 57 = .ok (.invokevirtual 16, 3) := by decide +kernel
theorem d18_60 : decode prog_7_method_4_code 60 = .ok (.istore_n 3, 1) := by decide +kernel
theorem d18_61 : decode prog_7_method_4_code 61 = .ok (.iload_n 3, 1) := by decide +kernel
theorem d18_62 : decode prog_7_method_4_code 62 = .ok (.aload_n 0, 1) := by decide +kernel
theorem d18_63 : decode prog_7_method_4_code 63 = .ok (.getfield 10, 3) := by decide +kernel
theorem d18_66 : decode prog_7_method_4_code 66 = .ok (.invokeinterface 57 1, 5) := by decide +kernel
theorem d18_71 : decode prog_7_method_4_code 71 = .ok (.iconst 2, 1) := by decide +kernel
theorem d18_72 : decode prog_7_method_4_code 72 = .ok (.idiv, 1) := by decide +kernel
theorem d18_73 : decode prog_7_method_4_code 73 = .ok (.if_icmp .lt 27, 3) := by decide +kernel
theorem d18_76 : decode prog_7_method_4_code 76 = .ok (.aload_n 0, 1) := by decide +kernel
theorem d18_77 : decode prog_7_method_4_code 77 = .ok (.getfield 10, 3) := by decide +kernel
theorem d18_80 : decode prog_7_method_4_code 80 = .ok (.iconst 0, 1) := by decide +kernel
theorem d18_81 : decode prog_7_method_4_code 81 = .ok (.iload_n 3, 1) := by decide +kernel
theorem pd_19 : parseMethodDescriptor "(II)Ljava/util/List;" = some ⟨[.int, .int], some (.object "java/util/List")⟩ := by decide +kernel
theorem d18_82 : decode prog_7_method_4_code 82 = .ok (.invokeinterface 61 3, 5) := by decide +kernel
theorem d18_87 : decode prog_7_method_4_code 87 = .ok (.invokeinterface 65 1, 5) := by decide +kernel
theorem d18_92 : decode prog_7_method_4_code 92 = .ok (.aload_n 0, 1) := by decide +kernel
theorem d18_93 : decode prog_7_method_4_code 93 = .ok (.aload_n 0, 1) := by decide +kernel
theorem d18_94 : decode prog_7_method_4_code 94 = .ok (.getfield 50, 3) := by decide +kernel
theorem d18_97 : decode prog_7_method_4_code 97 = .ok (.putfield 68, 3) := by decide +kernel
theorem d18_100 : decode prog_7_method_4_code 100 = .ok (.return_, 1) := by decide +kernel
theorem pn_18 : plainName "com/example/redelivery/redelivery/engine/MemoryLog" = true := by first | (simp [plainName, overriddenIn]; done) | decide +kernel
theorem d18_11 : decode prog_7_method_4_code 11 = .ok (.aload_n 0, 1) := by decide +kernel
theorem d18_12 : decode prog_7_method_4_code 12 = .ok (.dup, 1) := by decide +kernel
theorem d18_13 : decode prog_7_method_4_code 13 = .ok (.getfield 46, 3) := by decide +kernel
theorem d18_16 : decode prog_7_method_4_code 16 = .ok (.aload_n 0, 1) := by decide +kernel
theorem d18_17 : decode prog_7_method_4_code 17 = .ok (.getfield 10, 3) := by decide +kernel
theorem d18_20 : decode prog_7_method_4_code 20 = .ok (.aload_n 0, 1) := by decide +kernel
theorem d18_21 : decode prog_7_method_4_code 21 = .ok (.lload_n 3, 1) := by decide +kernel
theorem d18_22 : decode prog_7_method_4_code 22 = .ok (.invokevirtual 16, 3) := by decide +kernel
theorem d18_25 : decode prog_7_method_4_code 25 = .ok (.aconst_null, 1) := by decide +kernel
theorem pd_20 : parseMethodDescriptor "(ILjava/lang/Object;)Ljava/lang/Object;" = some ⟨[.int, (.object "java/lang/Object")], some (.object "java/lang/Object")⟩ := by decide +kernel
theorem d18_26 : decode prog_7_method_4_code 26 = .ok (.invokeinterface 53 3, 5) := by decide +kernel
theorem d18_31 : decode prog_7_method_4_code 31 = .ok (.checkcast 26, 3) := by decide +kernel
theorem d18_34 : decode prog_7_method_4_code 34 = .ok (.arraylength, 1) := by decide +kernel
theorem d18_35 : decode prog_7_method_4_code 35 = .ok (.i2l, 1) := by decide +kernel
theorem d18_36 : decode prog_7_method_4_code 36 = .ok (.lsub, 1) := by decide +kernel
theorem d18_37 : decode prog_7_method_4_code 37 = .ok (.putfield 46, 3) := by decide +kernel
theorem d18_40 : decode prog_7_method_4_code 40 = .ok (.lload_n 3, 1) := by decide +kernel
theorem d18_41 : decode prog_7_method_4_code 41 = .ok (.lconst 1, 1) := by decide +kernel
theorem d18_42 : decode prog_7_method_4_code 42 = .ok (.ladd, 1) := by decide +kernel
theorem d18_43 : decode prog_7_method_4_code 43 = .ok (.lstore_n 3, 1) := by decide +kernel
theorem d18_44 : decode prog_7_method_4_code 44 = .ok (.goto (-39), 3) := by decide +kernel
theorem pd_21 : parseMethodDescriptor "(J)Z" = some ⟨[.long], some .boolean⟩ := by decide +kernel
theorem pd_22 : parseMethodDescriptor "(JLjava/util/List;)V" = some ⟨[.long, (.object "java/util/List")], none⟩ := by decide +kernel
theorem pd_23 : parseMethodDescriptor "(J)V" = some ⟨[.long], none⟩ := by decide +kernel
theorem pn_0 : plainName "com/example/redelivery/redelivery/engine/MemoryLogDeletesBeforePinLaw" = true := by first | (simp [plainName, overriddenIn]; done) | decide +kernel
section OwnArr
variable {p : Program} {l : Launch} {e : Env} {R : Room} {s : State} {m : MethodId} {args : Array Value} {below : List Frame} {meth : Method} {c : Code} {Z : State} {y : MethodName} {ret : Option FieldType} {code : ByteArray} {ml : Nat} {ws : List Addr} {T : State} {h : Heap} {cells slots : Nat} {C : Outcome → State → Prop} {a0 : Array Value}
theorem own_newarrayE (W : own_W p l e R s m args below meth c Z y ret code ml ws T h cells slots) {aty : ArrayType} {z : Int32} (N cap : Nat) (ad : String) {pc : Nat} (pc' : Nat) {L : Array Slot} {st : List Value} (hd : decode code pc = .ok (.newarray aty, 2)) (w : (Jvm.Cond.arrayClass (newarray.typeOf aty)).before a0 Z = true) (hz : z.toInt = (N : Int)) (hcap : N ≤ cap) (hb8 : cap * 8 ≤ 536870912) (hc : cells + 1 ≤ R.cells) (hl : slots + cap ≤ R.slots) (had : "[" ++ (newarray.typeOf aty).toString = ad) (hp : pc + 2 = pc') (k : ∀ T' h' a, own_W p l e R s m args below meth c Z y ret code ml ws T' h' (cells + 1) (slots + cap) → Ext h h' → a = h.size → s.heap.size ≤ a → own_A Z h' a (newarray.typeOf aty) N (fun _ => defaultValue (newarray.typeOf aty)) → Exa Z h' a ad → own_Go p e below C T' (mkF m pc' L (.ref a :: st))) : own_Go p e below C T (mkF m pc L (.int z :: st)) := by
  have hsz := own_le W
  obtain ⟨⟨hx, hby, hml, hown, hnm, hrt, hlk, hZ⟩, locs, X, eT, Nf⟩ := W
  subst hp
  have hcl := own_cl hz
  obtain ⟨T', h', cA, X', e', E', A', Y', st'⟩ := newPE X hx hZ w eT (g := mkF m pc L (.int z :: st)) rfl (hb hby hd) rfl (own_nn hz) (cap := cap) (by rw [hcl]; exact hcap) hb8 hc hl had
  refine own_st st' (k T' h' h.size ⟨⟨hx, hby, hml, hown, hnm, hrt, hlk, hZ⟩, locs, X', e', Nf⟩ E' rfl hsz ⟨_, A', by rw [sz_new, hcl], fun j hj => ?_⟩ Y')
  simp [newA, hcl, hj]
theorem own_checkcast (W : own_W p l e R s m args below meth c Z y ret code ml ws T h cells slots) {K0 : String} {i : Nat} {a : Addr} {pc : Nat} (pc' : Nat) {L : Array Slot} {st : List Value} (hd : decode code pc = .ok (.checkcast i, 3)) (w : (Jvm.Cond.classLink y.cls i K0).before a0 Z = true) (I : Ins Z h a K0 true) (hp : pc + 3 = pc') (k : ∀ T', own_W p l e R s m args below meth c Z y ret code ml ws T' h cells slots → own_Go p e below C T' (mkF m pc' L (.ref a :: st))) : own_Go p e below C T (mkF m pc L (.ref a :: st)) := by
  have hsz := own_le W
  obtain ⟨⟨hx, hby, hml, hown, hnm, hrt, hlk, hZ⟩, locs, X, eT, N⟩ := W
  subst hp
  obtain ⟨T', X', e', st'⟩ := castY X hx hZ hown w eT I (g := mkF m pc L (.ref a :: st)) rfl rfl (hb hby hd)
  exact own_st st' (k T' ⟨⟨hx, hby, hml, hown, hnm, hrt, hlk, hZ⟩, locs, X', e', N⟩)
theorem own_callP (W : own_W p l e R s m args below meth c Z y ret code ml ws T h cells slots) {C0 : String} {i : Nat} {yc yd : MethodName} {bytes : ByteArray} {maxL : Nat} {rt : Option FieldType} {rm : Room} {Q : Option Value → Heap → Prop} {ps : List FieldType} {rr : Option FieldType} {a : Addr} {wc' : List Addr} (A : List Value) (wt : Nat) {pc : Nat} (pc' : Nat) {L : Array Slot} {st : List Value} (hd : decode code pc = .ok (.invokevirtual i, 3)) (wl : (Jvm.Cond.methodLink y.cls i yc).before a0 Z = true) (ws' : (Jvm.Cond.instanceMethod yc).before a0 Z = true) (wp : (Jvm.Cond.privateMethod yc).before a0 Z = true) (wse : (Jvm.Cond.selects C0 yd yd).before a0 Z = true) (hcl : yd.cls = yc.cls) (wz : (Jvm.Cond.initialized yc.cls).before a0 Z = true) (wc : (Jvm.Cond.code yc bytes maxL rt).before a0 Z = true) (hy : yc.cls ≠ "java/lang/invoke/MethodHandle" ∧ yc.cls ≠ "java/lang/invoke/VarHandle") (E : Exa Z h a C0) (hM : own_M l Z [] yc bytes maxL rt rm wc' (.ref a :: A).toArray h Q) (hws : ∀ b ∈ wc', b ∈ ws ∨ s.heap.size ≤ b) (hL : L.size = ml) (hds : parseMethodDescriptor yc.desc = some ⟨ps, rr⟩) (hA : A.length = ps.length) (hwt : (st.map fun v => v.category).sum ≤ wt) (hf : rm.frames + 1 ≤ R.frames) (hlo : wt + (maxL + 11) + rm.locals ≤ R.locals) (hc : cells + rm.cells ≤ R.cells) (hs : slots + rm.slots ≤ R.slots) (hp : pc + 3 = pc') (k : ∀ T' h' v, own_W p l e R s m args below meth c Z y ret code ml ws T' h' (cells + rm.cells) (slots + rm.slots) → Keep h h' wc' → (rm.cells = 0 → wc' = [] → h' = h) → Q v h' → own_Go p e below C T' (mkF m pc' L (v.toList ++ st))) : own_Go p e below C T (mkF m pc L (A.reverse ++ .ref a :: st)) := by
  have hsz := own_le W
  obtain ⟨⟨hx, hby, hml, hown, hnm, hrt, hlk, hZ⟩, locs, X, eT, N⟩ := W
  subst hp
  obtain ⟨cell, hcell, hobj⟩ := E.cell
  have hcell' : T.heap[a]? = some cell := by rw [eT]; exact hcell
  have h1 : (Jvm.Cond.instanceMethod yc).before args s = true := mvT hZ ws'
  have h2 : (Jvm.Cond.code yc bytes maxL rt).before args s = true := mvT hZ wc
  have h3 : (Jvm.Cond.selects C0 yd yd).before args s = true := mvT hZ wse
  have hpriv := Cond.privateMethod_at (mvP hZ wp (args := #[]))
  obtain ⟨mk, methM, hnamed, hmethM, hstM, habM⟩ := Cond.instanceMethod_spec h1
  obtain ⟨methM', cM, hmethM', -, -, -, -, -, -, hsigM⟩ := Cond.code_spec hnamed h2
  cases hmethM.symm.trans hmethM'
  obtain ⟨c2, r2, m2, -, -, q3, -, kP, hkP, hkPi⟩ := Cond.selects_spec h3
  have hcc : m2.cls = mk.cls := by
    have z1 := findClass_of_methodNamed q3
    have z2 := findClass_of_methodNamed hnamed
    rw [hcl, z2] at z1
    exact (Option.some.inj z1).symm
  rw [hcc] at hkP
  have hsel : selectMethod e.platform s.vm cell.cls mk = .method mk := selectMethod_private hmethM (hpriv mk methM hnamed hmethM)
  obtain ⟨vm₁, X₁, hstep₁⟩ := X.invokevirtual hx hown (mvT hZ wl) hnamed hmethM hstM hkP hkPi hy (a := a) (cell := cell) hcell' hobj hsel hmethM habM hkP hkPi (g := mkF m pc L (A.reverse ++ .ref a :: st)) rfl (argsL := A) (rest := st) (lenOf hds hA _ hsigM) rfl (hb hby hd)
  obtain ⟨v, ⟨T', L', k', n'⟩, X', ⟨Lc', hQ', l', y', z'⟩, hsteps⟩ := backOf (W := wt) hM hZ wc wz hf hlo m meth c ⟨T.setVm vm₁, locs, cells, slots⟩ { mkF m pc L (A.reverse ++ .ref a :: st) with stack := st } (.invokevirtual i) mk (.ref a :: A).toArray X₁ rfl (by rw [hml]; exact hL) (hb hby hd) (by show 2 * 0 + (st.map fun v => v.category).sum ≤ wt; omega) (X₁.named hnamed) ⟨rfl, eT, hc, hs⟩
  dsimp only [Pt.U, Pt.locs, Pt.cells, Pt.slots] at X' l' y' z' hsteps hQ'
  subst l' y' z'
  exact own_tr ((hstep₁ _ fun acts => by rw [doInvoke_state]; exact Steps.refl _).trans hsteps) (k T' _ _ ⟨⟨hx, hby, hml, hown, hnm, hrt, hlk, hZ⟩, _, X', rfl, own_Fw_app N hQ'.1 hws hsz⟩ hQ'.2.1 hQ'.2.2.1 hQ'.2.2.2)
end OwnArr
section OwnAcr
variable {p : Program} {l : Launch} {e : Env} {R : Room} {s : State} {m : MethodId} {args : Array Value} {below : List Frame} {meth : Method} {c : Code} {Z : State} {y : MethodName} {ret : Option FieldType} {code : ByteArray} {ml : Nat} {ws : List Addr} {T : State} {h : Heap} {cells slots : Nat} {C : Outcome → State → Prop} {a0 : Array Value}
theorem own_R.arv {a : Addr} {C0 : String} {n : Nat} {f : Nat → Value} (F : own_R Z h a C0 n f) (hn : n < 2147483648) (hf : ∀ j, j < n → fits (.object C0) (f j) = true) (d : Value) : ∃ k, Ovr Z k C0 ∧ Arv Z h a k (.object C0) n.toInt32 ((List.range n).map f) d := by
  obtain ⟨cl, A, O, r1, r2⟩ := F
  have hz : n.toInt32.toInt = (n : Int) := len_toInt hn
  refine ⟨cl.cls, O, cl, A, rfl, by rw [r1, own_cl hz], own_nn hz, fun k hk => ?_, fun i hi => ?_⟩
  · rw [r1] at hk
    rw [r2 k hk, own_gd hk]
  · rw [r1] at hi
    rw [own_gd hi]; exact hf i hi
theorem own_R.of_arv {a : Addr} {k : ClassId} {C0 : String} {z : Int32} {n : Nat} {vs : List Value} {d : Value} (O : Ovr Z k C0) (F : Arv Z h a k (.object C0) z vs d) (hz : z.toInt = (n : Int)) : own_R Z h a C0 n (fun j => vs.getD j d) := by
  obtain ⟨cl, A, r1, r2, -, H, -⟩ := F
  rw [own_cl hz] at r2
  subst r1
  exact ⟨cl, A, O, r2, fun j hj => H j (by rw [r2]; exact hj)⟩
theorem own_R.congr {a : Addr} {C0 : String} {n : Nat} {f g : Nat → Value} (F : own_R Z h a C0 n f) (q : ∀ j, j < n → f j = g j) : own_R Z h a C0 n g := by
  obtain ⟨cl, A, O, r1, r2⟩ := F
  exact ⟨cl, A, O, r1, fun j hj => by rw [r2 j hj, q j hj]⟩
end OwnAcr
section OwnLst
variable {p : Program} {l : Launch} {e : Env} {R : Room} {s : State} {m : MethodId} {args : Array Value} {below : List Frame} {meth : Method} {c : Code} {Z : State} {y : MethodName} {ret : Option FieldType} {code : ByteArray} {ml : Nat} {ws : List Addr} {T : State} {h : Heap} {cells slots : Nat} {C : Outcome → State → Prop} {a0 : Array Value}
theorem own_WK (W : own_W p l e R s m args below meth c Z y ret code ml ws T h cells slots) : Keep s.heap h ws := by
  obtain ⟨-, locs, X, rfl, N⟩ := W
  exact own_keep X.same N
theorem own_getfieldV (W : own_W p l e R s m args below meth c Z y ret code ml ws T h cells slots) {R0 O n d : String} {i : Nat} {a : Addr} {v : Value} {pc : Nat} (pc' : Nat) {L : Array Slot} {st : List Value} (hd : decode code pc = .ok (.getfield i, 3)) (w : (Jvm.Cond.fieldLink y.cls i R0 n d).before a0 Z = true) (wv : (Jvm.Cond.sameField R0 O n d).before a0 Z = true) (F : Fld Z h a O n d v) (hp : pc + 3 = pc') (k : ∀ T', own_W p l e R s m args below meth c Z y ret code ml ws T' h cells slots → own_Go p e below C T' (mkF m pc' L (v :: st))) : own_Go p e below C T (mkF m pc L (.ref a :: st)) := by
  have hsz := own_le W
  obtain ⟨⟨hx, hby, hml, hown, hnm, hrt, hlk, hZ⟩, locs, X, eT, N⟩ := W
  subst hp
  obtain ⟨T', X', e', st'⟩ := getF X hx hZ hown (host := "") (Or.inl w) (Via.of wv) eT F (g := mkF m pc L (.ref a :: st)) rfl rfl (hb hby hd)
  exact own_st st' (k T' ⟨⟨hx, hby, hml, hown, hnm, hrt, hlk, hZ⟩, locs, X', e', N⟩)
theorem own_putfieldV (W : own_W p l e R s m args below meth c Z y ret code ml ws T h cells slots) {R0 O n d C0 : String} {i kk : Nat} {ty : FieldType} {a : Addr} {v old : Value} (v' : Value) {pc : Nat} (pc' : Nat) {L : Array Slot} {st : List Value} (hd : decode code pc = .ok (.putfield i, 3)) (w : (Jvm.Cond.fieldLink y.cls i R0 n d).before a0 Z = true) (wv : (Jvm.Cond.sameField R0 O n d).before a0 Z = true) (F : Fld Z h a O n d old) (E : Exa Z h a C0) (La : (Jvm.Cond.lays C0 O n d).before a0 Z = true ∨ ((Jvm.Cond.laysFinal C0 O n d).before a0 Z = true ∧ y.cls = O ∧ y.name = "<init>")) (wi : (Jvm.Cond.instantiable C0 kk).before a0 Z = true) (ha : a ∈ ws ∨ s.heap.size ≤ a) (hty : parseFieldDescriptor d = some ty) (hn : narrow ty v = v') (hf : fits ty v' = true) (hp : pc + 3 = pc') (k : ∀ T' h', own_W p l e R s m args below meth c Z y ret code ml ws T' h' cells slots → Wr h h' a (Jvm.RoadKit.slotOf Z O n d) v' → Fld Z h' a O n d v' → own_Go p e below C T' (mkF m pc' L st)) : own_Go p e below C T (mkF m pc L (v :: .ref a :: st)) := by
  have hsz := own_le W
  obtain ⟨⟨hx, hby, hml, hown, hnm, hrt, hlk, hZ⟩, locs, X, eT, N⟩ := W
  subst hp
  obtain ⟨T', h', X', e', W', st'⟩ := putFN X hx hZ hown w (Via.of wv) eT F E (by rw [hnm]; exact La) wi hty hn hf (g := mkF m pc L (v :: .ref a :: st)) rfl rfl (hb hby hd)
  exact own_st st' (k T' h' ⟨⟨hx, hby, hml, hown, hnm, hrt, hlk, hZ⟩, _, X', e', own_Fw_snoc N ha⟩ W' (F.same W'))
theorem own_callI (W : own_W p l e R s m args below meth c Z y ret code ml ws T h cells slots) {C0 : String} {i cnt : Nat} {yc zc : MethodName} {bytes : ByteArray} {maxL : Nat} {rt : Option FieldType} {rm : Room} {Q : Option Value → Heap → Prop} {ps : List FieldType} {rr : Option FieldType} {a : Addr} {wc' : List Addr} (A : List Value) (wt : Nat) {pc : Nat} (pc' : Nat) {L : Array Slot} {st : List Value} (hd : decode code pc = .ok (.invokeinterface i cnt, 5)) (wl : (Jvm.Cond.methodLink y.cls i yc).before a0 Z = true) (wd : (Jvm.Cond.declares yc).before a0 Z = true) (wf : (Jvm.Cond.interfaceMethod yc.cls yc.cls yc.name yc.desc).before a0 Z = true) (hfa : ((Jvm.Cond.interfaceMethod yc.cls yc.cls yc.name yc.desc).onTables && (Jvm.Cond.interfaceMethod yc.cls yc.cls yc.name yc.desc).keepsFace) = true) (wse : (Jvm.Cond.selects C0 yc zc).before a0 Z = true) (wst : (Jvm.Cond.instanceMethod zc).before a0 Z = true) (wp : (Jvm.Cond.publicMethod zc).before a0 Z = true) (wu : (Jvm.Cond.unhidden C0 yc.name yc.desc).before a0 Z = true) (wcs : (Jvm.Cond.castable C0 yc.cls).before a0 Z = true) (wz : (Jvm.Cond.initialized zc.cls).before a0 Z = true) (wc : (Jvm.Cond.code zc bytes maxL rt).before a0 Z = true) (hy : yc.cls ≠ "java/lang/invoke/MethodHandle" ∧ yc.cls ≠ "java/lang/invoke/VarHandle") (E : Exa Z h a C0) (hM : own_M l Z [] zc bytes maxL rt rm wc' (.ref a :: A).toArray h Q) (hws : ∀ b ∈ wc', b ∈ ws ∨ s.heap.size ≤ b) (hL : L.size = ml) (hds : parseMethodDescriptor yc.desc = some ⟨ps, rr⟩) (hA : A.length = ps.length) (hwt : (st.map fun v => v.category).sum ≤ wt) (hf : rm.frames + 1 ≤ R.frames) (hlo : wt + (maxL + 11) + rm.locals ≤ R.locals) (hc : cells + rm.cells ≤ R.cells) (hs : slots + rm.slots ≤ R.slots) (hp : pc + 5 = pc') (k : ∀ T' h' v, own_W p l e R s m args below meth c Z y ret code ml ws T' h' (cells + rm.cells) (slots + rm.slots) → Keep h h' wc' → (rm.cells = 0 → wc' = [] → h' = h) → Q v h' → own_Go p e below C T' (mkF m pc' L (v.toList ++ st))) : own_Go p e below C T (mkF m pc L (A.reverse ++ .ref a :: st)) := by
  have hsz := own_le W
  obtain ⟨⟨hx, hby, hml, hown, hnm, hrt, hlk, hZ⟩, locs, X, eT, N⟩ := W
  subst hp
  obtain ⟨cq, kq, qa, qb, qc⟩ := isOf hZ eT E
  obtain ⟨_, _, ⟨T', L', k', n'⟩, -, X', ⟨Lc', hQ', l', y', z'⟩, st'⟩ := X.interfaceBack hx (xi := yc) (y := zc) hown (mvT hZ wl) (mvT hZ wd) (mvT hZ wf hfa) (mvT hZ wse) (mvT hZ wst) (mvT hZ wp) (mvT hZ wu) (mvT hZ wcs) hy (backOf (W := wt) hM hZ wc wz hf hlo) qa qb qc (g := mkF m pc L (A.reverse ++ .ref a :: st)) rfl (by rw [hml]; exact hL) (Steps.refl _) (argsL := A) (rest := st) (lenOf hds hA) rfl (by show 2 * 0 + _ ≤ _; omega) (hb hby hd) (fun _ _ => ⟨rfl, eT, hc, hs⟩)
  dsimp only [Pt.U, Pt.locs, Pt.cells, Pt.slots] at X' l' y' z' st' hQ'
  subst l' y' z'
  exact own_tr st' (k T' _ _ ⟨⟨hx, hby, hml, hown, hnm, hrt, hlk, hZ⟩, _, X', rfl, own_Fw_app N hQ'.1 hws hsz⟩ hQ'.2.1 hQ'.2.2.1 hQ'.2.2.2)
theorem own_callU (W : own_W p l e R s m args below meth c Z y ret code ml ws T h cells slots) {C0 ow : String} {i : Nat} {yc zc : MethodName} {bytes : ByteArray} {maxL : Nat} {rt : Option FieldType} {rm : Room} {Q : Option Value → Heap → Prop} {ps : List FieldType} {rr : Option FieldType} {a : Addr} {wc' : List Addr} (A : List Value) (wt : Nat) {pc : Nat} (pc' : Nat) {L : Array Slot} {st : List Value} (hd : decode code pc = .ok (.invokevirtual i, 3)) (wl : (Jvm.Cond.methodLink y.cls i yc).before a0 Z = true) (wsm : (Jvm.Cond.sameMethod yc.cls ow yc.name yc.desc).before a0 Z = true) (wd : (Jvm.Cond.declares ⟨ow, yc.name, yc.desc⟩).before a0 Z = true) (wse : (Jvm.Cond.selects C0 yc zc).before a0 Z = true) (wst : (Jvm.Cond.instanceMethod zc).before a0 Z = true) (wz : (Jvm.Cond.initialized zc.cls).before a0 Z = true) (wc : (Jvm.Cond.code zc bytes maxL rt).before a0 Z = true) (hy : ow ≠ "java/lang/invoke/MethodHandle" ∧ ow ≠ "java/lang/invoke/VarHandle") (E : Exa Z h a C0) (hM : own_M l Z [] zc bytes maxL rt rm wc' (.ref a :: A).toArray h Q) (hws : ∀ b ∈ wc', b ∈ ws ∨ s.heap.size ≤ b) (hL : L.size = ml) (hds : parseMethodDescriptor yc.desc = some ⟨ps, rr⟩) (hA : A.length = ps.length) (hwt : (st.map fun v => v.category).sum ≤ wt) (hf : rm.frames + 1 ≤ R.frames) (hlo : wt + (maxL + 11) + rm.locals ≤ R.locals) (hc : cells + rm.cells ≤ R.cells) (hs : slots + rm.slots ≤ R.slots) (hp : pc + 3 = pc') (k : ∀ T' h' v, own_W p l e R s m args below meth c Z y ret code ml ws T' h' (cells + rm.cells) (slots + rm.slots) → Keep h h' wc' → (rm.cells = 0 → wc' = [] → h' = h) → Q v h' → own_Go p e below C T' (mkF m pc' L (v.toList ++ st))) : own_Go p e below C T (mkF m pc L (A.reverse ++ .ref a :: st)) := by
  have hsz := own_le W
  obtain ⟨⟨hx, hby, hml, hown, hnm, hrt, hlk, hZ⟩, locs, X, eT, N⟩ := W
  subst hp
  obtain ⟨cq, kq, qa, qb, qc⟩ := isOf hZ eT E
  obtain ⟨_, _, ⟨T', L', k', n'⟩, -, X', ⟨Lc', hQ', l', y', z'⟩, st'⟩ := X.virtualBackUp hx (x := yc) (y := zc) (owner := ow) hown (mvT hZ wl) (mvT hZ wsm) (mvT hZ wd) hy (mvT hZ wse) (mvT hZ wst) (backOf (W := wt) hM hZ wc wz hf hlo) qa qc (g := mkF m pc L (A.reverse ++ .ref a :: st)) rfl (by rw [hml]; exact hL) (Steps.refl _) (argsL := A) (rest := st) (lenOf hds hA) rfl (by show 2 * 0 + _ ≤ _; omega) (hb hby hd) (fun _ _ => ⟨rfl, eT, hc, hs⟩)
  dsimp only [Pt.U, Pt.locs, Pt.cells, Pt.slots] at X' l' y' z' st' hQ'
  subst l' y' z'
  exact own_tr st' (k T' _ _ ⟨⟨hx, hby, hml, hown, hnm, hrt, hlk, hZ⟩, _, X', rfl, own_Fw_app N hQ'.1 hws hsz⟩ hQ'.2.1 hQ'.2.2.1 hQ'.2.2.2)
theorem own_named {args : Array Value} {s : State} {y : MethodName} {b : ByteArray} {n : Nat} {r : Option FieldType} (h : (Jvm.Cond.code y b n r).before args s = true) : ∃ mk, s.methodNamed? y = some mk := by
  cases hq : s.methodNamed? y with
  | some mk => exact ⟨mk, rfl⟩
  | none =>
    exfalso
    have h2 := Cond.before_iff.mp h
    simp [Cond.value, hq] at h2
theorem own_nf2 {C0 : String} {x z yc : MethodName} (W : own_W p l e R s m args below meth c Z y ret code ml ws T h cells slots) (wse : (Jvm.Cond.selects C0 x z).before a0 Z = true) (hc : z.cls = yc.cls) : NotFace s yc := by
  obtain ⟨⟨hx, hby, hml, hown, hnm, hrt, hlk, hZ⟩, locs, X, eT, N⟩ := W
  intro r0 h0
  have h1 : (Jvm.Cond.selects C0 x z).before args s = true := mvT hZ wse
  obtain ⟨c2, r2, m2, q1, q2, q3, q4, kP, hkP, hkPi⟩ := Cond.selects_spec h1
  have e1 := findClass_of_methodNamed q3
  have e2 := findClass_of_methodNamed h0
  rw [hc, e2] at e1
  have e3 := Option.some.inj e1
  rw [← e3] at hkP
  exact ⟨kP, hkP, hkPi⟩
theorem own_callSU (W : own_W p l e R s m args below meth c Z y ret code ml ws T h cells slots) {ow : String} {i : Nat} {yc : MethodName} {bytes : ByteArray} {maxL : Nat} {rt : Option FieldType} {rm : Room} {Q : Option Value → Heap → Prop} {ps : List FieldType} {rr : Option FieldType} {wc' : List Addr} (A : List Value) (wt : Nat) {pc : Nat} (pc' : Nat) {L : Array Slot} {st : List Value} (hd : decode code pc = .ok (.invokestatic i, 3)) (wl : (Jvm.Cond.methodLink y.cls i yc).before a0 Z = true) (wsm : (Jvm.Cond.sameMethod yc.cls ow yc.name yc.desc).before a0 Z = true) (wst : (Jvm.Cond.static ⟨ow, yc.name, yc.desc⟩).before a0 Z = true) (wz : (Jvm.Cond.initialized ow).before a0 Z = true) (wc : (Jvm.Cond.code ⟨ow, yc.name, yc.desc⟩ bytes maxL rt).before a0 Z = true) (hy : ow ≠ "java/lang/invoke/MethodHandle" ∧ ow ≠ "java/lang/invoke/VarHandle") (hM : own_M l Z [] ⟨ow, yc.name, yc.desc⟩ bytes maxL rt rm wc' A.toArray h Q) (hws : ∀ b ∈ wc', b ∈ ws ∨ s.heap.size ≤ b) (hL : L.size = ml) (hds : parseMethodDescriptor yc.desc = some ⟨ps, rr⟩) (hA : A.length = ps.length) (hwt : (st.map fun v => v.category).sum ≤ wt) (hf : rm.frames + 1 ≤ R.frames) (hlo : wt + (maxL + 11) + rm.locals ≤ R.locals) (hc : cells + rm.cells ≤ R.cells) (hs : slots + rm.slots ≤ R.slots) (hp : pc + 3 = pc') (k : ∀ T' h' v, own_W p l e R s m args below meth c Z y ret code ml ws T' h' (cells + rm.cells) (slots + rm.slots) → Keep h h' wc' → (rm.cells = 0 → wc' = [] → h' = h) → Q v h' → own_Go p e below C T' (mkF m pc' L (v.toList ++ st))) : own_Go p e below C T (mkF m pc L (A.reverse ++ st)) := by
  have hsz := own_le W
  obtain ⟨⟨hx, hby, hml, hown, hnm, hrt, hlk, hZ⟩, locs, X, eT, N⟩ := W
  subst hp
  have h1 : (Jvm.Cond.code ⟨ow, yc.name, yc.desc⟩ bytes maxL rt).before args s = true := mvT hZ wc
  have h2 : (Jvm.Cond.static ⟨ow, yc.name, yc.desc⟩).before args s = true := mvT hZ wst
  obtain ⟨mk, methM, cM, hnamed, hmethM, hsigM⟩ : ∃ mk methM, ∃ cM : Unit, s.methodNamed? ⟨ow, yc.name, yc.desc⟩ = some mk ∧ s.vm.method? mk = some methM ∧ parseMethodDescriptor yc.desc = some methM.sig := by
    obtain ⟨mk, hnamed⟩ := own_named h1
    obtain ⟨methM', cM, hmethM', -, -, -, -, -, -, hsigM⟩ := Cond.code_spec hnamed h1
    exact ⟨mk, methM', (), hnamed, hmethM', hsigM⟩
  obtain ⟨_, _, ⟨T', L', k', n'⟩, -, X', ⟨Lc', hQ', l', y', z'⟩, st'⟩ := X.staticBackUp hx (x := yc) (owner := ow) hown (mvT hZ wl) (mvT hZ wsm) h2 (mvT hZ wz) hnamed hmethM hsigM hy (backOf (W := wt) hM hZ wc wz hf hlo) (g := mkF m pc L (A.reverse ++ st)) rfl (by rw [hml]; exact hL) (Steps.refl _) (argsL := A) (rest := st) (lenOf hds hA) rfl (by show 2 * 0 + _ ≤ _; omega) (hb hby hd) (fun _ _ => ⟨rfl, eT, hc, hs⟩)
  dsimp only [Pt.U, Pt.locs, Pt.cells, Pt.slots] at X' l' y' z' st' hQ'
  subst l' y' z'
  exact own_tr st' (k T' _ _ ⟨⟨hx, hby, hml, hown, hnm, hrt, hlk, hZ⟩, _, X', rfl, own_Fw_app N hQ'.1 hws hsz⟩ hQ'.2.1 hQ'.2.2.1 hQ'.2.2.2)
theorem own_aastore0 (W : own_W p l e R s m args below meth c Z y ret code ml ws T h cells slots) {a : Addr} {C0 : String} {z : Int32} {n : Nat} {f : Nat → Value} (k : Nat) {pc : Nat} (pc' : Nat) {L : Array Slot} {st : List Value} (hd : decode code pc = .ok (.aastore, 1)) (F : own_R Z h a C0 n f) (ha : a ∈ ws ∨ s.heap.size ≤ a) (hz : z.toInt = (k : Int)) (hk : k < n) (hp : pc + 1 = pc') (kk : ∀ T' h', own_W p l e R s m args below meth c Z y ret code ml ws T' h' cells slots → Wr h h' a k (.null) → own_R Z h' a C0 n (own_upd f k (.null)) → own_Go p e below C T' (mkF m pc' L st)) : own_Go p e below C T (mkF m pc L (.null :: .int z :: .ref a :: st)) := by
  have hsz := own_le W
  obtain ⟨⟨hx, hby, hml, hown, hnm, hrt, hlk, hZ⟩, locs, X, eT, N⟩ := W
  subst hp
  have F' := F
  obtain ⟨cl, A, O, hs, hf⟩ := F
  obtain ⟨T', h', X', e', W', st'⟩ := stR X hx hZ eT A (j := z) (own_in hz hs hk) rfl (Or.inl rfl) (g := mkF m pc L (.null :: .int z :: .ref a :: st)) rfl rfl (hb hby hd)
  rw [own_cl hz] at W'
  exact own_st st' (kk T' h' ⟨⟨hx, hby, hml, hown, hnm, hrt, hlk, hZ⟩, _, X', e', own_Fw_snoc N ha⟩ W' (F'.set W' hk))
theorem own_R.A {a : Addr} {C0 : String} {n : Nat} {f : Nat → Value} (F : own_R Z h a C0 n f) : own_A Z h a (.object C0) n f := by
  obtain ⟨cl, A, -, r⟩ := F
  exact ⟨cl, A, r⟩
theorem own_R.fits {C0 : String} {n : Nat} {f : Nat → Value} (hf : ∀ j, j < n → (f j).isRef = true) (j : Nat) (hj : j < n) : fits (.object C0) (f j) = true := by
  rcases ref_cases (hf j hj) with e | ⟨b, e⟩ <;> rw [e] <;> rfl
theorem own_resift (X : Stand p l e R s m args below meth c T locs cells slots) (K : Keep s.heap T.heap ws) : ∃ L', Stand p l e R s m args below meth c T L' cells slots ∧ own_Fw s ws L' := by
  refine ⟨locs.filter (fun y => decide (y.base ∈ ws ∨ s.heap.size ≤ y.base)), { X with same := ?_ }, fun y hy => by simpa using (List.mem_filter.mp hy).2⟩
  obtain ⟨q1, q2, q3, q4, q5, q6⟩ := X.same
  refine ⟨q1, q2, q3, q4, q5, fun x cell hx => ?_⟩
  obtain ⟨c', h1, h2, h3, h4⟩ := q6 x cell hx
  refine ⟨c', h1, h2, h3, fun i hi => ?_⟩
  by_cases hw : x ∈ ws
  · exact h4 i (fun hm => hi (List.mem_filter.mpr ⟨hm, by simp [hw]⟩))
  · have h5 : T.heap[x]? = some cell := K.2.1 x cell hx hw
    have h6 : T.heap[x]? = some c' := h1
    cases h5.symm.trans h6
    rfl
theorem own_keepK {h1 h2 h3 : Heap} {b : Addr} (K : Keep h1 h2 ws) (K' : Keep h2 h3 [b]) (hb : b ∈ ws ∨ h1.size ≤ b) : Keep h1 h3 ws := by
  refine ⟨Nat.le_trans K.1 K'.1, fun x c hx hn => K'.2.1 x c (K.2.1 x c hx hn) (fun q => ?_), fun x c hx => ?_⟩
  · have e : x = b := List.mem_singleton.mp q
    subst e
    rcases hb with z | z
    · exact hn z
    · exact absurd (Array.getElem?_eq_some_iff.mp hx).1 (Nat.not_lt.mpr z)
  · obtain ⟨c1, g1, g2, g3, g4⟩ := K.2.2 x c hx
    obtain ⟨c2, f1, f2, f3, f4⟩ := K'.2.2 x c1 g1
    exact ⟨c2, f1, f2.trans g2, f3.trans g3, f4.trans g4⟩
theorem own_arraycopyW (W : own_W p l e R s m args below meth c Z y ret code ml ws T h cells slots) {i : Nat} {a : Addr} {C0 : String} {n : Nat} {f : Nat → Value} {sp dp nn : Int32} (i1 j1 k1 wt : Nat) {pc : Nat} (pc' : Nat) {L : Array Slot} {st : List Value} (hd : decode code pc = .ok (.invokestatic i, 3)) (w1 : (Jvm.Cond.methodLink y.cls i Jvm.Stand.acN).before a0 Z = true) (w2 : (Jvm.Cond.native Jvm.Stand.acN).before a0 Z = true) (w3 : (Jvm.Cond.static Jvm.Stand.acN).before a0 Z = true) (w4 : (Jvm.Cond.initialized "java/lang/System").before a0 Z = true) (F : own_R Z h a C0 n f) (hff : ∀ j, j < n → fits (.object C0) (f j) = true) (hn : n < 2147483648) (hst : StoL Z h a ((List.range k1).map fun t => f (i1 + t))) (hsp : sp.toInt = (i1 : Int)) (hdp : dp.toInt = (j1 : Int)) (hnn : nn.toInt = (k1 : Int)) (h4 : i1 + k1 ≤ n) (h5 : j1 + k1 ≤ n) (ha : a ∈ ws ∨ s.heap.size ≤ a) (hL : L.size = ml) (hwt : (st.map fun v => v.category).sum ≤ wt) (hf : 1 ≤ R.frames) (hlo : wt + (nativeFrameWords "java/lang/System" "arraycopy" 5 + 11) ≤ R.locals) (hp : pc + 3 = pc') (k : ∀ T' h', own_W p l e R s m args below meth c Z y ret code ml ws T' h' cells slots → Keep h h' [a] → own_R Z h' a C0 n (fun q => if j1 ≤ q ∧ q < j1 + k1 then f (i1 + (q - j1)) else f q) → own_Go p e below C T' (mkF m pc' L st)) : own_Go p e below C T (mkF m pc L (.int nn :: .int dp :: .ref a :: .int sp :: .ref a :: st)) := by
  have KW := own_WK W
  obtain ⟨⟨hx, hby, hml, hown, hnm, hrt, hlk, hZ⟩, locs, X, eT, N⟩ := W
  subst hp
  obtain ⟨ka, OA, A⟩ := F.arv hn hff (.int 0)
  have ez : n.toInt32.toNatClampNeg = n := own_cl (len_toInt hn)
  have eus : ((List.range k1).map fun t => f (i1 + t)) = (List.range nn.toNatClampNeg).map fun t => ((List.range n).map f).getD (sp.toNatClampNeg + t) (.int 0) := by
    rw [own_cl hsp, own_cl hnn]
    exact List.map_congr_left fun t ht => by rw [own_gd (by have := List.mem_range.mp ht; omega)]
  obtain ⟨T', h', L', X', e', N', K', B', st'⟩ := cpA X hx hZ hown w1 w2 w3 w4 eT A A (Or.inr ⟨rfl, rfl, hst⟩) (own_nn hsp) (own_nn hdp) (own_nn hnn) (by rw [own_cl hsp, own_cl hnn, ez]; exact h4) (by rw [own_cl hdp, own_cl hnn, ez]; exact h5) eus (by rw [own_cl hdp, own_cl hnn]; simpa using h5) (n0 := 0) (fun _ _ => Nat.zero_le _) (Nat.zero_le _) (g := mkF m pc L (.int nn :: .int dp :: .ref a :: .int sp :: .ref a :: st)) rfl (by rw [hml]; exact hL) rfl (hb hby hd) hf (W := wt) (by show 2 * 0 + _ ≤ _; omega) hlo
  have KK : Keep s.heap T'.heap ws := by rw [e']; exact own_keepK KW K' ha
  obtain ⟨L2, X2, N2⟩ := own_resift X' KK
  refine own_st st' (k T' h' ⟨⟨hx, hby, hml, hown, hnm, hrt, hlk, hZ⟩, L2, X2, e', N2⟩ K' ((own_R.of_arv OA B' (len_toInt hn)).congr fun q hq => ?_))
  rw [eus, own_cl hsp, own_cl hdp, own_cl hnn]
  exact own_cpl f f n n i1 j1 k1 _ h4 h5 q hq
theorem own_arraycopy0 (W : own_W p l e R s m args below meth c Z y ret code ml ws T h cells slots) {i : Nat} {a : Addr} {ty : FieldType} {n : Nat} {f : Nat → Value} (wt : Nat) {pc : Nat} (pc' : Nat) {L : Array Slot} {st : List Value} (hd : decode code pc = .ok (.invokestatic i, 3)) (w1 : (Jvm.Cond.methodLink y.cls i Jvm.Stand.acN).before a0 Z = true) (w2 : (Jvm.Cond.native Jvm.Stand.acN).before a0 Z = true) (w3 : (Jvm.Cond.static Jvm.Stand.acN).before a0 Z = true) (w4 : (Jvm.Cond.initialized "java/lang/System").before a0 Z = true) (F : own_A Z h a ty n f) (hL : L.size = ml) (hwt : (st.map fun v => v.category).sum ≤ wt) (hf : 1 ≤ R.frames) (hlo : wt + (nativeFrameWords "java/lang/System" "arraycopy" 5 + 11) ≤ R.locals) (hp : pc + 3 = pc') (k : ∀ T', own_W p l e R s m args below meth c Z y ret code ml ws T' h cells slots → own_Go p e below C T' (mkF m pc' L st)) : own_Go p e below C T (mkF m pc L (.int (0 : Int32) :: .int (0 : Int32) :: .ref a :: .int (0 : Int32) :: .ref a :: st)) := by
  obtain ⟨⟨hx, hby, hml, hown, hnm, hrt, hlk, hZ⟩, locs, X, eT, N⟩ := W
  subst hp
  obtain ⟨cl, A, r1, r2⟩ := F
  obtain ⟨os, ks, hks, sc, hsk⟩ := State.isArrayOf_alike hZ.alike A.2.1
  have z0 : (0 : Int32).toInt = 0 := rfl
  obtain ⟨vm₁, hW₁, X', st'⟩ := X.arraycopyK hx hown (mvT hZ w1) (mvT hZ w2) (mvT hZ w3) (mvT hZ w4) (srcPos := 0) (destPos := 0) (n := 0) (by rw [eT]; exact A.1) (by rw [eT]; exact A.1) os os A.2.2 A.2.2 hks hks hsk hsk (by simp) (by decide) (by decide) (by decide) (by rw [z0]; omega) (by rw [z0]; omega) (fun _ _ i hi => absurd hi (Nat.not_lt_zero i)) (g := mkF m pc L (.int (0 : Int32) :: .int (0 : Int32) :: .ref a :: .int (0 : Int32) :: .ref a :: st)) rfl (by rw [hml]; exact hL) rfl (hb hby hd) hf (by show 2 * 0 + _ + _ ≤ _; omega)
  have ec : copied cl cl 0 0 0 = cl := rfl
  rw [ec] at X' st'
  have eh : ((T.setVm vm₁).setCell a cl).heap = h := by
    show T.heap.setIfInBounds a cl = h
    rw [eT]
    apply Array.ext_getElem?
    intro j
    by_cases q : a = j
    · subst q
      rw [Array.getElem?_setIfInBounds_self_of_lt A.lt, A.1]
    · rw [Array.getElem?_setIfInBounds_ne q]
  exact own_st st' (k _ ⟨⟨hx, hby, hml, hown, hnm, hrt, hlk, hZ⟩, _, X', eh, fun y hy => by
    rcases List.mem_append.mp hy with z | z
    · exact N y z
    · exact absurd z (by simp [copyLocs])⟩)
end OwnLst
theorem own_ltN {u v : Int32} {i j : Nat} (hu : u.toInt = (i : Int)) (hv : v.toInt = (j : Int)) : u < v ↔ i < j := by
  rw [Int32.lt_iff_toInt_lt]; omega
theorem own_lt0 {u : Int32} : u < 0 ↔ u.toInt < 0 := by
  rw [Int32.lt_iff_toInt_lt]; have : (0 : Int32).toInt = 0 := rfl
  rw [this]
theorem own_lt4 {n : Nat} (h : n < 4) : n = 0 ∨ n = 1 ∨ n = 2 ∨ n = 3 := by omega
def own_g (x0 x1 x2 x3 : Int32) (j : Nat) : Int32 := if j = 0 then x0 else if j = 1 then x1 else if j = 2 then x2 else x3
theorem own_staK0 {Z : State} {h h' : Heap} {O n d : String} {v : Value} (F : Sta Z h O n d v) (K : Keep h h' []) : Sta Z h' O n d v := by
  obtain ⟨cf, i, k, f, st, cell, h1, h2, h3, h4, h5, r⟩ := F
  exact ⟨cf, i, k, f, st, cell, h1, h2, h3, h4, K.2.1 _ _ h5 nin0, r⟩
theorem own_staK1 {Z : State} {h h' : Heap} {O n d C0 : String} {v : Value} {a : Addr} (F : Sta Z h O n d v) (K : Keep h h' [a]) (X : Exa Z h a C0) : Sta Z h' O n d v := by
  obtain ⟨cf, i, k, f, st, cell, h1, h2, h3, h4, h5, h6, r⟩ := F
  refine ⟨cf, i, k, f, st, cell, h1, h2, h3, h4, K.2.1 _ _ h5 (ninS ?_ nin0), h6, r⟩
  rintro rfl
  obtain ⟨cl, kk, g1, -, -, g4, -⟩ := X
  cases h5.symm.trans g1
  rw [g4] at h6
  cases h6
theorem own_le_ {p : Program} {l : Launch} {e : Env} {R : Room} {s : State} {m : MethodId} {args : Array Value} {below : List Frame} {meth : Method} {c : Code} {Z : State} {y : MethodName} {ret : Option FieldType} {code : ByteArray} {ml : Nat} {ws : List Addr} {T : State} {h : Heap} (W : own_W p l e R s m args below meth c Z y ret code ml ws T h 0 0) {a : Addr} (q : s.heap.size ≤ a) : h.size ≤ a := by
  obtain ⟨-, locs, X, rfl, -⟩ := W
  have h1 := X.heapSize
  exact Nat.le_trans h1 q
theorem own_W0 {p : Program} {l : Launch} {e : Env} {R : Room} {s : State} {m : MethodId} {args : Array Value} {below : List Frame} {meth : Method} {c : Code} {Z : State} {y : MethodName} {ret : Option FieldType} {code : ByteArray} {ml : Nat} {T : State} {h : Heap} (W : own_W p l e R s m args below meth c Z y ret code ml [] T h 0 0) : h = s.heap := by
  have K := own_WK W
  obtain ⟨-, locs, X, rfl, N⟩ := W
  exact own_same0 X.same K
theorem own_lit32 {u : Int32} {n : Nat} (h : u.toInt = (n : Int)) (z : Int32) (hz : z.toInt = (n : Int)) : u = z := Int32.toInt_inj.mp (h.trans hz.symm)
theorem own_wsz {p : Program} {l : Launch} {e : Env} {R : Room} {s : State} {m : MethodId} {args : Array Value} {below : List Frame} {meth : Method} {c : Code} {Z : State} {y : MethodName} {ret : Option FieldType} {code : ByteArray} {ml : Nat} {ws : List Addr} {T : State} {h h' : Heap} {a : Addr} {sl : Nat} {v : Value} (_ : own_W p l e R s m args below meth c Z y ret code ml ws T h 0 0) (q : Wr h h' a sl v) : h.size = h'.size := q.size.symm
theorem ef_m3 (m : MethodId) (x0 : Addr) : entryFrame m #[(.ref x0)] 1 = mkF m 0 #[.val (.ref x0)] [] := by first | (simp [entryFrame, mkF, argsToLocals, Value.category]; done) | rfl
set_option maxRecDepth 65536 in
set_option maxHeartbeats 40000000 in
theorem own_m3 (l : Launch) (Z : State) (a0 : Array Value) (hw : ∀ d ∈ tables_1, d.before a0 Z = true) (wo : List Jvm.Cond) (h0 : Heap) (a1 : Addr) :
    own_M l Z wo (⟨"java/util/AbstractCollection", "<init>", "()V"⟩ : MethodName) jdk_22_method_1_code 1 none ({ frames := 1, cells := 0, slots := 0, locals := 12 } : Room) [] #[(.ref a1)] h0 (fun v h => v = none ∧ (True)) := by
  refine own_body (plainFor_of_name pn_3) (fun m => ef_m3 m a1) ?_
  intro p e s m below meth c C hC T0 W0
  refine own_aloadN W0 1 d3_0 rfl rfl rfl ?_
  refine own_initO W0 0 4 d3_1 (wd19 hw) (wd20 hw) (wd21 hw) rfl (Nat.le_of_eq rfl) (by decide) (by decide) rfl ?_
  intro T1 W1
  refine own_retV (Q := fun v h => v = none ∧ (True)) W1 hC (by decide) (by decide) d3_4 ?_
  exact ⟨rfl, trivial⟩
theorem ef_m2 (m : MethodId) (x0 : Addr) : entryFrame m #[(.ref x0)] 1 = mkF m 0 #[.val (.ref x0)] [] := by first | (simp [entryFrame, mkF, argsToLocals, Value.category]; done) | rfl
set_option maxRecDepth 65536 in
set_option maxHeartbeats 40000000 in
theorem own_m2 (l : Launch) (Z : State) (a0 : Array Value) (hw : ∀ d ∈ tables_1, d.before a0 Z = true) (wo : List Jvm.Cond) (h0 : Heap) (a1 : Addr) (X_a1 : own_xl Z h0 a1) (Fe_a1 : own_fe Z h0 a1 .null) (Fs_a1 : own_fs Z h0 a1 (.int (0 : Int32))) (Fm_a1 : own_fm Z h0 a1 (.int (0 : Int32))) :
    own_M l Z wo (⟨"java/util/AbstractList", "<init>", "()V"⟩ : MethodName) jdk_39_method_1_code 1 none ({ frames := 2, cells := 0, slots := 0, locals := 24 } : Room) [a1] #[(.ref a1)] h0 (fun v h => v = none ∧ (own_fe Z h a1 .null ∧ own_fs Z h a1 (.int (0 : Int32)) ∧ own_fm Z h a1 (.int (0 : Int32)))) := by
  refine own_body (plainFor_of_name pn_2) (fun m => ef_m2 m a1) ?_
  intro p e s m below meth c C hC T0 W0
  refine own_aloadN W0 1 d2_0 rfl rfl rfl ?_
  refine own_callN W0 (A := []) (wt := 0) (pc' := 4) (st := []) d2_1 rfl (wd13 hw) (wd14 hw) (wd17 hw) (wd18 hw) (by decide) (own_m3 l Z a0 hw [] h0 a1) all0 rfl pd_0 rfl (Nat.le_of_eq rfl) (by decide) (by decide) (by decide) (by decide) rfl ?_
  rintro T1 h1 _ W1 K1 P1 ⟨rfl, -⟩
  rw [P1 rfl rfl] at W1
  show own_Go p e below C T1 (mkF m 4 #[.val (.ref a1)] [])
  refine own_aloadN W1 5 d2_4 rfl rfl rfl ?_
  refine own_iconst W1 (0 : Int32) 6 d2_5 rfl rfl ?_
  refine own_putfield W1 (.int (0 : Int32)) 9 d2_6 (wd22 hw) Fm_a1 X_a1 (Or.inl (wd23 hw)) (wd2 hw) (Or.inl (List.mem_of_getElem? (i := 0) rfl)) (ty := .int) (by decide) rfl rfl rfl ?_
  intro T2 h2 W2 Wr2 Fm_a1
  have X_a1 := X_a1.wr Wr2
  have Fe_a1 := Fe_a1.other Wr2 (Or.inr (slot_ne (Or.inl (wd26 hw)) (Or.inl (wd23 hw)) (by decide) (t := (.array (.object "java/lang/Object"))) (t' := .int) (by decide) (by decide)))
  have Fs_a1 := Fs_a1.other Wr2 (Or.inr (slot_ne (Or.inl (wd36 hw)) (Or.inl (wd23 hw)) (by decide) (t := .int) (t' := .int) (by decide) (by decide)))
  refine own_retV (Q := fun v h => v = none ∧ (own_fe Z h a1 .null ∧ own_fs Z h a1 (.int (0 : Int32)) ∧ own_fm Z h a1 (.int (0 : Int32)))) W2 hC (by decide) (by decide) d2_9 ?_
  exact ⟨rfl, ⟨Fe_a1, Fs_a1, Fm_a1⟩⟩
theorem ef_m2s (m : MethodId) (x0 : Addr) : entryFrame m #[(.ref x0)] 1 = mkF m 0 #[.val (.ref x0)] [] := by first | (simp [entryFrame, mkF, argsToLocals, Value.category]; done) | rfl
set_option maxRecDepth 65536 in
set_option maxHeartbeats 40000000 in
theorem own_m2s (l : Launch) (Z : State) (a0 : Array Value) (hw : ∀ d ∈ tables_1, d.before a0 Z = true) (wo : List Jvm.Cond) (h0 : Heap) (a1 : Addr) (X_a1 : own_xs Z h0 a1) (Fu_a1 : own_fu Z h0 a1 .null) (Fq_a1 : own_fq Z h0 a1 .null) (Fo_a1 : own_fo Z h0 a1 (.int (0 : Int32))) (Fs_a1 : own_fz Z h0 a1 (.int (0 : Int32))) (Fm_a1 : own_fm Z h0 a1 (.int (0 : Int32))) :
    own_M l Z wo (⟨"java/util/AbstractList", "<init>", "()V"⟩ : MethodName) jdk_39_method_1_code 1 none ({ frames := 2, cells := 0, slots := 0, locals := 24 } : Room) [a1] #[(.ref a1)] h0 (fun v h => v = none ∧ (own_fu Z h a1 .null ∧ own_fq Z h a1 .null ∧ own_fo Z h a1 (.int (0 : Int32)) ∧ own_fz Z h a1 (.int (0 : Int32)) ∧ own_fm Z h a1 (.int (0 : Int32)))) := by
  refine own_body (plainFor_of_name pn_2) (fun m => ef_m2s m a1) ?_
  intro p e s m below meth c C hC T0 W0
  refine own_aloadN W0 1 d2_0 rfl rfl rfl ?_
  refine own_callN W0 (A := []) (wt := 0) (pc' := 4) (st := []) d2_1 rfl (wd13 hw) (wd14 hw) (wd17 hw) (wd18 hw) (by decide) (own_m3 l Z a0 hw [] h0 a1) all0 rfl pd_0 rfl (Nat.le_of_eq rfl) (by decide) (by decide) (by decide) (by decide) rfl ?_
  rintro T1 h1 _ W1 K1 P1 ⟨rfl, -⟩
  rw [P1 rfl rfl] at W1
  show own_Go p e below C T1 (mkF m 4 #[.val (.ref a1)] [])
  refine own_aloadN W1 5 d2_4 rfl rfl rfl ?_
  refine own_iconst W1 (0 : Int32) 6 d2_5 rfl rfl ?_
  refine own_putfield W1 (.int (0 : Int32)) 9 d2_6 (wd22 hw) Fm_a1 X_a1 (Or.inl (wd204 hw)) (wd195 hw) (Or.inl (List.mem_of_getElem? (i := 0) rfl)) (ty := .int) (by decide) rfl rfl rfl ?_
  intro T2 h2 W2 Wr2 Fm_a1
  have X_a1 := X_a1.wr Wr2
  have Fu_a1 := Fu_a1.other Wr2 (Or.inr (slot_ne (Or.inr (wd206 hw)) (Or.inl (wd204 hw)) (by decide) (t := (.object "java/util/ArrayList")) (t' := .int) (by decide) (by decide)))
  have Fq_a1 := Fq_a1.other Wr2 (Or.inr (slot_ne (Or.inr (wd208 hw)) (Or.inl (wd204 hw)) (by decide) (t := (.object "java/util/ArrayList$SubList")) (t' := .int) (by decide) (by decide)))
  have Fo_a1 := Fo_a1.other Wr2 (Or.inr (slot_ne (Or.inr (wd210 hw)) (Or.inl (wd204 hw)) (by decide) (t := .int) (t' := .int) (by decide) (by decide)))
  have Fs_a1 := Fs_a1.other Wr2 (Or.inr (slot_ne (Or.inl (wd212 hw)) (Or.inl (wd204 hw)) (by decide) (t := .int) (t' := .int) (by decide) (by decide)))
  refine own_retV (Q := fun v h => v = none ∧ (own_fu Z h a1 .null ∧ own_fq Z h a1 .null ∧ own_fo Z h a1 (.int (0 : Int32)) ∧ own_fz Z h a1 (.int (0 : Int32)) ∧ own_fm Z h a1 (.int (0 : Int32)))) W2 hC (by decide) (by decide) d2_9 ?_
  exact ⟨rfl, ⟨Fu_a1, Fq_a1, Fo_a1, Fs_a1, Fm_a1⟩⟩
theorem ef_m1 (m : MethodId) (x0 : Addr) : entryFrame m #[(.ref x0)] 1 = mkF m 0 #[.val (.ref x0)] [] := by first | (simp [entryFrame, mkF, argsToLocals, Value.category]; done) | rfl
set_option maxRecDepth 65536 in
set_option maxHeartbeats 40000000 in
theorem own_m1 (l : Launch) (Z : State) (a0 : Array Value) (hw : ∀ d ∈ tables_1, d.before a0 Z = true) (wo : List Jvm.Cond) (h0 : Heap) (a1 : Addr) (de : Addr) (S_de : Sta Z h0 "java/util/ArrayList" "DEFAULTCAPACITY_EMPTY_ELEMENTDATA" "[Ljava/lang/Object;" (.ref de)) (X_a1 : own_xl Z h0 a1) (Fe_a1 : own_fe Z h0 a1 .null) (Fs_a1 : own_fs Z h0 a1 (.int (0 : Int32))) (Fm_a1 : own_fm Z h0 a1 (.int (0 : Int32))) :
    own_M l Z wo (⟨"java/util/ArrayList", "<init>", "()V"⟩ : MethodName) jdk_38_method_2_code 1 none ({ frames := 3, cells := 0, slots := 0, locals := 36 } : Room) [a1] #[(.ref a1)] h0 (fun v h => v = none ∧ (own_fe Z h a1 (.ref de) ∧ own_fs Z h a1 (.int (0 : Int32)) ∧ own_fm Z h a1 (.int (0 : Int32)))) := by
  refine own_body (plainFor_of_name pn_1) (fun m => ef_m1 m a1) ?_
  intro p e s m below meth c C hC T0 W0
  refine own_aloadN W0 1 d1_0 rfl rfl rfl ?_
  refine own_callN W0 (A := []) (wt := 0) (pc' := 4) (st := []) d1_1 rfl (wd7 hw) (wd8 hw) (wd11 hw) (wd12 hw) (by decide) (own_m2 l Z a0 hw [] h0 a1 X_a1 Fe_a1 Fs_a1 Fm_a1) (allS (Or.inl (List.mem_of_getElem? (i := 0) rfl)) all0) rfl pd_0 rfl (Nat.le_of_eq rfl) (by decide) (by decide) (by decide) (by decide) rfl ?_
  rintro T1 h1 _ W1 K1 P1 ⟨rfl, ⟨Fe_a1, Fs_a1, Fm_a1⟩⟩
  have S_de := own_staK1 S_de K1 X_a1
  have X_a1 := X_a1.keep K1
  show own_Go p e below C T1 (mkF m 4 #[.val (.ref a1)] [])
  refine own_aloadN W1 5 d1_4 rfl rfl rfl ?_
  refine own_getstatic W1 8 d1_5 (wd24 hw) S_de rfl ?_
  intro T2 W2
  refine own_putfield W2 (.ref de) 11 d1_8 (wd25 hw) Fe_a1 X_a1 (Or.inl (wd26 hw)) (wd2 hw) (Or.inl (List.mem_of_getElem? (i := 0) rfl)) (ty := (.array (.object "java/lang/Object"))) (by decide) rfl rfl rfl ?_
  intro T3 h3 W3 Wr3 Fe_a1
  have S_de := S_de.wr Wr3
  have X_a1 := X_a1.wr Wr3
  have Fs_a1 := Fs_a1.other Wr3 (Or.inr (slot_ne (Or.inl (wd36 hw)) (Or.inl (wd26 hw)) (by decide) (t := .int) (t' := (.array (.object "java/lang/Object"))) (by decide) (by decide)))
  have Fm_a1 := Fm_a1.other Wr3 (Or.inr (slot_ne (Or.inl (wd23 hw)) (Or.inl (wd26 hw)) (by decide) (t := .int) (t' := (.array (.object "java/lang/Object"))) (by decide) (by decide)))
  refine own_retV (Q := fun v h => v = none ∧ (own_fe Z h a1 (.ref de) ∧ own_fs Z h a1 (.int (0 : Int32)) ∧ own_fm Z h a1 (.int (0 : Int32)))) W3 hC (by decide) (by decide) d1_11 ?_
  exact ⟨rfl, ⟨Fe_a1, Fs_a1, Fm_a1⟩⟩
theorem ef_m9 (m : MethodId) (x0 : Int32) (x1 : Int32) : entryFrame m #[(.int x0), (.int x1)] 2 = mkF m 0 #[.val (.int x0), .val (.int x1)] [] := by first | (simp [entryFrame, mkF, argsToLocals, Value.category]; done) | rfl
set_option maxRecDepth 65536 in
set_option maxHeartbeats 40000000 in
theorem own_m9 (l : Launch) (Z : State) (a0 : Array Value) (hw : ∀ d ∈ tables_1, d.before a0 Z = true) (wo : List Jvm.Cond) (h0 : Heap) (p1 : Int32) (p2 : Int32) :
    own_M l Z wo (⟨"java/lang/Math", "max", "(II)I"⟩ : MethodName) jdk_29_method_65_code 2 (some .int) ({ frames := 0, cells := 0, slots := 0, locals := 0 } : Room) [] #[(.int p1), (.int p2)] h0 (fun v h => v = some (.int (if p1 < p2 then p2 else p1))) := by
  refine own_body (Jvm.Free.JP.mathPlain rfl (by decide +kernel)) (fun m => ef_m9 m p1 p2) ?_
  intro p e s m below meth c C hC T0 W0
  refine own_iloadN W0 1 d9_0 rfl rfl ?_
  refine own_iloadN W0 2 d9_1 rfl rfl ?_
  suffices J1 : own_Go p e below C T0 (mkF m 10 #[.val (.int p1), .val (.int p2)] [(.int (if p1 < p2 then p2 else p1))]) by
    by_cases c2 : p1 < p2
    · refine own_icmpY W0 9 d9_2 ((tlt c2).1) (by decide) (by decide) ?_
      refine own_iloadN W0 10 d9_9 rfl rfl ?_
      first | (simp only [if_pos c2] at J1; exact J1) | (simp only [if_pos c2] at J1 ⊢; exact J1)
    · refine own_icmpN W0 5 d9_2 ((flt c2).1) rfl ?_
      refine own_iloadN W0 6 d9_5 rfl rfl ?_
      refine own_goto W0 10 d9_6 (by decide) (by decide) ?_
      first | (simp only [if_neg c2] at J1; exact J1) | (simp only [if_neg c2] at J1 ⊢; exact J1)
  refine own_retI (Q := fun v h => v = some (.int (if p1 < p2 then p2 else p1))) W0 hC (by decide) (by decide) d9_10 ?_
  exact rfl
theorem ef_m8 (m : MethodId) (x0 : Addr) (x1 : Int32) : entryFrame m #[(.ref x0), (.int x1)] 4 = mkF m 0 #[.val (.ref x0), .val (.int x1), .unset, .unset] [] := by first | (simp [entryFrame, mkF, argsToLocals, Value.category]; done) | rfl
set_option maxRecDepth 65536 in
set_option maxHeartbeats 40000000 in
theorem own_m8 (l : Launch) (Z : State) (a0 : Array Value) (hw : ∀ d ∈ tables_1, d.before a0 Z = true) (wo : List Jvm.Cond) (h0 : Heap) (a1 : Addr) (de : Addr) (df : Nat → Value) (mc : Int32) (S_de : Sta Z h0 "java/util/ArrayList" "DEFAULTCAPACITY_EMPTY_ELEMENTDATA" "[Ljava/lang/Object;" (.ref de)) (V_de : own_A Z h0 de (.object "java/lang/Object") 0 df) (X_a1 : own_xl Z h0 a1) (Fe_a1 : own_fe Z h0 a1 (.ref de)) (Fs_a1 : own_fs Z h0 a1 (.int (0 : Int32))) (Fm_a1 : own_fm Z h0 a1 (.int mc)) (ne_a1_de : a1 ≠ de) :
    own_M l Z wo (⟨"java/util/ArrayList", "grow", "(I)[Ljava/lang/Object;"⟩ : MethodName) jdk_38_method_6_code 4 (some (.array (.object "java/lang/Object"))) ({ frames := 1, cells := 1, slots := 10, locals := 14 } : Room) [a1] #[(.ref a1), (.int (1 : Int32))] h0 (fun v h => ∃ ed, v = some (.ref ed) ∧ h0.size ≤ ed ∧ own_fe Z h a1 (.ref ed) ∧ own_fs Z h a1 (.int (0 : Int32)) ∧ own_fm Z h a1 (.int mc) ∧ own_R Z h ed "java/lang/Object" 10 (fun _ => .null)) := by
  refine own_body (plainFor_of_name pn_8) (fun m => ef_m8 m a1 (1 : Int32)) ?_
  intro p e s m below meth c C hC T0 W0
  refine own_aloadN W0 1 d8_0 rfl rfl rfl ?_
  refine own_getfield W0 4 d8_1 (wd25 hw) Fe_a1 rfl ?_
  intro T1 W1
  refine own_arraylength W1 (0 : Int32) 5 d8_4 V_de rfl rfl ?_
  refine own_istoreN W1 6 #[.val (.ref a1), .val (.int (1 : Int32)), .val (.int (0 : Int32)), .unset] d8_5 rfl rfl ?_
  refine own_iloadN W1 7 d8_6 rfl rfl ?_
  refine own_ifN W1 10 d8_7 ((if0 _ _).trans (flt ((by decide) : ¬ ((0 : Int32) < (0 : Int32)))).2.2.1) rfl ?_
  refine own_aloadN W1 11 d8_10 rfl rfl rfl ?_
  refine own_getfield W1 14 d8_11 (wd25 hw) Fe_a1 rfl ?_
  intro T2 W2
  refine own_getstatic W2 17 d8_14 (wd24 hw) S_de rfl ?_
  intro T3 W3
  refine own_acmp W3 45 d8_17 rfl rfl (same := true) (decide_eq_true rfl) (by decide) (by decide) ?_
  refine own_aloadN W3 46 d8_45 rfl rfl rfl ?_
  refine own_bipush W3 (10 : Int32) 48 d8_46 rfl rfl ?_
  refine own_iloadN W3 49 d8_48 rfl rfl ?_
  refine own_callS W3 (A := [(.int (10 : Int32)), (.int (1 : Int32))]) (wt := 1) (pc' := 52) (st := [(.ref a1)]) d8_49 (wd52 hw) (wd53 hw) (wd54 hw) (wd55 hw) (by decide) (own_m9 l Z a0 hw [] h0 (10 : Int32) (1 : Int32)) all0 rfl pd_1 rfl (Nat.le_of_eq rfl) (by decide) (by decide) (by decide) (by decide) rfl ?_
  rintro T4 h4 _ W4 K4 P4 rfl
  rw [P4 rfl rfl] at W4
  show own_Go p e below C T4 (mkF m 52 #[.val (.ref a1), .val (.int (1 : Int32)), .val (.int (0 : Int32)), .unset] [(.int (if (10 : Int32) < (1 : Int32) then (1 : Int32) else (10 : Int32))), (.ref a1)])
  rw [show (if (10 : Int32) < (1 : Int32) then (1 : Int32) else (10 : Int32)) = (10 : Int32) from (by decide)]
  refine own_anewarray W4 10 10 55 d8_52 (wd56 hw) (wd57 hw) rfl (Nat.le_refl _) (by decide) (by decide) (by decide) rfl ?_
  intro T5 h5 ed W5 E5 g_ed o_ed V_ed
  have ne_de_ed : de ≠ ed := by rw [g_ed]; exact Nat.ne_of_lt V_de.lt
  have ne_a1_ed : a1 ≠ ed := by rw [g_ed]; exact Nat.ne_of_lt X_a1.lt
  have S_de := S_de.ext E5
  have V_de := V_de.ext E5
  have X_a1 := X_a1.ext E5
  have Fe_a1 := Fe_a1.ext E5
  have Fs_a1 := Fs_a1.ext E5
  have Fm_a1 := Fm_a1.ext E5
  refine own_dup_x1 W5 56 d8_55 rfl rfl rfl ?_
  refine own_putfield W5 (.ref ed) 59 d8_56 (wd25 hw) Fe_a1 X_a1 (Or.inl (wd26 hw)) (wd2 hw) (Or.inl (List.mem_of_getElem? (i := 0) rfl)) (ty := (.array (.object "java/lang/Object"))) (by decide) rfl rfl rfl ?_
  intro T6 h6 W6 Wr6 Fe_a1
  have S_de := S_de.wr Wr6
  have V_de := V_de.other Wr6 (Ne.symm ne_a1_de)
  have X_a1 := X_a1.wr Wr6
  have Fs_a1 := Fs_a1.other Wr6 (Or.inr (slot_ne (Or.inl (wd36 hw)) (Or.inl (wd26 hw)) (by decide) (t := .int) (t' := (.array (.object "java/lang/Object"))) (by decide) (by decide)))
  have Fm_a1 := Fm_a1.other Wr6 (Or.inr (slot_ne (Or.inl (wd23 hw)) (Or.inl (wd26 hw)) (by decide) (t := .int) (t' := (.array (.object "java/lang/Object"))) (by decide) (by decide)))
  have V_ed := V_ed.other Wr6 (Ne.symm ne_a1_ed)
  refine own_retA (Q := fun v h => ∃ ed, v = some (.ref ed) ∧ h0.size ≤ ed ∧ own_fe Z h a1 (.ref ed) ∧ own_fs Z h a1 (.int (0 : Int32)) ∧ own_fm Z h a1 (.int mc) ∧ own_R Z h ed "java/lang/Object" 10 (fun _ => .null)) W6 hC (by decide) (by decide) rfl rfl d8_59 rfl ?_
  exact ⟨ed, rfl, own_le_ W0 o_ed, Fe_a1, Fs_a1, Fm_a1, V_ed⟩
theorem ef_m7 (m : MethodId) (x0 : Addr) : entryFrame m #[(.ref x0)] 1 = mkF m 0 #[.val (.ref x0)] [] := by first | (simp [entryFrame, mkF, argsToLocals, Value.category]; done) | rfl
set_option maxRecDepth 65536 in
set_option maxHeartbeats 40000000 in
theorem own_m7 (l : Launch) (Z : State) (a0 : Array Value) (hw : ∀ d ∈ tables_1, d.before a0 Z = true) (wo : List Jvm.Cond) (h0 : Heap) (a1 : Addr) (de : Addr) (df : Nat → Value) (mc : Int32) (S_de : Sta Z h0 "java/util/ArrayList" "DEFAULTCAPACITY_EMPTY_ELEMENTDATA" "[Ljava/lang/Object;" (.ref de)) (V_de : own_A Z h0 de (.object "java/lang/Object") 0 df) (X_a1 : own_xl Z h0 a1) (Fe_a1 : own_fe Z h0 a1 (.ref de)) (Fs_a1 : own_fs Z h0 a1 (.int (0 : Int32))) (Fm_a1 : own_fm Z h0 a1 (.int mc)) (ne_a1_de : a1 ≠ de) :
    own_M l Z wo (⟨"java/util/ArrayList", "grow", "()[Ljava/lang/Object;"⟩ : MethodName) jdk_38_method_7_code 1 (some (.array (.object "java/lang/Object"))) ({ frames := 2, cells := 1, slots := 10, locals := 29 } : Room) [a1] #[(.ref a1)] h0 (fun v h => ∃ ed, v = some (.ref ed) ∧ h0.size ≤ ed ∧ own_fe Z h a1 (.ref ed) ∧ own_fs Z h a1 (.int (0 : Int32)) ∧ own_fm Z h a1 (.int mc) ∧ own_R Z h ed "java/lang/Object" 10 (fun _ => .null)) := by
  refine own_body (plainFor_of_name pn_7) (fun m => ef_m7 m a1) ?_
  intro p e s m below meth c C hC T0 W0
  refine own_aloadN W0 1 d7_0 rfl rfl rfl ?_
  refine own_aloadN W0 2 d7_1 rfl rfl rfl ?_
  refine own_getfield W0 5 d7_2 (wd35 hw) Fs_a1 rfl ?_
  intro T1 W1
  refine own_iconst W1 (1 : Int32) 6 d7_5 rfl rfl ?_
  refine own_iadd W1 7 d7_6 rfl ?_
  rw [show ((0 : Int32) + (1 : Int32)) = (1 : Int32) from rfl]
  refine own_callP W1 (A := [(.int (1 : Int32))]) (wt := 0) (pc' := 10) (st := []) d7_7 (wd47 hw) (wd48 hw) (wd49 hw) (wd50 hw) rfl (wd3 hw) (wd51 hw) (by decide) X_a1 (own_m8 l Z a0 hw [] h0 a1 de df mc S_de V_de X_a1 Fe_a1 Fs_a1 Fm_a1 ne_a1_de) (allS (Or.inl (List.mem_of_getElem? (i := 0) rfl)) all0) rfl pd_2 rfl (Nat.le_of_eq rfl) (by decide) (by decide) (by decide) (by decide) rfl ?_
  rintro T2 h2 _ W2 K2 P2 ⟨ed, rfl, o_ed, Fe_a1, Fs_a1, Fm_a1, V_ed⟩
  have S_de := own_staK1 S_de K2 X_a1
  have V_de := V_de.keep K2 (ninS (Ne.symm ne_a1_de) nin0)
  have X_a1 := X_a1.keep K2
  show own_Go p e below C T2 (mkF m 10 #[.val (.ref a1)] [(.ref ed)])
  refine own_retA (Q := fun v h => ∃ ed, v = some (.ref ed) ∧ h0.size ≤ ed ∧ own_fe Z h a1 (.ref ed) ∧ own_fs Z h a1 (.int (0 : Int32)) ∧ own_fm Z h a1 (.int mc) ∧ own_R Z h ed "java/lang/Object" 10 (fun _ => .null)) W2 hC (by decide) (by decide) rfl rfl d7_10 rfl ?_
  exact ⟨ed, rfl, o_ed, Fe_a1, Fs_a1, Fm_a1, V_ed⟩
theorem ef_m6a (m : MethodId) (x0 : Addr) (x1 : Addr) (x2 : Addr) (x3 : Int32) : entryFrame m #[(.ref x0), (.ref x1), (.ref x2), (.int x3)] 4 = mkF m 0 #[.val (.ref x0), .val (.ref x1), .val (.ref x2), .val (.int x3)] [] := by first | (simp [entryFrame, mkF, argsToLocals, Value.category]; done) | rfl
set_option maxRecDepth 65536 in
set_option maxHeartbeats 40000000 in
theorem own_m6a (l : Launch) (Z : State) (a0 : Array Value) (hw : ∀ d ∈ tables_1, d.before a0 Z = true) (wo : List Jvm.Cond) (h0 : Heap) (a1 : Addr) (a2 : Addr) (de : Addr) (df : Nat → Value) (mc : Int32) (X_a2 : own_xb Z h0 a2) (S_de : Sta Z h0 "java/util/ArrayList" "DEFAULTCAPACITY_EMPTY_ELEMENTDATA" "[Ljava/lang/Object;" (.ref de)) (V_de : own_A Z h0 de (.object "java/lang/Object") 0 df) (X_a1 : own_xl Z h0 a1) (Fe_a1 : own_fe Z h0 a1 (.ref de)) (Fs_a1 : own_fs Z h0 a1 (.int (0 : Int32))) (Fm_a1 : own_fm Z h0 a1 (.int mc)) (ne_a1_de : a1 ≠ de) :
    own_M l Z wo (⟨"java/util/ArrayList", "add", "(Ljava/lang/Object;[Ljava/lang/Object;I)V"⟩ : MethodName) jdk_38_method_24_code 4 none ({ frames := 3, cells := 1, slots := 10, locals := 41 } : Room) [a1] #[(.ref a1), (.ref a2), (.ref de), (.int (0 : Int32))] h0 (fun v h => v = none ∧ (∃ ed, h0.size ≤ ed ∧ own_fe Z h a1 (.ref ed) ∧ own_fs Z h a1 (.int (1 : Int32)) ∧ own_fm Z h a1 (.int mc) ∧ own_R Z h ed "java/lang/Object" 10 (own_upd (fun _ => .null) 0 (.ref a2)))) := by
  refine own_body (plainFor_of_name pn_6) (fun m => ef_m6a m a1 a2 de (0 : Int32)) ?_
  intro p e s m below meth c C hC T0 W0
  have V_de0 := V_de.lt
  refine own_iloadN W0 1 d6_0 rfl rfl ?_
  refine own_aloadN W0 2 d6_1 rfl rfl rfl ?_
  refine own_arraylength W0 (0 : Int32) 3 d6_2 V_de rfl rfl ?_
  refine own_icmpN W0 6 d6_3 ((teq (rfl : (0 : Int32) = (0 : Int32))).2) rfl ?_
  refine own_aloadN W0 7 d6_6 rfl rfl rfl ?_
  have hal := X_a1.lt
  refine own_callP W0 (A := []) (wt := 0) (pc' := 10) (st := []) d6_7 (wd42 hw) (wd43 hw) (wd44 hw) (wd45 hw) rfl (wd3 hw) (wd46 hw) (by decide) X_a1 (own_m7 l Z a0 hw [] h0 a1 de df mc S_de V_de X_a1 Fe_a1 Fs_a1 Fm_a1 ne_a1_de) (allS (Or.inl (List.mem_of_getElem? (i := 0) rfl)) all0) rfl pd_3 rfl (Nat.le_of_eq rfl) (by decide) (by decide) (by decide) (by decide) rfl ?_
  rintro T1 h1 _ W1 K1 P1 ⟨ed, rfl, o_ed, Fe_a1, Fs_a1, Fm_a1, V_ed⟩
  have X_a2 := X_a2.keep K1
  have S_de := own_staK1 S_de K1 X_a1
  have V_de := V_de.keep K1 (ninS (Ne.symm ne_a1_de) nin0)
  have X_a1 := X_a1.keep K1
  show own_Go p e below C T1 (mkF m 10 #[.val (.ref a1), .val (.ref a2), .val (.ref de), .val (.int (0 : Int32))] [(.ref ed)])
  have ne_a1_ed : a1 ≠ ed := Nat.ne_of_lt (Nat.lt_of_lt_of_le hal o_ed)
  have o_ed' : s.heap.size ≤ ed := Nat.le_trans (own_le W0) o_ed
  have ne_de_ed : de ≠ ed := Nat.ne_of_lt (Nat.lt_of_lt_of_le V_de0 o_ed)
  refine own_astoreN W1 11 #[.val (.ref a1), .val (.ref a2), .val (.ref ed), .val (.int (0 : Int32))] d6_10 rfl rfl rfl ?_
  refine own_aloadN W1 12 d6_11 rfl rfl rfl ?_
  refine own_iloadN W1 13 d6_12 rfl rfl ?_
  refine own_aloadN W1 14 d6_13 rfl rfl rfl ?_
  refine own_aastore W1 0 15 d6_14 V_ed (Ins.of_exa X_a2 (wd58 hw)) (Or.inr o_ed') rfl (by decide) rfl ?_
  intro T2 h2 W2 Wr2 V_ed
  have X_a2 := X_a2.wr Wr2
  have S_de := S_de.wr Wr2
  have V_de := V_de.other Wr2 ne_de_ed
  have X_a1 := X_a1.wr Wr2
  have Fe_a1 := Fe_a1.other Wr2 (Or.inl ne_a1_ed)
  have Fs_a1 := Fs_a1.other Wr2 (Or.inl ne_a1_ed)
  have Fm_a1 := Fm_a1.other Wr2 (Or.inl ne_a1_ed)
  refine own_aloadN W2 16 d6_15 rfl rfl rfl ?_
  refine own_iloadN W2 17 d6_16 rfl rfl ?_
  refine own_iconst W2 (1 : Int32) 18 d6_17 rfl rfl ?_
  refine own_iadd W2 19 d6_18 rfl ?_
  refine own_putfield W2 (.int ((0 : Int32) + (1 : Int32))) 22 d6_19 (wd35 hw) Fs_a1 X_a1 (Or.inl (wd36 hw)) (wd2 hw) (Or.inl (List.mem_of_getElem? (i := 0) rfl)) (ty := .int) (by decide) rfl rfl rfl ?_
  intro T3 h3 W3 Wr3 Fs_a1
  have X_a2 := X_a2.wr Wr3
  have S_de := S_de.wr Wr3
  have V_de := V_de.other Wr3 (Ne.symm ne_a1_de)
  have X_a1 := X_a1.wr Wr3
  have Fe_a1 := Fe_a1.other Wr3 (Or.inr (slot_ne (Or.inl (wd26 hw)) (Or.inl (wd36 hw)) (by decide) (t := (.array (.object "java/lang/Object"))) (t' := .int) (by decide) (by decide)))
  have Fm_a1 := Fm_a1.other Wr3 (Or.inr (slot_ne (Or.inl (wd23 hw)) (Or.inl (wd36 hw)) (by decide) (t := .int) (t' := .int) (by decide) (by decide)))
  have V_ed := V_ed.other Wr3 (Ne.symm ne_a1_ed)
  refine own_retV (Q := fun v h => v = none ∧ (∃ ed, h0.size ≤ ed ∧ own_fe Z h a1 (.ref ed) ∧ own_fs Z h a1 (.int (1 : Int32)) ∧ own_fm Z h a1 (.int mc) ∧ own_R Z h ed "java/lang/Object" 10 (own_upd (fun _ => .null) 0 (.ref a2)))) W3 hC (by decide) (by decide) d6_22 ?_
  exact ⟨rfl, ⟨ed, o_ed, Fe_a1, Fs_a1, Fm_a1, V_ed⟩⟩
theorem ef_m6b (m : MethodId) (x0 : Addr) (x1 : Addr) (x2 : Addr) (x3 : Int32) : entryFrame m #[(.ref x0), (.ref x1), (.ref x2), (.int x3)] 4 = mkF m 0 #[.val (.ref x0), .val (.ref x1), .val (.ref x2), .val (.int x3)] [] := by first | (simp [entryFrame, mkF, argsToLocals, Value.category]; done) | rfl
set_option maxRecDepth 65536 in
set_option maxHeartbeats 40000000 in
theorem own_m6b (l : Launch) (Z : State) (a0 : Array Value) (hw : ∀ d ∈ tables_1, d.before a0 Z = true) (wo : List Jvm.Cond) (h0 : Heap) (a1 : Addr) (a2 : Addr) (a3 : Addr) (p4 : Int32) (mc : Int32) (vf : Nat → Value) (n : Nat) (X_a2 : own_xb Z h0 a2) (X_a1 : own_xl Z h0 a1) (Fe_a1 : own_fe Z h0 a1 (.ref a3)) (Fs_a1 : own_fs Z h0 a1 (.int p4)) (Fm_a1 : own_fm Z h0 a1 (.int mc)) (V_a3 : own_R Z h0 a3 "java/lang/Object" 10 vf) (ne_a1_ed : a1 ≠ a3) (hn : p4.toInt = (n : Int)) (hn10 : n < 10) :
    own_M l Z wo (⟨"java/util/ArrayList", "add", "(Ljava/lang/Object;[Ljava/lang/Object;I)V"⟩ : MethodName) jdk_38_method_24_code 4 none ({ frames := 0, cells := 0, slots := 0, locals := 0 } : Room) [a1, a3] #[(.ref a1), (.ref a2), (.ref a3), (.int p4)] h0 (fun v h => v = none ∧ (own_fe Z h a1 (.ref a3) ∧ own_fs Z h a1 (.int (p4 + (1 : Int32))) ∧ own_fm Z h a1 (.int mc) ∧ own_R Z h a3 "java/lang/Object" 10 (own_upd vf n (.ref a2)))) := by
  refine own_body (plainFor_of_name pn_6) (fun m => ef_m6b m a1 a2 a3 p4) ?_
  intro p e s m below meth c C hC T0 W0
  refine own_iloadN W0 1 d6_0 rfl rfl ?_
  refine own_aloadN W0 2 d6_1 rfl rfl rfl ?_
  have V_a3A := V_a3.A
  refine own_arraylength W0 (10 : Int32) 3 d6_2 V_a3A rfl rfl ?_
  refine own_icmpY W0 11 d6_3 ((feq ((fun q => by rw [q] at hn; have : (10 : Int32).toInt = 10 := rfl; omega) : ¬ (p4 = (10 : Int32)))).2) (by decide) (by decide) ?_
  refine own_aloadN W0 12 d6_11 rfl rfl rfl ?_
  refine own_iloadN W0 13 d6_12 rfl rfl ?_
  refine own_aloadN W0 14 d6_13 rfl rfl rfl ?_
  refine own_aastore W0 n 15 d6_14 V_a3 (Ins.of_exa X_a2 (wd58 hw)) (Or.inl (List.mem_of_getElem? (i := 1) rfl)) hn hn10 rfl ?_
  intro T1 h1 W1 Wr1 V_a3
  have X_a2 := X_a2.wr Wr1
  have X_a1 := X_a1.wr Wr1
  have Fe_a1 := Fe_a1.other Wr1 (Or.inl ne_a1_ed)
  have Fs_a1 := Fs_a1.other Wr1 (Or.inl ne_a1_ed)
  have Fm_a1 := Fm_a1.other Wr1 (Or.inl ne_a1_ed)
  refine own_aloadN W1 16 d6_15 rfl rfl rfl ?_
  refine own_iloadN W1 17 d6_16 rfl rfl ?_
  refine own_iconst W1 (1 : Int32) 18 d6_17 rfl rfl ?_
  refine own_iadd W1 19 d6_18 rfl ?_
  refine own_putfield W1 (.int (p4 + (1 : Int32))) 22 d6_19 (wd35 hw) Fs_a1 X_a1 (Or.inl (wd36 hw)) (wd2 hw) (Or.inl (List.mem_of_getElem? (i := 0) rfl)) (ty := .int) (by decide) rfl rfl rfl ?_
  intro T2 h2 W2 Wr2 Fs_a1
  have X_a2 := X_a2.wr Wr2
  have X_a1 := X_a1.wr Wr2
  have Fe_a1 := Fe_a1.other Wr2 (Or.inr (slot_ne (Or.inl (wd26 hw)) (Or.inl (wd36 hw)) (by decide) (t := (.array (.object "java/lang/Object"))) (t' := .int) (by decide) (by decide)))
  have Fm_a1 := Fm_a1.other Wr2 (Or.inr (slot_ne (Or.inl (wd23 hw)) (Or.inl (wd36 hw)) (by decide) (t := .int) (t' := .int) (by decide) (by decide)))
  have V_a3 := V_a3.other Wr2 (Ne.symm ne_a1_ed)
  refine own_retV (Q := fun v h => v = none ∧ (own_fe Z h a1 (.ref a3) ∧ own_fs Z h a1 (.int (p4 + (1 : Int32))) ∧ own_fm Z h a1 (.int mc) ∧ own_R Z h a3 "java/lang/Object" 10 (own_upd vf n (.ref a2)))) W2 hC (by decide) (by decide) d6_22 ?_
  exact ⟨rfl, ⟨Fe_a1, Fs_a1, Fm_a1, V_a3⟩⟩
theorem ef_m5a (m : MethodId) (x0 : Addr) (x1 : Addr) : entryFrame m #[(.ref x0), (.ref x1)] 2 = mkF m 0 #[.val (.ref x0), .val (.ref x1)] [] := by first | (simp [entryFrame, mkF, argsToLocals, Value.category]; done) | rfl
set_option maxRecDepth 65536 in
set_option maxHeartbeats 40000000 in
theorem own_m5a (l : Launch) (Z : State) (a0 : Array Value) (hw : ∀ d ∈ tables_1, d.before a0 Z = true) (wo : List Jvm.Cond) (h0 : Heap) (a1 : Addr) (a2 : Addr) (de : Addr) (df : Nat → Value) (mc : Int32) (X_a2 : own_xb Z h0 a2) (S_de : Sta Z h0 "java/util/ArrayList" "DEFAULTCAPACITY_EMPTY_ELEMENTDATA" "[Ljava/lang/Object;" (.ref de)) (V_de : own_A Z h0 de (.object "java/lang/Object") 0 df) (X_a1 : own_xl Z h0 a1) (Fe_a1 : own_fe Z h0 a1 (.ref de)) (Fs_a1 : own_fs Z h0 a1 (.int (0 : Int32))) (Fm_a1 : own_fm Z h0 a1 (.int mc)) (ne_a1_de : a1 ≠ de) :
    own_M l Z wo (⟨"java/util/ArrayList", "add", "(Ljava/lang/Object;)Z"⟩ : MethodName) jdk_38_method_25_code 2 (some .boolean) ({ frames := 4, cells := 1, slots := 10, locals := 56 } : Room) [a1] #[(.ref a1), (.ref a2)] h0 (fun v h => v = some (.int ((1 : Int32) &&& 1)) ∧ ∃ ed, h0.size ≤ ed ∧ own_fe Z h a1 (.ref ed) ∧ own_fs Z h a1 (.int (1 : Int32)) ∧ own_fm Z h a1 (.int (mc + (1 : Int32))) ∧ own_R Z h ed "java/lang/Object" 10 (own_upd (fun _ => .null) 0 (.ref a2))) := by
  refine own_body (plainFor_of_name pn_5) (fun m => ef_m5a m a1 a2) ?_
  intro p e s m below meth c C hC T0 W0
  refine own_aloadN W0 1 d5_0 rfl rfl rfl ?_
  refine own_dup W0 2 d5_1 rfl rfl ?_
  refine own_getfieldV W0 5 d5_2 (wd33 hw) (wd34 hw) Fm_a1 rfl ?_
  intro T1 W1
  refine own_iconst W1 (1 : Int32) 6 d5_5 rfl rfl ?_
  refine own_iadd W1 7 d5_6 rfl ?_
  refine own_putfieldV W1 (.int (mc + (1 : Int32))) 10 d5_7 (wd33 hw) (wd34 hw) Fm_a1 X_a1 (Or.inl (wd23 hw)) (wd2 hw) (Or.inl (List.mem_of_getElem? (i := 0) rfl)) (ty := .int) (by decide) rfl rfl rfl ?_
  intro T2 h2 W2 Wr2 Fm_a1
  have X_a2 := X_a2.wr Wr2
  have S_de := S_de.wr Wr2
  have V_de := V_de.other Wr2 (Ne.symm ne_a1_de)
  have X_a1 := X_a1.wr Wr2
  have Fe_a1 := Fe_a1.other Wr2 (Or.inr (slot_ne (Or.inl (wd26 hw)) (Or.inl (wd23 hw)) (by decide) (t := (.array (.object "java/lang/Object"))) (t' := .int) (by decide) (by decide)))
  have Fs_a1 := Fs_a1.other Wr2 (Or.inr (slot_ne (Or.inl (wd36 hw)) (Or.inl (wd23 hw)) (by decide) (t := .int) (t' := .int) (by decide) (by decide)))
  refine own_aloadN W2 11 d5_10 rfl rfl rfl ?_
  refine own_aloadN W2 12 d5_11 rfl rfl rfl ?_
  refine own_aloadN W2 13 d5_12 rfl rfl rfl ?_
  refine own_getfield W2 16 d5_13 (wd25 hw) Fe_a1 rfl ?_
  intro T3 W3
  refine own_aloadN W3 17 d5_16 rfl rfl rfl ?_
  refine own_getfield W3 20 d5_17 (wd35 hw) Fs_a1 rfl ?_
  intro T4 W4
  refine own_callP W4 (A := [(.ref a2), (.ref de), (.int (0 : Int32))]) (wt := 0) (pc' := 23) (st := []) d5_20 (wd37 hw) (wd38 hw) (wd39 hw) (wd40 hw) rfl (wd3 hw) (wd41 hw) (by decide) X_a1 (own_m6a l Z a0 hw [] h2 a1 a2 de df (mc + (1 : Int32)) X_a2 S_de V_de X_a1 Fe_a1 Fs_a1 Fm_a1 ne_a1_de) (allS (Or.inl (List.mem_of_getElem? (i := 0) rfl)) all0) rfl pd_4 rfl (Nat.le_of_eq rfl) (by decide) (by decide) (by decide) (by decide) rfl ?_
  rintro T5 h5 _ W5 K5 P5 ⟨rfl, ⟨ed, o_ed, Fe_a1, Fs_a1, Fm_a1, V_ed⟩⟩
  have X_a2 := X_a2.keep K5
  have S_de := own_staK1 S_de K5 X_a1
  have V_de := V_de.keep K5 (ninS (Ne.symm ne_a1_de) nin0)
  have X_a1 := X_a1.keep K5
  show own_Go p e below C T5 (mkF m 23 #[.val (.ref a1), .val (.ref a2)] [])
  refine own_iconst W5 (1 : Int32) 24 d5_23 rfl rfl ?_
  refine own_retZ (Q := fun v h => v = some (.int ((1 : Int32) &&& 1)) ∧ ∃ ed, h0.size ≤ ed ∧ own_fe Z h a1 (.ref ed) ∧ own_fs Z h a1 (.int (1 : Int32)) ∧ own_fm Z h a1 (.int (mc + (1 : Int32))) ∧ own_R Z h ed "java/lang/Object" 10 (own_upd (fun _ => .null) 0 (.ref a2))) W5 hC (by decide) (by decide) d5_24 ?_
  exact ⟨rfl, ed, Nat.le_trans (Nat.le_of_eq (own_wsz W0 Wr2)) o_ed, Fe_a1, Fs_a1, Fm_a1, V_ed⟩
theorem ef_m5b (m : MethodId) (x0 : Addr) (x1 : Addr) : entryFrame m #[(.ref x0), (.ref x1)] 2 = mkF m 0 #[.val (.ref x0), .val (.ref x1)] [] := by first | (simp [entryFrame, mkF, argsToLocals, Value.category]; done) | rfl
set_option maxRecDepth 65536 in
set_option maxHeartbeats 40000000 in
theorem own_m5b (l : Launch) (Z : State) (a0 : Array Value) (hw : ∀ d ∈ tables_1, d.before a0 Z = true) (wo : List Jvm.Cond) (h0 : Heap) (a1 : Addr) (a2 : Addr) (ed : Addr) (nn : Int32) (mc : Int32) (vf : Nat → Value) (n : Nat) (X_a2 : own_xb Z h0 a2) (X_a1 : own_xl Z h0 a1) (Fe_a1 : own_fe Z h0 a1 (.ref ed)) (Fs_a1 : own_fs Z h0 a1 (.int nn)) (Fm_a1 : own_fm Z h0 a1 (.int mc)) (V_ed : own_R Z h0 ed "java/lang/Object" 10 vf) (ne_a1_ed : a1 ≠ ed) (hn : nn.toInt = (n : Int)) (hn10 : n < 10) :
    own_M l Z wo (⟨"java/util/ArrayList", "add", "(Ljava/lang/Object;)Z"⟩ : MethodName) jdk_38_method_25_code 2 (some .boolean) ({ frames := 1, cells := 0, slots := 0, locals := 15 } : Room) [a1, ed] #[(.ref a1), (.ref a2)] h0 (fun v h => v = some (.int ((1 : Int32) &&& 1)) ∧ own_fe Z h a1 (.ref ed) ∧ own_fs Z h a1 (.int (nn + (1 : Int32))) ∧ own_fm Z h a1 (.int (mc + (1 : Int32))) ∧ own_R Z h ed "java/lang/Object" 10 (own_upd vf n (.ref a2))) := by
  refine own_body (plainFor_of_name pn_5) (fun m => ef_m5b m a1 a2) ?_
  intro p e s m below meth c C hC T0 W0
  refine own_aloadN W0 1 d5_0 rfl rfl rfl ?_
  refine own_dup W0 2 d5_1 rfl rfl ?_
  refine own_getfieldV W0 5 d5_2 (wd33 hw) (wd34 hw) Fm_a1 rfl ?_
  intro T1 W1
  refine own_iconst W1 (1 : Int32) 6 d5_5 rfl rfl ?_
  refine own_iadd W1 7 d5_6 rfl ?_
  refine own_putfieldV W1 (.int (mc + (1 : Int32))) 10 d5_7 (wd33 hw) (wd34 hw) Fm_a1 X_a1 (Or.inl (wd23 hw)) (wd2 hw) (Or.inl (List.mem_of_getElem? (i := 0) rfl)) (ty := .int) (by decide) rfl rfl rfl ?_
  intro T2 h2 W2 Wr2 Fm_a1
  have X_a2 := X_a2.wr Wr2
  have X_a1 := X_a1.wr Wr2
  have Fe_a1 := Fe_a1.other Wr2 (Or.inr (slot_ne (Or.inl (wd26 hw)) (Or.inl (wd23 hw)) (by decide) (t := (.array (.object "java/lang/Object"))) (t' := .int) (by decide) (by decide)))
  have Fs_a1 := Fs_a1.other Wr2 (Or.inr (slot_ne (Or.inl (wd36 hw)) (Or.inl (wd23 hw)) (by decide) (t := .int) (t' := .int) (by decide) (by decide)))
  have V_ed := V_ed.other Wr2 (Ne.symm ne_a1_ed)
  refine own_aloadN W2 11 d5_10 rfl rfl rfl ?_
  refine own_aloadN W2 12 d5_11 rfl rfl rfl ?_
  refine own_aloadN W2 13 d5_12 rfl rfl rfl ?_
  refine own_getfield W2 16 d5_13 (wd25 hw) Fe_a1 rfl ?_
  intro T3 W3
  refine own_aloadN W3 17 d5_16 rfl rfl rfl ?_
  refine own_getfield W3 20 d5_17 (wd35 hw) Fs_a1 rfl ?_
  intro T4 W4
  refine own_callP W4 (A := [(.ref a2), (.ref ed), (.int nn)]) (wt := 0) (pc' := 23) (st := []) d5_20 (wd37 hw) (wd38 hw) (wd39 hw) (wd40 hw) rfl (wd3 hw) (wd41 hw) (by decide) X_a1 (own_m6b l Z a0 hw [] h2 a1 a2 ed nn (mc + (1 : Int32)) vf n X_a2 X_a1 Fe_a1 Fs_a1 Fm_a1 V_ed ne_a1_ed hn hn10) (allS (Or.inl (List.mem_of_getElem? (i := 0) rfl)) (allS (Or.inl (List.mem_of_getElem? (i := 1) rfl)) all0)) rfl pd_4 rfl (Nat.le_of_eq rfl) (by decide) (by decide) (by decide) (by decide) rfl ?_
  rintro T5 h5 _ W5 K5 P5 ⟨rfl, ⟨Fe_a1, Fs_a1, Fm_a1, V_ed⟩⟩
  have X_a2 := X_a2.keep K5
  have X_a1 := X_a1.keep K5
  show own_Go p e below C T5 (mkF m 23 #[.val (.ref a1), .val (.ref a2)] [])
  refine own_iconst W5 (1 : Int32) 24 d5_23 rfl rfl ?_
  refine own_retZ (Q := fun v h => v = some (.int ((1 : Int32) &&& 1)) ∧ own_fe Z h a1 (.ref ed) ∧ own_fs Z h a1 (.int (nn + (1 : Int32))) ∧ own_fm Z h a1 (.int (mc + (1 : Int32))) ∧ own_R Z h ed "java/lang/Object" 10 (own_upd vf n (.ref a2))) W5 hC (by decide) (by decide) d5_24 ?_
  exact ⟨rfl, Fe_a1, Fs_a1, Fm_a1, V_ed⟩
section OwnEl
variable {Z : State} {h h' : Heap}
def own_Ba (Z : State) (h : Heap) (b : Addr) : Prop := ∃ cl : Cell, Arr Z h b cl .byte
theorem own_Ba.keep {b : Addr} {wk : List Addr} (F : own_Ba Z h b) (K : Keep h h' wk) : own_Ba Z h' b := by
  obtain ⟨cl, A⟩ := F
  obtain ⟨c', g1, g2, g3, g4⟩ := K.2.2 b cl A.1
  refine ⟨c', g1, ?_, by rw [g3]; exact A.2.2⟩
  have q := A.2.1
  unfold State.isArrayOf at q ⊢
  rw [g2, g3]
  exact q
theorem own_Ba.wr {b a : Addr} {sl : Nat} {v : Value} (F : own_Ba Z h b) (W : Wr h h' a sl v) : own_Ba Z h' b := F.keep (Keep.of_wr W)
theorem own_Ba.ext {b : Addr} (F : own_Ba Z h b) (E : Ext h h') : own_Ba Z h' b := by
  obtain ⟨cl, A⟩ := F
  exact ⟨cl, A.ext E⟩
theorem own_Ba.A {b : Addr} (F : own_Ba Z h b) : ∃ n f, own_A Z h b .byte n f := by
  obtain ⟨cl, A⟩ := F
  exact ⟨cl.slots.size, fun j => (cl.slots[j]?).getD .null, cl, A, rfl, fun j hj => by simp [hj]⟩
def own_El (Z : State) (h : Heap) (vf : Nat → Value) (lo hi : Nat) : Prop := ∀ j, lo ≤ j → j < hi → ∃ b, vf j = .ref b ∧ own_xb Z h b ∧ own_Ba Z h b
theorem own_El.keep {vf : Nat → Value} {lo hi : Nat} {wk : List Addr} (F : own_El Z h vf lo hi) (K : Keep h h' wk) : own_El Z h' vf lo hi := fun j h1 h2 => by
  obtain ⟨b, q1, q2, q3⟩ := F j h1 h2
  exact ⟨b, q1, q2.keep K, q3.keep K⟩
theorem own_El.wr {vf : Nat → Value} {lo hi : Nat} {a : Addr} {sl : Nat} {v : Value} (F : own_El Z h vf lo hi) (W : Wr h h' a sl v) : own_El Z h' vf lo hi := F.keep (Keep.of_wr W)
theorem own_El.ext {vf : Nat → Value} {lo hi : Nat} (F : own_El Z h vf lo hi) (E : Ext h h') : own_El Z h' vf lo hi := fun j h1 h2 => by
  obtain ⟨b, q1, q2, q3⟩ := F j h1 h2
  exact ⟨b, q1, q2.ext E, q3.ext E⟩
theorem own_El.add {vf : Nat → Value} {n : Nat} {b : Addr} (F : own_El Z h vf 0 n) (X : own_xb Z h b) (B : own_Ba Z h b) : own_El Z h (own_upd vf n (.ref b)) 0 (n + 1) := fun j h1 h2 => by
  unfold own_upd
  by_cases q : j = n
  · rw [if_pos q]; exact ⟨b, rfl, X, B⟩
  · rw [if_neg q]; exact F j h1 (by omega)
theorem own_El.none {vf : Nat → Value} {n : Nat} : own_El Z h vf n n := fun j h1 h2 => absurd h1 (by omega)
def own_Rf (vf : Nat → Value) : Prop := ∀ j, (vf j).isRef = true
theorem own_Rf.upd {vf : Nat → Value} (F : own_Rf vf) (k : Nat) {v : Value} (hv : v.isRef = true) : own_Rf (own_upd vf k v) := fun j => by
  unfold own_upd
  split
  · exact hv
  · exact F j
theorem own_Rf.ite {vf : Nat → Value} (F : own_Rf vf) (i j k : Nat) : own_Rf (fun q => if j ≤ q ∧ q < j + k then vf (i + (q - j)) else vf q) := fun q => by
  show (if j ≤ q ∧ q < j + k then vf (i + (q - j)) else vf q).isRef = true
  split
  · exact F _
  · exact F _
theorem own_stoL {ed : Addr} {N t : Nat} {vf : Nat → Value} (V : own_R Z h ed "java/lang/Object" N vf) (hcast : ∀ b, own_xb Z h b → Ins Z h b "java/lang/Object" true) : ∀ k, own_El Z h vf t (t + k) → StoL Z h ed ((List.range k).map fun u => vf (t + u)) := by
  intro k E
  have hall : ∀ v ∈ ((List.range k).map fun u => vf (t + u)), Sto Z h ed v := by
    intro v hv
    obtain ⟨u, hu, rfl⟩ := List.mem_map.mp hv
    obtain ⟨b, q1, q2, -⟩ := E (t + u) (by omega) (by have := List.mem_range.mp hu; omega)
    rw [q1]
    obtain ⟨cl, A, O, -⟩ := V
    exact Sto.of A O (hcast b q2)
  generalize ((List.range k).map fun u => vf (t + u)) = l at hall
  induction l with
  | nil => trivial
  | cons v r ih => exact ⟨hall v (List.mem_cons_self ..), ih (fun w hw => hall w (List.mem_cons_of_mem _ hw))⟩
end OwnEl
theorem ef_m14 (m : MethodId) (x0 : Addr) (x1 : Addr) : entryFrame m #[(.ref x0), (.ref x1)] 2 = mkF m 0 #[.val (.ref x0), .val (.ref x1)] [] := by first | (simp [entryFrame, mkF, argsToLocals, Value.category]; done) | rfl
set_option maxRecDepth 65536 in
set_option maxHeartbeats 40000000 in
theorem own_m14 (l : Launch) (Z : State) (a0 : Array Value) (hw : ∀ d ∈ tables_1, d.before a0 Z = true) (wo : List Jvm.Cond) (h0 : Heap) (a1 : Addr) (a2 : Addr) (mc : Int32) (X_a1 : own_xi Z h0 a1) (Ft_a1 : own_ft Z h0 a1 .null) (Fc_a1 : own_fc Z h0 a1 (.int (0 : Int32))) (Fr_a1 : own_fr Z h0 a1 (.int (0 : Int32))) (Fx_a1 : own_fx Z h0 a1 (.int (0 : Int32))) (Fm_a2 : own_fm Z h0 a2 (.int mc)) (ne12 : a1 ≠ a2) :
    own_M l Z wo (⟨"java/util/ArrayList$Itr", "<init>", "(Ljava/util/ArrayList;)V"⟩ : MethodName) jdk_49_method_1_code 2 none ({ frames := 1, cells := 0, slots := 0, locals := 12 } : Room) [a1] #[(.ref a1), (.ref a2)] h0 (fun v h => v = none ∧ (own_ft Z h a1 (.ref a2) ∧ own_fc Z h a1 (.int (0 : Int32)) ∧ own_fr Z h a1 (.int (-1 : Int32)) ∧ own_fx Z h a1 (.int mc))) := by
  refine own_body (plainFor_of_name pn_14) (fun m => ef_m14 m a1 a2) ?_
  intro p e s m below meth c C hC T0 W0
  refine own_aloadN W0 1 d14_0 rfl rfl rfl ?_
  refine own_aloadN W0 2 d14_1 rfl rfl rfl ?_
  refine own_putfield W0 (.ref a2) 5 d14_2 (wd98 hw) Ft_a1 X_a1 (Or.inr ⟨(wd99 hw), rfl, rfl⟩) (wd92 hw) (Or.inl (List.mem_of_getElem? (i := 0) rfl)) (ty := (.object "java/util/ArrayList")) (by decide) rfl rfl rfl ?_
  intro T1 h1 W1 Wr1 Ft_a1
  have X_a1 := X_a1.wr Wr1
  have Fc_a1 := Fc_a1.other Wr1 (Or.inr (slot_ne (Or.inl (wd116 hw)) (Or.inr (wd99 hw)) (by decide) (t := .int) (t' := (.object "java/util/ArrayList")) (by decide) (by decide)))
  have Fr_a1 := Fr_a1.other Wr1 (Or.inr (slot_ne (Or.inl (wd102 hw)) (Or.inr (wd99 hw)) (by decide) (t := .int) (t' := (.object "java/util/ArrayList")) (by decide) (by decide)))
  have Fx_a1 := Fx_a1.other Wr1 (Or.inr (slot_ne (Or.inl (wd105 hw)) (Or.inr (wd99 hw)) (by decide) (t := .int) (t' := (.object "java/util/ArrayList")) (by decide) (by decide)))
  have Fm_a2 := Fm_a2.other Wr1 (Or.inl (Ne.symm ne12))
  refine own_aloadN W1 6 d14_5 rfl rfl rfl ?_
  refine own_initO W1 0 9 d14_6 (wd100 hw) (wd20 hw) (wd21 hw) rfl (Nat.le_of_eq rfl) (by decide) (by decide) rfl ?_
  intro T2 W2
  refine own_aloadN W2 10 d14_9 rfl rfl rfl ?_
  refine own_iconst W2 (-1 : Int32) 11 d14_10 rfl rfl ?_
  refine own_putfield W2 (.int (-1 : Int32)) 14 d14_11 (wd101 hw) Fr_a1 X_a1 (Or.inl (wd102 hw)) (wd92 hw) (Or.inl (List.mem_of_getElem? (i := 0) rfl)) (ty := .int) (by decide) rfl rfl rfl ?_
  intro T3 h3 W3 Wr3 Fr_a1
  have X_a1 := X_a1.wr Wr3
  have Ft_a1 := Ft_a1.other Wr3 (Or.inr (slot_ne (Or.inr (wd99 hw)) (Or.inl (wd102 hw)) (by decide) (t := (.object "java/util/ArrayList")) (t' := .int) (by decide) (by decide)))
  have Fc_a1 := Fc_a1.other Wr3 (Or.inr (slot_ne (Or.inl (wd116 hw)) (Or.inl (wd102 hw)) (by decide) (t := .int) (t' := .int) (by decide) (by decide)))
  have Fx_a1 := Fx_a1.other Wr3 (Or.inr (slot_ne (Or.inl (wd105 hw)) (Or.inl (wd102 hw)) (by decide) (t := .int) (t' := .int) (by decide) (by decide)))
  have Fm_a2 := Fm_a2.other Wr3 (Or.inl (Ne.symm ne12))
  refine own_aloadN W3 15 d14_14 rfl rfl rfl ?_
  refine own_aloadN W3 16 d14_15 rfl rfl rfl ?_
  refine own_getfield W3 19 d14_16 (wd98 hw) Ft_a1 rfl ?_
  intro T4 W4
  refine own_getfieldV W4 22 d14_19 (wd103 hw) (wd34 hw) Fm_a2 rfl ?_
  intro T5 W5
  refine own_putfield W5 (.int mc) 25 d14_22 (wd104 hw) Fx_a1 X_a1 (Or.inl (wd105 hw)) (wd92 hw) (Or.inl (List.mem_of_getElem? (i := 0) rfl)) (ty := .int) (by decide) rfl rfl rfl ?_
  intro T6 h6 W6 Wr6 Fx_a1
  have X_a1 := X_a1.wr Wr6
  have Ft_a1 := Ft_a1.other Wr6 (Or.inr (slot_ne (Or.inr (wd99 hw)) (Or.inl (wd105 hw)) (by decide) (t := (.object "java/util/ArrayList")) (t' := .int) (by decide) (by decide)))
  have Fc_a1 := Fc_a1.other Wr6 (Or.inr (slot_ne (Or.inl (wd116 hw)) (Or.inl (wd105 hw)) (by decide) (t := .int) (t' := .int) (by decide) (by decide)))
  have Fr_a1 := Fr_a1.other Wr6 (Or.inr (slot_ne (Or.inl (wd102 hw)) (Or.inl (wd105 hw)) (by decide) (t := .int) (t' := .int) (by decide) (by decide)))
  have Fm_a2 := Fm_a2.other Wr6 (Or.inl (Ne.symm ne12))
  refine own_retV (Q := fun v h => v = none ∧ (own_ft Z h a1 (.ref a2) ∧ own_fc Z h a1 (.int (0 : Int32)) ∧ own_fr Z h a1 (.int (-1 : Int32)) ∧ own_fx Z h a1 (.int mc))) W6 hC (by decide) (by decide) d14_25 ?_
  exact ⟨rfl, ⟨Ft_a1, Fc_a1, Fr_a1, Fx_a1⟩⟩
theorem ef_m13 (m : MethodId) (x0 : Addr) : entryFrame m #[(.ref x0)] 1 = mkF m 0 #[.val (.ref x0)] [] := by first | (simp [entryFrame, mkF, argsToLocals, Value.category]; done) | rfl
set_option maxRecDepth 65536 in
set_option maxHeartbeats 40000000 in
theorem own_m13 (l : Launch) (Z : State) (a0 : Array Value) (hw : ∀ d ∈ tables_1, d.before a0 Z = true) (wo : List Jvm.Cond) (h0 : Heap) (a1 : Addr) (mc : Int32) (Fm_a1 : own_fm Z h0 a1 (.int mc)) :
    own_M l Z wo (⟨"java/util/ArrayList", "iterator", "()Ljava/util/Iterator;"⟩ : MethodName) jdk_38_method_55_code 1 (some (.object "java/util/Iterator")) ({ frames := 2, cells := 1, slots := 4, locals := 26 } : Room) [] #[(.ref a1)] h0 (fun v h => ∃ it, v = some (.ref it) ∧ h0.size ≤ it ∧ own_xi Z h it ∧ own_ft Z h it (.ref a1) ∧ own_fc Z h it (.int (0 : Int32)) ∧ own_fr Z h it (.int (-1 : Int32)) ∧ own_fx Z h it (.int mc)) := by
  refine own_body (plainFor_of_name pn_13) (fun m => ef_m13 m a1) ?_
  intro p e s m below meth c C hC T0 W0
  refine own_new W0 3 d13_0 (wd91 hw) (wd92 hw) (wd93 hw) (by decide) (by decide) rfl ?_
  intro T1 h1 it W1 E1 g_it o_it X_it D_it
  have ne_a1_it : a1 ≠ it := by rw [g_it]; exact Nat.ne_of_lt Fm_a1.lt
  have Fm_a1 := Fm_a1.ext E1
  have Ft_it : own_ft Z h1 it .null := D_it (Or.inr (wd99 hw)) (ty := (.object "java/util/ArrayList")) (by decide)
  have Fr_it : own_fr Z h1 it (.int (0 : Int32)) := D_it (Or.inl (wd102 hw)) (ty := .int) (by decide)
  have Fx_it : own_fx Z h1 it (.int (0 : Int32)) := D_it (Or.inl (wd105 hw)) (ty := .int) (by decide)
  have Fc_it : own_fc Z h1 it (.int (0 : Int32)) := D_it (Or.inl (wd116 hw)) (ty := .int) (by decide)
  refine own_dup W1 4 d13_3 rfl rfl ?_
  refine own_aloadN W1 5 d13_4 rfl rfl rfl ?_
  refine own_callN W1 (A := [(.ref a1)]) (wt := 1) (pc' := 8) (st := [(.ref it)]) d13_5 rfl (wd94 hw) (wd95 hw) (wd93 hw) (wd97 hw) (by decide) (own_m14 l Z a0 hw [] h1 it a1 mc X_it Ft_it Fc_it Fr_it Fx_it Fm_a1 (Ne.symm ne_a1_it)) (allS (Or.inr o_it) all0) rfl pd_5 rfl (Nat.le_of_eq rfl) (by decide) (by decide) (by decide) (by decide) rfl ?_
  rintro T2 h2 _ W2 K2 P2 ⟨rfl, ⟨Ft_it, Fc_it, Fr_it, Fx_it⟩⟩
  have Fm_a1 := Fm_a1.keep K2 (ninS ne_a1_it nin0)
  have X_it := X_it.keep K2
  show own_Go p e below C T2 (mkF m 8 #[.val (.ref a1)] [(.ref it)])
  refine own_retA (Q := fun v h => ∃ it, v = some (.ref it) ∧ h0.size ≤ it ∧ own_xi Z h it ∧ own_ft Z h it (.ref a1) ∧ own_fc Z h it (.int (0 : Int32)) ∧ own_fr Z h it (.int (-1 : Int32)) ∧ own_fx Z h it (.int mc)) W2 hC (by decide) (by decide) rfl rfl d13_8 rfl ?_
  exact ⟨it, rfl, own_le_ W0 o_it, X_it, Ft_it, Fc_it, Fr_it, Fx_it⟩
theorem own_b10 {P : Prop} [Decidable P] : (if P then (0 : Int32) else 1) &&& 1 = if P then (0 : Int32) else 1 := by split <;> rfl
theorem ef_m15 (m : MethodId) (x0 : Addr) : entryFrame m #[(.ref x0)] 1 = mkF m 0 #[.val (.ref x0)] [] := by first | (simp [entryFrame, mkF, argsToLocals, Value.category]; done) | rfl
set_option maxRecDepth 65536 in
set_option maxHeartbeats 40000000 in
theorem own_m15 (l : Launch) (Z : State) (a0 : Array Value) (hw : ∀ d ∈ tables_1, d.before a0 Z = true) (wo : List Jvm.Cond) (h0 : Heap) (a1 : Addr) (li : Addr) (cu : Int32) (lr : Int32) (mc : Int32) (nn : Int32) (X_a1 : own_xi Z h0 a1) (Ft_a1 : own_ft Z h0 a1 (.ref li)) (Fc_a1 : own_fc Z h0 a1 (.int cu)) (Fr_a1 : own_fr Z h0 a1 (.int lr)) (Fx_a1 : own_fx Z h0 a1 (.int mc)) (Fs_li : own_fs Z h0 li (.int nn)) :
    own_M l Z wo (⟨"java/util/ArrayList$Itr", "hasNext", "()Z"⟩ : MethodName) jdk_49_method_2_code 1 (some .boolean) ({ frames := 0, cells := 0, slots := 0, locals := 0 } : Room) [] #[(.ref a1)] h0 (fun v h => v = some (.int (if cu = nn then (0 : Int32) else 1))) := by
  refine own_body (plainFor_of_name pn_15) (fun m => ef_m15 m a1) ?_
  intro p e s m below meth c C hC T0 W0
  refine own_aloadN W0 1 d15_0 rfl rfl rfl ?_
  refine own_getfield W0 4 d15_1 (wd115 hw) Fc_a1 rfl ?_
  intro T1 W1
  refine own_aloadN W1 5 d15_4 rfl rfl rfl ?_
  refine own_getfield W1 8 d15_5 (wd98 hw) Ft_a1 rfl ?_
  intro T2 W2
  refine own_getfieldN W2 11 d15_8 (wd117 hw) Fs_li rfl ?_
  intro T3 W3
  suffices J4 : own_Go p e below C T3 (mkF m 19 #[.val (.ref a1)] [(.int (if cu = nn then (0 : Int32) else (1 : Int32)))]) by
    by_cases c5 : cu = nn
    · refine own_icmpY W3 18 d15_11 ((teq c5).1) (by decide) (by decide) ?_
      refine own_iconst W3 (0 : Int32) 19 d15_18 rfl rfl ?_
      first | (simp only [if_pos c5] at J4; exact J4) | (simp only [if_pos c5] at J4 ⊢; exact J4)
    · refine own_icmpN W3 14 d15_11 ((feq c5).1) rfl ?_
      refine own_iconst W3 (1 : Int32) 15 d15_14 rfl rfl ?_
      refine own_goto W3 19 d15_15 (by decide) (by decide) ?_
      first | (simp only [if_neg c5] at J4; exact J4) | (simp only [if_neg c5] at J4 ⊢; exact J4)
  refine own_retZ (Q := fun v h => v = some (.int (if cu = nn then (0 : Int32) else 1))) W3 hC (by decide) (by decide) d15_19 ?_
  exact (by rw [own_b10])
theorem ef_m17 (m : MethodId) (x0 : Addr) : entryFrame m #[(.ref x0)] 1 = mkF m 0 #[.val (.ref x0)] [] := by first | (simp [entryFrame, mkF, argsToLocals, Value.category]; done) | rfl
set_option maxRecDepth 65536 in
set_option maxHeartbeats 40000000 in
theorem own_m17 (l : Launch) (Z : State) (a0 : Array Value) (hw : ∀ d ∈ tables_1, d.before a0 Z = true) (wo : List Jvm.Cond) (h0 : Heap) (a1 : Addr) (li : Addr) (cu : Int32) (lr : Int32) (mc : Int32) (X_a1 : own_xi Z h0 a1) (Ft_a1 : own_ft Z h0 a1 (.ref li)) (Fc_a1 : own_fc Z h0 a1 (.int cu)) (Fr_a1 : own_fr Z h0 a1 (.int lr)) (Fx_a1 : own_fx Z h0 a1 (.int mc)) (Fm_li : own_fm Z h0 li (.int mc)) :
    own_M l Z wo (⟨"java/util/ArrayList$Itr", "checkForComodification", "()V"⟩ : MethodName) jdk_49_method_6_code 1 none ({ frames := 0, cells := 0, slots := 0, locals := 0 } : Room) [] #[(.ref a1)] h0 (fun v h => v = none ∧ (True)) := by
  refine own_body (plainFor_of_name pn_17) (fun m => ef_m17 m a1) ?_
  intro p e s m below meth c C hC T0 W0
  refine own_aloadN W0 1 d17_0 rfl rfl rfl ?_
  refine own_getfield W0 4 d17_1 (wd98 hw) Ft_a1 rfl ?_
  intro T1 W1
  refine own_getfieldV W1 7 d17_4 (wd103 hw) (wd34 hw) Fm_li rfl ?_
  intro T2 W2
  refine own_aloadN W2 8 d17_7 rfl rfl rfl ?_
  refine own_getfield W2 11 d17_8 (wd104 hw) Fx_a1 rfl ?_
  intro T3 W3
  refine own_icmpY W3 22 d17_11 ((teq (rfl : mc = mc)).1) (by decide) (by decide) ?_
  refine own_retV (Q := fun v h => v = none ∧ (True)) W3 hC (by decide) (by decide) d17_22 ?_
  exact ⟨rfl, trivial⟩
theorem ef_m16 (m : MethodId) (x0 : Addr) : entryFrame m #[(.ref x0)] 3 = mkF m 0 #[.val (.ref x0), .unset, .unset] [] := by first | (simp [entryFrame, mkF, argsToLocals, Value.category]; done) | rfl
set_option maxRecDepth 65536 in
set_option maxHeartbeats 40000000 in
theorem own_m16 (l : Launch) (Z : State) (a0 : Array Value) (hw : ∀ d ∈ tables_1, d.before a0 Z = true) (wo : List Jvm.Cond) (h0 : Heap) (a1 : Addr) (li : Addr) (ed : Addr) (cu : Int32) (lr : Int32) (mc : Int32) (nn : Int32) (vf : Nat → Value) (b : Addr) (i : Nat) (n : Nat) (X_a1 : own_xi Z h0 a1) (Ft_a1 : own_ft Z h0 a1 (.ref li)) (Fc_a1 : own_fc Z h0 a1 (.int cu)) (Fr_a1 : own_fr Z h0 a1 (.int lr)) (Fx_a1 : own_fx Z h0 a1 (.int mc)) (X_li : own_xl Z h0 li) (Fe_li : own_fe Z h0 li (.ref ed)) (Fs_li : own_fs Z h0 li (.int nn)) (Fm_li : own_fm Z h0 li (.int mc)) (V_ed : own_R Z h0 ed "java/lang/Object" 10 vf) (ne1 : a1 ≠ li) (ne2 : a1 ≠ ed) (ne3 : li ≠ ed) (hcu : cu.toInt = (i : Int)) (hnn : nn.toInt = (n : Int)) (hin : i < n) (hn10 : n ≤ 10) (hb_ : vf i = .ref b) :
    own_M l Z wo (⟨"java/util/ArrayList$Itr", "next", "()Ljava/lang/Object;"⟩ : MethodName) jdk_49_method_3_code 3 (some (.object "java/lang/Object")) ({ frames := 1, cells := 0, slots := 0, locals := 12 } : Room) [a1] #[(.ref a1)] h0 (fun v h => v = some (.ref b) ∧ own_ft Z h a1 (.ref li) ∧ own_fc Z h a1 (.int (cu + (1 : Int32))) ∧ own_fr Z h a1 (.int cu) ∧ own_fx Z h a1 (.int mc)) := by
  refine own_body (plainFor_of_name pn_16) (fun m => ef_m16 m a1) ?_
  intro p e s m below meth c C hC T0 W0
  refine own_aloadN W0 1 d16_0 rfl rfl rfl ?_
  refine own_callV W0 (A := []) (wt := 0) (pc' := 4) (st := []) d16_1 (wd126 hw) (wd127 hw) (own_nf W0 (wd129 hw)) (wd129 hw) (wd128 hw) (wd93 hw) (wd130 hw) (by decide) X_a1 (own_m17 l Z a0 hw [] h0 a1 li cu lr mc X_a1 Ft_a1 Fc_a1 Fr_a1 Fx_a1 Fm_li) all0 rfl pd_0 rfl (Nat.le_of_eq rfl) (by decide) (by decide) (by decide) (by decide) rfl ?_
  rintro T1 h1 _ W1 K1 P1 ⟨rfl, -⟩
  rw [P1 rfl rfl] at W1
  show own_Go p e below C T1 (mkF m 4 #[.val (.ref a1), .unset, .unset] [])
  refine own_aloadN W1 5 d16_4 rfl rfl rfl ?_
  refine own_getfield W1 8 d16_5 (wd115 hw) Fc_a1 rfl ?_
  intro T2 W2
  refine own_istoreN W2 9 #[.val (.ref a1), .val (.int cu), .unset] d16_8 rfl rfl ?_
  refine own_iloadN W2 10 d16_9 rfl rfl ?_
  refine own_aloadN W2 11 d16_10 rfl rfl rfl ?_
  refine own_getfield W2 14 d16_11 (wd98 hw) Ft_a1 rfl ?_
  intro T3 W3
  refine own_getfieldN W3 17 d16_14 (wd117 hw) Fs_li rfl ?_
  intro T4 W4
  refine own_icmpY W4 28 d16_17 ((tlt (((own_ltN hcu hnn).mpr hin) : cu < nn)).1) (by decide) (by decide) ?_
  refine own_aloadN W4 29 d16_28 rfl rfl rfl ?_
  refine own_getfield W4 32 d16_29 (wd98 hw) Ft_a1 rfl ?_
  intro T5 W5
  refine own_getfield W5 35 d16_32 (wd131 hw) Fe_li rfl ?_
  intro T6 W6
  refine own_astoreN W6 36 #[.val (.ref a1), .val (.int cu), .val (.ref ed)] d16_35 rfl rfl rfl ?_
  refine own_iloadN W6 37 d16_36 rfl rfl ?_
  refine own_aloadN W6 38 d16_37 rfl rfl rfl ?_
  have V_edA := V_ed.A
  refine own_arraylength W6 (10 : Int32) 39 d16_38 V_edA rfl rfl ?_
  refine own_icmpY W6 50 d16_39 ((tlt (((own_ltN hcu (j := 10) rfl).mpr (by omega)) : cu < (10 : Int32))).1) (by decide) (by decide) ?_
  refine own_aloadN W6 51 d16_50 rfl rfl rfl ?_
  refine own_iloadN W6 52 d16_51 rfl rfl ?_
  refine own_iconst W6 (1 : Int32) 53 d16_52 rfl rfl ?_
  refine own_iadd W6 54 d16_53 rfl ?_
  refine own_putfield W6 (.int (cu + (1 : Int32))) 57 d16_54 (wd115 hw) Fc_a1 X_a1 (Or.inl (wd116 hw)) (wd92 hw) (Or.inl (List.mem_of_getElem? (i := 0) rfl)) (ty := .int) (by decide) rfl rfl rfl ?_
  intro T7 h7 W7 Wr7 Fc_a1
  have X_a1 := X_a1.wr Wr7
  have Ft_a1 := Ft_a1.other Wr7 (Or.inr (slot_ne (Or.inr (wd99 hw)) (Or.inl (wd116 hw)) (by decide) (t := (.object "java/util/ArrayList")) (t' := .int) (by decide) (by decide)))
  have Fr_a1 := Fr_a1.other Wr7 (Or.inr (slot_ne (Or.inl (wd102 hw)) (Or.inl (wd116 hw)) (by decide) (t := .int) (t' := .int) (by decide) (by decide)))
  have Fx_a1 := Fx_a1.other Wr7 (Or.inr (slot_ne (Or.inl (wd105 hw)) (Or.inl (wd116 hw)) (by decide) (t := .int) (t' := .int) (by decide) (by decide)))
  have X_li := X_li.wr Wr7
  have Fe_li := Fe_li.other Wr7 (Or.inl (Ne.symm ne1))
  have Fs_li := Fs_li.other Wr7 (Or.inl (Ne.symm ne1))
  have Fm_li := Fm_li.other Wr7 (Or.inl (Ne.symm ne1))
  have V_ed := V_ed.other Wr7 (Ne.symm ne2)
  refine own_aloadN W7 58 d16_57 rfl rfl rfl ?_
  refine own_aloadN W7 59 d16_58 rfl rfl rfl ?_
  refine own_iloadN W7 60 d16_59 rfl rfl ?_
  refine own_dup_x1 W7 61 d16_60 rfl rfl rfl ?_
  refine own_putfield W7 (.int cu) 64 d16_61 (wd101 hw) Fr_a1 X_a1 (Or.inl (wd102 hw)) (wd92 hw) (Or.inl (List.mem_of_getElem? (i := 0) rfl)) (ty := .int) (by decide) rfl rfl rfl ?_
  intro T8 h8 W8 Wr8 Fr_a1
  have X_a1 := X_a1.wr Wr8
  have Ft_a1 := Ft_a1.other Wr8 (Or.inr (slot_ne (Or.inr (wd99 hw)) (Or.inl (wd102 hw)) (by decide) (t := (.object "java/util/ArrayList")) (t' := .int) (by decide) (by decide)))
  have Fc_a1 := Fc_a1.other Wr8 (Or.inr (slot_ne (Or.inl (wd116 hw)) (Or.inl (wd102 hw)) (by decide) (t := .int) (t' := .int) (by decide) (by decide)))
  have Fx_a1 := Fx_a1.other Wr8 (Or.inr (slot_ne (Or.inl (wd105 hw)) (Or.inl (wd102 hw)) (by decide) (t := .int) (t' := .int) (by decide) (by decide)))
  have X_li := X_li.wr Wr8
  have Fe_li := Fe_li.other Wr8 (Or.inl (Ne.symm ne1))
  have Fs_li := Fs_li.other Wr8 (Or.inl (Ne.symm ne1))
  have Fm_li := Fm_li.other Wr8 (Or.inl (Ne.symm ne1))
  have V_ed := V_ed.other Wr8 (Ne.symm ne2)
  refine own_aaload W8 i (.ref b) 65 d16_64 V_ed hcu (by omega) hb_ rfl ?_
  refine own_retA (Q := fun v h => v = some (.ref b) ∧ own_ft Z h a1 (.ref li) ∧ own_fc Z h a1 (.int (cu + (1 : Int32))) ∧ own_fr Z h a1 (.int cu) ∧ own_fx Z h a1 (.int mc)) W8 hC (by decide) (by decide) rfl rfl d16_65 rfl ?_
  exact ⟨rfl, Ft_a1, Fc_a1, Fr_a1, Fx_a1⟩
theorem ef_m10 (m : MethodId) (x0 : Addr) : entryFrame m #[(.ref x0)] 1 = mkF m 0 #[.val (.ref x0)] [] := by first | (simp [entryFrame, mkF, argsToLocals, Value.category]; done) | rfl
set_option maxRecDepth 65536 in
set_option maxHeartbeats 40000000 in
theorem own_m10 (l : Launch) (Z : State) (a0 : Array Value) (hw : ∀ d ∈ tables_1, d.before a0 Z = true) (wo : List Jvm.Cond) (h0 : Heap) (a1 : Addr) (de : Addr) (S_de : Sta Z h0 "java/util/ArrayList" "DEFAULTCAPACITY_EMPTY_ELEMENTDATA" "[Ljava/lang/Object;" (.ref de)) (X_a1 : own_xm Z h0 a1) (Fg_a1 : own_fg Z h0 a1 .null) (Fp_a1 : own_fp Z h0 a1 (.long (0 : Int64))) (Ff_a1 : own_ff Z h0 a1 (.long (0 : Int64))) (Fl_a1 : own_fl Z h0 a1 (.long (0 : Int64))) :
    own_M l Z wo (⟨"com/example/redelivery/redelivery/engine/MemoryLog", "<init>", "()V"⟩ : MethodName) prog_7_method_1_code 1 none ({ frames := 4, cells := 1, slots := 3, locals := 50 } : Room) [a1] #[(.ref a1)] h0 (fun v h => v = none ∧ (∃ ml, h0.size ≤ ml ∧ own_xl Z h ml ∧ own_fg Z h a1 (.ref ml) ∧ own_fp Z h a1 (.long (0 : Int64)) ∧ own_ff Z h a1 (.long (0 : Int64)) ∧ own_fl Z h a1 (.long (0 : Int64)) ∧ own_fe Z h ml (.ref de) ∧ own_fs Z h ml (.int (0 : Int32)) ∧ own_fm Z h ml (.int (0 : Int32)))) := by
  refine own_body (plainFor_of_name pn_10) (fun m => ef_m10 m a1) ?_
  intro p e s m below meth c C hC T0 W0
  refine own_aloadN W0 1 d10_0 rfl rfl rfl ?_
  refine own_initO W0 0 4 d10_1 (wd65 hw) (wd20 hw) (wd21 hw) rfl (Nat.le_of_eq rfl) (by decide) (by decide) rfl ?_
  intro T1 W1
  refine own_aloadN W1 5 d10_4 rfl rfl rfl ?_
  refine own_new W1 8 d10_5 (wd66 hw) (wd2 hw) (wd3 hw) (by decide) (by decide) rfl ?_
  intro T2 h2 ml W2 E2 g_ml o_ml X_ml D_ml
  have ne_a1_ml : a1 ≠ ml := by rw [g_ml]; exact Nat.ne_of_lt X_a1.lt
  have S_de := S_de.ext E2
  have X_a1 := X_a1.ext E2
  have Fg_a1 := Fg_a1.ext E2
  have Fp_a1 := Fp_a1.ext E2
  have Ff_a1 := Ff_a1.ext E2
  have Fl_a1 := Fl_a1.ext E2
  have Fm_ml : own_fm Z h2 ml (.int (0 : Int32)) := D_ml (Or.inl (wd23 hw)) (ty := .int) (by decide)
  have Fe_ml : own_fe Z h2 ml .null := D_ml (Or.inl (wd26 hw)) (ty := (.array (.object "java/lang/Object"))) (by decide)
  have Fs_ml : own_fs Z h2 ml (.int (0 : Int32)) := D_ml (Or.inl (wd36 hw)) (ty := .int) (by decide)
  refine own_dup W2 9 d10_8 rfl rfl ?_
  refine own_callN W2 (A := []) (wt := 2) (pc' := 12) (st := [(.ref ml), (.ref a1)]) d10_9 rfl (wd67 hw) (wd5 hw) (wd3 hw) (wd6 hw) (by decide) (own_m1 l Z a0 hw [] h2 ml de S_de X_ml Fe_ml Fs_ml Fm_ml) (allS (Or.inr o_ml) all0) rfl pd_0 rfl (Nat.le_of_eq rfl) (by decide) (by decide) (by decide) (by decide) rfl ?_
  rintro T3 h3 _ W3 K3 P3 ⟨rfl, ⟨Fe_ml, Fs_ml, Fm_ml⟩⟩
  have S_de := own_staK1 S_de K3 X_ml
  have X_a1 := X_a1.keep K3
  have Fg_a1 := Fg_a1.keep K3 (ninS ne_a1_ml nin0)
  have Fp_a1 := Fp_a1.keep K3 (ninS ne_a1_ml nin0)
  have Ff_a1 := Ff_a1.keep K3 (ninS ne_a1_ml nin0)
  have Fl_a1 := Fl_a1.keep K3 (ninS ne_a1_ml nin0)
  have X_ml := X_ml.keep K3
  show own_Go p e below C T3 (mkF m 12 #[.val (.ref a1)] [(.ref ml), (.ref a1)])
  refine own_putfield W3 (.ref ml) 15 d10_12 (wd68 hw) Fg_a1 X_a1 (Or.inr ⟨(wd69 hw), rfl, rfl⟩) (wd60 hw) (Or.inl (List.mem_of_getElem? (i := 0) rfl)) (ty := (.object "java/util/List")) (by decide) rfl rfl rfl ?_
  intro T4 h4 W4 Wr4 Fg_a1
  have S_de := S_de.wr Wr4
  have X_a1 := X_a1.wr Wr4
  have Fp_a1 := Fp_a1.other Wr4 (Or.inr (slot_ne (Or.inl (wd141 hw)) (Or.inr (wd69 hw)) (by decide) (t := .long) (t' := (.object "java/util/List")) (by decide) (by decide)))
  have Ff_a1 := Ff_a1.other Wr4 (Or.inr (slot_ne (Or.inl (wd76 hw)) (Or.inr (wd69 hw)) (by decide) (t := .long) (t' := (.object "java/util/List")) (by decide) (by decide)))
  have Fl_a1 := Fl_a1.other Wr4 (Or.inr (slot_ne (Or.inl (wd152 hw)) (Or.inr (wd69 hw)) (by decide) (t := .long) (t' := (.object "java/util/List")) (by decide) (by decide)))
  have X_ml := X_ml.wr Wr4
  have Fe_ml := Fe_ml.other Wr4 (Or.inl (Ne.symm ne_a1_ml))
  have Fs_ml := Fs_ml.other Wr4 (Or.inl (Ne.symm ne_a1_ml))
  have Fm_ml := Fm_ml.other Wr4 (Or.inl (Ne.symm ne_a1_ml))
  refine own_retV (Q := fun v h => v = none ∧ (∃ ml, h0.size ≤ ml ∧ own_xl Z h ml ∧ own_fg Z h a1 (.ref ml) ∧ own_fp Z h a1 (.long (0 : Int64)) ∧ own_ff Z h a1 (.long (0 : Int64)) ∧ own_fl Z h a1 (.long (0 : Int64)) ∧ own_fe Z h ml (.ref de) ∧ own_fs Z h ml (.int (0 : Int32)) ∧ own_fm Z h ml (.int (0 : Int32)))) W4 hC (by decide) (by decide) d10_15 ?_
  exact ⟨rfl, ⟨ml, own_le_ W0 o_ml, X_ml, Fg_a1, Fp_a1, Ff_a1, Fl_a1, Fe_ml, Fs_ml, Fm_ml⟩⟩
theorem ef_m11 (m : MethodId) (x0 : Addr) (x1 : Int64) : entryFrame m #[(.ref x0), (.long x1)] 3 = mkF m 0 #[.val (.ref x0), .val (.long x1), .second] [] := by first | (simp [entryFrame, mkF, argsToLocals, Value.category]; done) | rfl
set_option maxRecDepth 65536 in
set_option maxHeartbeats 40000000 in
theorem own_m11 (l : Launch) (Z : State) (a0 : Array Value) (hw : ∀ d ∈ tables_1, d.before a0 Z = true) (wo : List Jvm.Cond) (h0 : Heap) (a1 : Addr) (q2 : Int64) (fi : Int64) (Ff_a1 : own_ff Z h0 a1 (.long fi)) :
    own_M l Z wo (⟨"com/example/redelivery/redelivery/engine/MemoryLog", "deletesBefore", "(J)Z"⟩ : MethodName) prog_7_method_5_code 3 (some .boolean) ({ frames := 0, cells := 0, slots := 0, locals := 0 } : Room) [] #[(.ref a1), (.long q2)] h0 (fun v h => v = some (.int (if fi < q2 then (1 : Int32) else 0))) := by
  refine own_body (plainFor_of_name pn_11) (fun m => ef_m11 m a1 q2) ?_
  intro p e s m below meth c C hC T0 W0
  refine own_lloadN W0 1 d11_0 rfl rfl ?_
  refine own_aloadN W0 2 d11_1 rfl rfl rfl ?_
  refine own_getfield W0 5 d11_2 (wd75 hw) Ff_a1 rfl ?_
  intro T1 W1
  refine own_lcmp W1 6 d11_5 rfl ?_
  suffices J2 : own_Go p e below C T1 (mkF m 14 #[.val (.ref a1), .val (.long q2), .second] [(.int (if fi < q2 then (1 : Int32) else (0 : Int32)))]) by
    by_cases c3 : fi < q2
    · refine own_ifN W1 9 d11_6 ((if0 _ _).trans (tlt ((lw_gt q2 fi).mpr c3)).2.2.2) rfl ?_
      refine own_iconst W1 (1 : Int32) 10 d11_9 rfl rfl ?_
      refine own_goto W1 14 d11_10 (by decide) (by decide) ?_
      first | (simp only [if_pos c3] at J2; exact J2) | (simp only [if_pos c3] at J2 ⊢; exact J2)
    · refine own_ifY W1 13 d11_6 ((if0 _ _).trans (flt (mt (lw_gt q2 fi).mp c3)).2.2.2) (by decide) (by decide) ?_
      refine own_iconst W1 (0 : Int32) 14 d11_13 rfl rfl ?_
      first | (simp only [if_neg c3] at J2; exact J2) | (simp only [if_neg c3] at J2 ⊢; exact J2)
  refine own_retZ (Q := fun v h => v = some (.int (if fi < q2 then (1 : Int32) else 0))) W1 hC (by decide) (by decide) d11_14 ?_
  exact (by rw [own_bz])
theorem ef_m12_0 (m : MethodId) (x0 : Addr) (x1 : Int64) (x2 : Addr) : entryFrame m #[(.ref x0), (.long x1), (.ref x2)] 6 = mkF m 0 #[.val (.ref x0), .val (.long x1), .second, .val (.ref x2), .unset, .unset] [] := by first | (simp [entryFrame, mkF, argsToLocals, Value.category]; done) | rfl
set_option maxRecDepth 65536 in
set_option maxHeartbeats 40000000 in
theorem own_m12_0 (l : Launch) (Z : State) (a0 : Array Value) (hw : ∀ d ∈ tables_1, d.before a0 Z = true) (wo : List Jvm.Cond) (h0 : Heap) (a1 : Addr) (q2 : Int64) (a3 : Addr) (de : Addr) (df : Nat → Value) (ml : Addr) (pl : Int64) (mca : Int32) (S_de : Sta Z h0 "java/util/ArrayList" "DEFAULTCAPACITY_EMPTY_ELEMENTDATA" "[Ljava/lang/Object;" (.ref de)) (V_de : own_A Z h0 de (.object "java/lang/Object") 0 df) (X_a1 : own_xm Z h0 a1) (Fg_a1 : own_fg Z h0 a1 (.ref ml)) (Fp_a1 : own_fp Z h0 a1 (.long pl)) (Ff_a1 : own_ff Z h0 a1 (.long (0 : Int64))) (Fl_a1 : own_fl Z h0 a1 (.long (0 : Int64))) (X_ml : own_xl Z h0 ml) (Fe_ml : own_fe Z h0 ml (.ref de)) (Fs_ml : own_fs Z h0 ml (.int (0 : Int32))) (Fm_ml : own_fm Z h0 ml (.int (0 : Int32))) (X_a3 : own_xl Z h0 a3) (Fe_a3 : own_fe Z h0 a3 (.ref de)) (Fs_a3 : own_fs Z h0 a3 (.int (0 : Int32))) (Fm_a3 : own_fm Z h0 a3 (.int mca)) (ne_a1_ml : a1 ≠ ml) (ne_a1_a3 : a1 ≠ a3) (ne_ml_a3 : ml ≠ a3) (ne_ml_de : ml ≠ de) (ne_a1_de : a1 ≠ de) (ne_a3_de : a3 ≠ de) :
    own_M l Z wo (⟨"com/example/redelivery/redelivery/engine/MemoryLog", "append", "(JLjava/util/List;)V"⟩ : MethodName) prog_7_method_3_code 6 none ({ frames := 3, cells := 1, slots := 4, locals := 38 } : Room) [a1, ml] #[(.ref a1), (.long q2), (.ref a3)] h0 (fun v h => v = none ∧ (∃ pl', own_fg Z h a1 (.ref ml) ∧ own_fp Z h a1 (.long pl') ∧ own_ff Z h a1 (.long (0 : Int64)) ∧ own_fl Z h a1 (.long (0 : Int64)) ∧ own_fe Z h ml (.ref de) ∧ own_fs Z h ml (.int (0 : Int32)) ∧ own_fm Z h ml (.int (0 : Int32)))) := by
  refine own_body (plainFor_of_name pn_12) (fun m => ef_m12_0 m a1 q2 a3) ?_
  intro p e s m below meth c C hC T0 W0
  refine own_aloadN W0 1 d12_0 rfl rfl rfl ?_
  have hsH := own_le W0
  have q_a1 := X_a1.lt
  have q_ml := X_ml.lt
  have q_a3 := X_a3.lt
  have q_de := V_de.lt
  refine own_callI W0 (A := []) (wt := 0) (pc' := 6) (st := []) d12_1 (wd82 hw) (wd83 hw) (wd84 hw) (by first | rfl | decide +kernel) (wd85 hw) (wd86 hw) (wd87 hw) (wd88 hw) (wd89 hw) (wd3 hw) (wd90 hw) (by decide) X_a3 (own_m13 l Z a0 hw [] h0 a3 mca Fm_a3) all0 rfl pd_6 rfl (Nat.le_of_eq rfl) (by decide) (by decide) (by decide) (by decide) rfl ?_
  rintro T1 h1 _ W1 K1 P1 ⟨it, rfl, o_it, X_it, Ft_it, Fc_it, Fr_it, Fx_it⟩
  have S_de := own_staK0 S_de K1
  have V_de := V_de.keep K1 nin0
  have X_a1 := X_a1.keep K1
  have Fg_a1 := Fg_a1.keep K1 nin0
  have Fp_a1 := Fp_a1.keep K1 nin0
  have Ff_a1 := Ff_a1.keep K1 nin0
  have Fl_a1 := Fl_a1.keep K1 nin0
  have X_ml := X_ml.keep K1
  have Fe_ml := Fe_ml.keep K1 nin0
  have Fs_ml := Fs_ml.keep K1 nin0
  have Fm_ml := Fm_ml.keep K1 nin0
  have X_a3 := X_a3.keep K1
  have Fe_a3 := Fe_a3.keep K1 nin0
  have Fs_a3 := Fs_a3.keep K1 nin0
  have Fm_a3 := Fm_a3.keep K1 nin0
  show own_Go p e below C T1 (mkF m 6 #[.val (.ref a1), .val (.long q2), .second, .val (.ref a3), .unset, .unset] [(.ref it)])
  have ne_a1_it : a1 ≠ it := Nat.ne_of_lt (Nat.lt_of_lt_of_le q_a1 o_it)
  have ne_ml_it : ml ≠ it := Nat.ne_of_lt (Nat.lt_of_lt_of_le q_ml o_it)
  have ne_a3_it : a3 ≠ it := Nat.ne_of_lt (Nat.lt_of_lt_of_le q_a3 o_it)
  have ne_de_it : de ≠ it := Nat.ne_of_lt (Nat.lt_of_lt_of_le q_de o_it)
  have os_it : s.heap.size ≤ it := Nat.le_trans hsH o_it
  refine own_astore W1 8 #[.val (.ref a1), .val (.long q2), .second, .val (.ref a3), .val (.ref it), .unset] d12_6 rfl rfl rfl ?_
  refine own_aload W1 10 d12_8 rfl rfl rfl ?_
  refine own_callI W1 (A := []) (wt := 0) (pc' := 15) (st := []) d12_10 (wd106 hw) (wd107 hw) (wd108 hw) (by first | rfl | decide +kernel) (wd109 hw) (wd110 hw) (wd111 hw) (wd112 hw) (wd113 hw) (wd93 hw) (wd114 hw) (by decide) X_it (own_m15 l Z a0 hw [] h1 it a3 (0 : Int32) (-1 : Int32) mca (0 : Int32) X_it Ft_it Fc_it Fr_it Fx_it Fs_a3) all0 rfl pd_7 rfl (Nat.le_of_eq rfl) (by decide) (by decide) (by decide) (by decide) rfl ?_
  rintro T2 h2 _ W2 K2 P2 rfl
  rw [P2 rfl rfl] at W2
  show own_Go p e below C T2 (mkF m 15 #[.val (.ref a1), .val (.long q2), .second, .val (.ref a3), .val (.ref it), .unset] [(.int (if (0 : Int32) = (0 : Int32) then (0 : Int32) else 1))])
  rw [show (if (0 : Int32) = (0 : Int32) then (0 : Int32) else 1) = (0 : Int32) from (by decide)]
  refine own_ifY W2 58 d12_15 ((if0 _ _).trans (teq (rfl : (0 : Int32) = (0 : Int32))).1) (by decide) (by decide) ?_
  refine own_retV (Q := fun v h => v = none ∧ (∃ pl', own_fg Z h a1 (.ref ml) ∧ own_fp Z h a1 (.long pl') ∧ own_ff Z h a1 (.long (0 : Int64)) ∧ own_fl Z h a1 (.long (0 : Int64)) ∧ own_fe Z h ml (.ref de) ∧ own_fs Z h ml (.int (0 : Int32)) ∧ own_fm Z h ml (.int (0 : Int32)))) W2 hC (by decide) (by decide) d12_58 ?_
  exact ⟨rfl, ⟨_, Fg_a1, Fp_a1, Ff_a1, Fl_a1, Fe_ml, Fs_ml, Fm_ml⟩⟩
theorem ef_m12_1 (m : MethodId) (x0 : Addr) (x1 : Int64) (x2 : Addr) : entryFrame m #[(.ref x0), (.long x1), (.ref x2)] 6 = mkF m 0 #[.val (.ref x0), .val (.long x1), .second, .val (.ref x2), .unset, .unset] [] := by first | (simp [entryFrame, mkF, argsToLocals, Value.category]; done) | rfl
set_option maxRecDepth 65536 in
set_option maxHeartbeats 40000000 in
theorem own_m12_1 (l : Launch) (Z : State) (a0 : Array Value) (hw : ∀ d ∈ tables_1, d.before a0 Z = true) (wo : List Jvm.Cond) (h0 : Heap) (a1 : Addr) (q2 : Int64) (a3 : Addr) (de : Addr) (df : Nat → Value) (ml : Addr) (pl : Int64) (mca : Int32) (ea : Addr) (va : Nat → Value) (S_de : Sta Z h0 "java/util/ArrayList" "DEFAULTCAPACITY_EMPTY_ELEMENTDATA" "[Ljava/lang/Object;" (.ref de)) (V_de : own_A Z h0 de (.object "java/lang/Object") 0 df) (X_a1 : own_xm Z h0 a1) (Fg_a1 : own_fg Z h0 a1 (.ref ml)) (Fp_a1 : own_fp Z h0 a1 (.long pl)) (Ff_a1 : own_ff Z h0 a1 (.long (0 : Int64))) (Fl_a1 : own_fl Z h0 a1 (.long (0 : Int64))) (X_ml : own_xl Z h0 ml) (Fe_ml : own_fe Z h0 ml (.ref de)) (Fs_ml : own_fs Z h0 ml (.int (0 : Int32))) (Fm_ml : own_fm Z h0 ml (.int (0 : Int32))) (X_a3 : own_xl Z h0 a3) (Fe_a3 : own_fe Z h0 a3 (.ref ea)) (Fs_a3 : own_fs Z h0 a3 (.int (1 : Int32))) (Fm_a3 : own_fm Z h0 a3 (.int mca)) (V_ea : own_R Z h0 ea "java/lang/Object" 10 va) (E_a : own_El Z h0 va 0 1) (ne_a1_ml : a1 ≠ ml) (ne_a1_a3 : a1 ≠ a3) (ne_ml_a3 : ml ≠ a3) (ne_ml_de : ml ≠ de) (ne_a1_de : a1 ≠ de) (ne_a3_de : a3 ≠ de) (ne_a1_ea : a1 ≠ ea) (ne_ml_ea : ml ≠ ea) (ne_a3_ea : a3 ≠ ea) (ne_ea_de : ea ≠ de) :
    own_M l Z wo (⟨"com/example/redelivery/redelivery/engine/MemoryLog", "append", "(JLjava/util/List;)V"⟩ : MethodName) prog_7_method_3_code 6 none ({ frames := 5, cells := 2, slots := 14, locals := 69 } : Room) [a1, ml] #[(.ref a1), (.long q2), (.ref a3)] h0 (fun v h => v = none ∧ (∃ pl' em mc' vm, h0.size ≤ em ∧ own_fg Z h a1 (.ref ml) ∧ own_fp Z h a1 (.long pl') ∧ own_ff Z h a1 (.long (0 : Int64)) ∧ own_fl Z h a1 (.long (0 : Int64)) ∧ own_fe Z h ml (.ref em) ∧ own_fs Z h ml (.int (1 : Int32)) ∧ own_fm Z h ml (.int mc') ∧ own_R Z h em "java/lang/Object" 10 vm ∧ own_Rf vm ∧ own_El Z h vm 0 1)) := by
  refine own_body (plainFor_of_name pn_12) (fun m => ef_m12_1 m a1 q2 a3) ?_
  intro p e s m below meth c C hC T0 W0
  refine own_aloadN W0 1 d12_0 rfl rfl rfl ?_
  have hsH := own_le W0
  have q_a1 := X_a1.lt
  have q_ml := X_ml.lt
  have q_a3 := X_a3.lt
  have q_de := V_de.lt
  have q_ea := V_ea.lt
  refine own_callI W0 (A := []) (wt := 0) (pc' := 6) (st := []) d12_1 (wd82 hw) (wd83 hw) (wd84 hw) (by first | rfl | decide +kernel) (wd85 hw) (wd86 hw) (wd87 hw) (wd88 hw) (wd89 hw) (wd3 hw) (wd90 hw) (by decide) X_a3 (own_m13 l Z a0 hw [] h0 a3 mca Fm_a3) all0 rfl pd_6 rfl (Nat.le_of_eq rfl) (by decide) (by decide) (by decide) (by decide) rfl ?_
  rintro T1 h1 _ W1 K1 P1 ⟨it, rfl, o_it, X_it, Ft_it, Fc_it, Fr_it, Fx_it⟩
  have S_de := own_staK0 S_de K1
  have V_de := V_de.keep K1 nin0
  have X_a1 := X_a1.keep K1
  have Fg_a1 := Fg_a1.keep K1 nin0
  have Fp_a1 := Fp_a1.keep K1 nin0
  have Ff_a1 := Ff_a1.keep K1 nin0
  have Fl_a1 := Fl_a1.keep K1 nin0
  have X_ml := X_ml.keep K1
  have Fe_ml := Fe_ml.keep K1 nin0
  have Fs_ml := Fs_ml.keep K1 nin0
  have Fm_ml := Fm_ml.keep K1 nin0
  have X_a3 := X_a3.keep K1
  have Fe_a3 := Fe_a3.keep K1 nin0
  have Fs_a3 := Fs_a3.keep K1 nin0
  have Fm_a3 := Fm_a3.keep K1 nin0
  have V_ea := V_ea.keep K1 nin0
  have E_a := E_a.keep K1
  show own_Go p e below C T1 (mkF m 6 #[.val (.ref a1), .val (.long q2), .second, .val (.ref a3), .unset, .unset] [(.ref it)])
  have ne_a1_it : a1 ≠ it := Nat.ne_of_lt (Nat.lt_of_lt_of_le q_a1 o_it)
  have ne_ml_it : ml ≠ it := Nat.ne_of_lt (Nat.lt_of_lt_of_le q_ml o_it)
  have ne_a3_it : a3 ≠ it := Nat.ne_of_lt (Nat.lt_of_lt_of_le q_a3 o_it)
  have ne_de_it : de ≠ it := Nat.ne_of_lt (Nat.lt_of_lt_of_le q_de o_it)
  have ne_ea_it : ea ≠ it := Nat.ne_of_lt (Nat.lt_of_lt_of_le q_ea o_it)
  have os_it : s.heap.size ≤ it := Nat.le_trans hsH o_it
  refine own_astore W1 8 #[.val (.ref a1), .val (.long q2), .second, .val (.ref a3), .val (.ref it), .unset] d12_6 rfl rfl rfl ?_
  refine own_aload W1 10 d12_8 rfl rfl rfl ?_
  refine own_callI W1 (A := []) (wt := 0) (pc' := 15) (st := []) d12_10 (wd106 hw) (wd107 hw) (wd108 hw) (by first | rfl | decide +kernel) (wd109 hw) (wd110 hw) (wd111 hw) (wd112 hw) (wd113 hw) (wd93 hw) (wd114 hw) (by decide) X_it (own_m15 l Z a0 hw [] h1 it a3 (0 : Int32) (-1 : Int32) mca (1 : Int32) X_it Ft_it Fc_it Fr_it Fx_it Fs_a3) all0 rfl pd_7 rfl (Nat.le_of_eq rfl) (by decide) (by decide) (by decide) (by decide) rfl ?_
  rintro T2 h2 _ W2 K2 P2 rfl
  rw [P2 rfl rfl] at W2
  show own_Go p e below C T2 (mkF m 15 #[.val (.ref a1), .val (.long q2), .second, .val (.ref a3), .val (.ref it), .unset] [(.int (if (0 : Int32) = (1 : Int32) then (0 : Int32) else 1))])
  rw [show (if (0 : Int32) = (1 : Int32) then (0 : Int32) else 1) = (1 : Int32) from (by decide)]
  refine own_ifN W2 18 d12_15 ((if0 _ _).trans (feq ((by decide) : ¬ ((1 : Int32) = (0 : Int32)))).1) rfl ?_
  refine own_aload W2 20 d12_18 rfl rfl rfl ?_
  obtain ⟨b0, eb0, X_b0, B_b0⟩ := E_a 0 (by omega) (by omega)
  refine own_callI W2 (A := []) (wt := 0) (pc' := 25) (st := []) d12_20 (wd118 hw) (wd119 hw) (wd120 hw) (by first | rfl | decide +kernel) (wd121 hw) (wd122 hw) (wd123 hw) (wd124 hw) (wd113 hw) (wd93 hw) (wd125 hw) (by decide) X_it (own_m16 l Z a0 hw [] h1 it a3 ea (0 : Int32) (-1 : Int32) mca (1 : Int32) va b0 0 1 X_it Ft_it Fc_it Fr_it Fx_it X_a3 Fe_a3 Fs_a3 Fm_a3 V_ea (Ne.symm ne_a3_it) (Ne.symm ne_ea_it) ne_a3_ea rfl rfl (by omega) (by omega) eb0) (allS (Or.inr os_it) all0) rfl pd_8 rfl (Nat.le_of_eq rfl) (by decide) (by decide) (by decide) (by decide) rfl ?_
  rintro T3 h3 _ W3 K3 P3 ⟨rfl, Ft_it, Fc_it, Fr_it, Fx_it⟩
  have S_de := own_staK1 S_de K3 X_it
  have V_de := V_de.keep K3 (ninS ne_de_it nin0)
  have X_a1 := X_a1.keep K3
  have Fg_a1 := Fg_a1.keep K3 (ninS ne_a1_it nin0)
  have Fp_a1 := Fp_a1.keep K3 (ninS ne_a1_it nin0)
  have Ff_a1 := Ff_a1.keep K3 (ninS ne_a1_it nin0)
  have Fl_a1 := Fl_a1.keep K3 (ninS ne_a1_it nin0)
  have X_ml := X_ml.keep K3
  have Fe_ml := Fe_ml.keep K3 (ninS ne_ml_it nin0)
  have Fs_ml := Fs_ml.keep K3 (ninS ne_ml_it nin0)
  have Fm_ml := Fm_ml.keep K3 (ninS ne_ml_it nin0)
  have X_a3 := X_a3.keep K3
  have Fe_a3 := Fe_a3.keep K3 (ninS ne_a3_it nin0)
  have Fs_a3 := Fs_a3.keep K3 (ninS ne_a3_it nin0)
  have Fm_a3 := Fm_a3.keep K3 (ninS ne_a3_it nin0)
  have V_ea := V_ea.keep K3 (ninS ne_ea_it nin0)
  have E_a := E_a.keep K3
  have X_it := X_it.keep K3
  have X_b0 := X_b0.keep K3
  have B_b0 := B_b0.keep K3
  show own_Go p e below C T3 (mkF m 25 #[.val (.ref a1), .val (.long q2), .second, .val (.ref a3), .val (.ref it), .unset] [(.ref b0)])
  have Fc_it : own_fc Z h3 it (.int (1 : Int32)) := Fc_it
  refine own_checkcast W3 28 d12_25 (wd132 hw) (Ins.of_exa X_b0 (wd133 hw)) rfl ?_
  intro T4 W4
  refine own_astore W4 30 #[.val (.ref a1), .val (.long q2), .second, .val (.ref a3), .val (.ref it), .val (.ref b0)] d12_28 rfl rfl rfl ?_
  refine own_aloadN W4 31 d12_30 rfl rfl rfl ?_
  refine own_getfield W4 34 d12_31 (wd68 hw) Fg_a1 rfl ?_
  intro T5 W5
  refine own_aload W5 36 d12_34 rfl rfl rfl ?_
  have hsH := own_le W5
  have q_a1 := X_a1.lt
  have q_ml := X_ml.lt
  have q_a3 := X_a3.lt
  have q_de := V_de.lt
  have q_ea := V_ea.lt
  have q_it := X_it.lt
  refine own_callI W5 (A := [(.ref b0)]) (wt := 0) (pc' := 41) (st := []) d12_36 (wd134 hw) (wd135 hw) (wd136 hw) (by first | rfl | decide +kernel) (wd137 hw) (wd30 hw) (wd138 hw) (wd139 hw) (wd89 hw) (wd3 hw) (wd32 hw) (by decide) X_ml (own_m5a l Z a0 hw [] h3 ml b0 de df (0 : Int32) X_b0 S_de V_de X_ml Fe_ml Fs_ml Fm_ml ne_ml_de) (allS (Or.inl (List.mem_of_getElem? (i := 1) rfl)) all0) rfl pd_9 rfl (Nat.le_of_eq rfl) (by decide) (by decide) (by decide) (by decide) rfl ?_
  rintro T6 h6 _ W6 K6 P6 ⟨rfl, em, o_em, Fe_ml, Fs_ml, Fm_ml, V_em⟩
  have S_de := own_staK1 S_de K6 X_ml
  have V_de := V_de.keep K6 (ninS (Ne.symm ne_ml_de) nin0)
  have X_a1 := X_a1.keep K6
  have Fg_a1 := Fg_a1.keep K6 (ninS ne_a1_ml nin0)
  have Fp_a1 := Fp_a1.keep K6 (ninS ne_a1_ml nin0)
  have Ff_a1 := Ff_a1.keep K6 (ninS ne_a1_ml nin0)
  have Fl_a1 := Fl_a1.keep K6 (ninS ne_a1_ml nin0)
  have X_ml := X_ml.keep K6
  have X_a3 := X_a3.keep K6
  have Fe_a3 := Fe_a3.keep K6 (ninS (Ne.symm ne_ml_a3) nin0)
  have Fs_a3 := Fs_a3.keep K6 (ninS (Ne.symm ne_ml_a3) nin0)
  have Fm_a3 := Fm_a3.keep K6 (ninS (Ne.symm ne_ml_a3) nin0)
  have V_ea := V_ea.keep K6 (ninS (Ne.symm ne_ml_ea) nin0)
  have E_a := E_a.keep K6
  have X_it := X_it.keep K6
  have X_b0 := X_b0.keep K6
  have B_b0 := B_b0.keep K6
  have Ft_it := Ft_it.keep K6 (ninS (Ne.symm ne_ml_it) nin0)
  have Fc_it := Fc_it.keep K6 (ninS (Ne.symm ne_ml_it) nin0)
  have Fr_it := Fr_it.keep K6 (ninS (Ne.symm ne_ml_it) nin0)
  have Fx_it := Fx_it.keep K6 (ninS (Ne.symm ne_ml_it) nin0)
  show own_Go p e below C T6 (mkF m 41 #[.val (.ref a1), .val (.long q2), .second, .val (.ref a3), .val (.ref it), .val (.ref b0)] [(.int ((1 : Int32) &&& 1))])
  have ne_a1_em : a1 ≠ em := Nat.ne_of_lt (Nat.lt_of_lt_of_le q_a1 o_em)
  have ne_ml_em : ml ≠ em := Nat.ne_of_lt (Nat.lt_of_lt_of_le q_ml o_em)
  have ne_a3_em : a3 ≠ em := Nat.ne_of_lt (Nat.lt_of_lt_of_le q_a3 o_em)
  have ne_de_em : de ≠ em := Nat.ne_of_lt (Nat.lt_of_lt_of_le q_de o_em)
  have ne_ea_em : ea ≠ em := Nat.ne_of_lt (Nat.lt_of_lt_of_le q_ea o_em)
  have ne_it_em : it ≠ em := Nat.ne_of_lt (Nat.lt_of_lt_of_le q_it o_em)
  have os_em : s.heap.size ≤ em := Nat.le_trans hsH o_em
  have Fs_ml : own_fs Z h6 ml (.int (1 : Int32)) := Fs_ml
  refine own_pop W6 42 d12_41 rfl rfl ?_
  refine own_aloadN W6 43 d12_42 rfl rfl rfl ?_
  refine own_dup W6 44 d12_43 rfl rfl ?_
  refine own_getfield W6 47 d12_44 (wd140 hw) Fp_a1 rfl ?_
  intro T7 W7
  refine own_aload W7 49 d12_47 rfl rfl rfl ?_
  obtain ⟨ln0, lf0, V_b0⟩ := B_b0.A
  refine own_arraylength W7 ln0.toInt32 50 d12_49 V_b0 rfl rfl ?_
  refine own_i2l W7 51 d12_50 rfl ?_
  refine own_ladd W7 52 d12_51 rfl ?_
  refine own_putfield W7 (.long (pl + ln0.toInt32.toInt64)) 55 d12_52 (wd140 hw) Fp_a1 X_a1 (Or.inl (wd141 hw)) (wd60 hw) (Or.inl (List.mem_of_getElem? (i := 0) rfl)) (ty := .long) (by decide) rfl rfl rfl ?_
  intro T8 h8 W8 Wr8 Fp_a1
  have X_a1 := X_a1.wr Wr8
  have Fg_a1 := Fg_a1.other Wr8 (Or.inr (slot_ne (Or.inr (wd69 hw)) (Or.inl (wd141 hw)) (by decide) (t := (.object "java/util/List")) (t' := .long) (by decide) (by decide)))
  have Ff_a1 := Ff_a1.other Wr8 (Or.inr (slot_ne (Or.inl (wd76 hw)) (Or.inl (wd141 hw)) (by decide) (t := .long) (t' := .long) (by decide) (by decide)))
  have Fl_a1 := Fl_a1.other Wr8 (Or.inr (slot_ne (Or.inl (wd152 hw)) (Or.inl (wd141 hw)) (by decide) (t := .long) (t' := .long) (by decide) (by decide)))
  have X_ml := X_ml.wr Wr8
  have X_a3 := X_a3.wr Wr8
  have Fe_a3 := Fe_a3.other Wr8 (Or.inl (Ne.symm ne_a1_a3))
  have Fs_a3 := Fs_a3.other Wr8 (Or.inl (Ne.symm ne_a1_a3))
  have Fm_a3 := Fm_a3.other Wr8 (Or.inl (Ne.symm ne_a1_a3))
  have V_ea := V_ea.other Wr8 (Ne.symm ne_a1_ea)
  have E_a := E_a.wr Wr8
  have X_it := X_it.wr Wr8
  have X_b0 := X_b0.wr Wr8
  have B_b0 := B_b0.wr Wr8
  have Ft_it := Ft_it.other Wr8 (Or.inl (Ne.symm ne_a1_it))
  have Fc_it := Fc_it.other Wr8 (Or.inl (Ne.symm ne_a1_it))
  have Fr_it := Fr_it.other Wr8 (Or.inl (Ne.symm ne_a1_it))
  have Fx_it := Fx_it.other Wr8 (Or.inl (Ne.symm ne_a1_it))
  have Fe_ml := Fe_ml.other Wr8 (Or.inl (Ne.symm ne_a1_ml))
  have Fs_ml := Fs_ml.other Wr8 (Or.inl (Ne.symm ne_a1_ml))
  have Fm_ml := Fm_ml.other Wr8 (Or.inl (Ne.symm ne_a1_ml))
  have V_em := V_em.other Wr8 (Ne.symm ne_a1_em)
  refine own_goto W8 8 d12_55 (by decide) (by decide) ?_
  refine own_aload W8 10 d12_8 rfl rfl rfl ?_
  refine own_callI W8 (A := []) (wt := 0) (pc' := 15) (st := []) d12_10 (wd106 hw) (wd107 hw) (wd108 hw) (by first | rfl | decide +kernel) (wd109 hw) (wd110 hw) (wd111 hw) (wd112 hw) (wd113 hw) (wd93 hw) (wd114 hw) (by decide) X_it (own_m15 l Z a0 hw [] h8 it a3 (1 : Int32) (0 : Int32) mca (1 : Int32) X_it Ft_it Fc_it Fr_it Fx_it Fs_a3) all0 rfl pd_7 rfl (Nat.le_of_eq rfl) (by decide) (by decide) (by decide) (by decide) rfl ?_
  rintro T9 h9 _ W9 K9 P9 rfl
  rw [P9 rfl rfl] at W9
  show own_Go p e below C T9 (mkF m 15 #[.val (.ref a1), .val (.long q2), .second, .val (.ref a3), .val (.ref it), .val (.ref b0)] [(.int (if (1 : Int32) = (1 : Int32) then (0 : Int32) else 1))])
  rw [show (if (1 : Int32) = (1 : Int32) then (0 : Int32) else 1) = (0 : Int32) from (by decide)]
  refine own_ifY W9 58 d12_15 ((if0 _ _).trans (teq (rfl : (0 : Int32) = (0 : Int32))).1) (by decide) (by decide) ?_
  refine own_retV (Q := fun v h => v = none ∧ (∃ pl' em mc' vm, h0.size ≤ em ∧ own_fg Z h a1 (.ref ml) ∧ own_fp Z h a1 (.long pl') ∧ own_ff Z h a1 (.long (0 : Int64)) ∧ own_fl Z h a1 (.long (0 : Int64)) ∧ own_fe Z h ml (.ref em) ∧ own_fs Z h ml (.int (1 : Int32)) ∧ own_fm Z h ml (.int mc') ∧ own_R Z h em "java/lang/Object" 10 vm ∧ own_Rf vm ∧ own_El Z h vm 0 1)) W9 hC (by decide) (by decide) d12_58 ?_
  exact ⟨rfl, ⟨_, em, _, _, own_le_ W0 os_em, Fg_a1, Fp_a1, Ff_a1, Fl_a1, Fe_ml, Fs_ml, Fm_ml, V_em, (own_Rf.upd (fun _ => rfl) 0 rfl), (own_El.add own_El.none X_b0 B_b0)⟩⟩
theorem ef_m12_2 (m : MethodId) (x0 : Addr) (x1 : Int64) (x2 : Addr) : entryFrame m #[(.ref x0), (.long x1), (.ref x2)] 6 = mkF m 0 #[.val (.ref x0), .val (.long x1), .second, .val (.ref x2), .unset, .unset] [] := by first | (simp [entryFrame, mkF, argsToLocals, Value.category]; done) | rfl
set_option maxRecDepth 65536 in
set_option maxHeartbeats 40000000 in
theorem own_m12_2 (l : Launch) (Z : State) (a0 : Array Value) (hw : ∀ d ∈ tables_1, d.before a0 Z = true) (wo : List Jvm.Cond) (h0 : Heap) (a1 : Addr) (q2 : Int64) (a3 : Addr) (de : Addr) (df : Nat → Value) (ml : Addr) (pl : Int64) (mca : Int32) (ea : Addr) (va : Nat → Value) (S_de : Sta Z h0 "java/util/ArrayList" "DEFAULTCAPACITY_EMPTY_ELEMENTDATA" "[Ljava/lang/Object;" (.ref de)) (V_de : own_A Z h0 de (.object "java/lang/Object") 0 df) (X_a1 : own_xm Z h0 a1) (Fg_a1 : own_fg Z h0 a1 (.ref ml)) (Fp_a1 : own_fp Z h0 a1 (.long pl)) (Ff_a1 : own_ff Z h0 a1 (.long (0 : Int64))) (Fl_a1 : own_fl Z h0 a1 (.long (0 : Int64))) (X_ml : own_xl Z h0 ml) (Fe_ml : own_fe Z h0 ml (.ref de)) (Fs_ml : own_fs Z h0 ml (.int (0 : Int32))) (Fm_ml : own_fm Z h0 ml (.int (0 : Int32))) (X_a3 : own_xl Z h0 a3) (Fe_a3 : own_fe Z h0 a3 (.ref ea)) (Fs_a3 : own_fs Z h0 a3 (.int (2 : Int32))) (Fm_a3 : own_fm Z h0 a3 (.int mca)) (V_ea : own_R Z h0 ea "java/lang/Object" 10 va) (E_a : own_El Z h0 va 0 2) (ne_a1_ml : a1 ≠ ml) (ne_a1_a3 : a1 ≠ a3) (ne_ml_a3 : ml ≠ a3) (ne_ml_de : ml ≠ de) (ne_a1_de : a1 ≠ de) (ne_a3_de : a3 ≠ de) (ne_a1_ea : a1 ≠ ea) (ne_ml_ea : ml ≠ ea) (ne_a3_ea : a3 ≠ ea) (ne_ea_de : ea ≠ de) :
    own_M l Z wo (⟨"com/example/redelivery/redelivery/engine/MemoryLog", "append", "(JLjava/util/List;)V"⟩ : MethodName) prog_7_method_3_code 6 none ({ frames := 5, cells := 2, slots := 14, locals := 69 } : Room) [a1, ml] #[(.ref a1), (.long q2), (.ref a3)] h0 (fun v h => v = none ∧ (∃ pl' em mc' vm, h0.size ≤ em ∧ own_fg Z h a1 (.ref ml) ∧ own_fp Z h a1 (.long pl') ∧ own_ff Z h a1 (.long (0 : Int64)) ∧ own_fl Z h a1 (.long (0 : Int64)) ∧ own_fe Z h ml (.ref em) ∧ own_fs Z h ml (.int (2 : Int32)) ∧ own_fm Z h ml (.int mc') ∧ own_R Z h em "java/lang/Object" 10 vm ∧ own_Rf vm ∧ own_El Z h vm 0 2)) := by
  refine own_body (plainFor_of_name pn_12) (fun m => ef_m12_2 m a1 q2 a3) ?_
  intro p e s m below meth c C hC T0 W0
  refine own_aloadN W0 1 d12_0 rfl rfl rfl ?_
  have hsH := own_le W0
  have q_a1 := X_a1.lt
  have q_ml := X_ml.lt
  have q_a3 := X_a3.lt
  have q_de := V_de.lt
  have q_ea := V_ea.lt
  refine own_callI W0 (A := []) (wt := 0) (pc' := 6) (st := []) d12_1 (wd82 hw) (wd83 hw) (wd84 hw) (by first | rfl | decide +kernel) (wd85 hw) (wd86 hw) (wd87 hw) (wd88 hw) (wd89 hw) (wd3 hw) (wd90 hw) (by decide) X_a3 (own_m13 l Z a0 hw [] h0 a3 mca Fm_a3) all0 rfl pd_6 rfl (Nat.le_of_eq rfl) (by decide) (by decide) (by decide) (by decide) rfl ?_
  rintro T1 h1 _ W1 K1 P1 ⟨it, rfl, o_it, X_it, Ft_it, Fc_it, Fr_it, Fx_it⟩
  have S_de := own_staK0 S_de K1
  have V_de := V_de.keep K1 nin0
  have X_a1 := X_a1.keep K1
  have Fg_a1 := Fg_a1.keep K1 nin0
  have Fp_a1 := Fp_a1.keep K1 nin0
  have Ff_a1 := Ff_a1.keep K1 nin0
  have Fl_a1 := Fl_a1.keep K1 nin0
  have X_ml := X_ml.keep K1
  have Fe_ml := Fe_ml.keep K1 nin0
  have Fs_ml := Fs_ml.keep K1 nin0
  have Fm_ml := Fm_ml.keep K1 nin0
  have X_a3 := X_a3.keep K1
  have Fe_a3 := Fe_a3.keep K1 nin0
  have Fs_a3 := Fs_a3.keep K1 nin0
  have Fm_a3 := Fm_a3.keep K1 nin0
  have V_ea := V_ea.keep K1 nin0
  have E_a := E_a.keep K1
  show own_Go p e below C T1 (mkF m 6 #[.val (.ref a1), .val (.long q2), .second, .val (.ref a3), .unset, .unset] [(.ref it)])
  have ne_a1_it : a1 ≠ it := Nat.ne_of_lt (Nat.lt_of_lt_of_le q_a1 o_it)
  have ne_ml_it : ml ≠ it := Nat.ne_of_lt (Nat.lt_of_lt_of_le q_ml o_it)
  have ne_a3_it : a3 ≠ it := Nat.ne_of_lt (Nat.lt_of_lt_of_le q_a3 o_it)
  have ne_de_it : de ≠ it := Nat.ne_of_lt (Nat.lt_of_lt_of_le q_de o_it)
  have ne_ea_it : ea ≠ it := Nat.ne_of_lt (Nat.lt_of_lt_of_le q_ea o_it)
  have os_it : s.heap.size ≤ it := Nat.le_trans hsH o_it
  refine own_astore W1 8 #[.val (.ref a1), .val (.long q2), .second, .val (.ref a3), .val (.ref it), .unset] d12_6 rfl rfl rfl ?_
  refine own_aload W1 10 d12_8 rfl rfl rfl ?_
  refine own_callI W1 (A := []) (wt := 0) (pc' := 15) (st := []) d12_10 (wd106 hw) (wd107 hw) (wd108 hw) (by first | rfl | decide +kernel) (wd109 hw) (wd110 hw) (wd111 hw) (wd112 hw) (wd113 hw) (wd93 hw) (wd114 hw) (by decide) X_it (own_m15 l Z a0 hw [] h1 it a3 (0 : Int32) (-1 : Int32) mca (2 : Int32) X_it Ft_it Fc_it Fr_it Fx_it Fs_a3) all0 rfl pd_7 rfl (Nat.le_of_eq rfl) (by decide) (by decide) (by decide) (by decide) rfl ?_
  rintro T2 h2 _ W2 K2 P2 rfl
  rw [P2 rfl rfl] at W2
  show own_Go p e below C T2 (mkF m 15 #[.val (.ref a1), .val (.long q2), .second, .val (.ref a3), .val (.ref it), .unset] [(.int (if (0 : Int32) = (2 : Int32) then (0 : Int32) else 1))])
  rw [show (if (0 : Int32) = (2 : Int32) then (0 : Int32) else 1) = (1 : Int32) from (by decide)]
  refine own_ifN W2 18 d12_15 ((if0 _ _).trans (feq ((by decide) : ¬ ((1 : Int32) = (0 : Int32)))).1) rfl ?_
  refine own_aload W2 20 d12_18 rfl rfl rfl ?_
  obtain ⟨b0, eb0, X_b0, B_b0⟩ := E_a 0 (by omega) (by omega)
  refine own_callI W2 (A := []) (wt := 0) (pc' := 25) (st := []) d12_20 (wd118 hw) (wd119 hw) (wd120 hw) (by first | rfl | decide +kernel) (wd121 hw) (wd122 hw) (wd123 hw) (wd124 hw) (wd113 hw) (wd93 hw) (wd125 hw) (by decide) X_it (own_m16 l Z a0 hw [] h1 it a3 ea (0 : Int32) (-1 : Int32) mca (2 : Int32) va b0 0 2 X_it Ft_it Fc_it Fr_it Fx_it X_a3 Fe_a3 Fs_a3 Fm_a3 V_ea (Ne.symm ne_a3_it) (Ne.symm ne_ea_it) ne_a3_ea rfl rfl (by omega) (by omega) eb0) (allS (Or.inr os_it) all0) rfl pd_8 rfl (Nat.le_of_eq rfl) (by decide) (by decide) (by decide) (by decide) rfl ?_
  rintro T3 h3 _ W3 K3 P3 ⟨rfl, Ft_it, Fc_it, Fr_it, Fx_it⟩
  have S_de := own_staK1 S_de K3 X_it
  have V_de := V_de.keep K3 (ninS ne_de_it nin0)
  have X_a1 := X_a1.keep K3
  have Fg_a1 := Fg_a1.keep K3 (ninS ne_a1_it nin0)
  have Fp_a1 := Fp_a1.keep K3 (ninS ne_a1_it nin0)
  have Ff_a1 := Ff_a1.keep K3 (ninS ne_a1_it nin0)
  have Fl_a1 := Fl_a1.keep K3 (ninS ne_a1_it nin0)
  have X_ml := X_ml.keep K3
  have Fe_ml := Fe_ml.keep K3 (ninS ne_ml_it nin0)
  have Fs_ml := Fs_ml.keep K3 (ninS ne_ml_it nin0)
  have Fm_ml := Fm_ml.keep K3 (ninS ne_ml_it nin0)
  have X_a3 := X_a3.keep K3
  have Fe_a3 := Fe_a3.keep K3 (ninS ne_a3_it nin0)
  have Fs_a3 := Fs_a3.keep K3 (ninS ne_a3_it nin0)
  have Fm_a3 := Fm_a3.keep K3 (ninS ne_a3_it nin0)
  have V_ea := V_ea.keep K3 (ninS ne_ea_it nin0)
  have E_a := E_a.keep K3
  have X_it := X_it.keep K3
  have X_b0 := X_b0.keep K3
  have B_b0 := B_b0.keep K3
  show own_Go p e below C T3 (mkF m 25 #[.val (.ref a1), .val (.long q2), .second, .val (.ref a3), .val (.ref it), .unset] [(.ref b0)])
  have Fc_it : own_fc Z h3 it (.int (1 : Int32)) := Fc_it
  refine own_checkcast W3 28 d12_25 (wd132 hw) (Ins.of_exa X_b0 (wd133 hw)) rfl ?_
  intro T4 W4
  refine own_astore W4 30 #[.val (.ref a1), .val (.long q2), .second, .val (.ref a3), .val (.ref it), .val (.ref b0)] d12_28 rfl rfl rfl ?_
  refine own_aloadN W4 31 d12_30 rfl rfl rfl ?_
  refine own_getfield W4 34 d12_31 (wd68 hw) Fg_a1 rfl ?_
  intro T5 W5
  refine own_aload W5 36 d12_34 rfl rfl rfl ?_
  have hsH := own_le W5
  have q_a1 := X_a1.lt
  have q_ml := X_ml.lt
  have q_a3 := X_a3.lt
  have q_de := V_de.lt
  have q_ea := V_ea.lt
  have q_it := X_it.lt
  refine own_callI W5 (A := [(.ref b0)]) (wt := 0) (pc' := 41) (st := []) d12_36 (wd134 hw) (wd135 hw) (wd136 hw) (by first | rfl | decide +kernel) (wd137 hw) (wd30 hw) (wd138 hw) (wd139 hw) (wd89 hw) (wd3 hw) (wd32 hw) (by decide) X_ml (own_m5a l Z a0 hw [] h3 ml b0 de df (0 : Int32) X_b0 S_de V_de X_ml Fe_ml Fs_ml Fm_ml ne_ml_de) (allS (Or.inl (List.mem_of_getElem? (i := 1) rfl)) all0) rfl pd_9 rfl (Nat.le_of_eq rfl) (by decide) (by decide) (by decide) (by decide) rfl ?_
  rintro T6 h6 _ W6 K6 P6 ⟨rfl, em, o_em, Fe_ml, Fs_ml, Fm_ml, V_em⟩
  have S_de := own_staK1 S_de K6 X_ml
  have V_de := V_de.keep K6 (ninS (Ne.symm ne_ml_de) nin0)
  have X_a1 := X_a1.keep K6
  have Fg_a1 := Fg_a1.keep K6 (ninS ne_a1_ml nin0)
  have Fp_a1 := Fp_a1.keep K6 (ninS ne_a1_ml nin0)
  have Ff_a1 := Ff_a1.keep K6 (ninS ne_a1_ml nin0)
  have Fl_a1 := Fl_a1.keep K6 (ninS ne_a1_ml nin0)
  have X_ml := X_ml.keep K6
  have X_a3 := X_a3.keep K6
  have Fe_a3 := Fe_a3.keep K6 (ninS (Ne.symm ne_ml_a3) nin0)
  have Fs_a3 := Fs_a3.keep K6 (ninS (Ne.symm ne_ml_a3) nin0)
  have Fm_a3 := Fm_a3.keep K6 (ninS (Ne.symm ne_ml_a3) nin0)
  have V_ea := V_ea.keep K6 (ninS (Ne.symm ne_ml_ea) nin0)
  have E_a := E_a.keep K6
  have X_it := X_it.keep K6
  have X_b0 := X_b0.keep K6
  have B_b0 := B_b0.keep K6
  have Ft_it := Ft_it.keep K6 (ninS (Ne.symm ne_ml_it) nin0)
  have Fc_it := Fc_it.keep K6 (ninS (Ne.symm ne_ml_it) nin0)
  have Fr_it := Fr_it.keep K6 (ninS (Ne.symm ne_ml_it) nin0)
  have Fx_it := Fx_it.keep K6 (ninS (Ne.symm ne_ml_it) nin0)
  show own_Go p e below C T6 (mkF m 41 #[.val (.ref a1), .val (.long q2), .second, .val (.ref a3), .val (.ref it), .val (.ref b0)] [(.int ((1 : Int32) &&& 1))])
  have ne_a1_em : a1 ≠ em := Nat.ne_of_lt (Nat.lt_of_lt_of_le q_a1 o_em)
  have ne_ml_em : ml ≠ em := Nat.ne_of_lt (Nat.lt_of_lt_of_le q_ml o_em)
  have ne_a3_em : a3 ≠ em := Nat.ne_of_lt (Nat.lt_of_lt_of_le q_a3 o_em)
  have ne_de_em : de ≠ em := Nat.ne_of_lt (Nat.lt_of_lt_of_le q_de o_em)
  have ne_ea_em : ea ≠ em := Nat.ne_of_lt (Nat.lt_of_lt_of_le q_ea o_em)
  have ne_it_em : it ≠ em := Nat.ne_of_lt (Nat.lt_of_lt_of_le q_it o_em)
  have os_em : s.heap.size ≤ em := Nat.le_trans hsH o_em
  have Fs_ml : own_fs Z h6 ml (.int (1 : Int32)) := Fs_ml
  refine own_pop W6 42 d12_41 rfl rfl ?_
  refine own_aloadN W6 43 d12_42 rfl rfl rfl ?_
  refine own_dup W6 44 d12_43 rfl rfl ?_
  refine own_getfield W6 47 d12_44 (wd140 hw) Fp_a1 rfl ?_
  intro T7 W7
  refine own_aload W7 49 d12_47 rfl rfl rfl ?_
  obtain ⟨ln0, lf0, V_b0⟩ := B_b0.A
  refine own_arraylength W7 ln0.toInt32 50 d12_49 V_b0 rfl rfl ?_
  refine own_i2l W7 51 d12_50 rfl ?_
  refine own_ladd W7 52 d12_51 rfl ?_
  refine own_putfield W7 (.long (pl + ln0.toInt32.toInt64)) 55 d12_52 (wd140 hw) Fp_a1 X_a1 (Or.inl (wd141 hw)) (wd60 hw) (Or.inl (List.mem_of_getElem? (i := 0) rfl)) (ty := .long) (by decide) rfl rfl rfl ?_
  intro T8 h8 W8 Wr8 Fp_a1
  have X_a1 := X_a1.wr Wr8
  have Fg_a1 := Fg_a1.other Wr8 (Or.inr (slot_ne (Or.inr (wd69 hw)) (Or.inl (wd141 hw)) (by decide) (t := (.object "java/util/List")) (t' := .long) (by decide) (by decide)))
  have Ff_a1 := Ff_a1.other Wr8 (Or.inr (slot_ne (Or.inl (wd76 hw)) (Or.inl (wd141 hw)) (by decide) (t := .long) (t' := .long) (by decide) (by decide)))
  have Fl_a1 := Fl_a1.other Wr8 (Or.inr (slot_ne (Or.inl (wd152 hw)) (Or.inl (wd141 hw)) (by decide) (t := .long) (t' := .long) (by decide) (by decide)))
  have X_ml := X_ml.wr Wr8
  have X_a3 := X_a3.wr Wr8
  have Fe_a3 := Fe_a3.other Wr8 (Or.inl (Ne.symm ne_a1_a3))
  have Fs_a3 := Fs_a3.other Wr8 (Or.inl (Ne.symm ne_a1_a3))
  have Fm_a3 := Fm_a3.other Wr8 (Or.inl (Ne.symm ne_a1_a3))
  have V_ea := V_ea.other Wr8 (Ne.symm ne_a1_ea)
  have E_a := E_a.wr Wr8
  have X_it := X_it.wr Wr8
  have X_b0 := X_b0.wr Wr8
  have B_b0 := B_b0.wr Wr8
  have Ft_it := Ft_it.other Wr8 (Or.inl (Ne.symm ne_a1_it))
  have Fc_it := Fc_it.other Wr8 (Or.inl (Ne.symm ne_a1_it))
  have Fr_it := Fr_it.other Wr8 (Or.inl (Ne.symm ne_a1_it))
  have Fx_it := Fx_it.other Wr8 (Or.inl (Ne.symm ne_a1_it))
  have Fe_ml := Fe_ml.other Wr8 (Or.inl (Ne.symm ne_a1_ml))
  have Fs_ml := Fs_ml.other Wr8 (Or.inl (Ne.symm ne_a1_ml))
  have Fm_ml := Fm_ml.other Wr8 (Or.inl (Ne.symm ne_a1_ml))
  have V_em := V_em.other Wr8 (Ne.symm ne_a1_em)
  refine own_goto W8 8 d12_55 (by decide) (by decide) ?_
  refine own_aload W8 10 d12_8 rfl rfl rfl ?_
  refine own_callI W8 (A := []) (wt := 0) (pc' := 15) (st := []) d12_10 (wd106 hw) (wd107 hw) (wd108 hw) (by first | rfl | decide +kernel) (wd109 hw) (wd110 hw) (wd111 hw) (wd112 hw) (wd113 hw) (wd93 hw) (wd114 hw) (by decide) X_it (own_m15 l Z a0 hw [] h8 it a3 (1 : Int32) (0 : Int32) mca (2 : Int32) X_it Ft_it Fc_it Fr_it Fx_it Fs_a3) all0 rfl pd_7 rfl (Nat.le_of_eq rfl) (by decide) (by decide) (by decide) (by decide) rfl ?_
  rintro T9 h9 _ W9 K9 P9 rfl
  rw [P9 rfl rfl] at W9
  show own_Go p e below C T9 (mkF m 15 #[.val (.ref a1), .val (.long q2), .second, .val (.ref a3), .val (.ref it), .val (.ref b0)] [(.int (if (1 : Int32) = (2 : Int32) then (0 : Int32) else 1))])
  rw [show (if (1 : Int32) = (2 : Int32) then (0 : Int32) else 1) = (1 : Int32) from (by decide)]
  refine own_ifN W9 18 d12_15 ((if0 _ _).trans (feq ((by decide) : ¬ ((1 : Int32) = (0 : Int32)))).1) rfl ?_
  refine own_aload W9 20 d12_18 rfl rfl rfl ?_
  obtain ⟨b1, eb1, X_b1, B_b1⟩ := E_a 1 (by omega) (by omega)
  refine own_callI W9 (A := []) (wt := 0) (pc' := 25) (st := []) d12_20 (wd118 hw) (wd119 hw) (wd120 hw) (by first | rfl | decide +kernel) (wd121 hw) (wd122 hw) (wd123 hw) (wd124 hw) (wd113 hw) (wd93 hw) (wd125 hw) (by decide) X_it (own_m16 l Z a0 hw [] h8 it a3 ea (1 : Int32) (0 : Int32) mca (2 : Int32) va b1 1 2 X_it Ft_it Fc_it Fr_it Fx_it X_a3 Fe_a3 Fs_a3 Fm_a3 V_ea (Ne.symm ne_a3_it) (Ne.symm ne_ea_it) ne_a3_ea rfl rfl (by omega) (by omega) eb1) (allS (Or.inr os_it) all0) rfl pd_8 rfl (Nat.le_of_eq rfl) (by decide) (by decide) (by decide) (by decide) rfl ?_
  rintro T10 h10 _ W10 K10 P10 ⟨rfl, Ft_it, Fc_it, Fr_it, Fx_it⟩
  have X_a1 := X_a1.keep K10
  have Fg_a1 := Fg_a1.keep K10 (ninS ne_a1_it nin0)
  have Fp_a1 := Fp_a1.keep K10 (ninS ne_a1_it nin0)
  have Ff_a1 := Ff_a1.keep K10 (ninS ne_a1_it nin0)
  have Fl_a1 := Fl_a1.keep K10 (ninS ne_a1_it nin0)
  have X_ml := X_ml.keep K10
  have X_a3 := X_a3.keep K10
  have Fe_a3 := Fe_a3.keep K10 (ninS ne_a3_it nin0)
  have Fs_a3 := Fs_a3.keep K10 (ninS ne_a3_it nin0)
  have Fm_a3 := Fm_a3.keep K10 (ninS ne_a3_it nin0)
  have V_ea := V_ea.keep K10 (ninS ne_ea_it nin0)
  have E_a := E_a.keep K10
  have X_it := X_it.keep K10
  have X_b0 := X_b0.keep K10
  have B_b0 := B_b0.keep K10
  have Fe_ml := Fe_ml.keep K10 (ninS ne_ml_it nin0)
  have Fs_ml := Fs_ml.keep K10 (ninS ne_ml_it nin0)
  have Fm_ml := Fm_ml.keep K10 (ninS ne_ml_it nin0)
  have V_em := V_em.keep K10 (ninS (Ne.symm ne_it_em) nin0)
  have X_b1 := X_b1.keep K10
  have B_b1 := B_b1.keep K10
  show own_Go p e below C T10 (mkF m 25 #[.val (.ref a1), .val (.long q2), .second, .val (.ref a3), .val (.ref it), .val (.ref b0)] [(.ref b1)])
  have Fc_it : own_fc Z h10 it (.int (2 : Int32)) := Fc_it
  refine own_checkcast W10 28 d12_25 (wd132 hw) (Ins.of_exa X_b1 (wd133 hw)) rfl ?_
  intro T11 W11
  refine own_astore W11 30 #[.val (.ref a1), .val (.long q2), .second, .val (.ref a3), .val (.ref it), .val (.ref b1)] d12_28 rfl rfl rfl ?_
  refine own_aloadN W11 31 d12_30 rfl rfl rfl ?_
  refine own_getfield W11 34 d12_31 (wd68 hw) Fg_a1 rfl ?_
  intro T12 W12
  refine own_aload W12 36 d12_34 rfl rfl rfl ?_
  refine own_callI W12 (A := [(.ref b1)]) (wt := 0) (pc' := 41) (st := []) d12_36 (wd134 hw) (wd135 hw) (wd136 hw) (by first | rfl | decide +kernel) (wd137 hw) (wd30 hw) (wd138 hw) (wd139 hw) (wd89 hw) (wd3 hw) (wd32 hw) (by decide) X_ml (own_m5b l Z a0 hw [] h10 ml b1 em (1 : Int32) ((0 : Int32) + (1 : Int32)) (own_upd (fun _ => .null) 0 (.ref b0)) 1 X_b1 X_ml Fe_ml Fs_ml Fm_ml V_em ne_ml_em rfl (by omega)) (allS (Or.inl (List.mem_of_getElem? (i := 1) rfl)) (allS (Or.inr os_em) all0)) rfl pd_9 rfl (Nat.le_of_eq rfl) (by decide) (by decide) (by decide) (by decide) rfl ?_
  rintro T13 h13 _ W13 K13 P13 ⟨rfl, Fe_ml, Fs_ml, Fm_ml, V_em⟩
  have X_a1 := X_a1.keep K13
  have Fg_a1 := Fg_a1.keep K13 (ninS ne_a1_ml (ninS ne_a1_em nin0))
  have Fp_a1 := Fp_a1.keep K13 (ninS ne_a1_ml (ninS ne_a1_em nin0))
  have Ff_a1 := Ff_a1.keep K13 (ninS ne_a1_ml (ninS ne_a1_em nin0))
  have Fl_a1 := Fl_a1.keep K13 (ninS ne_a1_ml (ninS ne_a1_em nin0))
  have X_ml := X_ml.keep K13
  have X_a3 := X_a3.keep K13
  have Fe_a3 := Fe_a3.keep K13 (ninS (Ne.symm ne_ml_a3) (ninS ne_a3_em nin0))
  have Fs_a3 := Fs_a3.keep K13 (ninS (Ne.symm ne_ml_a3) (ninS ne_a3_em nin0))
  have Fm_a3 := Fm_a3.keep K13 (ninS (Ne.symm ne_ml_a3) (ninS ne_a3_em nin0))
  have V_ea := V_ea.keep K13 (ninS (Ne.symm ne_ml_ea) (ninS ne_ea_em nin0))
  have E_a := E_a.keep K13
  have X_it := X_it.keep K13
  have X_b0 := X_b0.keep K13
  have B_b0 := B_b0.keep K13
  have X_b1 := X_b1.keep K13
  have B_b1 := B_b1.keep K13
  have Ft_it := Ft_it.keep K13 (ninS (Ne.symm ne_ml_it) (ninS ne_it_em nin0))
  have Fc_it := Fc_it.keep K13 (ninS (Ne.symm ne_ml_it) (ninS ne_it_em nin0))
  have Fr_it := Fr_it.keep K13 (ninS (Ne.symm ne_ml_it) (ninS ne_it_em nin0))
  have Fx_it := Fx_it.keep K13 (ninS (Ne.symm ne_ml_it) (ninS ne_it_em nin0))
  show own_Go p e below C T13 (mkF m 41 #[.val (.ref a1), .val (.long q2), .second, .val (.ref a3), .val (.ref it), .val (.ref b1)] [(.int ((1 : Int32) &&& 1))])
  have Fs_ml : own_fs Z h13 ml (.int (2 : Int32)) := Fs_ml
  refine own_pop W13 42 d12_41 rfl rfl ?_
  refine own_aloadN W13 43 d12_42 rfl rfl rfl ?_
  refine own_dup W13 44 d12_43 rfl rfl ?_
  refine own_getfield W13 47 d12_44 (wd140 hw) Fp_a1 rfl ?_
  intro T14 W14
  refine own_aload W14 49 d12_47 rfl rfl rfl ?_
  obtain ⟨ln1, lf1, V_b1⟩ := B_b1.A
  refine own_arraylength W14 ln1.toInt32 50 d12_49 V_b1 rfl rfl ?_
  refine own_i2l W14 51 d12_50 rfl ?_
  refine own_ladd W14 52 d12_51 rfl ?_
  refine own_putfield W14 (.long ((pl + ln0.toInt32.toInt64) + ln1.toInt32.toInt64)) 55 d12_52 (wd140 hw) Fp_a1 X_a1 (Or.inl (wd141 hw)) (wd60 hw) (Or.inl (List.mem_of_getElem? (i := 0) rfl)) (ty := .long) (by decide) rfl rfl rfl ?_
  intro T15 h15 W15 Wr15 Fp_a1
  have X_a1 := X_a1.wr Wr15
  have Fg_a1 := Fg_a1.other Wr15 (Or.inr (slot_ne (Or.inr (wd69 hw)) (Or.inl (wd141 hw)) (by decide) (t := (.object "java/util/List")) (t' := .long) (by decide) (by decide)))
  have Ff_a1 := Ff_a1.other Wr15 (Or.inr (slot_ne (Or.inl (wd76 hw)) (Or.inl (wd141 hw)) (by decide) (t := .long) (t' := .long) (by decide) (by decide)))
  have Fl_a1 := Fl_a1.other Wr15 (Or.inr (slot_ne (Or.inl (wd152 hw)) (Or.inl (wd141 hw)) (by decide) (t := .long) (t' := .long) (by decide) (by decide)))
  have X_ml := X_ml.wr Wr15
  have X_a3 := X_a3.wr Wr15
  have Fe_a3 := Fe_a3.other Wr15 (Or.inl (Ne.symm ne_a1_a3))
  have Fs_a3 := Fs_a3.other Wr15 (Or.inl (Ne.symm ne_a1_a3))
  have Fm_a3 := Fm_a3.other Wr15 (Or.inl (Ne.symm ne_a1_a3))
  have V_ea := V_ea.other Wr15 (Ne.symm ne_a1_ea)
  have E_a := E_a.wr Wr15
  have X_it := X_it.wr Wr15
  have X_b0 := X_b0.wr Wr15
  have B_b0 := B_b0.wr Wr15
  have X_b1 := X_b1.wr Wr15
  have B_b1 := B_b1.wr Wr15
  have Ft_it := Ft_it.other Wr15 (Or.inl (Ne.symm ne_a1_it))
  have Fc_it := Fc_it.other Wr15 (Or.inl (Ne.symm ne_a1_it))
  have Fr_it := Fr_it.other Wr15 (Or.inl (Ne.symm ne_a1_it))
  have Fx_it := Fx_it.other Wr15 (Or.inl (Ne.symm ne_a1_it))
  have Fe_ml := Fe_ml.other Wr15 (Or.inl (Ne.symm ne_a1_ml))
  have Fs_ml := Fs_ml.other Wr15 (Or.inl (Ne.symm ne_a1_ml))
  have Fm_ml := Fm_ml.other Wr15 (Or.inl (Ne.symm ne_a1_ml))
  have V_em := V_em.other Wr15 (Ne.symm ne_a1_em)
  refine own_goto W15 8 d12_55 (by decide) (by decide) ?_
  refine own_aload W15 10 d12_8 rfl rfl rfl ?_
  refine own_callI W15 (A := []) (wt := 0) (pc' := 15) (st := []) d12_10 (wd106 hw) (wd107 hw) (wd108 hw) (by first | rfl | decide +kernel) (wd109 hw) (wd110 hw) (wd111 hw) (wd112 hw) (wd113 hw) (wd93 hw) (wd114 hw) (by decide) X_it (own_m15 l Z a0 hw [] h15 it a3 (2 : Int32) (1 : Int32) mca (2 : Int32) X_it Ft_it Fc_it Fr_it Fx_it Fs_a3) all0 rfl pd_7 rfl (Nat.le_of_eq rfl) (by decide) (by decide) (by decide) (by decide) rfl ?_
  rintro T16 h16 _ W16 K16 P16 rfl
  rw [P16 rfl rfl] at W16
  show own_Go p e below C T16 (mkF m 15 #[.val (.ref a1), .val (.long q2), .second, .val (.ref a3), .val (.ref it), .val (.ref b1)] [(.int (if (2 : Int32) = (2 : Int32) then (0 : Int32) else 1))])
  rw [show (if (2 : Int32) = (2 : Int32) then (0 : Int32) else 1) = (0 : Int32) from (by decide)]
  refine own_ifY W16 58 d12_15 ((if0 _ _).trans (teq (rfl : (0 : Int32) = (0 : Int32))).1) (by decide) (by decide) ?_
  refine own_retV (Q := fun v h => v = none ∧ (∃ pl' em mc' vm, h0.size ≤ em ∧ own_fg Z h a1 (.ref ml) ∧ own_fp Z h a1 (.long pl') ∧ own_ff Z h a1 (.long (0 : Int64)) ∧ own_fl Z h a1 (.long (0 : Int64)) ∧ own_fe Z h ml (.ref em) ∧ own_fs Z h ml (.int (2 : Int32)) ∧ own_fm Z h ml (.int mc') ∧ own_R Z h em "java/lang/Object" 10 vm ∧ own_Rf vm ∧ own_El Z h vm 0 2)) W16 hC (by decide) (by decide) d12_58 ?_
  exact ⟨rfl, ⟨_, em, _, _, own_le_ W0 os_em, Fg_a1, Fp_a1, Ff_a1, Fl_a1, Fe_ml, Fs_ml, Fm_ml, V_em, (own_Rf.upd (own_Rf.upd (fun _ => rfl) 0 rfl) 1 rfl), ((own_El.add own_El.none X_b0 B_b0).add X_b1 B_b1)⟩⟩
theorem ef_m12_3 (m : MethodId) (x0 : Addr) (x1 : Int64) (x2 : Addr) : entryFrame m #[(.ref x0), (.long x1), (.ref x2)] 6 = mkF m 0 #[.val (.ref x0), .val (.long x1), .second, .val (.ref x2), .unset, .unset] [] := by first | (simp [entryFrame, mkF, argsToLocals, Value.category]; done) | rfl
set_option maxRecDepth 65536 in
set_option maxHeartbeats 40000000 in
theorem own_m12_3 (l : Launch) (Z : State) (a0 : Array Value) (hw : ∀ d ∈ tables_1, d.before a0 Z = true) (wo : List Jvm.Cond) (h0 : Heap) (a1 : Addr) (q2 : Int64) (a3 : Addr) (de : Addr) (df : Nat → Value) (ml : Addr) (pl : Int64) (mca : Int32) (ea : Addr) (va : Nat → Value) (S_de : Sta Z h0 "java/util/ArrayList" "DEFAULTCAPACITY_EMPTY_ELEMENTDATA" "[Ljava/lang/Object;" (.ref de)) (V_de : own_A Z h0 de (.object "java/lang/Object") 0 df) (X_a1 : own_xm Z h0 a1) (Fg_a1 : own_fg Z h0 a1 (.ref ml)) (Fp_a1 : own_fp Z h0 a1 (.long pl)) (Ff_a1 : own_ff Z h0 a1 (.long (0 : Int64))) (Fl_a1 : own_fl Z h0 a1 (.long (0 : Int64))) (X_ml : own_xl Z h0 ml) (Fe_ml : own_fe Z h0 ml (.ref de)) (Fs_ml : own_fs Z h0 ml (.int (0 : Int32))) (Fm_ml : own_fm Z h0 ml (.int (0 : Int32))) (X_a3 : own_xl Z h0 a3) (Fe_a3 : own_fe Z h0 a3 (.ref ea)) (Fs_a3 : own_fs Z h0 a3 (.int (3 : Int32))) (Fm_a3 : own_fm Z h0 a3 (.int mca)) (V_ea : own_R Z h0 ea "java/lang/Object" 10 va) (E_a : own_El Z h0 va 0 3) (ne_a1_ml : a1 ≠ ml) (ne_a1_a3 : a1 ≠ a3) (ne_ml_a3 : ml ≠ a3) (ne_ml_de : ml ≠ de) (ne_a1_de : a1 ≠ de) (ne_a3_de : a3 ≠ de) (ne_a1_ea : a1 ≠ ea) (ne_ml_ea : ml ≠ ea) (ne_a3_ea : a3 ≠ ea) (ne_ea_de : ea ≠ de) :
    own_M l Z wo (⟨"com/example/redelivery/redelivery/engine/MemoryLog", "append", "(JLjava/util/List;)V"⟩ : MethodName) prog_7_method_3_code 6 none ({ frames := 5, cells := 2, slots := 14, locals := 69 } : Room) [a1, ml] #[(.ref a1), (.long q2), (.ref a3)] h0 (fun v h => v = none ∧ (∃ pl' em mc' vm, h0.size ≤ em ∧ own_fg Z h a1 (.ref ml) ∧ own_fp Z h a1 (.long pl') ∧ own_ff Z h a1 (.long (0 : Int64)) ∧ own_fl Z h a1 (.long (0 : Int64)) ∧ own_fe Z h ml (.ref em) ∧ own_fs Z h ml (.int (3 : Int32)) ∧ own_fm Z h ml (.int mc') ∧ own_R Z h em "java/lang/Object" 10 vm ∧ own_Rf vm ∧ own_El Z h vm 0 3)) := by
  refine own_body (plainFor_of_name pn_12) (fun m => ef_m12_3 m a1 q2 a3) ?_
  intro p e s m below meth c C hC T0 W0
  refine own_aloadN W0 1 d12_0 rfl rfl rfl ?_
  have hsH := own_le W0
  have q_a1 := X_a1.lt
  have q_ml := X_ml.lt
  have q_a3 := X_a3.lt
  have q_de := V_de.lt
  have q_ea := V_ea.lt
  refine own_callI W0 (A := []) (wt := 0) (pc' := 6) (st := []) d12_1 (wd82 hw) (wd83 hw) (wd84 hw) (by first | rfl | decide +kernel) (wd85 hw) (wd86 hw) (wd87 hw) (wd88 hw) (wd89 hw) (wd3 hw) (wd90 hw) (by decide) X_a3 (own_m13 l Z a0 hw [] h0 a3 mca Fm_a3) all0 rfl pd_6 rfl (Nat.le_of_eq rfl) (by decide) (by decide) (by decide) (by decide) rfl ?_
  rintro T1 h1 _ W1 K1 P1 ⟨it, rfl, o_it, X_it, Ft_it, Fc_it, Fr_it, Fx_it⟩
  have S_de := own_staK0 S_de K1
  have V_de := V_de.keep K1 nin0
  have X_a1 := X_a1.keep K1
  have Fg_a1 := Fg_a1.keep K1 nin0
  have Fp_a1 := Fp_a1.keep K1 nin0
  have Ff_a1 := Ff_a1.keep K1 nin0
  have Fl_a1 := Fl_a1.keep K1 nin0
  have X_ml := X_ml.keep K1
  have Fe_ml := Fe_ml.keep K1 nin0
  have Fs_ml := Fs_ml.keep K1 nin0
  have Fm_ml := Fm_ml.keep K1 nin0
  have X_a3 := X_a3.keep K1
  have Fe_a3 := Fe_a3.keep K1 nin0
  have Fs_a3 := Fs_a3.keep K1 nin0
  have Fm_a3 := Fm_a3.keep K1 nin0
  have V_ea := V_ea.keep K1 nin0
  have E_a := E_a.keep K1
  show own_Go p e below C T1 (mkF m 6 #[.val (.ref a1), .val (.long q2), .second, .val (.ref a3), .unset, .unset] [(.ref it)])
  have ne_a1_it : a1 ≠ it := Nat.ne_of_lt (Nat.lt_of_lt_of_le q_a1 o_it)
  have ne_ml_it : ml ≠ it := Nat.ne_of_lt (Nat.lt_of_lt_of_le q_ml o_it)
  have ne_a3_it : a3 ≠ it := Nat.ne_of_lt (Nat.lt_of_lt_of_le q_a3 o_it)
  have ne_de_it : de ≠ it := Nat.ne_of_lt (Nat.lt_of_lt_of_le q_de o_it)
  have ne_ea_it : ea ≠ it := Nat.ne_of_lt (Nat.lt_of_lt_of_le q_ea o_it)
  have os_it : s.heap.size ≤ it := Nat.le_trans hsH o_it
  refine own_astore W1 8 #[.val (.ref a1), .val (.long q2), .second, .val (.ref a3), .val (.ref it), .unset] d12_6 rfl rfl rfl ?_
  refine own_aload W1 10 d12_8 rfl rfl rfl ?_
  refine own_callI W1 (A := []) (wt := 0) (pc' := 15) (st := []) d12_10 (wd106 hw) (wd107 hw) (wd108 hw) (by first | rfl | decide +kernel) (wd109 hw) (wd110 hw) (wd111 hw) (wd112 hw) (wd113 hw) (wd93 hw) (wd114 hw) (by decide) X_it (own_m15 l Z a0 hw [] h1 it a3 (0 : Int32) (-1 : Int32) mca (3 : Int32) X_it Ft_it Fc_it Fr_it Fx_it Fs_a3) all0 rfl pd_7 rfl (Nat.le_of_eq rfl) (by decide) (by decide) (by decide) (by decide) rfl ?_
  rintro T2 h2 _ W2 K2 P2 rfl
  rw [P2 rfl rfl] at W2
  show own_Go p e below C T2 (mkF m 15 #[.val (.ref a1), .val (.long q2), .second, .val (.ref a3), .val (.ref it), .unset] [(.int (if (0 : Int32) = (3 : Int32) then (0 : Int32) else 1))])
  rw [show (if (0 : Int32) = (3 : Int32) then (0 : Int32) else 1) = (1 : Int32) from (by decide)]
  refine own_ifN W2 18 d12_15 ((if0 _ _).trans (feq ((by decide) : ¬ ((1 : Int32) = (0 : Int32)))).1) rfl ?_
  refine own_aload W2 20 d12_18 rfl rfl rfl ?_
  obtain ⟨b0, eb0, X_b0, B_b0⟩ := E_a 0 (by omega) (by omega)
  refine own_callI W2 (A := []) (wt := 0) (pc' := 25) (st := []) d12_20 (wd118 hw) (wd119 hw) (wd120 hw) (by first | rfl | decide +kernel) (wd121 hw) (wd122 hw) (wd123 hw) (wd124 hw) (wd113 hw) (wd93 hw) (wd125 hw) (by decide) X_it (own_m16 l Z a0 hw [] h1 it a3 ea (0 : Int32) (-1 : Int32) mca (3 : Int32) va b0 0 3 X_it Ft_it Fc_it Fr_it Fx_it X_a3 Fe_a3 Fs_a3 Fm_a3 V_ea (Ne.symm ne_a3_it) (Ne.symm ne_ea_it) ne_a3_ea rfl rfl (by omega) (by omega) eb0) (allS (Or.inr os_it) all0) rfl pd_8 rfl (Nat.le_of_eq rfl) (by decide) (by decide) (by decide) (by decide) rfl ?_
  rintro T3 h3 _ W3 K3 P3 ⟨rfl, Ft_it, Fc_it, Fr_it, Fx_it⟩
  have S_de := own_staK1 S_de K3 X_it
  have V_de := V_de.keep K3 (ninS ne_de_it nin0)
  have X_a1 := X_a1.keep K3
  have Fg_a1 := Fg_a1.keep K3 (ninS ne_a1_it nin0)
  have Fp_a1 := Fp_a1.keep K3 (ninS ne_a1_it nin0)
  have Ff_a1 := Ff_a1.keep K3 (ninS ne_a1_it nin0)
  have Fl_a1 := Fl_a1.keep K3 (ninS ne_a1_it nin0)
  have X_ml := X_ml.keep K3
  have Fe_ml := Fe_ml.keep K3 (ninS ne_ml_it nin0)
  have Fs_ml := Fs_ml.keep K3 (ninS ne_ml_it nin0)
  have Fm_ml := Fm_ml.keep K3 (ninS ne_ml_it nin0)
  have X_a3 := X_a3.keep K3
  have Fe_a3 := Fe_a3.keep K3 (ninS ne_a3_it nin0)
  have Fs_a3 := Fs_a3.keep K3 (ninS ne_a3_it nin0)
  have Fm_a3 := Fm_a3.keep K3 (ninS ne_a3_it nin0)
  have V_ea := V_ea.keep K3 (ninS ne_ea_it nin0)
  have E_a := E_a.keep K3
  have X_it := X_it.keep K3
  have X_b0 := X_b0.keep K3
  have B_b0 := B_b0.keep K3
  show own_Go p e below C T3 (mkF m 25 #[.val (.ref a1), .val (.long q2), .second, .val (.ref a3), .val (.ref it), .unset] [(.ref b0)])
  have Fc_it : own_fc Z h3 it (.int (1 : Int32)) := Fc_it
  refine own_checkcast W3 28 d12_25 (wd132 hw) (Ins.of_exa X_b0 (wd133 hw)) rfl ?_
  intro T4 W4
  refine own_astore W4 30 #[.val (.ref a1), .val (.long q2), .second, .val (.ref a3), .val (.ref it), .val (.ref b0)] d12_28 rfl rfl rfl ?_
  refine own_aloadN W4 31 d12_30 rfl rfl rfl ?_
  refine own_getfield W4 34 d12_31 (wd68 hw) Fg_a1 rfl ?_
  intro T5 W5
  refine own_aload W5 36 d12_34 rfl rfl rfl ?_
  have hsH := own_le W5
  have q_a1 := X_a1.lt
  have q_ml := X_ml.lt
  have q_a3 := X_a3.lt
  have q_de := V_de.lt
  have q_ea := V_ea.lt
  have q_it := X_it.lt
  refine own_callI W5 (A := [(.ref b0)]) (wt := 0) (pc' := 41) (st := []) d12_36 (wd134 hw) (wd135 hw) (wd136 hw) (by first | rfl | decide +kernel) (wd137 hw) (wd30 hw) (wd138 hw) (wd139 hw) (wd89 hw) (wd3 hw) (wd32 hw) (by decide) X_ml (own_m5a l Z a0 hw [] h3 ml b0 de df (0 : Int32) X_b0 S_de V_de X_ml Fe_ml Fs_ml Fm_ml ne_ml_de) (allS (Or.inl (List.mem_of_getElem? (i := 1) rfl)) all0) rfl pd_9 rfl (Nat.le_of_eq rfl) (by decide) (by decide) (by decide) (by decide) rfl ?_
  rintro T6 h6 _ W6 K6 P6 ⟨rfl, em, o_em, Fe_ml, Fs_ml, Fm_ml, V_em⟩
  have S_de := own_staK1 S_de K6 X_ml
  have V_de := V_de.keep K6 (ninS (Ne.symm ne_ml_de) nin0)
  have X_a1 := X_a1.keep K6
  have Fg_a1 := Fg_a1.keep K6 (ninS ne_a1_ml nin0)
  have Fp_a1 := Fp_a1.keep K6 (ninS ne_a1_ml nin0)
  have Ff_a1 := Ff_a1.keep K6 (ninS ne_a1_ml nin0)
  have Fl_a1 := Fl_a1.keep K6 (ninS ne_a1_ml nin0)
  have X_ml := X_ml.keep K6
  have X_a3 := X_a3.keep K6
  have Fe_a3 := Fe_a3.keep K6 (ninS (Ne.symm ne_ml_a3) nin0)
  have Fs_a3 := Fs_a3.keep K6 (ninS (Ne.symm ne_ml_a3) nin0)
  have Fm_a3 := Fm_a3.keep K6 (ninS (Ne.symm ne_ml_a3) nin0)
  have V_ea := V_ea.keep K6 (ninS (Ne.symm ne_ml_ea) nin0)
  have E_a := E_a.keep K6
  have X_it := X_it.keep K6
  have X_b0 := X_b0.keep K6
  have B_b0 := B_b0.keep K6
  have Ft_it := Ft_it.keep K6 (ninS (Ne.symm ne_ml_it) nin0)
  have Fc_it := Fc_it.keep K6 (ninS (Ne.symm ne_ml_it) nin0)
  have Fr_it := Fr_it.keep K6 (ninS (Ne.symm ne_ml_it) nin0)
  have Fx_it := Fx_it.keep K6 (ninS (Ne.symm ne_ml_it) nin0)
  show own_Go p e below C T6 (mkF m 41 #[.val (.ref a1), .val (.long q2), .second, .val (.ref a3), .val (.ref it), .val (.ref b0)] [(.int ((1 : Int32) &&& 1))])
  have ne_a1_em : a1 ≠ em := Nat.ne_of_lt (Nat.lt_of_lt_of_le q_a1 o_em)
  have ne_ml_em : ml ≠ em := Nat.ne_of_lt (Nat.lt_of_lt_of_le q_ml o_em)
  have ne_a3_em : a3 ≠ em := Nat.ne_of_lt (Nat.lt_of_lt_of_le q_a3 o_em)
  have ne_de_em : de ≠ em := Nat.ne_of_lt (Nat.lt_of_lt_of_le q_de o_em)
  have ne_ea_em : ea ≠ em := Nat.ne_of_lt (Nat.lt_of_lt_of_le q_ea o_em)
  have ne_it_em : it ≠ em := Nat.ne_of_lt (Nat.lt_of_lt_of_le q_it o_em)
  have os_em : s.heap.size ≤ em := Nat.le_trans hsH o_em
  have Fs_ml : own_fs Z h6 ml (.int (1 : Int32)) := Fs_ml
  refine own_pop W6 42 d12_41 rfl rfl ?_
  refine own_aloadN W6 43 d12_42 rfl rfl rfl ?_
  refine own_dup W6 44 d12_43 rfl rfl ?_
  refine own_getfield W6 47 d12_44 (wd140 hw) Fp_a1 rfl ?_
  intro T7 W7
  refine own_aload W7 49 d12_47 rfl rfl rfl ?_
  obtain ⟨ln0, lf0, V_b0⟩ := B_b0.A
  refine own_arraylength W7 ln0.toInt32 50 d12_49 V_b0 rfl rfl ?_
  refine own_i2l W7 51 d12_50 rfl ?_
  refine own_ladd W7 52 d12_51 rfl ?_
  refine own_putfield W7 (.long (pl + ln0.toInt32.toInt64)) 55 d12_52 (wd140 hw) Fp_a1 X_a1 (Or.inl (wd141 hw)) (wd60 hw) (Or.inl (List.mem_of_getElem? (i := 0) rfl)) (ty := .long) (by decide) rfl rfl rfl ?_
  intro T8 h8 W8 Wr8 Fp_a1
  have X_a1 := X_a1.wr Wr8
  have Fg_a1 := Fg_a1.other Wr8 (Or.inr (slot_ne (Or.inr (wd69 hw)) (Or.inl (wd141 hw)) (by decide) (t := (.object "java/util/List")) (t' := .long) (by decide) (by decide)))
  have Ff_a1 := Ff_a1.other Wr8 (Or.inr (slot_ne (Or.inl (wd76 hw)) (Or.inl (wd141 hw)) (by decide) (t := .long) (t' := .long) (by decide) (by decide)))
  have Fl_a1 := Fl_a1.other Wr8 (Or.inr (slot_ne (Or.inl (wd152 hw)) (Or.inl (wd141 hw)) (by decide) (t := .long) (t' := .long) (by decide) (by decide)))
  have X_ml := X_ml.wr Wr8
  have X_a3 := X_a3.wr Wr8
  have Fe_a3 := Fe_a3.other Wr8 (Or.inl (Ne.symm ne_a1_a3))
  have Fs_a3 := Fs_a3.other Wr8 (Or.inl (Ne.symm ne_a1_a3))
  have Fm_a3 := Fm_a3.other Wr8 (Or.inl (Ne.symm ne_a1_a3))
  have V_ea := V_ea.other Wr8 (Ne.symm ne_a1_ea)
  have E_a := E_a.wr Wr8
  have X_it := X_it.wr Wr8
  have X_b0 := X_b0.wr Wr8
  have B_b0 := B_b0.wr Wr8
  have Ft_it := Ft_it.other Wr8 (Or.inl (Ne.symm ne_a1_it))
  have Fc_it := Fc_it.other Wr8 (Or.inl (Ne.symm ne_a1_it))
  have Fr_it := Fr_it.other Wr8 (Or.inl (Ne.symm ne_a1_it))
  have Fx_it := Fx_it.other Wr8 (Or.inl (Ne.symm ne_a1_it))
  have Fe_ml := Fe_ml.other Wr8 (Or.inl (Ne.symm ne_a1_ml))
  have Fs_ml := Fs_ml.other Wr8 (Or.inl (Ne.symm ne_a1_ml))
  have Fm_ml := Fm_ml.other Wr8 (Or.inl (Ne.symm ne_a1_ml))
  have V_em := V_em.other Wr8 (Ne.symm ne_a1_em)
  refine own_goto W8 8 d12_55 (by decide) (by decide) ?_
  refine own_aload W8 10 d12_8 rfl rfl rfl ?_
  refine own_callI W8 (A := []) (wt := 0) (pc' := 15) (st := []) d12_10 (wd106 hw) (wd107 hw) (wd108 hw) (by first | rfl | decide +kernel) (wd109 hw) (wd110 hw) (wd111 hw) (wd112 hw) (wd113 hw) (wd93 hw) (wd114 hw) (by decide) X_it (own_m15 l Z a0 hw [] h8 it a3 (1 : Int32) (0 : Int32) mca (3 : Int32) X_it Ft_it Fc_it Fr_it Fx_it Fs_a3) all0 rfl pd_7 rfl (Nat.le_of_eq rfl) (by decide) (by decide) (by decide) (by decide) rfl ?_
  rintro T9 h9 _ W9 K9 P9 rfl
  rw [P9 rfl rfl] at W9
  show own_Go p e below C T9 (mkF m 15 #[.val (.ref a1), .val (.long q2), .second, .val (.ref a3), .val (.ref it), .val (.ref b0)] [(.int (if (1 : Int32) = (3 : Int32) then (0 : Int32) else 1))])
  rw [show (if (1 : Int32) = (3 : Int32) then (0 : Int32) else 1) = (1 : Int32) from (by decide)]
  refine own_ifN W9 18 d12_15 ((if0 _ _).trans (feq ((by decide) : ¬ ((1 : Int32) = (0 : Int32)))).1) rfl ?_
  refine own_aload W9 20 d12_18 rfl rfl rfl ?_
  obtain ⟨b1, eb1, X_b1, B_b1⟩ := E_a 1 (by omega) (by omega)
  refine own_callI W9 (A := []) (wt := 0) (pc' := 25) (st := []) d12_20 (wd118 hw) (wd119 hw) (wd120 hw) (by first | rfl | decide +kernel) (wd121 hw) (wd122 hw) (wd123 hw) (wd124 hw) (wd113 hw) (wd93 hw) (wd125 hw) (by decide) X_it (own_m16 l Z a0 hw [] h8 it a3 ea (1 : Int32) (0 : Int32) mca (3 : Int32) va b1 1 3 X_it Ft_it Fc_it Fr_it Fx_it X_a3 Fe_a3 Fs_a3 Fm_a3 V_ea (Ne.symm ne_a3_it) (Ne.symm ne_ea_it) ne_a3_ea rfl rfl (by omega) (by omega) eb1) (allS (Or.inr os_it) all0) rfl pd_8 rfl (Nat.le_of_eq rfl) (by decide) (by decide) (by decide) (by decide) rfl ?_
  rintro T10 h10 _ W10 K10 P10 ⟨rfl, Ft_it, Fc_it, Fr_it, Fx_it⟩
  have X_a1 := X_a1.keep K10
  have Fg_a1 := Fg_a1.keep K10 (ninS ne_a1_it nin0)
  have Fp_a1 := Fp_a1.keep K10 (ninS ne_a1_it nin0)
  have Ff_a1 := Ff_a1.keep K10 (ninS ne_a1_it nin0)
  have Fl_a1 := Fl_a1.keep K10 (ninS ne_a1_it nin0)
  have X_ml := X_ml.keep K10
  have X_a3 := X_a3.keep K10
  have Fe_a3 := Fe_a3.keep K10 (ninS ne_a3_it nin0)
  have Fs_a3 := Fs_a3.keep K10 (ninS ne_a3_it nin0)
  have Fm_a3 := Fm_a3.keep K10 (ninS ne_a3_it nin0)
  have V_ea := V_ea.keep K10 (ninS ne_ea_it nin0)
  have E_a := E_a.keep K10
  have X_it := X_it.keep K10
  have X_b0 := X_b0.keep K10
  have B_b0 := B_b0.keep K10
  have Fe_ml := Fe_ml.keep K10 (ninS ne_ml_it nin0)
  have Fs_ml := Fs_ml.keep K10 (ninS ne_ml_it nin0)
  have Fm_ml := Fm_ml.keep K10 (ninS ne_ml_it nin0)
  have V_em := V_em.keep K10 (ninS (Ne.symm ne_it_em) nin0)
  have X_b1 := X_b1.keep K10
  have B_b1 := B_b1.keep K10
  show own_Go p e below C T10 (mkF m 25 #[.val (.ref a1), .val (.long q2), .second, .val (.ref a3), .val (.ref it), .val (.ref b0)] [(.ref b1)])
  have Fc_it : own_fc Z h10 it (.int (2 : Int32)) := Fc_it
  refine own_checkcast W10 28 d12_25 (wd132 hw) (Ins.of_exa X_b1 (wd133 hw)) rfl ?_
  intro T11 W11
  refine own_astore W11 30 #[.val (.ref a1), .val (.long q2), .second, .val (.ref a3), .val (.ref it), .val (.ref b1)] d12_28 rfl rfl rfl ?_
  refine own_aloadN W11 31 d12_30 rfl rfl rfl ?_
  refine own_getfield W11 34 d12_31 (wd68 hw) Fg_a1 rfl ?_
  intro T12 W12
  refine own_aload W12 36 d12_34 rfl rfl rfl ?_
  refine own_callI W12 (A := [(.ref b1)]) (wt := 0) (pc' := 41) (st := []) d12_36 (wd134 hw) (wd135 hw) (wd136 hw) (by first | rfl | decide +kernel) (wd137 hw) (wd30 hw) (wd138 hw) (wd139 hw) (wd89 hw) (wd3 hw) (wd32 hw) (by decide) X_ml (own_m5b l Z a0 hw [] h10 ml b1 em (1 : Int32) ((0 : Int32) + (1 : Int32)) (own_upd (fun _ => .null) 0 (.ref b0)) 1 X_b1 X_ml Fe_ml Fs_ml Fm_ml V_em ne_ml_em rfl (by omega)) (allS (Or.inl (List.mem_of_getElem? (i := 1) rfl)) (allS (Or.inr os_em) all0)) rfl pd_9 rfl (Nat.le_of_eq rfl) (by decide) (by decide) (by decide) (by decide) rfl ?_
  rintro T13 h13 _ W13 K13 P13 ⟨rfl, Fe_ml, Fs_ml, Fm_ml, V_em⟩
  have X_a1 := X_a1.keep K13
  have Fg_a1 := Fg_a1.keep K13 (ninS ne_a1_ml (ninS ne_a1_em nin0))
  have Fp_a1 := Fp_a1.keep K13 (ninS ne_a1_ml (ninS ne_a1_em nin0))
  have Ff_a1 := Ff_a1.keep K13 (ninS ne_a1_ml (ninS ne_a1_em nin0))
  have Fl_a1 := Fl_a1.keep K13 (ninS ne_a1_ml (ninS ne_a1_em nin0))
  have X_ml := X_ml.keep K13
  have X_a3 := X_a3.keep K13
  have Fe_a3 := Fe_a3.keep K13 (ninS (Ne.symm ne_ml_a3) (ninS ne_a3_em nin0))
  have Fs_a3 := Fs_a3.keep K13 (ninS (Ne.symm ne_ml_a3) (ninS ne_a3_em nin0))
  have Fm_a3 := Fm_a3.keep K13 (ninS (Ne.symm ne_ml_a3) (ninS ne_a3_em nin0))
  have V_ea := V_ea.keep K13 (ninS (Ne.symm ne_ml_ea) (ninS ne_ea_em nin0))
  have E_a := E_a.keep K13
  have X_it := X_it.keep K13
  have X_b0 := X_b0.keep K13
  have B_b0 := B_b0.keep K13
  have X_b1 := X_b1.keep K13
  have B_b1 := B_b1.keep K13
  have Ft_it := Ft_it.keep K13 (ninS (Ne.symm ne_ml_it) (ninS ne_it_em nin0))
  have Fc_it := Fc_it.keep K13 (ninS (Ne.symm ne_ml_it) (ninS ne_it_em nin0))
  have Fr_it := Fr_it.keep K13 (ninS (Ne.symm ne_ml_it) (ninS ne_it_em nin0))
  have Fx_it := Fx_it.keep K13 (ninS (Ne.symm ne_ml_it) (ninS ne_it_em nin0))
  show own_Go p e below C T13 (mkF m 41 #[.val (.ref a1), .val (.long q2), .second, .val (.ref a3), .val (.ref it), .val (.ref b1)] [(.int ((1 : Int32) &&& 1))])
  have Fs_ml : own_fs Z h13 ml (.int (2 : Int32)) := Fs_ml
  refine own_pop W13 42 d12_41 rfl rfl ?_
  refine own_aloadN W13 43 d12_42 rfl rfl rfl ?_
  refine own_dup W13 44 d12_43 rfl rfl ?_
  refine own_getfield W13 47 d12_44 (wd140 hw) Fp_a1 rfl ?_
  intro T14 W14
  refine own_aload W14 49 d12_47 rfl rfl rfl ?_
  obtain ⟨ln1, lf1, V_b1⟩ := B_b1.A
  refine own_arraylength W14 ln1.toInt32 50 d12_49 V_b1 rfl rfl ?_
  refine own_i2l W14 51 d12_50 rfl ?_
  refine own_ladd W14 52 d12_51 rfl ?_
  refine own_putfield W14 (.long ((pl + ln0.toInt32.toInt64) + ln1.toInt32.toInt64)) 55 d12_52 (wd140 hw) Fp_a1 X_a1 (Or.inl (wd141 hw)) (wd60 hw) (Or.inl (List.mem_of_getElem? (i := 0) rfl)) (ty := .long) (by decide) rfl rfl rfl ?_
  intro T15 h15 W15 Wr15 Fp_a1
  have X_a1 := X_a1.wr Wr15
  have Fg_a1 := Fg_a1.other Wr15 (Or.inr (slot_ne (Or.inr (wd69 hw)) (Or.inl (wd141 hw)) (by decide) (t := (.object "java/util/List")) (t' := .long) (by decide) (by decide)))
  have Ff_a1 := Ff_a1.other Wr15 (Or.inr (slot_ne (Or.inl (wd76 hw)) (Or.inl (wd141 hw)) (by decide) (t := .long) (t' := .long) (by decide) (by decide)))
  have Fl_a1 := Fl_a1.other Wr15 (Or.inr (slot_ne (Or.inl (wd152 hw)) (Or.inl (wd141 hw)) (by decide) (t := .long) (t' := .long) (by decide) (by decide)))
  have X_ml := X_ml.wr Wr15
  have X_a3 := X_a3.wr Wr15
  have Fe_a3 := Fe_a3.other Wr15 (Or.inl (Ne.symm ne_a1_a3))
  have Fs_a3 := Fs_a3.other Wr15 (Or.inl (Ne.symm ne_a1_a3))
  have Fm_a3 := Fm_a3.other Wr15 (Or.inl (Ne.symm ne_a1_a3))
  have V_ea := V_ea.other Wr15 (Ne.symm ne_a1_ea)
  have E_a := E_a.wr Wr15
  have X_it := X_it.wr Wr15
  have X_b0 := X_b0.wr Wr15
  have B_b0 := B_b0.wr Wr15
  have X_b1 := X_b1.wr Wr15
  have B_b1 := B_b1.wr Wr15
  have Ft_it := Ft_it.other Wr15 (Or.inl (Ne.symm ne_a1_it))
  have Fc_it := Fc_it.other Wr15 (Or.inl (Ne.symm ne_a1_it))
  have Fr_it := Fr_it.other Wr15 (Or.inl (Ne.symm ne_a1_it))
  have Fx_it := Fx_it.other Wr15 (Or.inl (Ne.symm ne_a1_it))
  have Fe_ml := Fe_ml.other Wr15 (Or.inl (Ne.symm ne_a1_ml))
  have Fs_ml := Fs_ml.other Wr15 (Or.inl (Ne.symm ne_a1_ml))
  have Fm_ml := Fm_ml.other Wr15 (Or.inl (Ne.symm ne_a1_ml))
  have V_em := V_em.other Wr15 (Ne.symm ne_a1_em)
  refine own_goto W15 8 d12_55 (by decide) (by decide) ?_
  refine own_aload W15 10 d12_8 rfl rfl rfl ?_
  refine own_callI W15 (A := []) (wt := 0) (pc' := 15) (st := []) d12_10 (wd106 hw) (wd107 hw) (wd108 hw) (by first | rfl | decide +kernel) (wd109 hw) (wd110 hw) (wd111 hw) (wd112 hw) (wd113 hw) (wd93 hw) (wd114 hw) (by decide) X_it (own_m15 l Z a0 hw [] h15 it a3 (2 : Int32) (1 : Int32) mca (3 : Int32) X_it Ft_it Fc_it Fr_it Fx_it Fs_a3) all0 rfl pd_7 rfl (Nat.le_of_eq rfl) (by decide) (by decide) (by decide) (by decide) rfl ?_
  rintro T16 h16 _ W16 K16 P16 rfl
  rw [P16 rfl rfl] at W16
  show own_Go p e below C T16 (mkF m 15 #[.val (.ref a1), .val (.long q2), .second, .val (.ref a3), .val (.ref it), .val (.ref b1)] [(.int (if (2 : Int32) = (3 : Int32) then (0 : Int32) else 1))])
  rw [show (if (2 : Int32) = (3 : Int32) then (0 : Int32) else 1) = (1 : Int32) from (by decide)]
  refine own_ifN W16 18 d12_15 ((if0 _ _).trans (feq ((by decide) : ¬ ((1 : Int32) = (0 : Int32)))).1) rfl ?_
  refine own_aload W16 20 d12_18 rfl rfl rfl ?_
  obtain ⟨b2, eb2, X_b2, B_b2⟩ := E_a 2 (by omega) (by omega)
  refine own_callI W16 (A := []) (wt := 0) (pc' := 25) (st := []) d12_20 (wd118 hw) (wd119 hw) (wd120 hw) (by first | rfl | decide +kernel) (wd121 hw) (wd122 hw) (wd123 hw) (wd124 hw) (wd113 hw) (wd93 hw) (wd125 hw) (by decide) X_it (own_m16 l Z a0 hw [] h15 it a3 ea (2 : Int32) (1 : Int32) mca (3 : Int32) va b2 2 3 X_it Ft_it Fc_it Fr_it Fx_it X_a3 Fe_a3 Fs_a3 Fm_a3 V_ea (Ne.symm ne_a3_it) (Ne.symm ne_ea_it) ne_a3_ea rfl rfl (by omega) (by omega) eb2) (allS (Or.inr os_it) all0) rfl pd_8 rfl (Nat.le_of_eq rfl) (by decide) (by decide) (by decide) (by decide) rfl ?_
  rintro T17 h17 _ W17 K17 P17 ⟨rfl, Ft_it, Fc_it, Fr_it, Fx_it⟩
  have X_a1 := X_a1.keep K17
  have Fg_a1 := Fg_a1.keep K17 (ninS ne_a1_it nin0)
  have Fp_a1 := Fp_a1.keep K17 (ninS ne_a1_it nin0)
  have Ff_a1 := Ff_a1.keep K17 (ninS ne_a1_it nin0)
  have Fl_a1 := Fl_a1.keep K17 (ninS ne_a1_it nin0)
  have X_ml := X_ml.keep K17
  have X_a3 := X_a3.keep K17
  have Fe_a3 := Fe_a3.keep K17 (ninS ne_a3_it nin0)
  have Fs_a3 := Fs_a3.keep K17 (ninS ne_a3_it nin0)
  have Fm_a3 := Fm_a3.keep K17 (ninS ne_a3_it nin0)
  have V_ea := V_ea.keep K17 (ninS ne_ea_it nin0)
  have E_a := E_a.keep K17
  have X_it := X_it.keep K17
  have X_b0 := X_b0.keep K17
  have B_b0 := B_b0.keep K17
  have X_b1 := X_b1.keep K17
  have B_b1 := B_b1.keep K17
  have Fe_ml := Fe_ml.keep K17 (ninS ne_ml_it nin0)
  have Fs_ml := Fs_ml.keep K17 (ninS ne_ml_it nin0)
  have Fm_ml := Fm_ml.keep K17 (ninS ne_ml_it nin0)
  have V_em := V_em.keep K17 (ninS (Ne.symm ne_it_em) nin0)
  have X_b2 := X_b2.keep K17
  have B_b2 := B_b2.keep K17
  show own_Go p e below C T17 (mkF m 25 #[.val (.ref a1), .val (.long q2), .second, .val (.ref a3), .val (.ref it), .val (.ref b1)] [(.ref b2)])
  have Fc_it : own_fc Z h17 it (.int (3 : Int32)) := Fc_it
  refine own_checkcast W17 28 d12_25 (wd132 hw) (Ins.of_exa X_b2 (wd133 hw)) rfl ?_
  intro T18 W18
  refine own_astore W18 30 #[.val (.ref a1), .val (.long q2), .second, .val (.ref a3), .val (.ref it), .val (.ref b2)] d12_28 rfl rfl rfl ?_
  refine own_aloadN W18 31 d12_30 rfl rfl rfl ?_
  refine own_getfield W18 34 d12_31 (wd68 hw) Fg_a1 rfl ?_
  intro T19 W19
  refine own_aload W19 36 d12_34 rfl rfl rfl ?_
  refine own_callI W19 (A := [(.ref b2)]) (wt := 0) (pc' := 41) (st := []) d12_36 (wd134 hw) (wd135 hw) (wd136 hw) (by first | rfl | decide +kernel) (wd137 hw) (wd30 hw) (wd138 hw) (wd139 hw) (wd89 hw) (wd3 hw) (wd32 hw) (by decide) X_ml (own_m5b l Z a0 hw [] h17 ml b2 em (2 : Int32) (((0 : Int32) + (1 : Int32)) + (1 : Int32)) (own_upd (own_upd (fun _ => .null) 0 (.ref b0)) 1 (.ref b1)) 2 X_b2 X_ml Fe_ml Fs_ml Fm_ml V_em ne_ml_em rfl (by omega)) (allS (Or.inl (List.mem_of_getElem? (i := 1) rfl)) (allS (Or.inr os_em) all0)) rfl pd_9 rfl (Nat.le_of_eq rfl) (by decide) (by decide) (by decide) (by decide) rfl ?_
  rintro T20 h20 _ W20 K20 P20 ⟨rfl, Fe_ml, Fs_ml, Fm_ml, V_em⟩
  have X_a1 := X_a1.keep K20
  have Fg_a1 := Fg_a1.keep K20 (ninS ne_a1_ml (ninS ne_a1_em nin0))
  have Fp_a1 := Fp_a1.keep K20 (ninS ne_a1_ml (ninS ne_a1_em nin0))
  have Ff_a1 := Ff_a1.keep K20 (ninS ne_a1_ml (ninS ne_a1_em nin0))
  have Fl_a1 := Fl_a1.keep K20 (ninS ne_a1_ml (ninS ne_a1_em nin0))
  have X_ml := X_ml.keep K20
  have X_a3 := X_a3.keep K20
  have Fe_a3 := Fe_a3.keep K20 (ninS (Ne.symm ne_ml_a3) (ninS ne_a3_em nin0))
  have Fs_a3 := Fs_a3.keep K20 (ninS (Ne.symm ne_ml_a3) (ninS ne_a3_em nin0))
  have Fm_a3 := Fm_a3.keep K20 (ninS (Ne.symm ne_ml_a3) (ninS ne_a3_em nin0))
  have V_ea := V_ea.keep K20 (ninS (Ne.symm ne_ml_ea) (ninS ne_ea_em nin0))
  have E_a := E_a.keep K20
  have X_it := X_it.keep K20
  have X_b0 := X_b0.keep K20
  have B_b0 := B_b0.keep K20
  have X_b1 := X_b1.keep K20
  have B_b1 := B_b1.keep K20
  have X_b2 := X_b2.keep K20
  have B_b2 := B_b2.keep K20
  have Ft_it := Ft_it.keep K20 (ninS (Ne.symm ne_ml_it) (ninS ne_it_em nin0))
  have Fc_it := Fc_it.keep K20 (ninS (Ne.symm ne_ml_it) (ninS ne_it_em nin0))
  have Fr_it := Fr_it.keep K20 (ninS (Ne.symm ne_ml_it) (ninS ne_it_em nin0))
  have Fx_it := Fx_it.keep K20 (ninS (Ne.symm ne_ml_it) (ninS ne_it_em nin0))
  show own_Go p e below C T20 (mkF m 41 #[.val (.ref a1), .val (.long q2), .second, .val (.ref a3), .val (.ref it), .val (.ref b2)] [(.int ((1 : Int32) &&& 1))])
  have Fs_ml : own_fs Z h20 ml (.int (3 : Int32)) := Fs_ml
  refine own_pop W20 42 d12_41 rfl rfl ?_
  refine own_aloadN W20 43 d12_42 rfl rfl rfl ?_
  refine own_dup W20 44 d12_43 rfl rfl ?_
  refine own_getfield W20 47 d12_44 (wd140 hw) Fp_a1 rfl ?_
  intro T21 W21
  refine own_aload W21 49 d12_47 rfl rfl rfl ?_
  obtain ⟨ln2, lf2, V_b2⟩ := B_b2.A
  refine own_arraylength W21 ln2.toInt32 50 d12_49 V_b2 rfl rfl ?_
  refine own_i2l W21 51 d12_50 rfl ?_
  refine own_ladd W21 52 d12_51 rfl ?_
  refine own_putfield W21 (.long (((pl + ln0.toInt32.toInt64) + ln1.toInt32.toInt64) + ln2.toInt32.toInt64)) 55 d12_52 (wd140 hw) Fp_a1 X_a1 (Or.inl (wd141 hw)) (wd60 hw) (Or.inl (List.mem_of_getElem? (i := 0) rfl)) (ty := .long) (by decide) rfl rfl rfl ?_
  intro T22 h22 W22 Wr22 Fp_a1
  have X_a1 := X_a1.wr Wr22
  have Fg_a1 := Fg_a1.other Wr22 (Or.inr (slot_ne (Or.inr (wd69 hw)) (Or.inl (wd141 hw)) (by decide) (t := (.object "java/util/List")) (t' := .long) (by decide) (by decide)))
  have Ff_a1 := Ff_a1.other Wr22 (Or.inr (slot_ne (Or.inl (wd76 hw)) (Or.inl (wd141 hw)) (by decide) (t := .long) (t' := .long) (by decide) (by decide)))
  have Fl_a1 := Fl_a1.other Wr22 (Or.inr (slot_ne (Or.inl (wd152 hw)) (Or.inl (wd141 hw)) (by decide) (t := .long) (t' := .long) (by decide) (by decide)))
  have X_ml := X_ml.wr Wr22
  have X_a3 := X_a3.wr Wr22
  have Fe_a3 := Fe_a3.other Wr22 (Or.inl (Ne.symm ne_a1_a3))
  have Fs_a3 := Fs_a3.other Wr22 (Or.inl (Ne.symm ne_a1_a3))
  have Fm_a3 := Fm_a3.other Wr22 (Or.inl (Ne.symm ne_a1_a3))
  have V_ea := V_ea.other Wr22 (Ne.symm ne_a1_ea)
  have E_a := E_a.wr Wr22
  have X_it := X_it.wr Wr22
  have X_b0 := X_b0.wr Wr22
  have B_b0 := B_b0.wr Wr22
  have X_b1 := X_b1.wr Wr22
  have B_b1 := B_b1.wr Wr22
  have X_b2 := X_b2.wr Wr22
  have B_b2 := B_b2.wr Wr22
  have Ft_it := Ft_it.other Wr22 (Or.inl (Ne.symm ne_a1_it))
  have Fc_it := Fc_it.other Wr22 (Or.inl (Ne.symm ne_a1_it))
  have Fr_it := Fr_it.other Wr22 (Or.inl (Ne.symm ne_a1_it))
  have Fx_it := Fx_it.other Wr22 (Or.inl (Ne.symm ne_a1_it))
  have Fe_ml := Fe_ml.other Wr22 (Or.inl (Ne.symm ne_a1_ml))
  have Fs_ml := Fs_ml.other Wr22 (Or.inl (Ne.symm ne_a1_ml))
  have Fm_ml := Fm_ml.other Wr22 (Or.inl (Ne.symm ne_a1_ml))
  have V_em := V_em.other Wr22 (Ne.symm ne_a1_em)
  refine own_goto W22 8 d12_55 (by decide) (by decide) ?_
  refine own_aload W22 10 d12_8 rfl rfl rfl ?_
  refine own_callI W22 (A := []) (wt := 0) (pc' := 15) (st := []) d12_10 (wd106 hw) (wd107 hw) (wd108 hw) (by first | rfl | decide +kernel) (wd109 hw) (wd110 hw) (wd111 hw) (wd112 hw) (wd113 hw) (wd93 hw) (wd114 hw) (by decide) X_it (own_m15 l Z a0 hw [] h22 it a3 (3 : Int32) (2 : Int32) mca (3 : Int32) X_it Ft_it Fc_it Fr_it Fx_it Fs_a3) all0 rfl pd_7 rfl (Nat.le_of_eq rfl) (by decide) (by decide) (by decide) (by decide) rfl ?_
  rintro T23 h23 _ W23 K23 P23 rfl
  rw [P23 rfl rfl] at W23
  show own_Go p e below C T23 (mkF m 15 #[.val (.ref a1), .val (.long q2), .second, .val (.ref a3), .val (.ref it), .val (.ref b2)] [(.int (if (3 : Int32) = (3 : Int32) then (0 : Int32) else 1))])
  rw [show (if (3 : Int32) = (3 : Int32) then (0 : Int32) else 1) = (0 : Int32) from (by decide)]
  refine own_ifY W23 58 d12_15 ((if0 _ _).trans (teq (rfl : (0 : Int32) = (0 : Int32))).1) (by decide) (by decide) ?_
  refine own_retV (Q := fun v h => v = none ∧ (∃ pl' em mc' vm, h0.size ≤ em ∧ own_fg Z h a1 (.ref ml) ∧ own_fp Z h a1 (.long pl') ∧ own_ff Z h a1 (.long (0 : Int64)) ∧ own_fl Z h a1 (.long (0 : Int64)) ∧ own_fe Z h ml (.ref em) ∧ own_fs Z h ml (.int (3 : Int32)) ∧ own_fm Z h ml (.int mc') ∧ own_R Z h em "java/lang/Object" 10 vm ∧ own_Rf vm ∧ own_El Z h vm 0 3)) W23 hC (by decide) (by decide) d12_58 ?_
  exact ⟨rfl, ⟨_, em, _, _, own_le_ W0 os_em, Fg_a1, Fp_a1, Ff_a1, Fl_a1, Fe_ml, Fs_ml, Fm_ml, V_em, (own_Rf.upd (own_Rf.upd (own_Rf.upd (fun _ => rfl) 0 rfl) 1 rfl) 2 rfl), (((own_El.add own_El.none X_b0 B_b0).add X_b1 B_b1).add X_b2 B_b2)⟩⟩
theorem ef_m22 (m : MethodId) (x0 : Int32) (x1 : Int32) : entryFrame m #[(.int x0), (.int x1), .null] 3 = mkF m 0 #[.val (.int x0), .val (.int x1), .val .null] [] := by first | (simp [entryFrame, mkF, argsToLocals, Value.category]; done) | rfl
set_option maxRecDepth 65536 in
set_option maxHeartbeats 40000000 in
theorem own_m22 (l : Launch) (Z : State) (a0 : Array Value) (hw : ∀ d ∈ tables_1, d.before a0 Z = true) (wo : List Jvm.Cond) (h0 : Heap) (p1 : Int32) (p2 : Int32) (hz0 : ¬ p1 < (0 : Int32)) (hz1 : p1 < p2) :
    own_M l Z wo (⟨"jdk/internal/util/Preconditions", "checkIndex", "(IILjava/util/function/BiFunction;)I"⟩ : MethodName) jdk_41_method_11_code 3 (some .int) ({ frames := 0, cells := 0, slots := 0, locals := 0 } : Room) [] #[(.int p1), (.int p2), .null] h0 (fun v h => v = some (.int p1)) := by
  refine own_body (plainFor_of_name pn_22) (fun m => ef_m22 m p1 p2) ?_
  intro p e s m below meth c C hC T0 W0
  refine own_iloadN W0 1 d22_0 rfl rfl ?_
  refine own_ifN W0 4 d22_1 ((if0 _ _).trans (flt (hz0 : ¬ (p1 < (0 : Int32)))).1) rfl ?_
  refine own_iloadN W0 5 d22_4 rfl rfl ?_
  refine own_iloadN W0 6 d22_5 rfl rfl ?_
  refine own_icmpY W0 16 d22_6 ((tlt (hz1 : p1 < p2)).1) (by decide) (by decide) ?_
  refine own_iloadN W0 17 d22_16 rfl rfl ?_
  refine own_retI (Q := fun v h => v = some (.int p1)) W0 hC (by decide) (by decide) d22_17 ?_
  exact rfl
theorem ef_m21 (m : MethodId) (x0 : Int32) (x1 : Int32) : entryFrame m #[(.int x0), (.int x1)] 2 = mkF m 0 #[.val (.int x0), .val (.int x1)] [] := by first | (simp [entryFrame, mkF, argsToLocals, Value.category]; done) | rfl
set_option maxRecDepth 65536 in
set_option maxHeartbeats 40000000 in
theorem own_m21 (l : Launch) (Z : State) (a0 : Array Value) (hw : ∀ d ∈ tables_1, d.before a0 Z = true) (wo : List Jvm.Cond) (h0 : Heap) (p1 : Int32) (p2 : Int32) (hz0 : ¬ p1 < (0 : Int32)) (hz1 : p1 < p2) :
    own_M l Z wo (⟨"java/util/Objects", "checkIndex", "(II)I"⟩ : MethodName) jdk_31_method_17_code 2 (some .int) ({ frames := 1, cells := 0, slots := 0, locals := 14 } : Room) [] #[(.int p1), (.int p2)] h0 (fun v h => v = some (.int p1)) := by
  refine own_body (plainFor_of_name pn_21) (fun m => ef_m21 m p1 p2) ?_
  intro p e s m below meth c C hC T0 W0
  refine own_iloadN W0 1 d21_0 rfl rfl ?_
  refine own_iloadN W0 2 d21_1 rfl rfl ?_
  refine own_aconst_null W0 3 d21_2 rfl ?_
  refine own_callS W0 (A := [(.int p1), (.int p2), .null]) (wt := 0) (pc' := 6) (st := []) d21_3 (wd165 hw) (wd166 hw) (wd167 hw) (wd168 hw) (by decide) (own_m22 l Z a0 hw [] h0 p1 p2 hz0 hz1) all0 rfl pd_10 rfl (Nat.le_of_eq rfl) (by decide) (by decide) (by decide) (by decide) rfl ?_
  rintro T1 h1 _ W1 K1 P1 rfl
  rw [P1 rfl rfl] at W1
  show own_Go p e below C T1 (mkF m 6 #[.val (.int p1), .val (.int p2)] [(.int p1)])
  refine own_retI (Q := fun v h => v = some (.int p1)) W1 hC (by decide) (by decide) d21_6 ?_
  exact rfl
theorem ef_m23 (m : MethodId) (x0 : Addr) (x1 : Int32) : entryFrame m #[(.ref x0), (.int x1)] 2 = mkF m 0 #[.val (.ref x0), .val (.int x1)] [] := by first | (simp [entryFrame, mkF, argsToLocals, Value.category]; done) | rfl
set_option maxRecDepth 65536 in
set_option maxHeartbeats 40000000 in
theorem own_m23 (l : Launch) (Z : State) (a0 : Array Value) (hw : ∀ d ∈ tables_1, d.before a0 Z = true) (wo : List Jvm.Cond) (h0 : Heap) (a1 : Addr) (p2 : Int32) (ed : Addr) (vf : Nat → Value) (b : Addr) (j : Nat) (Fe_a1 : own_fe Z h0 a1 (.ref ed)) (V_ed : own_R Z h0 ed "java/lang/Object" 10 vf) (hj : p2.toInt = (j : Int)) (hj10 : j < 10) (hb_ : vf j = .ref b) :
    own_M l Z wo (⟨"java/util/ArrayList", "elementData", "(I)Ljava/lang/Object;"⟩ : MethodName) jdk_38_method_18_code 2 (some (.object "java/lang/Object")) ({ frames := 0, cells := 0, slots := 0, locals := 0 } : Room) [] #[(.ref a1), (.int p2)] h0 (fun v h => v = some (.ref b)) := by
  refine own_body (plainFor_of_name pn_23) (fun m => ef_m23 m a1 p2) ?_
  intro p e s m below meth c C hC T0 W0
  refine own_aloadN W0 1 d23_0 rfl rfl rfl ?_
  refine own_getfield W0 4 d23_1 (wd25 hw) Fe_a1 rfl ?_
  intro T1 W1
  refine own_iloadN W1 5 d23_4 rfl rfl ?_
  refine own_aaload W1 j (.ref b) 6 d23_5 V_ed hj hj10 hb_ rfl ?_
  refine own_retA (Q := fun v h => v = some (.ref b)) W1 hC (by decide) (by decide) rfl rfl d23_6 rfl ?_
  exact rfl
theorem ef_m20 (m : MethodId) (x0 : Addr) (x1 : Int32) : entryFrame m #[(.ref x0), (.int x1), .null] 4 = mkF m 0 #[.val (.ref x0), .val (.int x1), .val .null, .unset] [] := by first | (simp [entryFrame, mkF, argsToLocals, Value.category]; done) | rfl
set_option maxRecDepth 65536 in
set_option maxHeartbeats 40000000 in
theorem own_m20 (l : Launch) (Z : State) (a0 : Array Value) (hw : ∀ d ∈ tables_1, d.before a0 Z = true) (wo : List Jvm.Cond) (h0 : Heap) (a1 : Addr) (p2 : Int32) (ed : Addr) (nn : Int32) (mc : Int32) (vf : Nat → Value) (b : Addr) (j : Nat) (n : Nat) (X_a1 : own_xl Z h0 a1) (Fe_a1 : own_fe Z h0 a1 (.ref ed)) (Fs_a1 : own_fs Z h0 a1 (.int nn)) (Fm_a1 : own_fm Z h0 a1 (.int mc)) (V_ed : own_R Z h0 ed "java/lang/Object" 10 vf) (ne1 : a1 ≠ ed) (hj : p2.toInt = (j : Int)) (hn : nn.toInt = (n : Int)) (hjn : j < n) (hn10 : n ≤ 10) (hb_ : vf j = .ref b) :
    own_M l Z wo (⟨"java/util/ArrayList", "set", "(ILjava/lang/Object;)Ljava/lang/Object;"⟩ : MethodName) jdk_38_method_23_code 4 (some (.object "java/lang/Object")) ({ frames := 2, cells := 0, slots := 0, locals := 27 } : Room) [ed] #[(.ref a1), (.int p2), .null] h0 (fun v h => v = some (.ref b) ∧ own_R Z h ed "java/lang/Object" 10 (own_upd vf j .null)) := by
  refine own_body (plainFor_of_name pn_20) (fun m => ef_m20 m a1 p2) ?_
  intro p e s m below meth c C hC T0 W0
  refine own_iloadN W0 1 d20_0 rfl rfl ?_
  refine own_aloadN W0 2 d20_1 rfl rfl rfl ?_
  refine own_getfield W0 5 d20_2 (wd35 hw) Fs_a1 rfl ?_
  intro T1 W1
  refine own_callS W1 (A := [(.int p2), (.int nn)]) (wt := 0) (pc' := 8) (st := []) d20_5 (wd161 hw) (wd162 hw) (wd163 hw) (wd164 hw) (by decide) (own_m21 l Z a0 hw [] h0 p2 nn (by rw [own_lt0]; omega) ((own_ltN hj hn).mpr hjn)) all0 rfl pd_1 rfl (Nat.le_of_eq rfl) (by decide) (by decide) (by decide) (by decide) rfl ?_
  rintro T2 h2 _ W2 K2 P2 rfl
  rw [P2 rfl rfl] at W2
  show own_Go p e below C T2 (mkF m 8 #[.val (.ref a1), .val (.int p2), .val .null, .unset] [(.int p2)])
  refine own_pop W2 9 d20_8 rfl rfl ?_
  refine own_aloadN W2 10 d20_9 rfl rfl rfl ?_
  refine own_iloadN W2 11 d20_10 rfl rfl ?_
  refine own_callV W2 (A := [(.int p2)]) (wt := 0) (pc' := 14) (st := []) d20_11 (wd169 hw) (wd170 hw) (own_nf W2 (wd172 hw)) (wd172 hw) (wd171 hw) (wd3 hw) (wd173 hw) (by decide) X_a1 (own_m23 l Z a0 hw [] h0 a1 p2 ed vf b j Fe_a1 V_ed hj (by omega) hb_) all0 rfl pd_11 rfl (Nat.le_of_eq rfl) (by decide) (by decide) (by decide) (by decide) rfl ?_
  rintro T3 h3 _ W3 K3 P3 rfl
  rw [P3 rfl rfl] at W3
  show own_Go p e below C T3 (mkF m 14 #[.val (.ref a1), .val (.int p2), .val .null, .unset] [(.ref b)])
  refine own_astoreN W3 15 #[.val (.ref a1), .val (.int p2), .val .null, .val (.ref b)] d20_14 rfl rfl rfl ?_
  refine own_aloadN W3 16 d20_15 rfl rfl rfl ?_
  refine own_getfield W3 19 d20_16 (wd25 hw) Fe_a1 rfl ?_
  intro T4 W4
  refine own_iloadN W4 20 d20_19 rfl rfl ?_
  refine own_aloadN W4 21 d20_20 rfl rfl rfl ?_
  refine own_aastore0 W4 j 22 d20_21 V_ed (Or.inl (List.mem_of_getElem? (i := 0) rfl)) hj (by omega) rfl ?_
  intro T5 h5 W5 Wr5 V_ed
  have X_a1 := X_a1.wr Wr5
  have Fe_a1 := Fe_a1.other Wr5 (Or.inl ne1)
  have Fs_a1 := Fs_a1.other Wr5 (Or.inl ne1)
  have Fm_a1 := Fm_a1.other Wr5 (Or.inl ne1)
  show own_Go p e below C T5 (mkF m 22 #[.val (.ref a1), .val (.int p2), .val .null, .val (.ref b)] [])
  refine own_aloadN W5 23 d20_22 rfl rfl rfl ?_
  refine own_retA (Q := fun v h => v = some (.ref b) ∧ own_R Z h ed "java/lang/Object" 10 (own_upd vf j .null)) W5 hC (by decide) (by decide) rfl rfl d20_23 rfl ?_
  exact ⟨rfl, V_ed⟩
theorem ef_m24 (m : MethodId) (x0 : Addr) : entryFrame m #[(.ref x0)] 1 = mkF m 0 #[.val (.ref x0)] [] := by first | (simp [entryFrame, mkF, argsToLocals, Value.category]; done) | rfl
set_option maxRecDepth 65536 in
set_option maxHeartbeats 40000000 in
theorem own_m24 (l : Launch) (Z : State) (a0 : Array Value) (hw : ∀ d ∈ tables_1, d.before a0 Z = true) (wo : List Jvm.Cond) (h0 : Heap) (a1 : Addr) (nn : Int32) (Fs_a1 : own_fs Z h0 a1 (.int nn)) :
    own_M l Z wo (⟨"java/util/ArrayList", "size", "()I"⟩ : MethodName) jdk_38_method_8_code 1 (some .int) ({ frames := 0, cells := 0, slots := 0, locals := 0 } : Room) [] #[(.ref a1)] h0 (fun v h => v = some (.int nn)) := by
  refine own_body (plainFor_of_name pn_24) (fun m => ef_m24 m a1) ?_
  intro p e s m below meth c C hC T0 W0
  refine own_aloadN W0 1 d24_0 rfl rfl rfl ?_
  refine own_getfield W0 4 d24_1 (wd35 hw) Fs_a1 rfl ?_
  intro T1 W1
  refine own_retI (Q := fun v h => v = some (.int nn)) W1 hC (by decide) (by decide) d24_4 ?_
  exact rfl
theorem ef_m19 (m : MethodId) (x0 : Addr) (x1 : Int64) : entryFrame m #[(.ref x0), (.long x1)] 3 = mkF m 0 #[.val (.ref x0), .val (.long x1), .second] [] := by first | (simp [entryFrame, mkF, argsToLocals, Value.category]; done) | rfl
set_option maxRecDepth 65536 in
set_option maxHeartbeats 40000000 in
theorem own_m19 (l : Launch) (Z : State) (a0 : Array Value) (hw : ∀ d ∈ tables_1, d.before a0 Z = true) (wo : List Jvm.Cond) (h0 : Heap) (a1 : Addr) (q2 : Int64) (lv : Int64) (Fl_a1 : own_fl Z h0 a1 (.long lv)) :
    own_M l Z wo (⟨"com/example/redelivery/redelivery/engine/MemoryLog", "slot", "(J)I"⟩ : MethodName) prog_7_method_8_code 3 (some .int) ({ frames := 0, cells := 0, slots := 0, locals := 0 } : Room) [] #[(.ref a1), (.long q2)] h0 (fun v h => v = some (.int (q2 - lv).toInt32)) := by
  refine own_body (plainFor_of_name pn_19) (fun m => ef_m19 m a1 q2) ?_
  intro p e s m below meth c C hC T0 W0
  refine own_lloadN W0 1 d19_0 rfl rfl ?_
  refine own_aloadN W0 2 d19_1 rfl rfl rfl ?_
  refine own_getfield W0 5 d19_2 (wd151 hw) Fl_a1 rfl ?_
  intro T1 W1
  refine own_lsub W1 6 d19_5 rfl ?_
  refine own_l2i W1 7 d19_6 rfl ?_
  refine own_retI (Q := fun v h => v = some (.int (q2 - lv).toInt32)) W1 hC (by decide) (by decide) d19_7 ?_
  exact rfl
theorem ef_m26 (m : MethodId) (x0 : Int32) (x1 : Int32) (x2 : Int32) : entryFrame m #[(.int x0), (.int x1), (.int x2)] 3 = mkF m 0 #[.val (.int x0), .val (.int x1), .val (.int x2)] [] := by first | (simp [entryFrame, mkF, argsToLocals, Value.category]; done) | rfl
set_option maxRecDepth 65536 in
set_option maxHeartbeats 40000000 in
theorem own_m26 (l : Launch) (Z : State) (a0 : Array Value) (hw : ∀ d ∈ tables_1, d.before a0 Z = true) (wo : List Jvm.Cond) (h0 : Heap) (p2 : Int32) (p3 : Int32) (hz1 : ¬ p3 < p2) (hz2 : ¬ p2 < (0 : Int32)) :
    own_M l Z wo (⟨"java/util/AbstractList", "subListRangeCheck", "(III)V"⟩ : MethodName) jdk_39_method_15_code 3 none ({ frames := 0, cells := 0, slots := 0, locals := 0 } : Room) [] #[(.int (0 : Int32)), (.int p2), (.int p3)] h0 (fun v h => v = none ∧ (True)) := by
  refine own_body (plainFor_of_name pn_26) (fun m => ef_m26 m (0 : Int32) p2 p3) ?_
  intro p e s m below meth c C hC T0 W0
  refine own_iloadN W0 1 d26_0 rfl rfl ?_
  refine own_ifY W0 31 d26_1 ((if0 _ _).trans (flt ((by decide) : ¬ ((0 : Int32) < (0 : Int32)))).2.1) (by decide) (by decide) ?_
  refine own_iloadN W0 32 d26_31 rfl rfl ?_
  refine own_iloadN W0 33 d26_32 rfl rfl ?_
  refine own_icmpY W0 63 d26_33 ((flt (hz1 : ¬ (p3 < p2))).2.2.2) (by decide) (by decide) ?_
  refine own_iloadN W0 64 d26_63 rfl rfl ?_
  refine own_iloadN W0 65 d26_64 rfl rfl ?_
  refine own_icmpY W0 109 d26_65 ((flt (hz2 : ¬ (p2 < (0 : Int32)))).2.2.2) (by decide) (by decide) ?_
  refine own_retV (Q := fun v h => v = none ∧ (True)) W0 hC (by decide) (by decide) d26_109 ?_
  exact ⟨rfl, trivial⟩
theorem own_sub0 (u : Int32) : u - (0 : Int32) = u := Int32.sub_zero u
theorem ef_m27 (m : MethodId) (x0 : Addr) (x1 : Addr) (x2 : Int32) (x3 : Int32) : entryFrame m #[(.ref x0), (.ref x1), (.int x2), (.int x3)] 4 = mkF m 0 #[.val (.ref x0), .val (.ref x1), .val (.int x2), .val (.int x3)] [] := by first | (simp [entryFrame, mkF, argsToLocals, Value.category]; done) | rfl
set_option maxRecDepth 65536 in
set_option maxHeartbeats 40000000 in
theorem own_m27 (l : Launch) (Z : State) (a0 : Array Value) (hw : ∀ d ∈ tables_1, d.before a0 Z = true) (wo : List Jvm.Cond) (h0 : Heap) (a1 : Addr) (a2 : Addr) (p4 : Int32) (mc : Int32) (X_a1 : own_xs Z h0 a1) (Fu_a1 : own_fu Z h0 a1 .null) (Fq_a1 : own_fq Z h0 a1 .null) (Fo_a1 : own_fo Z h0 a1 (.int (0 : Int32))) (Fs_a1 : own_fz Z h0 a1 (.int (0 : Int32))) (Fm_a1 : own_fm Z h0 a1 (.int (0 : Int32))) (Fm_a2 : own_fm Z h0 a2 (.int mc)) (ne12 : a1 ≠ a2) :
    own_M l Z wo (⟨"java/util/ArrayList$SubList", "<init>", "(Ljava/util/ArrayList;II)V"⟩ : MethodName) jdk_130_method_1_code 4 none ({ frames := 3, cells := 0, slots := 0, locals := 36 } : Room) [a1] #[(.ref a1), (.ref a2), (.int (0 : Int32)), (.int p4)] h0 (fun v h => v = none ∧ (own_fu Z h a1 (.ref a2) ∧ own_fq Z h a1 .null ∧ own_fo Z h a1 (.int (0 : Int32)) ∧ own_fz Z h a1 (.int p4) ∧ own_fm Z h a1 (.int mc))) := by
  refine own_body (plainFor_of_name pn_27) (fun m => ef_m27 m a1 a2 (0 : Int32) p4) ?_
  intro p e s m below meth c C hC T0 W0
  refine own_aloadN W0 1 d27_0 rfl rfl rfl ?_
  refine own_callN W0 (A := []) (wt := 0) (pc' := 4) (st := []) d27_1 rfl (wd201 hw) (wd8 hw) (wd11 hw) (wd12 hw) (by decide) (own_m2s l Z a0 hw [] h0 a1 X_a1 Fu_a1 Fq_a1 Fo_a1 Fs_a1 Fm_a1) (allS (Or.inl (List.mem_of_getElem? (i := 0) rfl)) all0) rfl pd_0 rfl (Nat.le_of_eq rfl) (by decide) (by decide) (by decide) (by decide) rfl ?_
  rintro T1 h1 _ W1 K1 P1 ⟨rfl, ⟨Fu_a1, Fq_a1, Fo_a1, Fs_a1, Fm_a1⟩⟩
  have X_a1 := X_a1.keep K1
  have Fm_a2 := Fm_a2.keep K1 (ninS (Ne.symm ne12) nin0)
  show own_Go p e below C T1 (mkF m 4 #[.val (.ref a1), .val (.ref a2), .val (.int (0 : Int32)), .val (.int p4)] [])
  refine own_aloadN W1 5 d27_4 rfl rfl rfl ?_
  refine own_aloadN W1 6 d27_5 rfl rfl rfl ?_
  refine own_putfield W1 (.ref a2) 9 d27_6 (wd205 hw) Fu_a1 X_a1 (Or.inr ⟨(wd206 hw), rfl, rfl⟩) (wd195 hw) (Or.inl (List.mem_of_getElem? (i := 0) rfl)) (ty := (.object "java/util/ArrayList")) (by decide) rfl rfl rfl ?_
  intro T2 h2 W2 Wr2 Fu_a1
  have X_a1 := X_a1.wr Wr2
  have Fm_a2 := Fm_a2.other Wr2 (Or.inl (Ne.symm ne12))
  have Fq_a1 := Fq_a1.other Wr2 (Or.inr (slot_ne (Or.inr (wd208 hw)) (Or.inr (wd206 hw)) (by decide) (t := (.object "java/util/ArrayList$SubList")) (t' := (.object "java/util/ArrayList")) (by decide) (by decide)))
  have Fo_a1 := Fo_a1.other Wr2 (Or.inr (slot_ne (Or.inr (wd210 hw)) (Or.inr (wd206 hw)) (by decide) (t := .int) (t' := (.object "java/util/ArrayList")) (by decide) (by decide)))
  have Fs_a1 := Fs_a1.other Wr2 (Or.inr (slot_ne (Or.inl (wd212 hw)) (Or.inr (wd206 hw)) (by decide) (t := .int) (t' := (.object "java/util/ArrayList")) (by decide) (by decide)))
  have Fm_a1 := Fm_a1.other Wr2 (Or.inr (slot_ne (Or.inl (wd204 hw)) (Or.inr (wd206 hw)) (by decide) (t := .int) (t' := (.object "java/util/ArrayList")) (by decide) (by decide)))
  refine own_aloadN W2 10 d27_9 rfl rfl rfl ?_
  refine own_aconst_null W2 11 d27_10 rfl ?_
  refine own_putfield W2 .null 14 d27_11 (wd207 hw) Fq_a1 X_a1 (Or.inr ⟨(wd208 hw), rfl, rfl⟩) (wd195 hw) (Or.inl (List.mem_of_getElem? (i := 0) rfl)) (ty := (.object "java/util/ArrayList$SubList")) (by decide) rfl rfl rfl ?_
  intro T3 h3 W3 Wr3 Fq_a1
  have X_a1 := X_a1.wr Wr3
  have Fm_a2 := Fm_a2.other Wr3 (Or.inl (Ne.symm ne12))
  have Fu_a1 := Fu_a1.other Wr3 (Or.inr (slot_ne (Or.inr (wd206 hw)) (Or.inr (wd208 hw)) (by decide) (t := (.object "java/util/ArrayList")) (t' := (.object "java/util/ArrayList$SubList")) (by decide) (by decide)))
  have Fo_a1 := Fo_a1.other Wr3 (Or.inr (slot_ne (Or.inr (wd210 hw)) (Or.inr (wd208 hw)) (by decide) (t := .int) (t' := (.object "java/util/ArrayList$SubList")) (by decide) (by decide)))
  have Fs_a1 := Fs_a1.other Wr3 (Or.inr (slot_ne (Or.inl (wd212 hw)) (Or.inr (wd208 hw)) (by decide) (t := .int) (t' := (.object "java/util/ArrayList$SubList")) (by decide) (by decide)))
  have Fm_a1 := Fm_a1.other Wr3 (Or.inr (slot_ne (Or.inl (wd204 hw)) (Or.inr (wd208 hw)) (by decide) (t := .int) (t' := (.object "java/util/ArrayList$SubList")) (by decide) (by decide)))
  refine own_aloadN W3 15 d27_14 rfl rfl rfl ?_
  refine own_iloadN W3 16 d27_15 rfl rfl ?_
  refine own_putfield W3 (.int (0 : Int32)) 19 d27_16 (wd209 hw) Fo_a1 X_a1 (Or.inr ⟨(wd210 hw), rfl, rfl⟩) (wd195 hw) (Or.inl (List.mem_of_getElem? (i := 0) rfl)) (ty := .int) (by decide) rfl rfl rfl ?_
  intro T4 h4 W4 Wr4 Fo_a1
  have X_a1 := X_a1.wr Wr4
  have Fm_a2 := Fm_a2.other Wr4 (Or.inl (Ne.symm ne12))
  have Fu_a1 := Fu_a1.other Wr4 (Or.inr (slot_ne (Or.inr (wd206 hw)) (Or.inr (wd210 hw)) (by decide) (t := (.object "java/util/ArrayList")) (t' := .int) (by decide) (by decide)))
  have Fq_a1 := Fq_a1.other Wr4 (Or.inr (slot_ne (Or.inr (wd208 hw)) (Or.inr (wd210 hw)) (by decide) (t := (.object "java/util/ArrayList$SubList")) (t' := .int) (by decide) (by decide)))
  have Fs_a1 := Fs_a1.other Wr4 (Or.inr (slot_ne (Or.inl (wd212 hw)) (Or.inr (wd210 hw)) (by decide) (t := .int) (t' := .int) (by decide) (by decide)))
  have Fm_a1 := Fm_a1.other Wr4 (Or.inr (slot_ne (Or.inl (wd204 hw)) (Or.inr (wd210 hw)) (by decide) (t := .int) (t' := .int) (by decide) (by decide)))
  refine own_aloadN W4 20 d27_19 rfl rfl rfl ?_
  refine own_iloadN W4 21 d27_20 rfl rfl ?_
  refine own_iloadN W4 22 d27_21 rfl rfl ?_
  refine own_isub W4 23 d27_22 rfl ?_
  rw [show (p4 - (0 : Int32)) = p4 from own_sub0 _]
  refine own_putfield W4 (.int p4) 26 d27_23 (wd211 hw) Fs_a1 X_a1 (Or.inl (wd212 hw)) (wd195 hw) (Or.inl (List.mem_of_getElem? (i := 0) rfl)) (ty := .int) (by decide) rfl rfl rfl ?_
  intro T5 h5 W5 Wr5 Fs_a1
  have X_a1 := X_a1.wr Wr5
  have Fm_a2 := Fm_a2.other Wr5 (Or.inl (Ne.symm ne12))
  have Fu_a1 := Fu_a1.other Wr5 (Or.inr (slot_ne (Or.inr (wd206 hw)) (Or.inl (wd212 hw)) (by decide) (t := (.object "java/util/ArrayList")) (t' := .int) (by decide) (by decide)))
  have Fq_a1 := Fq_a1.other Wr5 (Or.inr (slot_ne (Or.inr (wd208 hw)) (Or.inl (wd212 hw)) (by decide) (t := (.object "java/util/ArrayList$SubList")) (t' := .int) (by decide) (by decide)))
  have Fo_a1 := Fo_a1.other Wr5 (Or.inr (slot_ne (Or.inr (wd210 hw)) (Or.inl (wd212 hw)) (by decide) (t := .int) (t' := .int) (by decide) (by decide)))
  have Fm_a1 := Fm_a1.other Wr5 (Or.inr (slot_ne (Or.inl (wd204 hw)) (Or.inl (wd212 hw)) (by decide) (t := .int) (t' := .int) (by decide) (by decide)))
  refine own_aloadN W5 27 d27_26 rfl rfl rfl ?_
  refine own_aloadN W5 28 d27_27 rfl rfl rfl ?_
  refine own_getfieldV W5 31 d27_28 (wd213 hw) (wd34 hw) Fm_a2 rfl ?_
  intro T6 W6
  refine own_putfieldV W6 (.int mc) 34 d27_31 (wd214 hw) (wd215 hw) Fm_a1 X_a1 (Or.inl (wd204 hw)) (wd195 hw) (Or.inl (List.mem_of_getElem? (i := 0) rfl)) (ty := .int) (by decide) rfl rfl rfl ?_
  intro T7 h7 W7 Wr7 Fm_a1
  have X_a1 := X_a1.wr Wr7
  have Fm_a2 := Fm_a2.other Wr7 (Or.inl (Ne.symm ne12))
  have Fu_a1 := Fu_a1.other Wr7 (Or.inr (slot_ne (Or.inr (wd206 hw)) (Or.inl (wd204 hw)) (by decide) (t := (.object "java/util/ArrayList")) (t' := .int) (by decide) (by decide)))
  have Fq_a1 := Fq_a1.other Wr7 (Or.inr (slot_ne (Or.inr (wd208 hw)) (Or.inl (wd204 hw)) (by decide) (t := (.object "java/util/ArrayList$SubList")) (t' := .int) (by decide) (by decide)))
  have Fo_a1 := Fo_a1.other Wr7 (Or.inr (slot_ne (Or.inr (wd210 hw)) (Or.inl (wd204 hw)) (by decide) (t := .int) (t' := .int) (by decide) (by decide)))
  have Fs_a1 := Fs_a1.other Wr7 (Or.inr (slot_ne (Or.inl (wd212 hw)) (Or.inl (wd204 hw)) (by decide) (t := .int) (t' := .int) (by decide) (by decide)))
  refine own_retV (Q := fun v h => v = none ∧ (own_fu Z h a1 (.ref a2) ∧ own_fq Z h a1 .null ∧ own_fo Z h a1 (.int (0 : Int32)) ∧ own_fz Z h a1 (.int p4) ∧ own_fm Z h a1 (.int mc))) W7 hC (by decide) (by decide) d27_34 ?_
  exact ⟨rfl, ⟨Fu_a1, Fq_a1, Fo_a1, Fs_a1, Fm_a1⟩⟩
theorem ef_m25 (m : MethodId) (x0 : Addr) (x1 : Int32) (x2 : Int32) : entryFrame m #[(.ref x0), (.int x1), (.int x2)] 3 = mkF m 0 #[.val (.ref x0), .val (.int x1), .val (.int x2)] [] := by first | (simp [entryFrame, mkF, argsToLocals, Value.category]; done) | rfl
set_option maxRecDepth 65536 in
set_option maxHeartbeats 40000000 in
theorem own_m25 (l : Launch) (Z : State) (a0 : Array Value) (hw : ∀ d ∈ tables_1, d.before a0 Z = true) (wo : List Jvm.Cond) (h0 : Heap) (a1 : Addr) (p3 : Int32) (ed : Addr) (nn : Int32) (mc : Int32) (X_a1 : own_xl Z h0 a1) (Fe_a1 : own_fe Z h0 a1 (.ref ed)) (Fs_a1 : own_fs Z h0 a1 (.int nn)) (Fm_a1 : own_fm Z h0 a1 (.int mc)) (hz1 : ¬ nn < p3) (hz2 : ¬ p3 < (0 : Int32)) :
    own_M l Z wo (⟨"java/util/ArrayList", "subList", "(II)Ljava/util/List;"⟩ : MethodName) jdk_38_method_56_code 3 (some (.object "java/util/List")) ({ frames := 4, cells := 1, slots := 5, locals := 52 } : Room) [] #[(.ref a1), (.int (0 : Int32)), (.int p3)] h0 (fun v h => ∃ sl, v = some (.ref sl) ∧ h0.size ≤ sl ∧ own_xs Z h sl ∧ own_fu Z h sl (.ref a1) ∧ own_fq Z h sl .null ∧ own_fo Z h sl (.int (0 : Int32)) ∧ own_fz Z h sl (.int p3) ∧ own_fm Z h sl (.int mc)) := by
  refine own_body (plainFor_of_name pn_25) (fun m => ef_m25 m a1 (0 : Int32) p3) ?_
  intro p e s m below meth c C hC T0 W0
  refine own_iloadN W0 1 d25_0 rfl rfl ?_
  refine own_iloadN W0 2 d25_1 rfl rfl ?_
  refine own_aloadN W0 3 d25_2 rfl rfl rfl ?_
  refine own_getfield W0 6 d25_3 (wd35 hw) Fs_a1 rfl ?_
  intro T1 W1
  refine own_callSU W1 (ow := "java/util/AbstractList") (A := [(.int (0 : Int32)), (.int p3), (.int nn)]) (wt := 0) (pc' := 9) (st := []) d25_6 (wd190 hw) (wd191 hw) (wd192 hw) (wd11 hw) (wd193 hw) (by decide) (own_m26 l Z a0 hw [] h0 p3 nn hz1 hz2) all0 rfl pd_12 rfl (Nat.le_of_eq rfl) (by decide) (by decide) (by decide) (by decide) rfl ?_
  rintro T2 h2 _ W2 K2 P2 ⟨rfl, -⟩
  rw [P2 rfl rfl] at W2
  show own_Go p e below C T2 (mkF m 9 #[.val (.ref a1), .val (.int (0 : Int32)), .val (.int p3)] [])
  refine own_new W2 12 d25_9 (wd194 hw) (wd195 hw) (wd196 hw) (by decide) (by decide) rfl ?_
  intro T3 h3 sl W3 E3 g_sl o_sl X_sl D_sl
  have ne_a1_sl : a1 ≠ sl := by rw [g_sl]; exact Nat.ne_of_lt X_a1.lt
  have X_a1 := X_a1.ext E3
  have Fe_a1 := Fe_a1.ext E3
  have Fs_a1 := Fs_a1.ext E3
  have Fm_a1 := Fm_a1.ext E3
  have Fm_sl : own_fm Z h3 sl (.int (0 : Int32)) := D_sl (Or.inl (wd204 hw)) (ty := .int) (by decide)
  have Fu_sl : own_fu Z h3 sl .null := D_sl (Or.inr (wd206 hw)) (ty := (.object "java/util/ArrayList")) (by decide)
  have Fq_sl : own_fq Z h3 sl .null := D_sl (Or.inr (wd208 hw)) (ty := (.object "java/util/ArrayList$SubList")) (by decide)
  have Fo_sl : own_fo Z h3 sl (.int (0 : Int32)) := D_sl (Or.inr (wd210 hw)) (ty := .int) (by decide)
  have Fs_sl : own_fz Z h3 sl (.int (0 : Int32)) := D_sl (Or.inl (wd212 hw)) (ty := .int) (by decide)
  refine own_dup W3 13 d25_12 rfl rfl ?_
  refine own_aloadN W3 14 d25_13 rfl rfl rfl ?_
  refine own_iloadN W3 15 d25_14 rfl rfl ?_
  refine own_iloadN W3 16 d25_15 rfl rfl ?_
  refine own_callN W3 (A := [(.ref a1), (.int (0 : Int32)), (.int p3)]) (wt := 1) (pc' := 19) (st := [(.ref sl)]) d25_16 rfl (wd197 hw) (wd198 hw) (wd196 hw) (wd200 hw) (by decide) (own_m27 l Z a0 hw [] h3 sl a1 p3 mc X_sl Fu_sl Fq_sl Fo_sl Fs_sl Fm_sl Fm_a1 (Ne.symm ne_a1_sl)) (allS (Or.inr o_sl) all0) rfl pd_13 rfl (Nat.le_of_eq rfl) (by decide) (by decide) (by decide) (by decide) rfl ?_
  rintro T4 h4 _ W4 K4 P4 ⟨rfl, ⟨Fu_sl, Fq_sl, Fo_sl, Fs_sl, Fm_sl⟩⟩
  have X_a1 := X_a1.keep K4
  have Fe_a1 := Fe_a1.keep K4 (ninS ne_a1_sl nin0)
  have Fs_a1 := Fs_a1.keep K4 (ninS ne_a1_sl nin0)
  have Fm_a1 := Fm_a1.keep K4 (ninS ne_a1_sl nin0)
  have X_sl := X_sl.keep K4
  show own_Go p e below C T4 (mkF m 19 #[.val (.ref a1), .val (.int (0 : Int32)), .val (.int p3)] [(.ref sl)])
  refine own_retA (Q := fun v h => ∃ sl, v = some (.ref sl) ∧ h0.size ≤ sl ∧ own_xs Z h sl ∧ own_fu Z h sl (.ref a1) ∧ own_fq Z h sl .null ∧ own_fo Z h sl (.int (0 : Int32)) ∧ own_fz Z h sl (.int p3) ∧ own_fm Z h sl (.int mc)) W4 hC (by decide) (by decide) rfl rfl d25_19 rfl ?_
  exact ⟨sl, rfl, own_le_ W0 o_sl, X_sl, Fu_sl, Fq_sl, Fo_sl, Fs_sl, Fm_sl⟩
theorem ef_m30 (m : MethodId) (x0 : Addr) : entryFrame m #[(.ref x0)] 1 = mkF m 0 #[.val (.ref x0)] [] := by first | (simp [entryFrame, mkF, argsToLocals, Value.category]; done) | rfl
set_option maxRecDepth 65536 in
set_option maxHeartbeats 40000000 in
theorem own_m30 (l : Launch) (Z : State) (a0 : Array Value) (hw : ∀ d ∈ tables_1, d.before a0 Z = true) (wo : List Jvm.Cond) (h0 : Heap) (a1 : Addr) (li : Addr) (tt : Int32) (mc : Int32) (X_a1 : own_xs Z h0 a1) (Fu_a1 : own_fu Z h0 a1 (.ref li)) (Fq_a1 : own_fq Z h0 a1 .null) (Fo_a1 : own_fo Z h0 a1 (.int (0 : Int32))) (Fs_a1 : own_fz Z h0 a1 (.int tt)) (Fm_a1 : own_fm Z h0 a1 (.int mc)) (Fm_li : own_fm Z h0 li (.int mc)) :
    own_M l Z wo (⟨"java/util/ArrayList$SubList", "checkForComodification", "()V"⟩ : MethodName) jdk_130_method_28_code 1 none ({ frames := 0, cells := 0, slots := 0, locals := 0 } : Room) [] #[(.ref a1)] h0 (fun v h => v = none ∧ (True)) := by
  refine own_body (plainFor_of_name pn_30) (fun m => ef_m30 m a1) ?_
  intro p e s m below meth c C hC T0 W0
  refine own_aloadN W0 1 d30_0 rfl rfl rfl ?_
  refine own_getfield W0 4 d30_1 (wd205 hw) Fu_a1 rfl ?_
  intro T1 W1
  refine own_getfieldV W1 7 d30_4 (wd213 hw) (wd34 hw) Fm_li rfl ?_
  intro T2 W2
  refine own_aloadN W2 8 d30_7 rfl rfl rfl ?_
  refine own_getfieldV W2 11 d30_8 (wd214 hw) (wd215 hw) Fm_a1 rfl ?_
  intro T3 W3
  refine own_icmpY W3 22 d30_11 ((teq (rfl : mc = mc)).1) (by decide) (by decide) ?_
  refine own_retV (Q := fun v h => v = none ∧ (True)) W3 hC (by decide) (by decide) d30_22 ?_
  exact ⟨rfl, trivial⟩
theorem ef_m29 (m : MethodId) (x0 : Addr) : entryFrame m #[(.ref x0)] 1 = mkF m 0 #[.val (.ref x0)] [] := by first | (simp [entryFrame, mkF, argsToLocals, Value.category]; done) | rfl
set_option maxRecDepth 65536 in
set_option maxHeartbeats 40000000 in
theorem own_m29 (l : Launch) (Z : State) (a0 : Array Value) (hw : ∀ d ∈ tables_1, d.before a0 Z = true) (wo : List Jvm.Cond) (h0 : Heap) (a1 : Addr) (li : Addr) (tt : Int32) (mc : Int32) (X_a1 : own_xs Z h0 a1) (Fu_a1 : own_fu Z h0 a1 (.ref li)) (Fq_a1 : own_fq Z h0 a1 .null) (Fo_a1 : own_fo Z h0 a1 (.int (0 : Int32))) (Fs_a1 : own_fz Z h0 a1 (.int tt)) (Fm_a1 : own_fm Z h0 a1 (.int mc)) (Fm_li : own_fm Z h0 li (.int mc)) :
    own_M l Z wo (⟨"java/util/ArrayList$SubList", "size", "()I"⟩ : MethodName) jdk_130_method_5_code 1 (some .int) ({ frames := 1, cells := 0, slots := 0, locals := 12 } : Room) [] #[(.ref a1)] h0 (fun v h => v = some (.int tt)) := by
  refine own_body (plainFor_of_name pn_29) (fun m => ef_m29 m a1) ?_
  intro p e s m below meth c C hC T0 W0
  refine own_aloadN W0 1 d29_0 rfl rfl rfl ?_
  refine own_callP W0 (A := []) (wt := 0) (pc' := 4) (st := []) d29_1 (wd231 hw) (wd232 hw) (wd233 hw) (wd234 hw) rfl (wd196 hw) (wd235 hw) (by decide) X_a1 (own_m30 l Z a0 hw [] h0 a1 li tt mc X_a1 Fu_a1 Fq_a1 Fo_a1 Fs_a1 Fm_a1 Fm_li) all0 rfl pd_0 rfl (Nat.le_of_eq rfl) (by decide) (by decide) (by decide) (by decide) rfl ?_
  rintro T1 h1 _ W1 K1 P1 ⟨rfl, -⟩
  rw [P1 rfl rfl] at W1
  show own_Go p e below C T1 (mkF m 4 #[.val (.ref a1)] [])
  refine own_aloadN W1 5 d29_4 rfl rfl rfl ?_
  refine own_getfield W1 8 d29_5 (wd211 hw) Fs_a1 rfl ?_
  intro T2 W2
  refine own_retI (Q := fun v h => v = some (.int tt)) W2 hC (by decide) (by decide) d29_8 ?_
  exact rfl
theorem ef_m34 (m : MethodId) (x0 : Addr) (x1 : Int32) : entryFrame m #[(.ref x0), (.int x1)] 3 = mkF m 0 #[.val (.ref x0), .val (.int x1), .unset] [] := by first | (simp [entryFrame, mkF, argsToLocals, Value.category]; done) | rfl
set_option maxRecDepth 65536 in
set_option maxHeartbeats 40000000 in
theorem own_m34 (l : Launch) (Z : State) (a0 : Array Value) (hw : ∀ d ∈ tables_1, d.before a0 Z = true) (wo : List Jvm.Cond) (h0 : Heap) (a1 : Addr) (p2 : Int32) (li : Addr) (tt : Int32) (mc : Int32) (mo : Int32) (X_a1 : own_xs Z h0 a1) (Fu_a1 : own_fu Z h0 a1 (.ref li)) (Fq_a1 : own_fq Z h0 a1 .null) (Fo_a1 : own_fo Z h0 a1 (.int (0 : Int32))) (Fs_a1 : own_fz Z h0 a1 (.int tt)) (Fm_a1 : own_fm Z h0 a1 (.int mo)) (Fm_li : own_fm Z h0 li (.int mc)) (ne1 : a1 ≠ li) :
    own_M l Z wo (⟨"java/util/ArrayList$SubList", "updateSizeAndModCount", "(I)V"⟩ : MethodName) jdk_130_method_29_code 3 none ({ frames := 0, cells := 0, slots := 0, locals := 0 } : Room) [a1] #[(.ref a1), (.int p2)] h0 (fun v h => v = none ∧ (True)) := by
  refine own_body (plainFor_of_name pn_34) (fun m => ef_m34 m a1 p2) ?_
  intro p e s m below meth c C hC T0 W0
  refine own_aloadN W0 1 d34_0 rfl rfl rfl ?_
  refine own_astoreN W0 2 #[.val (.ref a1), .val (.int p2), .val (.ref a1)] d34_1 rfl rfl rfl ?_
  refine own_aloadN W0 3 d34_2 rfl rfl rfl ?_
  refine own_dup W0 4 d34_3 rfl rfl ?_
  refine own_getfield W0 7 d34_4 (wd211 hw) Fs_a1 rfl ?_
  intro T1 W1
  refine own_iloadN W1 8 d34_7 rfl rfl ?_
  refine own_iadd W1 9 d34_8 rfl ?_
  refine own_putfield W1 (.int (tt + p2)) 12 d34_9 (wd211 hw) Fs_a1 X_a1 (Or.inl (wd212 hw)) (wd195 hw) (Or.inl (List.mem_of_getElem? (i := 0) rfl)) (ty := .int) (by decide) rfl rfl rfl ?_
  intro T2 h2 W2 Wr2 Fs_a1
  have X_a1 := X_a1.wr Wr2
  have Fu_a1 := Fu_a1.other Wr2 (Or.inr (slot_ne (Or.inr (wd206 hw)) (Or.inl (wd212 hw)) (by decide) (t := (.object "java/util/ArrayList")) (t' := .int) (by decide) (by decide)))
  have Fq_a1 := Fq_a1.other Wr2 (Or.inr (slot_ne (Or.inr (wd208 hw)) (Or.inl (wd212 hw)) (by decide) (t := (.object "java/util/ArrayList$SubList")) (t' := .int) (by decide) (by decide)))
  have Fo_a1 := Fo_a1.other Wr2 (Or.inr (slot_ne (Or.inr (wd210 hw)) (Or.inl (wd212 hw)) (by decide) (t := .int) (t' := .int) (by decide) (by decide)))
  have Fm_a1 := Fm_a1.other Wr2 (Or.inr (slot_ne (Or.inl (wd204 hw)) (Or.inl (wd212 hw)) (by decide) (t := .int) (t' := .int) (by decide) (by decide)))
  have Fm_li := Fm_li.other Wr2 (Or.inl (Ne.symm ne1))
  refine own_aloadN W2 13 d34_12 rfl rfl rfl ?_
  refine own_aloadN W2 14 d34_13 rfl rfl rfl ?_
  refine own_getfield W2 17 d34_14 (wd205 hw) Fu_a1 rfl ?_
  intro T3 W3
  refine own_getfieldV W3 20 d34_17 (wd213 hw) (wd34 hw) Fm_li rfl ?_
  intro T4 W4
  refine own_putfieldV W4 (.int mc) 23 d34_20 (wd214 hw) (wd215 hw) Fm_a1 X_a1 (Or.inl (wd204 hw)) (wd195 hw) (Or.inl (List.mem_of_getElem? (i := 0) rfl)) (ty := .int) (by decide) rfl rfl rfl ?_
  intro T5 h5 W5 Wr5 Fm_a1
  have X_a1 := X_a1.wr Wr5
  have Fu_a1 := Fu_a1.other Wr5 (Or.inr (slot_ne (Or.inr (wd206 hw)) (Or.inl (wd204 hw)) (by decide) (t := (.object "java/util/ArrayList")) (t' := .int) (by decide) (by decide)))
  have Fq_a1 := Fq_a1.other Wr5 (Or.inr (slot_ne (Or.inr (wd208 hw)) (Or.inl (wd204 hw)) (by decide) (t := (.object "java/util/ArrayList$SubList")) (t' := .int) (by decide) (by decide)))
  have Fo_a1 := Fo_a1.other Wr5 (Or.inr (slot_ne (Or.inr (wd210 hw)) (Or.inl (wd204 hw)) (by decide) (t := .int) (t' := .int) (by decide) (by decide)))
  have Fs_a1 := Fs_a1.other Wr5 (Or.inr (slot_ne (Or.inl (wd212 hw)) (Or.inl (wd204 hw)) (by decide) (t := .int) (t' := .int) (by decide) (by decide)))
  have Fm_li := Fm_li.other Wr5 (Or.inl (Ne.symm ne1))
  refine own_aloadN W5 24 d34_23 rfl rfl rfl ?_
  refine own_getfield W5 27 d34_24 (wd207 hw) Fq_a1 rfl ?_
  intro T6 W6
  refine own_astoreN W6 28 #[.val (.ref a1), .val (.int p2), .val .null] d34_27 rfl rfl rfl ?_
  refine own_aloadN W6 29 d34_28 rfl rfl rfl ?_
  refine own_ifnonnullN W6 32 d34_29 rfl ?_
  refine own_retV (Q := fun v h => v = none ∧ (True)) W6 hC (by decide) (by decide) d34_32 ?_
  exact ⟨rfl, trivial⟩
theorem ef_m33_00 (m : MethodId) (x0 : Addr) (x1 : Addr) (x2 : Int32) (x3 : Int32) : entryFrame m #[(.ref x0), (.ref x1), (.int x2), (.int x3)] 6 = mkF m 0 #[.val (.ref x0), .val (.ref x1), .val (.int x2), .val (.int x3), .unset, .unset] [] := by first | (simp [entryFrame, mkF, argsToLocals, Value.category]; done) | rfl
set_option maxRecDepth 65536 in
set_option maxHeartbeats 40000000 in
theorem own_m33_00 (l : Launch) (Z : State) (a0 : Array Value) (hw : ∀ d ∈ tables_1, d.before a0 Z = true) (wo : List Jvm.Cond) (h0 : Heap) (a1 : Addr) (a2 : Addr) (mc : Int32) (vf : Nat → Value) (NN : Nat) (X_a1 : own_xl Z h0 a1) (Fe_a1 : own_fe Z h0 a1 (.ref a2)) (Fs_a1 : own_fs Z h0 a1 (.int (0 : Int32))) (Fm_a1 : own_fm Z h0 a1 (.int mc)) (V_a2 : own_A Z h0 a2 (.object "java/lang/Object") NN vf) (ne1 : a1 ≠ a2) :
    own_M l Z wo (⟨"java/util/ArrayList", "shiftTailOverGap", "([Ljava/lang/Object;II)V"⟩ : MethodName) jdk_38_method_44_code 6 none ({ frames := 1, cells := 0, slots := 0, locals := 18 } : Room) [a1] #[(.ref a1), (.ref a2), (.int (0 : Int32)), (.int (0 : Int32))] h0 (fun v h => v = none ∧ (own_fe Z h a1 (.ref a2) ∧ own_fs Z h a1 (.int (0 : Int32)) ∧ own_fm Z h a1 (.int mc) ∧ True)) := by
  refine own_body (plainFor_of_name pn_33) (fun m => ef_m33_00 m a1 a2 (0 : Int32) (0 : Int32)) ?_
  intro p e s m below meth c C hC T0 W0
  refine own_aloadN W0 1 d33_0 rfl rfl rfl ?_
  refine own_iloadN W0 2 d33_1 rfl rfl ?_
  refine own_aloadN W0 3 d33_2 rfl rfl rfl ?_
  refine own_iloadN W0 4 d33_3 rfl rfl ?_
  refine own_aloadN W0 5 d33_4 rfl rfl rfl ?_
  refine own_getfield W0 8 d33_5 (wd35 hw) Fs_a1 rfl ?_
  intro T1 W1
  refine own_iloadN W1 9 d33_8 rfl rfl ?_
  refine own_isub W1 10 d33_9 rfl ?_
  rw [show ((0 : Int32) - (0 : Int32)) = (0 : Int32) from rfl]
  refine own_arraycopy0 W1 (wt := 0) (pc' := 13) d33_10 (wd252 hw) (wd255 hw) (wd253 hw) (wd254 hw) V_a2 rfl (Nat.le_of_eq rfl) (by decide) (by decide) rfl ?_
  intro T2 W2
  show own_Go p e below C T2 (mkF m 13 #[.val (.ref a1), .val (.ref a2), .val (.int (0 : Int32)), .val (.int (0 : Int32)), .unset, .unset] [])
  refine own_aloadN W2 14 d33_13 rfl rfl rfl ?_
  refine own_getfield W2 17 d33_14 (wd35 hw) Fs_a1 rfl ?_
  intro T3 W3
  refine own_istore W3 19 #[.val (.ref a1), .val (.ref a2), .val (.int (0 : Int32)), .val (.int (0 : Int32)), .val (.int (0 : Int32)), .unset] d33_17 rfl rfl ?_
  refine own_aloadN W3 20 d33_19 rfl rfl rfl ?_
  refine own_dup W3 21 d33_20 rfl rfl ?_
  refine own_getfield W3 24 d33_21 (wd35 hw) Fs_a1 rfl ?_
  intro T4 W4
  refine own_iloadN W4 25 d33_24 rfl rfl ?_
  refine own_iloadN W4 26 d33_25 rfl rfl ?_
  refine own_isub W4 27 d33_26 rfl ?_
  refine own_isub W4 28 d33_27 rfl ?_
  rw [show ((0 : Int32) - ((0 : Int32) - (0 : Int32))) = (0 : Int32) from rfl]
  refine own_dup_x1 W4 29 d33_28 rfl rfl rfl ?_
  refine own_putfield W4 (.int (0 : Int32)) 32 d33_29 (wd35 hw) Fs_a1 X_a1 (Or.inl (wd36 hw)) (wd2 hw) (Or.inl (List.mem_of_getElem? (i := 0) rfl)) (ty := .int) (by decide) rfl rfl rfl ?_
  intro T5 h5 W5 Wr5 Fs_a1
  have X_a1 := X_a1.wr Wr5
  have Fe_a1 := Fe_a1.other Wr5 (Or.inr (slot_ne (Or.inl (wd26 hw)) (Or.inl (wd36 hw)) (by decide) (t := (.array (.object "java/lang/Object"))) (t' := .int) (by decide) (by decide)))
  have Fm_a1 := Fm_a1.other Wr5 (Or.inr (slot_ne (Or.inl (wd23 hw)) (Or.inl (wd36 hw)) (by decide) (t := .int) (t' := .int) (by decide) (by decide)))
  have V_a2 := V_a2.other Wr5 (Ne.symm ne1)
  refine own_istore W5 34 #[.val (.ref a1), .val (.ref a2), .val (.int (0 : Int32)), .val (.int (0 : Int32)), .val (.int (0 : Int32)), .val (.int (0 : Int32))] d33_32 rfl rfl ?_
  refine own_iload W5 36 d33_34 rfl rfl ?_
  refine own_iload W5 38 d33_36 rfl rfl ?_
  refine own_icmpY W5 52 d33_38 ((flt ((by decide) : ¬ ((0 : Int32) < (0 : Int32)))).2.1) (by decide) (by decide) ?_
  refine own_retV (Q := fun v h => v = none ∧ (own_fe Z h a1 (.ref a2) ∧ own_fs Z h a1 (.int (0 : Int32)) ∧ own_fm Z h a1 (.int mc) ∧ True)) W5 hC (by decide) (by decide) d33_52 ?_
  exact ⟨rfl, ⟨Fe_a1, Fs_a1, Fm_a1, trivial⟩⟩
theorem ef_m32_00 (m : MethodId) (x0 : Addr) (x1 : Int32) (x2 : Int32) : entryFrame m #[(.ref x0), (.int x1), (.int x2)] 3 = mkF m 0 #[.val (.ref x0), .val (.int x1), .val (.int x2)] [] := by first | (simp [entryFrame, mkF, argsToLocals, Value.category]; done) | rfl
set_option maxRecDepth 65536 in
set_option maxHeartbeats 40000000 in
theorem own_m32_00 (l : Launch) (Z : State) (a0 : Array Value) (hw : ∀ d ∈ tables_1, d.before a0 Z = true) (wo : List Jvm.Cond) (h0 : Heap) (a1 : Addr) (ed : Addr) (mc : Int32) (vf : Nat → Value) (NN : Nat) (X_a1 : own_xl Z h0 a1) (Fe_a1 : own_fe Z h0 a1 (.ref ed)) (Fs_a1 : own_fs Z h0 a1 (.int (0 : Int32))) (Fm_a1 : own_fm Z h0 a1 (.int mc)) (V_ed : own_A Z h0 ed (.object "java/lang/Object") NN vf) (ne1 : a1 ≠ ed) :
    own_M l Z wo (⟨"java/util/ArrayList", "removeRange", "(II)V"⟩ : MethodName) jdk_38_method_43_code 3 none ({ frames := 2, cells := 0, slots := 0, locals := 35 } : Room) [a1] #[(.ref a1), (.int (0 : Int32)), (.int (0 : Int32))] h0 (fun v h => v = none ∧ (own_fe Z h a1 (.ref ed) ∧ own_fs Z h a1 (.int (0 : Int32)) ∧ own_fm Z h a1 (.int (mc + (1 : Int32))) ∧ (True))) := by
  refine own_body (plainFor_of_name pn_32) (fun m => ef_m32_00 m a1 (0 : Int32) (0 : Int32)) ?_
  intro p e s m below meth c C hC T0 W0
  refine own_iloadN W0 1 d32_0 rfl rfl ?_
  refine own_iloadN W0 2 d32_1 rfl rfl ?_
  refine own_icmpY W0 18 d32_2 ((flt ((by decide) : ¬ ((0 : Int32) < (0 : Int32)))).2.2.2) (by decide) (by decide) ?_
  refine own_aloadN W0 19 d32_18 rfl rfl rfl ?_
  refine own_dup W0 20 d32_19 rfl rfl ?_
  refine own_getfieldV W0 23 d32_20 (wd33 hw) (wd34 hw) Fm_a1 rfl ?_
  intro T1 W1
  refine own_iconst W1 (1 : Int32) 24 d32_23 rfl rfl ?_
  refine own_iadd W1 25 d32_24 rfl ?_
  refine own_putfieldV W1 (.int (mc + (1 : Int32))) 28 d32_25 (wd33 hw) (wd34 hw) Fm_a1 X_a1 (Or.inl (wd23 hw)) (wd2 hw) (Or.inl (List.mem_of_getElem? (i := 0) rfl)) (ty := .int) (by decide) rfl rfl rfl ?_
  intro T2 h2 W2 Wr2 Fm_a1
  have X_a1 := X_a1.wr Wr2
  have Fe_a1 := Fe_a1.other Wr2 (Or.inr (slot_ne (Or.inl (wd26 hw)) (Or.inl (wd23 hw)) (by decide) (t := (.array (.object "java/lang/Object"))) (t' := .int) (by decide) (by decide)))
  have Fs_a1 := Fs_a1.other Wr2 (Or.inr (slot_ne (Or.inl (wd36 hw)) (Or.inl (wd23 hw)) (by decide) (t := .int) (t' := .int) (by decide) (by decide)))
  have V_ed := V_ed.other Wr2 (Ne.symm ne1)
  refine own_aloadN W2 29 d32_28 rfl rfl rfl ?_
  refine own_aloadN W2 30 d32_29 rfl rfl rfl ?_
  refine own_getfield W2 33 d32_30 (wd25 hw) Fe_a1 rfl ?_
  intro T3 W3
  refine own_iloadN W3 34 d32_33 rfl rfl ?_
  refine own_iloadN W3 35 d32_34 rfl rfl ?_
  refine own_callP W3 (A := [(.ref ed), (.int (0 : Int32)), (.int (0 : Int32))]) (wt := 0) (pc' := 38) (st := []) d32_35 (wd247 hw) (wd248 hw) (wd249 hw) (wd250 hw) rfl (wd3 hw) (wd251 hw) (by decide) X_a1 (own_m33_00 l Z a0 hw [] h2 a1 ed (mc + (1 : Int32)) vf NN X_a1 Fe_a1 Fs_a1 Fm_a1 V_ed ne1) (allS (Or.inl (List.mem_of_getElem? (i := 0) rfl)) all0) rfl pd_14 rfl (Nat.le_of_eq rfl) (by decide) (by decide) (by decide) (by decide) rfl ?_
  rintro T4 h4 _ W4 K4 P4 ⟨rfl, ⟨Fe_a1, Fs_a1, Fm_a1, QA⟩⟩
  have X_a1 := X_a1.keep K4
  show own_Go p e below C T4 (mkF m 38 #[.val (.ref a1), .val (.int (0 : Int32)), .val (.int (0 : Int32))] [])
  refine own_retV (Q := fun v h => v = none ∧ (own_fe Z h a1 (.ref ed) ∧ own_fs Z h a1 (.int (0 : Int32)) ∧ own_fm Z h a1 (.int (mc + (1 : Int32))) ∧ (True))) W4 hC (by decide) (by decide) d32_38 ?_
  exact ⟨rfl, ⟨Fe_a1, Fs_a1, Fm_a1, QA⟩⟩
theorem ef_m31_00 (m : MethodId) (x0 : Addr) (x1 : Int32) (x2 : Int32) : entryFrame m #[(.ref x0), (.int x1), (.int x2)] 3 = mkF m 0 #[.val (.ref x0), .val (.int x1), .val (.int x2)] [] := by first | (simp [entryFrame, mkF, argsToLocals, Value.category]; done) | rfl
set_option maxRecDepth 65536 in
set_option maxHeartbeats 40000000 in
theorem own_m31_00 (l : Launch) (Z : State) (a0 : Array Value) (hw : ∀ d ∈ tables_1, d.before a0 Z = true) (wo : List Jvm.Cond) (h0 : Heap) (a1 : Addr) (li : Addr) (ed : Addr) (mc : Int32) (vf : Nat → Value) (NN : Nat) (X_a1 : own_xs Z h0 a1) (Fu_a1 : own_fu Z h0 a1 (.ref li)) (Fq_a1 : own_fq Z h0 a1 .null) (Fo_a1 : own_fo Z h0 a1 (.int (0 : Int32))) (Fs_a1 : own_fz Z h0 a1 (.int (0 : Int32))) (Fm_a1 : own_fm Z h0 a1 (.int mc)) (X_li : own_xl Z h0 li) (Fe_li : own_fe Z h0 li (.ref ed)) (Fs_li : own_fs Z h0 li (.int (0 : Int32))) (Fm_li : own_fm Z h0 li (.int mc)) (V_ed : own_A Z h0 ed (.object "java/lang/Object") NN vf) (ne_a1_li : a1 ≠ li) (ne_a1_ed : a1 ≠ ed) (ne_li_ed : li ≠ ed) :
    own_M l Z wo (⟨"java/util/ArrayList$SubList", "removeRange", "(II)V"⟩ : MethodName) jdk_130_method_8_code 3 none ({ frames := 3, cells := 0, slots := 0, locals := 49 } : Room) [a1, li] #[(.ref a1), (.int (0 : Int32)), (.int (0 : Int32))] h0 (fun v h => v = none ∧ (own_fe Z h li (.ref ed) ∧ own_fs Z h li (.int (0 : Int32)) ∧ own_fm Z h li (.int (mc + (1 : Int32))) ∧ (True))) := by
  refine own_body (plainFor_of_name pn_31) (fun m => ef_m31_00 m a1 (0 : Int32) (0 : Int32)) ?_
  intro p e s m below meth c C hC T0 W0
  refine own_aloadN W0 1 d31_0 rfl rfl rfl ?_
  refine own_callP W0 (A := []) (wt := 0) (pc' := 4) (st := []) d31_1 (wd231 hw) (wd232 hw) (wd233 hw) (wd234 hw) rfl (wd196 hw) (wd235 hw) (by decide) X_a1 (own_m30 l Z a0 hw [] h0 a1 li (0 : Int32) mc X_a1 Fu_a1 Fq_a1 Fo_a1 Fs_a1 Fm_a1 Fm_li) all0 rfl pd_0 rfl (Nat.le_of_eq rfl) (by decide) (by decide) (by decide) (by decide) rfl ?_
  rintro T1 h1 _ W1 K1 P1 ⟨rfl, -⟩
  rw [P1 rfl rfl] at W1
  show own_Go p e below C T1 (mkF m 4 #[.val (.ref a1), .val (.int (0 : Int32)), .val (.int (0 : Int32))] [])
  refine own_aloadN W1 5 d31_4 rfl rfl rfl ?_
  refine own_getfield W1 8 d31_5 (wd205 hw) Fu_a1 rfl ?_
  intro T2 W2
  refine own_aloadN W2 9 d31_8 rfl rfl rfl ?_
  refine own_getfield W2 12 d31_9 (wd209 hw) Fo_a1 rfl ?_
  intro T3 W3
  refine own_iloadN W3 13 d31_12 rfl rfl ?_
  refine own_iadd W3 14 d31_13 rfl ?_
  rw [show ((0 : Int32) + (0 : Int32)) = (0 : Int32) from rfl]
  refine own_aloadN W3 15 d31_14 rfl rfl rfl ?_
  refine own_getfield W3 18 d31_15 (wd209 hw) Fo_a1 rfl ?_
  intro T4 W4
  refine own_iloadN W4 19 d31_18 rfl rfl ?_
  refine own_iadd W4 20 d31_19 rfl ?_
  rw [show ((0 : Int32) + (0 : Int32)) = (0 : Int32) from rfl]
  refine own_callV W4 (A := [(.int (0 : Int32)), (.int (0 : Int32))]) (wt := 0) (pc' := 23) (st := []) d31_20 (wd242 hw) (wd243 hw) (own_nf W4 (wd245 hw)) (wd245 hw) (wd244 hw) (wd3 hw) (wd246 hw) (by decide) X_li (own_m32_00 l Z a0 hw [] h0 li ed mc vf NN X_li Fe_li Fs_li Fm_li V_ed ne_li_ed) (allS (Or.inl (List.mem_of_getElem? (i := 1) rfl)) all0) rfl pd_15 rfl (Nat.le_of_eq rfl) (by decide) (by decide) (by decide) (by decide) rfl ?_
  rintro T5 h5 _ W5 K5 P5 ⟨rfl, ⟨Fe_li, Fs_li, Fm_li, QA⟩⟩
  have X_a1 := X_a1.keep K5
  have Fu_a1 := Fu_a1.keep K5 (ninS ne_a1_li nin0)
  have Fq_a1 := Fq_a1.keep K5 (ninS ne_a1_li nin0)
  have Fo_a1 := Fo_a1.keep K5 (ninS ne_a1_li nin0)
  have Fs_a1 := Fs_a1.keep K5 (ninS ne_a1_li nin0)
  have Fm_a1 := Fm_a1.keep K5 (ninS ne_a1_li nin0)
  have X_li := X_li.keep K5
  show own_Go p e below C T5 (mkF m 23 #[.val (.ref a1), .val (.int (0 : Int32)), .val (.int (0 : Int32))] [])
  refine own_aloadN W5 24 d31_23 rfl rfl rfl ?_
  refine own_iloadN W5 25 d31_24 rfl rfl ?_
  refine own_iloadN W5 26 d31_25 rfl rfl ?_
  refine own_isub W5 27 d31_26 rfl ?_
  refine own_callP W5 (A := [(.int ((0 : Int32) - (0 : Int32)))]) (wt := 0) (pc' := 30) (st := []) d31_27 (wd256 hw) (wd257 hw) (wd258 hw) (wd259 hw) rfl (wd196 hw) (wd260 hw) (by decide) X_a1 (own_m34 l Z a0 hw [] h5 a1 ((0 : Int32) - (0 : Int32)) li (0 : Int32) (mc + (1 : Int32)) mc X_a1 Fu_a1 Fq_a1 Fo_a1 Fs_a1 Fm_a1 Fm_li ne_a1_li) (allS (Or.inl (List.mem_of_getElem? (i := 0) rfl)) all0) rfl pd_16 rfl (Nat.le_of_eq rfl) (by decide) (by decide) (by decide) (by decide) rfl ?_
  rintro T6 h6 _ W6 K6 P6 ⟨rfl, -⟩
  have X_a1 := X_a1.keep K6
  have X_li := X_li.keep K6
  have Fe_li := Fe_li.keep K6 (ninS (Ne.symm ne_a1_li) nin0)
  have Fs_li := Fs_li.keep K6 (ninS (Ne.symm ne_a1_li) nin0)
  have Fm_li := Fm_li.keep K6 (ninS (Ne.symm ne_a1_li) nin0)
  show own_Go p e below C T6 (mkF m 30 #[.val (.ref a1), .val (.int (0 : Int32)), .val (.int (0 : Int32))] [])
  refine own_retV (Q := fun v h => v = none ∧ (own_fe Z h li (.ref ed) ∧ own_fs Z h li (.int (0 : Int32)) ∧ own_fm Z h li (.int (mc + (1 : Int32))) ∧ (True))) W6 hC (by decide) (by decide) d31_30 ?_
  exact ⟨rfl, ⟨Fe_li, Fs_li, Fm_li, trivial⟩⟩
theorem ef_m28_00 (m : MethodId) (x0 : Addr) : entryFrame m #[(.ref x0)] 1 = mkF m 0 #[.val (.ref x0)] [] := by first | (simp [entryFrame, mkF, argsToLocals, Value.category]; done) | rfl
set_option maxRecDepth 65536 in
set_option maxHeartbeats 40000000 in
theorem own_m28_00 (l : Launch) (Z : State) (a0 : Array Value) (hw : ∀ d ∈ tables_1, d.before a0 Z = true) (wo : List Jvm.Cond) (h0 : Heap) (a1 : Addr) (li : Addr) (ed : Addr) (mc : Int32) (vf : Nat → Value) (NN : Nat) (X_a1 : own_xs Z h0 a1) (Fu_a1 : own_fu Z h0 a1 (.ref li)) (Fq_a1 : own_fq Z h0 a1 .null) (Fo_a1 : own_fo Z h0 a1 (.int (0 : Int32))) (Fs_a1 : own_fz Z h0 a1 (.int (0 : Int32))) (Fm_a1 : own_fm Z h0 a1 (.int mc)) (X_li : own_xl Z h0 li) (Fe_li : own_fe Z h0 li (.ref ed)) (Fs_li : own_fs Z h0 li (.int (0 : Int32))) (Fm_li : own_fm Z h0 li (.int mc)) (V_ed : own_A Z h0 ed (.object "java/lang/Object") NN vf) (ne_a1_li : a1 ≠ li) (ne_a1_ed : a1 ≠ ed) (ne_li_ed : li ≠ ed) :
    own_M l Z wo (⟨"java/util/AbstractList", "clear", "()V"⟩ : MethodName) jdk_39_method_9_code 1 none ({ frames := 4, cells := 0, slots := 0, locals := 63 } : Room) [a1, li] #[(.ref a1)] h0 (fun v h => v = none ∧ (own_fe Z h li (.ref ed) ∧ own_fs Z h li (.int (0 : Int32)) ∧ own_fm Z h li (.int (mc + (1 : Int32))) ∧ (True))) := by
  refine own_body (plainFor_of_name pn_28) (fun m => ef_m28_00 m a1) ?_
  intro p e s m below meth c C hC T0 W0
  refine own_aloadN W0 1 d28_0 rfl rfl rfl ?_
  refine own_iconst W0 (0 : Int32) 2 d28_1 rfl rfl ?_
  refine own_aloadN W0 3 d28_2 rfl rfl rfl ?_
  refine own_callU W0 (ow := "java/util/AbstractCollection") (A := []) (wt := 2) (pc' := 6) (st := [(.int (0 : Int32)), (.ref a1)]) d28_3 (wd225 hw) (wd226 hw) (wd227 hw) (wd228 hw) (wd229 hw) (wd196 hw) (wd230 hw) (by decide) X_a1 (own_m29 l Z a0 hw [] h0 a1 li (0 : Int32) mc X_a1 Fu_a1 Fq_a1 Fo_a1 Fs_a1 Fm_a1 Fm_li) all0 rfl pd_17 rfl (Nat.le_of_eq rfl) (by decide) (by decide) (by decide) (by decide) rfl ?_
  rintro T1 h1 _ W1 K1 P1 rfl
  rw [P1 rfl rfl] at W1
  show own_Go p e below C T1 (mkF m 6 #[.val (.ref a1)] [(.int (0 : Int32)), (.int (0 : Int32)), (.ref a1)])
  refine own_callV W1 (A := [(.int (0 : Int32)), (.int (0 : Int32))]) (wt := 0) (pc' := 9) (st := []) d28_6 (wd236 hw) (wd237 hw) (own_nf2 W1 (wd219 hw) rfl) (wd239 hw) (wd240 hw) (wd196 hw) (wd241 hw) (by decide) X_a1 (own_m31_00 l Z a0 hw [] h0 a1 li ed mc vf NN X_a1 Fu_a1 Fq_a1 Fo_a1 Fs_a1 Fm_a1 X_li Fe_li Fs_li Fm_li V_ed ne_a1_li ne_a1_ed ne_li_ed) (allS (Or.inl (List.mem_of_getElem? (i := 0) rfl)) (allS (Or.inl (List.mem_of_getElem? (i := 1) rfl)) all0)) rfl pd_15 rfl (Nat.le_of_eq rfl) (by decide) (by decide) (by decide) (by decide) rfl ?_
  rintro T2 h2 _ W2 K2 P2 ⟨rfl, ⟨Fe_li, Fs_li, Fm_li, QA⟩⟩
  have X_a1 := X_a1.keep K2
  have X_li := X_li.keep K2
  show own_Go p e below C T2 (mkF m 9 #[.val (.ref a1)] [])
  refine own_retV (Q := fun v h => v = none ∧ (own_fe Z h li (.ref ed) ∧ own_fs Z h li (.int (0 : Int32)) ∧ own_fm Z h li (.int (mc + (1 : Int32))) ∧ (True))) W2 hC (by decide) (by decide) d28_9 ?_
  exact ⟨rfl, ⟨Fe_li, Fs_li, Fm_li, QA⟩⟩
theorem ef_m33_10 (m : MethodId) (x0 : Addr) (x1 : Addr) (x2 : Int32) (x3 : Int32) : entryFrame m #[(.ref x0), (.ref x1), (.int x2), (.int x3)] 6 = mkF m 0 #[.val (.ref x0), .val (.ref x1), .val (.int x2), .val (.int x3), .unset, .unset] [] := by first | (simp [entryFrame, mkF, argsToLocals, Value.category]; done) | rfl
set_option maxRecDepth 65536 in
set_option maxHeartbeats 40000000 in
theorem own_m33_10 (l : Launch) (Z : State) (a0 : Array Value) (hw : ∀ d ∈ tables_1, d.before a0 Z = true) (wo : List Jvm.Cond) (h0 : Heap) (a1 : Addr) (a2 : Addr) (mc : Int32) (vf : Nat → Value) (X_a1 : own_xl Z h0 a1) (Fe_a1 : own_fe Z h0 a1 (.ref a2)) (Fs_a1 : own_fs Z h0 a1 (.int (1 : Int32))) (Fm_a1 : own_fm Z h0 a1 (.int mc)) (V_a2 : own_R Z h0 a2 "java/lang/Object" 10 vf) (E_l : own_El Z h0 vf 0 1) (hrf : own_Rf vf) (ne1 : a1 ≠ a2) :
    own_M l Z wo (⟨"java/util/ArrayList", "shiftTailOverGap", "([Ljava/lang/Object;II)V"⟩ : MethodName) jdk_38_method_44_code 6 none ({ frames := 1, cells := 0, slots := 0, locals := 18 } : Room) [a1, a2] #[(.ref a1), (.ref a2), (.int (0 : Int32)), (.int (0 : Int32))] h0 (fun v h => v = none ∧ (own_fe Z h a1 (.ref a2) ∧ own_fs Z h a1 (.int (1 : Int32)) ∧ own_fm Z h a1 (.int mc) ∧ ∃ vf', own_R Z h a2 "java/lang/Object" 10 vf' ∧ own_Rf vf' ∧ own_El Z h vf' 0 1)) := by
  refine own_body (plainFor_of_name pn_33) (fun m => ef_m33_10 m a1 a2 (0 : Int32) (0 : Int32)) ?_
  intro p e s m below meth c C hC T0 W0
  refine own_aloadN W0 1 d33_0 rfl rfl rfl ?_
  refine own_iloadN W0 2 d33_1 rfl rfl ?_
  refine own_aloadN W0 3 d33_2 rfl rfl rfl ?_
  refine own_iloadN W0 4 d33_3 rfl rfl ?_
  refine own_aloadN W0 5 d33_4 rfl rfl rfl ?_
  refine own_getfield W0 8 d33_5 (wd35 hw) Fs_a1 rfl ?_
  intro T1 W1
  refine own_iloadN W1 9 d33_8 rfl rfl ?_
  refine own_isub W1 10 d33_9 rfl ?_
  rw [show ((1 : Int32) - (0 : Int32)) = (1 : Int32) from rfl]
  refine own_arraycopyW W1 (i1 := 0) (j1 := 0) (k1 := 1) (wt := 0) (pc' := 13) d33_10 (wd252 hw) (wd255 hw) (wd253 hw) (wd254 hw) V_a2 (own_R.fits (fun j _ => hrf j)) (by decide) (own_stoL V_a2 (fun _ X => Ins.of_exa X (wd58 hw)) 1 E_l) rfl rfl rfl (by decide) (by decide) (Or.inl (List.mem_of_getElem? (i := 1) rfl)) rfl (Nat.le_of_eq rfl) (by decide) (by decide) rfl ?_
  intro T2 h2 W2 K2 V_a2
  have X_a1 := X_a1.keep K2
  have Fe_a1 := Fe_a1.keep K2 (ninS ne1 nin0)
  have Fs_a1 := Fs_a1.keep K2 (ninS ne1 nin0)
  have Fm_a1 := Fm_a1.keep K2 (ninS ne1 nin0)
  have E_l := E_l.keep K2
  show own_Go p e below C T2 (mkF m 13 #[.val (.ref a1), .val (.ref a2), .val (.int (0 : Int32)), .val (.int (0 : Int32)), .unset, .unset] [])
  refine own_aloadN W2 14 d33_13 rfl rfl rfl ?_
  refine own_getfield W2 17 d33_14 (wd35 hw) Fs_a1 rfl ?_
  intro T3 W3
  refine own_istore W3 19 #[.val (.ref a1), .val (.ref a2), .val (.int (0 : Int32)), .val (.int (0 : Int32)), .val (.int (1 : Int32)), .unset] d33_17 rfl rfl ?_
  refine own_aloadN W3 20 d33_19 rfl rfl rfl ?_
  refine own_dup W3 21 d33_20 rfl rfl ?_
  refine own_getfield W3 24 d33_21 (wd35 hw) Fs_a1 rfl ?_
  intro T4 W4
  refine own_iloadN W4 25 d33_24 rfl rfl ?_
  refine own_iloadN W4 26 d33_25 rfl rfl ?_
  refine own_isub W4 27 d33_26 rfl ?_
  refine own_isub W4 28 d33_27 rfl ?_
  rw [show ((1 : Int32) - ((0 : Int32) - (0 : Int32))) = (1 : Int32) from rfl]
  refine own_dup_x1 W4 29 d33_28 rfl rfl rfl ?_
  refine own_putfield W4 (.int (1 : Int32)) 32 d33_29 (wd35 hw) Fs_a1 X_a1 (Or.inl (wd36 hw)) (wd2 hw) (Or.inl (List.mem_of_getElem? (i := 0) rfl)) (ty := .int) (by decide) rfl rfl rfl ?_
  intro T5 h5 W5 Wr5 Fs_a1
  have X_a1 := X_a1.wr Wr5
  have Fe_a1 := Fe_a1.other Wr5 (Or.inr (slot_ne (Or.inl (wd26 hw)) (Or.inl (wd36 hw)) (by decide) (t := (.array (.object "java/lang/Object"))) (t' := .int) (by decide) (by decide)))
  have Fm_a1 := Fm_a1.other Wr5 (Or.inr (slot_ne (Or.inl (wd23 hw)) (Or.inl (wd36 hw)) (by decide) (t := .int) (t' := .int) (by decide) (by decide)))
  have V_a2 := V_a2.other Wr5 (Ne.symm ne1)
  have E_l := E_l.wr Wr5
  refine own_istore W5 34 #[.val (.ref a1), .val (.ref a2), .val (.int (0 : Int32)), .val (.int (0 : Int32)), .val (.int (1 : Int32)), .val (.int (1 : Int32))] d33_32 rfl rfl ?_
  refine own_iload W5 36 d33_34 rfl rfl ?_
  refine own_iload W5 38 d33_36 rfl rfl ?_
  refine own_icmpY W5 52 d33_38 ((flt ((by decide) : ¬ ((1 : Int32) < (1 : Int32)))).2.1) (by decide) (by decide) ?_
  refine own_retV (Q := fun v h => v = none ∧ (own_fe Z h a1 (.ref a2) ∧ own_fs Z h a1 (.int (1 : Int32)) ∧ own_fm Z h a1 (.int mc) ∧ ∃ vf', own_R Z h a2 "java/lang/Object" 10 vf' ∧ own_Rf vf' ∧ own_El Z h vf' 0 1)) W5 hC (by decide) (by decide) d33_52 ?_
  exact ⟨rfl, ⟨Fe_a1, Fs_a1, Fm_a1, _, V_a2, (hrf.ite 0 0 1), fun j _ hj => by
    obtain ⟨b, e1, e2, e3⟩ := E_l (0 + j) (by omega) (by omega)
    refine ⟨b, ?_, e2, e3⟩
    simp only [own_upd]
    rw [if_pos (by omega), Nat.sub_zero]
    exact e1⟩⟩
theorem ef_m32_10 (m : MethodId) (x0 : Addr) (x1 : Int32) (x2 : Int32) : entryFrame m #[(.ref x0), (.int x1), (.int x2)] 3 = mkF m 0 #[.val (.ref x0), .val (.int x1), .val (.int x2)] [] := by first | (simp [entryFrame, mkF, argsToLocals, Value.category]; done) | rfl
set_option maxRecDepth 65536 in
set_option maxHeartbeats 40000000 in
theorem own_m32_10 (l : Launch) (Z : State) (a0 : Array Value) (hw : ∀ d ∈ tables_1, d.before a0 Z = true) (wo : List Jvm.Cond) (h0 : Heap) (a1 : Addr) (ed : Addr) (mc : Int32) (vf : Nat → Value) (X_a1 : own_xl Z h0 a1) (Fe_a1 : own_fe Z h0 a1 (.ref ed)) (Fs_a1 : own_fs Z h0 a1 (.int (1 : Int32))) (Fm_a1 : own_fm Z h0 a1 (.int mc)) (V_ed : own_R Z h0 ed "java/lang/Object" 10 vf) (E_l : own_El Z h0 vf 0 1) (hrf : own_Rf vf) (ne1 : a1 ≠ ed) :
    own_M l Z wo (⟨"java/util/ArrayList", "removeRange", "(II)V"⟩ : MethodName) jdk_38_method_43_code 3 none ({ frames := 2, cells := 0, slots := 0, locals := 35 } : Room) [a1, ed] #[(.ref a1), (.int (0 : Int32)), (.int (0 : Int32))] h0 (fun v h => v = none ∧ (own_fe Z h a1 (.ref ed) ∧ own_fs Z h a1 (.int (1 : Int32)) ∧ own_fm Z h a1 (.int (mc + (1 : Int32))) ∧ (∃ vf', own_R Z h ed "java/lang/Object" 10 vf' ∧ own_Rf vf' ∧ own_El Z h vf' 0 1))) := by
  refine own_body (plainFor_of_name pn_32) (fun m => ef_m32_10 m a1 (0 : Int32) (0 : Int32)) ?_
  intro p e s m below meth c C hC T0 W0
  refine own_iloadN W0 1 d32_0 rfl rfl ?_
  refine own_iloadN W0 2 d32_1 rfl rfl ?_
  refine own_icmpY W0 18 d32_2 ((flt ((by decide) : ¬ ((0 : Int32) < (0 : Int32)))).2.2.2) (by decide) (by decide) ?_
  refine own_aloadN W0 19 d32_18 rfl rfl rfl ?_
  refine own_dup W0 20 d32_19 rfl rfl ?_
  refine own_getfieldV W0 23 d32_20 (wd33 hw) (wd34 hw) Fm_a1 rfl ?_
  intro T1 W1
  refine own_iconst W1 (1 : Int32) 24 d32_23 rfl rfl ?_
  refine own_iadd W1 25 d32_24 rfl ?_
  refine own_putfieldV W1 (.int (mc + (1 : Int32))) 28 d32_25 (wd33 hw) (wd34 hw) Fm_a1 X_a1 (Or.inl (wd23 hw)) (wd2 hw) (Or.inl (List.mem_of_getElem? (i := 0) rfl)) (ty := .int) (by decide) rfl rfl rfl ?_
  intro T2 h2 W2 Wr2 Fm_a1
  have X_a1 := X_a1.wr Wr2
  have Fe_a1 := Fe_a1.other Wr2 (Or.inr (slot_ne (Or.inl (wd26 hw)) (Or.inl (wd23 hw)) (by decide) (t := (.array (.object "java/lang/Object"))) (t' := .int) (by decide) (by decide)))
  have Fs_a1 := Fs_a1.other Wr2 (Or.inr (slot_ne (Or.inl (wd36 hw)) (Or.inl (wd23 hw)) (by decide) (t := .int) (t' := .int) (by decide) (by decide)))
  have V_ed := V_ed.other Wr2 (Ne.symm ne1)
  have E_l := E_l.wr Wr2
  refine own_aloadN W2 29 d32_28 rfl rfl rfl ?_
  refine own_aloadN W2 30 d32_29 rfl rfl rfl ?_
  refine own_getfield W2 33 d32_30 (wd25 hw) Fe_a1 rfl ?_
  intro T3 W3
  refine own_iloadN W3 34 d32_33 rfl rfl ?_
  refine own_iloadN W3 35 d32_34 rfl rfl ?_
  refine own_callP W3 (A := [(.ref ed), (.int (0 : Int32)), (.int (0 : Int32))]) (wt := 0) (pc' := 38) (st := []) d32_35 (wd247 hw) (wd248 hw) (wd249 hw) (wd250 hw) rfl (wd3 hw) (wd251 hw) (by decide) X_a1 (own_m33_10 l Z a0 hw [] h2 a1 ed (mc + (1 : Int32)) vf X_a1 Fe_a1 Fs_a1 Fm_a1 V_ed E_l hrf ne1) (allS (Or.inl (List.mem_of_getElem? (i := 0) rfl)) (allS (Or.inl (List.mem_of_getElem? (i := 1) rfl)) all0)) rfl pd_14 rfl (Nat.le_of_eq rfl) (by decide) (by decide) (by decide) (by decide) rfl ?_
  rintro T4 h4 _ W4 K4 P4 ⟨rfl, ⟨Fe_a1, Fs_a1, Fm_a1, QA⟩⟩
  have X_a1 := X_a1.keep K4
  show own_Go p e below C T4 (mkF m 38 #[.val (.ref a1), .val (.int (0 : Int32)), .val (.int (0 : Int32))] [])
  refine own_retV (Q := fun v h => v = none ∧ (own_fe Z h a1 (.ref ed) ∧ own_fs Z h a1 (.int (1 : Int32)) ∧ own_fm Z h a1 (.int (mc + (1 : Int32))) ∧ (∃ vf', own_R Z h ed "java/lang/Object" 10 vf' ∧ own_Rf vf' ∧ own_El Z h vf' 0 1))) W4 hC (by decide) (by decide) d32_38 ?_
  exact ⟨rfl, ⟨Fe_a1, Fs_a1, Fm_a1, QA⟩⟩
theorem ef_m31_10 (m : MethodId) (x0 : Addr) (x1 : Int32) (x2 : Int32) : entryFrame m #[(.ref x0), (.int x1), (.int x2)] 3 = mkF m 0 #[.val (.ref x0), .val (.int x1), .val (.int x2)] [] := by first | (simp [entryFrame, mkF, argsToLocals, Value.category]; done) | rfl
set_option maxRecDepth 65536 in
set_option maxHeartbeats 40000000 in
theorem own_m31_10 (l : Launch) (Z : State) (a0 : Array Value) (hw : ∀ d ∈ tables_1, d.before a0 Z = true) (wo : List Jvm.Cond) (h0 : Heap) (a1 : Addr) (li : Addr) (ed : Addr) (mc : Int32) (vf : Nat → Value) (X_a1 : own_xs Z h0 a1) (Fu_a1 : own_fu Z h0 a1 (.ref li)) (Fq_a1 : own_fq Z h0 a1 .null) (Fo_a1 : own_fo Z h0 a1 (.int (0 : Int32))) (Fs_a1 : own_fz Z h0 a1 (.int (0 : Int32))) (Fm_a1 : own_fm Z h0 a1 (.int mc)) (X_li : own_xl Z h0 li) (Fe_li : own_fe Z h0 li (.ref ed)) (Fs_li : own_fs Z h0 li (.int (1 : Int32))) (Fm_li : own_fm Z h0 li (.int mc)) (V_ed : own_R Z h0 ed "java/lang/Object" 10 vf) (E_l : own_El Z h0 vf 0 1) (hrf : own_Rf vf) (ne_a1_li : a1 ≠ li) (ne_a1_ed : a1 ≠ ed) (ne_li_ed : li ≠ ed) :
    own_M l Z wo (⟨"java/util/ArrayList$SubList", "removeRange", "(II)V"⟩ : MethodName) jdk_130_method_8_code 3 none ({ frames := 3, cells := 0, slots := 0, locals := 49 } : Room) [a1, li, ed] #[(.ref a1), (.int (0 : Int32)), (.int (0 : Int32))] h0 (fun v h => v = none ∧ (own_fe Z h li (.ref ed) ∧ own_fs Z h li (.int (1 : Int32)) ∧ own_fm Z h li (.int (mc + (1 : Int32))) ∧ (∃ vf', own_R Z h ed "java/lang/Object" 10 vf' ∧ own_Rf vf' ∧ own_El Z h vf' 0 1))) := by
  refine own_body (plainFor_of_name pn_31) (fun m => ef_m31_10 m a1 (0 : Int32) (0 : Int32)) ?_
  intro p e s m below meth c C hC T0 W0
  refine own_aloadN W0 1 d31_0 rfl rfl rfl ?_
  refine own_callP W0 (A := []) (wt := 0) (pc' := 4) (st := []) d31_1 (wd231 hw) (wd232 hw) (wd233 hw) (wd234 hw) rfl (wd196 hw) (wd235 hw) (by decide) X_a1 (own_m30 l Z a0 hw [] h0 a1 li (0 : Int32) mc X_a1 Fu_a1 Fq_a1 Fo_a1 Fs_a1 Fm_a1 Fm_li) all0 rfl pd_0 rfl (Nat.le_of_eq rfl) (by decide) (by decide) (by decide) (by decide) rfl ?_
  rintro T1 h1 _ W1 K1 P1 ⟨rfl, -⟩
  rw [P1 rfl rfl] at W1
  show own_Go p e below C T1 (mkF m 4 #[.val (.ref a1), .val (.int (0 : Int32)), .val (.int (0 : Int32))] [])
  refine own_aloadN W1 5 d31_4 rfl rfl rfl ?_
  refine own_getfield W1 8 d31_5 (wd205 hw) Fu_a1 rfl ?_
  intro T2 W2
  refine own_aloadN W2 9 d31_8 rfl rfl rfl ?_
  refine own_getfield W2 12 d31_9 (wd209 hw) Fo_a1 rfl ?_
  intro T3 W3
  refine own_iloadN W3 13 d31_12 rfl rfl ?_
  refine own_iadd W3 14 d31_13 rfl ?_
  rw [show ((0 : Int32) + (0 : Int32)) = (0 : Int32) from rfl]
  refine own_aloadN W3 15 d31_14 rfl rfl rfl ?_
  refine own_getfield W3 18 d31_15 (wd209 hw) Fo_a1 rfl ?_
  intro T4 W4
  refine own_iloadN W4 19 d31_18 rfl rfl ?_
  refine own_iadd W4 20 d31_19 rfl ?_
  rw [show ((0 : Int32) + (0 : Int32)) = (0 : Int32) from rfl]
  refine own_callV W4 (A := [(.int (0 : Int32)), (.int (0 : Int32))]) (wt := 0) (pc' := 23) (st := []) d31_20 (wd242 hw) (wd243 hw) (own_nf W4 (wd245 hw)) (wd245 hw) (wd244 hw) (wd3 hw) (wd246 hw) (by decide) X_li (own_m32_10 l Z a0 hw [] h0 li ed mc vf X_li Fe_li Fs_li Fm_li V_ed E_l hrf ne_li_ed) (allS (Or.inl (List.mem_of_getElem? (i := 1) rfl)) (allS (Or.inl (List.mem_of_getElem? (i := 2) rfl)) all0)) rfl pd_15 rfl (Nat.le_of_eq rfl) (by decide) (by decide) (by decide) (by decide) rfl ?_
  rintro T5 h5 _ W5 K5 P5 ⟨rfl, ⟨Fe_li, Fs_li, Fm_li, QA⟩⟩
  have X_a1 := X_a1.keep K5
  have Fu_a1 := Fu_a1.keep K5 (ninS ne_a1_li (ninS ne_a1_ed nin0))
  have Fq_a1 := Fq_a1.keep K5 (ninS ne_a1_li (ninS ne_a1_ed nin0))
  have Fo_a1 := Fo_a1.keep K5 (ninS ne_a1_li (ninS ne_a1_ed nin0))
  have Fs_a1 := Fs_a1.keep K5 (ninS ne_a1_li (ninS ne_a1_ed nin0))
  have Fm_a1 := Fm_a1.keep K5 (ninS ne_a1_li (ninS ne_a1_ed nin0))
  have X_li := X_li.keep K5
  show own_Go p e below C T5 (mkF m 23 #[.val (.ref a1), .val (.int (0 : Int32)), .val (.int (0 : Int32))] [])
  obtain ⟨vg, V_ed, hrg, E_l⟩ := QA
  refine own_aloadN W5 24 d31_23 rfl rfl rfl ?_
  refine own_iloadN W5 25 d31_24 rfl rfl ?_
  refine own_iloadN W5 26 d31_25 rfl rfl ?_
  refine own_isub W5 27 d31_26 rfl ?_
  refine own_callP W5 (A := [(.int ((0 : Int32) - (0 : Int32)))]) (wt := 0) (pc' := 30) (st := []) d31_27 (wd256 hw) (wd257 hw) (wd258 hw) (wd259 hw) rfl (wd196 hw) (wd260 hw) (by decide) X_a1 (own_m34 l Z a0 hw [] h5 a1 ((0 : Int32) - (0 : Int32)) li (0 : Int32) (mc + (1 : Int32)) mc X_a1 Fu_a1 Fq_a1 Fo_a1 Fs_a1 Fm_a1 Fm_li ne_a1_li) (allS (Or.inl (List.mem_of_getElem? (i := 0) rfl)) all0) rfl pd_16 rfl (Nat.le_of_eq rfl) (by decide) (by decide) (by decide) (by decide) rfl ?_
  rintro T6 h6 _ W6 K6 P6 ⟨rfl, -⟩
  have X_a1 := X_a1.keep K6
  have X_li := X_li.keep K6
  have Fe_li := Fe_li.keep K6 (ninS (Ne.symm ne_a1_li) nin0)
  have Fs_li := Fs_li.keep K6 (ninS (Ne.symm ne_a1_li) nin0)
  have Fm_li := Fm_li.keep K6 (ninS (Ne.symm ne_a1_li) nin0)
  have V_ed := V_ed.keep K6 (ninS (Ne.symm ne_a1_ed) nin0)
  have E_l := E_l.keep K6
  show own_Go p e below C T6 (mkF m 30 #[.val (.ref a1), .val (.int (0 : Int32)), .val (.int (0 : Int32))] [])
  refine own_retV (Q := fun v h => v = none ∧ (own_fe Z h li (.ref ed) ∧ own_fs Z h li (.int (1 : Int32)) ∧ own_fm Z h li (.int (mc + (1 : Int32))) ∧ (∃ vf', own_R Z h ed "java/lang/Object" 10 vf' ∧ own_Rf vf' ∧ own_El Z h vf' 0 1))) W6 hC (by decide) (by decide) d31_30 ?_
  exact ⟨rfl, ⟨Fe_li, Fs_li, Fm_li, vg, V_ed, hrg, E_l⟩⟩
theorem ef_m28_10 (m : MethodId) (x0 : Addr) : entryFrame m #[(.ref x0)] 1 = mkF m 0 #[.val (.ref x0)] [] := by first | (simp [entryFrame, mkF, argsToLocals, Value.category]; done) | rfl
set_option maxRecDepth 65536 in
set_option maxHeartbeats 40000000 in
theorem own_m28_10 (l : Launch) (Z : State) (a0 : Array Value) (hw : ∀ d ∈ tables_1, d.before a0 Z = true) (wo : List Jvm.Cond) (h0 : Heap) (a1 : Addr) (li : Addr) (ed : Addr) (mc : Int32) (vf : Nat → Value) (X_a1 : own_xs Z h0 a1) (Fu_a1 : own_fu Z h0 a1 (.ref li)) (Fq_a1 : own_fq Z h0 a1 .null) (Fo_a1 : own_fo Z h0 a1 (.int (0 : Int32))) (Fs_a1 : own_fz Z h0 a1 (.int (0 : Int32))) (Fm_a1 : own_fm Z h0 a1 (.int mc)) (X_li : own_xl Z h0 li) (Fe_li : own_fe Z h0 li (.ref ed)) (Fs_li : own_fs Z h0 li (.int (1 : Int32))) (Fm_li : own_fm Z h0 li (.int mc)) (V_ed : own_R Z h0 ed "java/lang/Object" 10 vf) (E_l : own_El Z h0 vf 0 1) (hrf : own_Rf vf) (ne_a1_li : a1 ≠ li) (ne_a1_ed : a1 ≠ ed) (ne_li_ed : li ≠ ed) :
    own_M l Z wo (⟨"java/util/AbstractList", "clear", "()V"⟩ : MethodName) jdk_39_method_9_code 1 none ({ frames := 4, cells := 0, slots := 0, locals := 63 } : Room) [a1, li, ed] #[(.ref a1)] h0 (fun v h => v = none ∧ (own_fe Z h li (.ref ed) ∧ own_fs Z h li (.int (1 : Int32)) ∧ own_fm Z h li (.int (mc + (1 : Int32))) ∧ (∃ vf', own_R Z h ed "java/lang/Object" 10 vf' ∧ own_Rf vf' ∧ own_El Z h vf' 0 1))) := by
  refine own_body (plainFor_of_name pn_28) (fun m => ef_m28_10 m a1) ?_
  intro p e s m below meth c C hC T0 W0
  refine own_aloadN W0 1 d28_0 rfl rfl rfl ?_
  refine own_iconst W0 (0 : Int32) 2 d28_1 rfl rfl ?_
  refine own_aloadN W0 3 d28_2 rfl rfl rfl ?_
  refine own_callU W0 (ow := "java/util/AbstractCollection") (A := []) (wt := 2) (pc' := 6) (st := [(.int (0 : Int32)), (.ref a1)]) d28_3 (wd225 hw) (wd226 hw) (wd227 hw) (wd228 hw) (wd229 hw) (wd196 hw) (wd230 hw) (by decide) X_a1 (own_m29 l Z a0 hw [] h0 a1 li (0 : Int32) mc X_a1 Fu_a1 Fq_a1 Fo_a1 Fs_a1 Fm_a1 Fm_li) all0 rfl pd_17 rfl (Nat.le_of_eq rfl) (by decide) (by decide) (by decide) (by decide) rfl ?_
  rintro T1 h1 _ W1 K1 P1 rfl
  rw [P1 rfl rfl] at W1
  show own_Go p e below C T1 (mkF m 6 #[.val (.ref a1)] [(.int (0 : Int32)), (.int (0 : Int32)), (.ref a1)])
  refine own_callV W1 (A := [(.int (0 : Int32)), (.int (0 : Int32))]) (wt := 0) (pc' := 9) (st := []) d28_6 (wd236 hw) (wd237 hw) (own_nf2 W1 (wd219 hw) rfl) (wd239 hw) (wd240 hw) (wd196 hw) (wd241 hw) (by decide) X_a1 (own_m31_10 l Z a0 hw [] h0 a1 li ed mc vf X_a1 Fu_a1 Fq_a1 Fo_a1 Fs_a1 Fm_a1 X_li Fe_li Fs_li Fm_li V_ed E_l hrf ne_a1_li ne_a1_ed ne_li_ed) (allS (Or.inl (List.mem_of_getElem? (i := 0) rfl)) (allS (Or.inl (List.mem_of_getElem? (i := 1) rfl)) (allS (Or.inl (List.mem_of_getElem? (i := 2) rfl)) all0))) rfl pd_15 rfl (Nat.le_of_eq rfl) (by decide) (by decide) (by decide) (by decide) rfl ?_
  rintro T2 h2 _ W2 K2 P2 ⟨rfl, ⟨Fe_li, Fs_li, Fm_li, QA⟩⟩
  have X_a1 := X_a1.keep K2
  have X_li := X_li.keep K2
  show own_Go p e below C T2 (mkF m 9 #[.val (.ref a1)] [])
  refine own_retV (Q := fun v h => v = none ∧ (own_fe Z h li (.ref ed) ∧ own_fs Z h li (.int (1 : Int32)) ∧ own_fm Z h li (.int (mc + (1 : Int32))) ∧ (∃ vf', own_R Z h ed "java/lang/Object" 10 vf' ∧ own_Rf vf' ∧ own_El Z h vf' 0 1))) W2 hC (by decide) (by decide) d28_9 ?_
  exact ⟨rfl, ⟨Fe_li, Fs_li, Fm_li, QA⟩⟩
theorem ef_m33_11 (m : MethodId) (x0 : Addr) (x1 : Addr) (x2 : Int32) (x3 : Int32) : entryFrame m #[(.ref x0), (.ref x1), (.int x2), (.int x3)] 6 = mkF m 0 #[.val (.ref x0), .val (.ref x1), .val (.int x2), .val (.int x3), .unset, .unset] [] := by first | (simp [entryFrame, mkF, argsToLocals, Value.category]; done) | rfl
set_option maxRecDepth 65536 in
set_option maxHeartbeats 40000000 in
theorem own_m33_11 (l : Launch) (Z : State) (a0 : Array Value) (hw : ∀ d ∈ tables_1, d.before a0 Z = true) (wo : List Jvm.Cond) (h0 : Heap) (a1 : Addr) (a2 : Addr) (mc : Int32) (vf : Nat → Value) (X_a1 : own_xl Z h0 a1) (Fe_a1 : own_fe Z h0 a1 (.ref a2)) (Fs_a1 : own_fs Z h0 a1 (.int (1 : Int32))) (Fm_a1 : own_fm Z h0 a1 (.int mc)) (V_a2 : own_R Z h0 a2 "java/lang/Object" 10 vf) (E_l : own_El Z h0 vf 1 1) (hrf : own_Rf vf) (ne1 : a1 ≠ a2) :
    own_M l Z wo (⟨"java/util/ArrayList", "shiftTailOverGap", "([Ljava/lang/Object;II)V"⟩ : MethodName) jdk_38_method_44_code 6 none ({ frames := 1, cells := 0, slots := 0, locals := 18 } : Room) [a1, a2] #[(.ref a1), (.ref a2), (.int (0 : Int32)), (.int (1 : Int32))] h0 (fun v h => v = none ∧ (own_fe Z h a1 (.ref a2) ∧ own_fs Z h a1 (.int (0 : Int32)) ∧ own_fm Z h a1 (.int mc) ∧ ∃ vf', own_R Z h a2 "java/lang/Object" 10 vf' ∧ own_Rf vf' ∧ own_El Z h vf' 0 0)) := by
  refine own_body (plainFor_of_name pn_33) (fun m => ef_m33_11 m a1 a2 (0 : Int32) (1 : Int32)) ?_
  intro p e s m below meth c C hC T0 W0
  refine own_aloadN W0 1 d33_0 rfl rfl rfl ?_
  refine own_iloadN W0 2 d33_1 rfl rfl ?_
  refine own_aloadN W0 3 d33_2 rfl rfl rfl ?_
  refine own_iloadN W0 4 d33_3 rfl rfl ?_
  refine own_aloadN W0 5 d33_4 rfl rfl rfl ?_
  refine own_getfield W0 8 d33_5 (wd35 hw) Fs_a1 rfl ?_
  intro T1 W1
  refine own_iloadN W1 9 d33_8 rfl rfl ?_
  refine own_isub W1 10 d33_9 rfl ?_
  rw [show ((1 : Int32) - (1 : Int32)) = (0 : Int32) from rfl]
  refine own_arraycopyW W1 (i1 := 1) (j1 := 0) (k1 := 0) (wt := 0) (pc' := 13) d33_10 (wd252 hw) (wd255 hw) (wd253 hw) (wd254 hw) V_a2 (own_R.fits (fun j _ => hrf j)) (by decide) (own_stoL V_a2 (fun _ X => Ins.of_exa X (wd58 hw)) 0 E_l) rfl rfl rfl (by decide) (by decide) (Or.inl (List.mem_of_getElem? (i := 1) rfl)) rfl (Nat.le_of_eq rfl) (by decide) (by decide) rfl ?_
  intro T2 h2 W2 K2 V_a2
  have X_a1 := X_a1.keep K2
  have Fe_a1 := Fe_a1.keep K2 (ninS ne1 nin0)
  have Fs_a1 := Fs_a1.keep K2 (ninS ne1 nin0)
  have Fm_a1 := Fm_a1.keep K2 (ninS ne1 nin0)
  have E_l := E_l.keep K2
  show own_Go p e below C T2 (mkF m 13 #[.val (.ref a1), .val (.ref a2), .val (.int (0 : Int32)), .val (.int (1 : Int32)), .unset, .unset] [])
  refine own_aloadN W2 14 d33_13 rfl rfl rfl ?_
  refine own_getfield W2 17 d33_14 (wd35 hw) Fs_a1 rfl ?_
  intro T3 W3
  refine own_istore W3 19 #[.val (.ref a1), .val (.ref a2), .val (.int (0 : Int32)), .val (.int (1 : Int32)), .val (.int (1 : Int32)), .unset] d33_17 rfl rfl ?_
  refine own_aloadN W3 20 d33_19 rfl rfl rfl ?_
  refine own_dup W3 21 d33_20 rfl rfl ?_
  refine own_getfield W3 24 d33_21 (wd35 hw) Fs_a1 rfl ?_
  intro T4 W4
  refine own_iloadN W4 25 d33_24 rfl rfl ?_
  refine own_iloadN W4 26 d33_25 rfl rfl ?_
  refine own_isub W4 27 d33_26 rfl ?_
  refine own_isub W4 28 d33_27 rfl ?_
  rw [show ((1 : Int32) - ((1 : Int32) - (0 : Int32))) = (0 : Int32) from rfl]
  refine own_dup_x1 W4 29 d33_28 rfl rfl rfl ?_
  refine own_putfield W4 (.int (0 : Int32)) 32 d33_29 (wd35 hw) Fs_a1 X_a1 (Or.inl (wd36 hw)) (wd2 hw) (Or.inl (List.mem_of_getElem? (i := 0) rfl)) (ty := .int) (by decide) rfl rfl rfl ?_
  intro T5 h5 W5 Wr5 Fs_a1
  have X_a1 := X_a1.wr Wr5
  have Fe_a1 := Fe_a1.other Wr5 (Or.inr (slot_ne (Or.inl (wd26 hw)) (Or.inl (wd36 hw)) (by decide) (t := (.array (.object "java/lang/Object"))) (t' := .int) (by decide) (by decide)))
  have Fm_a1 := Fm_a1.other Wr5 (Or.inr (slot_ne (Or.inl (wd23 hw)) (Or.inl (wd36 hw)) (by decide) (t := .int) (t' := .int) (by decide) (by decide)))
  have V_a2 := V_a2.other Wr5 (Ne.symm ne1)
  have E_l := E_l.wr Wr5
  refine own_istore W5 34 #[.val (.ref a1), .val (.ref a2), .val (.int (0 : Int32)), .val (.int (1 : Int32)), .val (.int (1 : Int32)), .val (.int (0 : Int32))] d33_32 rfl rfl ?_
  refine own_iload W5 36 d33_34 rfl rfl ?_
  refine own_iload W5 38 d33_36 rfl rfl ?_
  refine own_icmpN W5 41 d33_38 ((tlt ((by decide) : (0 : Int32) < (1 : Int32))).2.1) rfl ?_
  refine own_aloadN W5 42 d33_41 rfl rfl rfl ?_
  refine own_iload W5 44 d33_42 rfl rfl ?_
  refine own_aconst_null W5 45 d33_44 rfl ?_
  refine own_aastore0 W5 0 46 d33_45 V_a2 (Or.inl (List.mem_of_getElem? (i := 1) rfl)) rfl (by decide) rfl ?_
  intro T6 h6 W6 Wr6 V_a2
  have X_a1 := X_a1.wr Wr6
  have Fe_a1 := Fe_a1.other Wr6 (Or.inl ne1)
  have Fs_a1 := Fs_a1.other Wr6 (Or.inl ne1)
  have Fm_a1 := Fm_a1.other Wr6 (Or.inl ne1)
  have E_l := E_l.wr Wr6
  show own_Go p e below C T6 (mkF m 46 #[.val (.ref a1), .val (.ref a2), .val (.int (0 : Int32)), .val (.int (1 : Int32)), .val (.int (1 : Int32)), .val (.int (0 : Int32))] [])
  refine own_iinc W6 (1 : Int32) 49 #[.val (.ref a1), .val (.ref a2), .val (.int (0 : Int32)), .val (.int (1 : Int32)), .val (.int (1 : Int32)), .val (.int (1 : Int32))] d33_46 rfl rfl rfl rfl ?_
  refine own_goto W6 34 d33_49 (by decide) (by decide) ?_
  refine own_iload W6 36 d33_34 rfl rfl ?_
  refine own_iload W6 38 d33_36 rfl rfl ?_
  refine own_icmpY W6 52 d33_38 ((flt ((by decide) : ¬ ((1 : Int32) < (1 : Int32)))).2.1) (by decide) (by decide) ?_
  refine own_retV (Q := fun v h => v = none ∧ (own_fe Z h a1 (.ref a2) ∧ own_fs Z h a1 (.int (0 : Int32)) ∧ own_fm Z h a1 (.int mc) ∧ ∃ vf', own_R Z h a2 "java/lang/Object" 10 vf' ∧ own_Rf vf' ∧ own_El Z h vf' 0 0)) W6 hC (by decide) (by decide) d33_52 ?_
  exact ⟨rfl, ⟨Fe_a1, Fs_a1, Fm_a1, _, V_a2, (own_Rf.upd (hrf.ite 1 0 0) 0 rfl), fun j _ hj => by
    obtain ⟨b, e1, e2, e3⟩ := E_l (1 + j) (by omega) (by omega)
    refine ⟨b, ?_, e2, e3⟩
    simp only [own_upd]
    rw [if_neg (by omega), if_pos (by omega), Nat.sub_zero]
    exact e1⟩⟩
theorem ef_m32_11 (m : MethodId) (x0 : Addr) (x1 : Int32) (x2 : Int32) : entryFrame m #[(.ref x0), (.int x1), (.int x2)] 3 = mkF m 0 #[.val (.ref x0), .val (.int x1), .val (.int x2)] [] := by first | (simp [entryFrame, mkF, argsToLocals, Value.category]; done) | rfl
set_option maxRecDepth 65536 in
set_option maxHeartbeats 40000000 in
theorem own_m32_11 (l : Launch) (Z : State) (a0 : Array Value) (hw : ∀ d ∈ tables_1, d.before a0 Z = true) (wo : List Jvm.Cond) (h0 : Heap) (a1 : Addr) (ed : Addr) (mc : Int32) (vf : Nat → Value) (X_a1 : own_xl Z h0 a1) (Fe_a1 : own_fe Z h0 a1 (.ref ed)) (Fs_a1 : own_fs Z h0 a1 (.int (1 : Int32))) (Fm_a1 : own_fm Z h0 a1 (.int mc)) (V_ed : own_R Z h0 ed "java/lang/Object" 10 vf) (E_l : own_El Z h0 vf 1 1) (hrf : own_Rf vf) (ne1 : a1 ≠ ed) :
    own_M l Z wo (⟨"java/util/ArrayList", "removeRange", "(II)V"⟩ : MethodName) jdk_38_method_43_code 3 none ({ frames := 2, cells := 0, slots := 0, locals := 35 } : Room) [a1, ed] #[(.ref a1), (.int (0 : Int32)), (.int (1 : Int32))] h0 (fun v h => v = none ∧ (own_fe Z h a1 (.ref ed) ∧ own_fs Z h a1 (.int (0 : Int32)) ∧ own_fm Z h a1 (.int (mc + (1 : Int32))) ∧ (∃ vf', own_R Z h ed "java/lang/Object" 10 vf' ∧ own_Rf vf' ∧ own_El Z h vf' 0 0))) := by
  refine own_body (plainFor_of_name pn_32) (fun m => ef_m32_11 m a1 (0 : Int32) (1 : Int32)) ?_
  intro p e s m below meth c C hC T0 W0
  refine own_iloadN W0 1 d32_0 rfl rfl ?_
  refine own_iloadN W0 2 d32_1 rfl rfl ?_
  refine own_icmpY W0 18 d32_2 ((flt ((by decide) : ¬ ((1 : Int32) < (0 : Int32)))).2.2.2) (by decide) (by decide) ?_
  refine own_aloadN W0 19 d32_18 rfl rfl rfl ?_
  refine own_dup W0 20 d32_19 rfl rfl ?_
  refine own_getfieldV W0 23 d32_20 (wd33 hw) (wd34 hw) Fm_a1 rfl ?_
  intro T1 W1
  refine own_iconst W1 (1 : Int32) 24 d32_23 rfl rfl ?_
  refine own_iadd W1 25 d32_24 rfl ?_
  refine own_putfieldV W1 (.int (mc + (1 : Int32))) 28 d32_25 (wd33 hw) (wd34 hw) Fm_a1 X_a1 (Or.inl (wd23 hw)) (wd2 hw) (Or.inl (List.mem_of_getElem? (i := 0) rfl)) (ty := .int) (by decide) rfl rfl rfl ?_
  intro T2 h2 W2 Wr2 Fm_a1
  have X_a1 := X_a1.wr Wr2
  have Fe_a1 := Fe_a1.other Wr2 (Or.inr (slot_ne (Or.inl (wd26 hw)) (Or.inl (wd23 hw)) (by decide) (t := (.array (.object "java/lang/Object"))) (t' := .int) (by decide) (by decide)))
  have Fs_a1 := Fs_a1.other Wr2 (Or.inr (slot_ne (Or.inl (wd36 hw)) (Or.inl (wd23 hw)) (by decide) (t := .int) (t' := .int) (by decide) (by decide)))
  have V_ed := V_ed.other Wr2 (Ne.symm ne1)
  have E_l := E_l.wr Wr2
  refine own_aloadN W2 29 d32_28 rfl rfl rfl ?_
  refine own_aloadN W2 30 d32_29 rfl rfl rfl ?_
  refine own_getfield W2 33 d32_30 (wd25 hw) Fe_a1 rfl ?_
  intro T3 W3
  refine own_iloadN W3 34 d32_33 rfl rfl ?_
  refine own_iloadN W3 35 d32_34 rfl rfl ?_
  refine own_callP W3 (A := [(.ref ed), (.int (0 : Int32)), (.int (1 : Int32))]) (wt := 0) (pc' := 38) (st := []) d32_35 (wd247 hw) (wd248 hw) (wd249 hw) (wd250 hw) rfl (wd3 hw) (wd251 hw) (by decide) X_a1 (own_m33_11 l Z a0 hw [] h2 a1 ed (mc + (1 : Int32)) vf X_a1 Fe_a1 Fs_a1 Fm_a1 V_ed E_l hrf ne1) (allS (Or.inl (List.mem_of_getElem? (i := 0) rfl)) (allS (Or.inl (List.mem_of_getElem? (i := 1) rfl)) all0)) rfl pd_14 rfl (Nat.le_of_eq rfl) (by decide) (by decide) (by decide) (by decide) rfl ?_
  rintro T4 h4 _ W4 K4 P4 ⟨rfl, ⟨Fe_a1, Fs_a1, Fm_a1, QA⟩⟩
  have X_a1 := X_a1.keep K4
  show own_Go p e below C T4 (mkF m 38 #[.val (.ref a1), .val (.int (0 : Int32)), .val (.int (1 : Int32))] [])
  refine own_retV (Q := fun v h => v = none ∧ (own_fe Z h a1 (.ref ed) ∧ own_fs Z h a1 (.int (0 : Int32)) ∧ own_fm Z h a1 (.int (mc + (1 : Int32))) ∧ (∃ vf', own_R Z h ed "java/lang/Object" 10 vf' ∧ own_Rf vf' ∧ own_El Z h vf' 0 0))) W4 hC (by decide) (by decide) d32_38 ?_
  exact ⟨rfl, ⟨Fe_a1, Fs_a1, Fm_a1, QA⟩⟩
theorem ef_m31_11 (m : MethodId) (x0 : Addr) (x1 : Int32) (x2 : Int32) : entryFrame m #[(.ref x0), (.int x1), (.int x2)] 3 = mkF m 0 #[.val (.ref x0), .val (.int x1), .val (.int x2)] [] := by first | (simp [entryFrame, mkF, argsToLocals, Value.category]; done) | rfl
set_option maxRecDepth 65536 in
set_option maxHeartbeats 40000000 in
theorem own_m31_11 (l : Launch) (Z : State) (a0 : Array Value) (hw : ∀ d ∈ tables_1, d.before a0 Z = true) (wo : List Jvm.Cond) (h0 : Heap) (a1 : Addr) (li : Addr) (ed : Addr) (mc : Int32) (vf : Nat → Value) (X_a1 : own_xs Z h0 a1) (Fu_a1 : own_fu Z h0 a1 (.ref li)) (Fq_a1 : own_fq Z h0 a1 .null) (Fo_a1 : own_fo Z h0 a1 (.int (0 : Int32))) (Fs_a1 : own_fz Z h0 a1 (.int (1 : Int32))) (Fm_a1 : own_fm Z h0 a1 (.int mc)) (X_li : own_xl Z h0 li) (Fe_li : own_fe Z h0 li (.ref ed)) (Fs_li : own_fs Z h0 li (.int (1 : Int32))) (Fm_li : own_fm Z h0 li (.int mc)) (V_ed : own_R Z h0 ed "java/lang/Object" 10 vf) (E_l : own_El Z h0 vf 1 1) (hrf : own_Rf vf) (ne_a1_li : a1 ≠ li) (ne_a1_ed : a1 ≠ ed) (ne_li_ed : li ≠ ed) :
    own_M l Z wo (⟨"java/util/ArrayList$SubList", "removeRange", "(II)V"⟩ : MethodName) jdk_130_method_8_code 3 none ({ frames := 3, cells := 0, slots := 0, locals := 49 } : Room) [a1, li, ed] #[(.ref a1), (.int (0 : Int32)), (.int (1 : Int32))] h0 (fun v h => v = none ∧ (own_fe Z h li (.ref ed) ∧ own_fs Z h li (.int (0 : Int32)) ∧ own_fm Z h li (.int (mc + (1 : Int32))) ∧ (∃ vf', own_R Z h ed "java/lang/Object" 10 vf' ∧ own_Rf vf' ∧ own_El Z h vf' 0 0))) := by
  refine own_body (plainFor_of_name pn_31) (fun m => ef_m31_11 m a1 (0 : Int32) (1 : Int32)) ?_
  intro p e s m below meth c C hC T0 W0
  refine own_aloadN W0 1 d31_0 rfl rfl rfl ?_
  refine own_callP W0 (A := []) (wt := 0) (pc' := 4) (st := []) d31_1 (wd231 hw) (wd232 hw) (wd233 hw) (wd234 hw) rfl (wd196 hw) (wd235 hw) (by decide) X_a1 (own_m30 l Z a0 hw [] h0 a1 li (1 : Int32) mc X_a1 Fu_a1 Fq_a1 Fo_a1 Fs_a1 Fm_a1 Fm_li) all0 rfl pd_0 rfl (Nat.le_of_eq rfl) (by decide) (by decide) (by decide) (by decide) rfl ?_
  rintro T1 h1 _ W1 K1 P1 ⟨rfl, -⟩
  rw [P1 rfl rfl] at W1
  show own_Go p e below C T1 (mkF m 4 #[.val (.ref a1), .val (.int (0 : Int32)), .val (.int (1 : Int32))] [])
  refine own_aloadN W1 5 d31_4 rfl rfl rfl ?_
  refine own_getfield W1 8 d31_5 (wd205 hw) Fu_a1 rfl ?_
  intro T2 W2
  refine own_aloadN W2 9 d31_8 rfl rfl rfl ?_
  refine own_getfield W2 12 d31_9 (wd209 hw) Fo_a1 rfl ?_
  intro T3 W3
  refine own_iloadN W3 13 d31_12 rfl rfl ?_
  refine own_iadd W3 14 d31_13 rfl ?_
  rw [show ((0 : Int32) + (0 : Int32)) = (0 : Int32) from rfl]
  refine own_aloadN W3 15 d31_14 rfl rfl rfl ?_
  refine own_getfield W3 18 d31_15 (wd209 hw) Fo_a1 rfl ?_
  intro T4 W4
  refine own_iloadN W4 19 d31_18 rfl rfl ?_
  refine own_iadd W4 20 d31_19 rfl ?_
  rw [show ((0 : Int32) + (1 : Int32)) = (1 : Int32) from rfl]
  refine own_callV W4 (A := [(.int (0 : Int32)), (.int (1 : Int32))]) (wt := 0) (pc' := 23) (st := []) d31_20 (wd242 hw) (wd243 hw) (own_nf W4 (wd245 hw)) (wd245 hw) (wd244 hw) (wd3 hw) (wd246 hw) (by decide) X_li (own_m32_11 l Z a0 hw [] h0 li ed mc vf X_li Fe_li Fs_li Fm_li V_ed E_l hrf ne_li_ed) (allS (Or.inl (List.mem_of_getElem? (i := 1) rfl)) (allS (Or.inl (List.mem_of_getElem? (i := 2) rfl)) all0)) rfl pd_15 rfl (Nat.le_of_eq rfl) (by decide) (by decide) (by decide) (by decide) rfl ?_
  rintro T5 h5 _ W5 K5 P5 ⟨rfl, ⟨Fe_li, Fs_li, Fm_li, QA⟩⟩
  have X_a1 := X_a1.keep K5
  have Fu_a1 := Fu_a1.keep K5 (ninS ne_a1_li (ninS ne_a1_ed nin0))
  have Fq_a1 := Fq_a1.keep K5 (ninS ne_a1_li (ninS ne_a1_ed nin0))
  have Fo_a1 := Fo_a1.keep K5 (ninS ne_a1_li (ninS ne_a1_ed nin0))
  have Fs_a1 := Fs_a1.keep K5 (ninS ne_a1_li (ninS ne_a1_ed nin0))
  have Fm_a1 := Fm_a1.keep K5 (ninS ne_a1_li (ninS ne_a1_ed nin0))
  have X_li := X_li.keep K5
  show own_Go p e below C T5 (mkF m 23 #[.val (.ref a1), .val (.int (0 : Int32)), .val (.int (1 : Int32))] [])
  obtain ⟨vg, V_ed, hrg, E_l⟩ := QA
  refine own_aloadN W5 24 d31_23 rfl rfl rfl ?_
  refine own_iloadN W5 25 d31_24 rfl rfl ?_
  refine own_iloadN W5 26 d31_25 rfl rfl ?_
  refine own_isub W5 27 d31_26 rfl ?_
  refine own_callP W5 (A := [(.int ((0 : Int32) - (1 : Int32)))]) (wt := 0) (pc' := 30) (st := []) d31_27 (wd256 hw) (wd257 hw) (wd258 hw) (wd259 hw) rfl (wd196 hw) (wd260 hw) (by decide) X_a1 (own_m34 l Z a0 hw [] h5 a1 ((0 : Int32) - (1 : Int32)) li (1 : Int32) (mc + (1 : Int32)) mc X_a1 Fu_a1 Fq_a1 Fo_a1 Fs_a1 Fm_a1 Fm_li ne_a1_li) (allS (Or.inl (List.mem_of_getElem? (i := 0) rfl)) all0) rfl pd_16 rfl (Nat.le_of_eq rfl) (by decide) (by decide) (by decide) (by decide) rfl ?_
  rintro T6 h6 _ W6 K6 P6 ⟨rfl, -⟩
  have X_a1 := X_a1.keep K6
  have X_li := X_li.keep K6
  have Fe_li := Fe_li.keep K6 (ninS (Ne.symm ne_a1_li) nin0)
  have Fs_li := Fs_li.keep K6 (ninS (Ne.symm ne_a1_li) nin0)
  have Fm_li := Fm_li.keep K6 (ninS (Ne.symm ne_a1_li) nin0)
  have V_ed := V_ed.keep K6 (ninS (Ne.symm ne_a1_ed) nin0)
  have E_l := E_l.keep K6
  show own_Go p e below C T6 (mkF m 30 #[.val (.ref a1), .val (.int (0 : Int32)), .val (.int (1 : Int32))] [])
  refine own_retV (Q := fun v h => v = none ∧ (own_fe Z h li (.ref ed) ∧ own_fs Z h li (.int (0 : Int32)) ∧ own_fm Z h li (.int (mc + (1 : Int32))) ∧ (∃ vf', own_R Z h ed "java/lang/Object" 10 vf' ∧ own_Rf vf' ∧ own_El Z h vf' 0 0))) W6 hC (by decide) (by decide) d31_30 ?_
  exact ⟨rfl, ⟨Fe_li, Fs_li, Fm_li, vg, V_ed, hrg, E_l⟩⟩
theorem ef_m28_11 (m : MethodId) (x0 : Addr) : entryFrame m #[(.ref x0)] 1 = mkF m 0 #[.val (.ref x0)] [] := by first | (simp [entryFrame, mkF, argsToLocals, Value.category]; done) | rfl
set_option maxRecDepth 65536 in
set_option maxHeartbeats 40000000 in
theorem own_m28_11 (l : Launch) (Z : State) (a0 : Array Value) (hw : ∀ d ∈ tables_1, d.before a0 Z = true) (wo : List Jvm.Cond) (h0 : Heap) (a1 : Addr) (li : Addr) (ed : Addr) (mc : Int32) (vf : Nat → Value) (X_a1 : own_xs Z h0 a1) (Fu_a1 : own_fu Z h0 a1 (.ref li)) (Fq_a1 : own_fq Z h0 a1 .null) (Fo_a1 : own_fo Z h0 a1 (.int (0 : Int32))) (Fs_a1 : own_fz Z h0 a1 (.int (1 : Int32))) (Fm_a1 : own_fm Z h0 a1 (.int mc)) (X_li : own_xl Z h0 li) (Fe_li : own_fe Z h0 li (.ref ed)) (Fs_li : own_fs Z h0 li (.int (1 : Int32))) (Fm_li : own_fm Z h0 li (.int mc)) (V_ed : own_R Z h0 ed "java/lang/Object" 10 vf) (E_l : own_El Z h0 vf 1 1) (hrf : own_Rf vf) (ne_a1_li : a1 ≠ li) (ne_a1_ed : a1 ≠ ed) (ne_li_ed : li ≠ ed) :
    own_M l Z wo (⟨"java/util/AbstractList", "clear", "()V"⟩ : MethodName) jdk_39_method_9_code 1 none ({ frames := 4, cells := 0, slots := 0, locals := 63 } : Room) [a1, li, ed] #[(.ref a1)] h0 (fun v h => v = none ∧ (own_fe Z h li (.ref ed) ∧ own_fs Z h li (.int (0 : Int32)) ∧ own_fm Z h li (.int (mc + (1 : Int32))) ∧ (∃ vf', own_R Z h ed "java/lang/Object" 10 vf' ∧ own_Rf vf' ∧ own_El Z h vf' 0 0))) := by
  refine own_body (plainFor_of_name pn_28) (fun m => ef_m28_11 m a1) ?_
  intro p e s m below meth c C hC T0 W0
  refine own_aloadN W0 1 d28_0 rfl rfl rfl ?_
  refine own_iconst W0 (0 : Int32) 2 d28_1 rfl rfl ?_
  refine own_aloadN W0 3 d28_2 rfl rfl rfl ?_
  refine own_callU W0 (ow := "java/util/AbstractCollection") (A := []) (wt := 2) (pc' := 6) (st := [(.int (0 : Int32)), (.ref a1)]) d28_3 (wd225 hw) (wd226 hw) (wd227 hw) (wd228 hw) (wd229 hw) (wd196 hw) (wd230 hw) (by decide) X_a1 (own_m29 l Z a0 hw [] h0 a1 li (1 : Int32) mc X_a1 Fu_a1 Fq_a1 Fo_a1 Fs_a1 Fm_a1 Fm_li) all0 rfl pd_17 rfl (Nat.le_of_eq rfl) (by decide) (by decide) (by decide) (by decide) rfl ?_
  rintro T1 h1 _ W1 K1 P1 rfl
  rw [P1 rfl rfl] at W1
  show own_Go p e below C T1 (mkF m 6 #[.val (.ref a1)] [(.int (1 : Int32)), (.int (0 : Int32)), (.ref a1)])
  refine own_callV W1 (A := [(.int (0 : Int32)), (.int (1 : Int32))]) (wt := 0) (pc' := 9) (st := []) d28_6 (wd236 hw) (wd237 hw) (own_nf2 W1 (wd219 hw) rfl) (wd239 hw) (wd240 hw) (wd196 hw) (wd241 hw) (by decide) X_a1 (own_m31_11 l Z a0 hw [] h0 a1 li ed mc vf X_a1 Fu_a1 Fq_a1 Fo_a1 Fs_a1 Fm_a1 X_li Fe_li Fs_li Fm_li V_ed E_l hrf ne_a1_li ne_a1_ed ne_li_ed) (allS (Or.inl (List.mem_of_getElem? (i := 0) rfl)) (allS (Or.inl (List.mem_of_getElem? (i := 1) rfl)) (allS (Or.inl (List.mem_of_getElem? (i := 2) rfl)) all0))) rfl pd_15 rfl (Nat.le_of_eq rfl) (by decide) (by decide) (by decide) (by decide) rfl ?_
  rintro T2 h2 _ W2 K2 P2 ⟨rfl, ⟨Fe_li, Fs_li, Fm_li, QA⟩⟩
  have X_a1 := X_a1.keep K2
  have X_li := X_li.keep K2
  show own_Go p e below C T2 (mkF m 9 #[.val (.ref a1)] [])
  refine own_retV (Q := fun v h => v = none ∧ (own_fe Z h li (.ref ed) ∧ own_fs Z h li (.int (0 : Int32)) ∧ own_fm Z h li (.int (mc + (1 : Int32))) ∧ (∃ vf', own_R Z h ed "java/lang/Object" 10 vf' ∧ own_Rf vf' ∧ own_El Z h vf' 0 0))) W2 hC (by decide) (by decide) d28_9 ?_
  exact ⟨rfl, ⟨Fe_li, Fs_li, Fm_li, QA⟩⟩
theorem ef_m33_21 (m : MethodId) (x0 : Addr) (x1 : Addr) (x2 : Int32) (x3 : Int32) : entryFrame m #[(.ref x0), (.ref x1), (.int x2), (.int x3)] 6 = mkF m 0 #[.val (.ref x0), .val (.ref x1), .val (.int x2), .val (.int x3), .unset, .unset] [] := by first | (simp [entryFrame, mkF, argsToLocals, Value.category]; done) | rfl
set_option maxRecDepth 65536 in
set_option maxHeartbeats 40000000 in
theorem own_m33_21 (l : Launch) (Z : State) (a0 : Array Value) (hw : ∀ d ∈ tables_1, d.before a0 Z = true) (wo : List Jvm.Cond) (h0 : Heap) (a1 : Addr) (a2 : Addr) (mc : Int32) (vf : Nat → Value) (X_a1 : own_xl Z h0 a1) (Fe_a1 : own_fe Z h0 a1 (.ref a2)) (Fs_a1 : own_fs Z h0 a1 (.int (2 : Int32))) (Fm_a1 : own_fm Z h0 a1 (.int mc)) (V_a2 : own_R Z h0 a2 "java/lang/Object" 10 vf) (E_l : own_El Z h0 vf 1 2) (hrf : own_Rf vf) (ne1 : a1 ≠ a2) :
    own_M l Z wo (⟨"java/util/ArrayList", "shiftTailOverGap", "([Ljava/lang/Object;II)V"⟩ : MethodName) jdk_38_method_44_code 6 none ({ frames := 1, cells := 0, slots := 0, locals := 18 } : Room) [a1, a2] #[(.ref a1), (.ref a2), (.int (0 : Int32)), (.int (1 : Int32))] h0 (fun v h => v = none ∧ (own_fe Z h a1 (.ref a2) ∧ own_fs Z h a1 (.int (1 : Int32)) ∧ own_fm Z h a1 (.int mc) ∧ ∃ vf', own_R Z h a2 "java/lang/Object" 10 vf' ∧ own_Rf vf' ∧ own_El Z h vf' 0 1)) := by
  refine own_body (plainFor_of_name pn_33) (fun m => ef_m33_21 m a1 a2 (0 : Int32) (1 : Int32)) ?_
  intro p e s m below meth c C hC T0 W0
  refine own_aloadN W0 1 d33_0 rfl rfl rfl ?_
  refine own_iloadN W0 2 d33_1 rfl rfl ?_
  refine own_aloadN W0 3 d33_2 rfl rfl rfl ?_
  refine own_iloadN W0 4 d33_3 rfl rfl ?_
  refine own_aloadN W0 5 d33_4 rfl rfl rfl ?_
  refine own_getfield W0 8 d33_5 (wd35 hw) Fs_a1 rfl ?_
  intro T1 W1
  refine own_iloadN W1 9 d33_8 rfl rfl ?_
  refine own_isub W1 10 d33_9 rfl ?_
  rw [show ((2 : Int32) - (1 : Int32)) = (1 : Int32) from rfl]
  refine own_arraycopyW W1 (i1 := 1) (j1 := 0) (k1 := 1) (wt := 0) (pc' := 13) d33_10 (wd252 hw) (wd255 hw) (wd253 hw) (wd254 hw) V_a2 (own_R.fits (fun j _ => hrf j)) (by decide) (own_stoL V_a2 (fun _ X => Ins.of_exa X (wd58 hw)) 1 E_l) rfl rfl rfl (by decide) (by decide) (Or.inl (List.mem_of_getElem? (i := 1) rfl)) rfl (Nat.le_of_eq rfl) (by decide) (by decide) rfl ?_
  intro T2 h2 W2 K2 V_a2
  have X_a1 := X_a1.keep K2
  have Fe_a1 := Fe_a1.keep K2 (ninS ne1 nin0)
  have Fs_a1 := Fs_a1.keep K2 (ninS ne1 nin0)
  have Fm_a1 := Fm_a1.keep K2 (ninS ne1 nin0)
  have E_l := E_l.keep K2
  show own_Go p e below C T2 (mkF m 13 #[.val (.ref a1), .val (.ref a2), .val (.int (0 : Int32)), .val (.int (1 : Int32)), .unset, .unset] [])
  refine own_aloadN W2 14 d33_13 rfl rfl rfl ?_
  refine own_getfield W2 17 d33_14 (wd35 hw) Fs_a1 rfl ?_
  intro T3 W3
  refine own_istore W3 19 #[.val (.ref a1), .val (.ref a2), .val (.int (0 : Int32)), .val (.int (1 : Int32)), .val (.int (2 : Int32)), .unset] d33_17 rfl rfl ?_
  refine own_aloadN W3 20 d33_19 rfl rfl rfl ?_
  refine own_dup W3 21 d33_20 rfl rfl ?_
  refine own_getfield W3 24 d33_21 (wd35 hw) Fs_a1 rfl ?_
  intro T4 W4
  refine own_iloadN W4 25 d33_24 rfl rfl ?_
  refine own_iloadN W4 26 d33_25 rfl rfl ?_
  refine own_isub W4 27 d33_26 rfl ?_
  refine own_isub W4 28 d33_27 rfl ?_
  rw [show ((2 : Int32) - ((1 : Int32) - (0 : Int32))) = (1 : Int32) from rfl]
  refine own_dup_x1 W4 29 d33_28 rfl rfl rfl ?_
  refine own_putfield W4 (.int (1 : Int32)) 32 d33_29 (wd35 hw) Fs_a1 X_a1 (Or.inl (wd36 hw)) (wd2 hw) (Or.inl (List.mem_of_getElem? (i := 0) rfl)) (ty := .int) (by decide) rfl rfl rfl ?_
  intro T5 h5 W5 Wr5 Fs_a1
  have X_a1 := X_a1.wr Wr5
  have Fe_a1 := Fe_a1.other Wr5 (Or.inr (slot_ne (Or.inl (wd26 hw)) (Or.inl (wd36 hw)) (by decide) (t := (.array (.object "java/lang/Object"))) (t' := .int) (by decide) (by decide)))
  have Fm_a1 := Fm_a1.other Wr5 (Or.inr (slot_ne (Or.inl (wd23 hw)) (Or.inl (wd36 hw)) (by decide) (t := .int) (t' := .int) (by decide) (by decide)))
  have V_a2 := V_a2.other Wr5 (Ne.symm ne1)
  have E_l := E_l.wr Wr5
  refine own_istore W5 34 #[.val (.ref a1), .val (.ref a2), .val (.int (0 : Int32)), .val (.int (1 : Int32)), .val (.int (2 : Int32)), .val (.int (1 : Int32))] d33_32 rfl rfl ?_
  refine own_iload W5 36 d33_34 rfl rfl ?_
  refine own_iload W5 38 d33_36 rfl rfl ?_
  refine own_icmpN W5 41 d33_38 ((tlt ((by decide) : (1 : Int32) < (2 : Int32))).2.1) rfl ?_
  refine own_aloadN W5 42 d33_41 rfl rfl rfl ?_
  refine own_iload W5 44 d33_42 rfl rfl ?_
  refine own_aconst_null W5 45 d33_44 rfl ?_
  refine own_aastore0 W5 1 46 d33_45 V_a2 (Or.inl (List.mem_of_getElem? (i := 1) rfl)) rfl (by decide) rfl ?_
  intro T6 h6 W6 Wr6 V_a2
  have X_a1 := X_a1.wr Wr6
  have Fe_a1 := Fe_a1.other Wr6 (Or.inl ne1)
  have Fs_a1 := Fs_a1.other Wr6 (Or.inl ne1)
  have Fm_a1 := Fm_a1.other Wr6 (Or.inl ne1)
  have E_l := E_l.wr Wr6
  show own_Go p e below C T6 (mkF m 46 #[.val (.ref a1), .val (.ref a2), .val (.int (0 : Int32)), .val (.int (1 : Int32)), .val (.int (2 : Int32)), .val (.int (1 : Int32))] [])
  refine own_iinc W6 (2 : Int32) 49 #[.val (.ref a1), .val (.ref a2), .val (.int (0 : Int32)), .val (.int (1 : Int32)), .val (.int (2 : Int32)), .val (.int (2 : Int32))] d33_46 rfl rfl rfl rfl ?_
  refine own_goto W6 34 d33_49 (by decide) (by decide) ?_
  refine own_iload W6 36 d33_34 rfl rfl ?_
  refine own_iload W6 38 d33_36 rfl rfl ?_
  refine own_icmpY W6 52 d33_38 ((flt ((by decide) : ¬ ((2 : Int32) < (2 : Int32)))).2.1) (by decide) (by decide) ?_
  refine own_retV (Q := fun v h => v = none ∧ (own_fe Z h a1 (.ref a2) ∧ own_fs Z h a1 (.int (1 : Int32)) ∧ own_fm Z h a1 (.int mc) ∧ ∃ vf', own_R Z h a2 "java/lang/Object" 10 vf' ∧ own_Rf vf' ∧ own_El Z h vf' 0 1)) W6 hC (by decide) (by decide) d33_52 ?_
  exact ⟨rfl, ⟨Fe_a1, Fs_a1, Fm_a1, _, V_a2, (own_Rf.upd (hrf.ite 1 0 1) 1 rfl), fun j _ hj => by
    obtain ⟨b, e1, e2, e3⟩ := E_l (1 + j) (by omega) (by omega)
    refine ⟨b, ?_, e2, e3⟩
    simp only [own_upd]
    rw [if_neg (by omega), if_pos (by omega), Nat.sub_zero]
    exact e1⟩⟩
theorem ef_m32_21 (m : MethodId) (x0 : Addr) (x1 : Int32) (x2 : Int32) : entryFrame m #[(.ref x0), (.int x1), (.int x2)] 3 = mkF m 0 #[.val (.ref x0), .val (.int x1), .val (.int x2)] [] := by first | (simp [entryFrame, mkF, argsToLocals, Value.category]; done) | rfl
set_option maxRecDepth 65536 in
set_option maxHeartbeats 40000000 in
theorem own_m32_21 (l : Launch) (Z : State) (a0 : Array Value) (hw : ∀ d ∈ tables_1, d.before a0 Z = true) (wo : List Jvm.Cond) (h0 : Heap) (a1 : Addr) (ed : Addr) (mc : Int32) (vf : Nat → Value) (X_a1 : own_xl Z h0 a1) (Fe_a1 : own_fe Z h0 a1 (.ref ed)) (Fs_a1 : own_fs Z h0 a1 (.int (2 : Int32))) (Fm_a1 : own_fm Z h0 a1 (.int mc)) (V_ed : own_R Z h0 ed "java/lang/Object" 10 vf) (E_l : own_El Z h0 vf 1 2) (hrf : own_Rf vf) (ne1 : a1 ≠ ed) :
    own_M l Z wo (⟨"java/util/ArrayList", "removeRange", "(II)V"⟩ : MethodName) jdk_38_method_43_code 3 none ({ frames := 2, cells := 0, slots := 0, locals := 35 } : Room) [a1, ed] #[(.ref a1), (.int (0 : Int32)), (.int (1 : Int32))] h0 (fun v h => v = none ∧ (own_fe Z h a1 (.ref ed) ∧ own_fs Z h a1 (.int (1 : Int32)) ∧ own_fm Z h a1 (.int (mc + (1 : Int32))) ∧ (∃ vf', own_R Z h ed "java/lang/Object" 10 vf' ∧ own_Rf vf' ∧ own_El Z h vf' 0 1))) := by
  refine own_body (plainFor_of_name pn_32) (fun m => ef_m32_21 m a1 (0 : Int32) (1 : Int32)) ?_
  intro p e s m below meth c C hC T0 W0
  refine own_iloadN W0 1 d32_0 rfl rfl ?_
  refine own_iloadN W0 2 d32_1 rfl rfl ?_
  refine own_icmpY W0 18 d32_2 ((flt ((by decide) : ¬ ((1 : Int32) < (0 : Int32)))).2.2.2) (by decide) (by decide) ?_
  refine own_aloadN W0 19 d32_18 rfl rfl rfl ?_
  refine own_dup W0 20 d32_19 rfl rfl ?_
  refine own_getfieldV W0 23 d32_20 (wd33 hw) (wd34 hw) Fm_a1 rfl ?_
  intro T1 W1
  refine own_iconst W1 (1 : Int32) 24 d32_23 rfl rfl ?_
  refine own_iadd W1 25 d32_24 rfl ?_
  refine own_putfieldV W1 (.int (mc + (1 : Int32))) 28 d32_25 (wd33 hw) (wd34 hw) Fm_a1 X_a1 (Or.inl (wd23 hw)) (wd2 hw) (Or.inl (List.mem_of_getElem? (i := 0) rfl)) (ty := .int) (by decide) rfl rfl rfl ?_
  intro T2 h2 W2 Wr2 Fm_a1
  have X_a1 := X_a1.wr Wr2
  have Fe_a1 := Fe_a1.other Wr2 (Or.inr (slot_ne (Or.inl (wd26 hw)) (Or.inl (wd23 hw)) (by decide) (t := (.array (.object "java/lang/Object"))) (t' := .int) (by decide) (by decide)))
  have Fs_a1 := Fs_a1.other Wr2 (Or.inr (slot_ne (Or.inl (wd36 hw)) (Or.inl (wd23 hw)) (by decide) (t := .int) (t' := .int) (by decide) (by decide)))
  have V_ed := V_ed.other Wr2 (Ne.symm ne1)
  have E_l := E_l.wr Wr2
  refine own_aloadN W2 29 d32_28 rfl rfl rfl ?_
  refine own_aloadN W2 30 d32_29 rfl rfl rfl ?_
  refine own_getfield W2 33 d32_30 (wd25 hw) Fe_a1 rfl ?_
  intro T3 W3
  refine own_iloadN W3 34 d32_33 rfl rfl ?_
  refine own_iloadN W3 35 d32_34 rfl rfl ?_
  refine own_callP W3 (A := [(.ref ed), (.int (0 : Int32)), (.int (1 : Int32))]) (wt := 0) (pc' := 38) (st := []) d32_35 (wd247 hw) (wd248 hw) (wd249 hw) (wd250 hw) rfl (wd3 hw) (wd251 hw) (by decide) X_a1 (own_m33_21 l Z a0 hw [] h2 a1 ed (mc + (1 : Int32)) vf X_a1 Fe_a1 Fs_a1 Fm_a1 V_ed E_l hrf ne1) (allS (Or.inl (List.mem_of_getElem? (i := 0) rfl)) (allS (Or.inl (List.mem_of_getElem? (i := 1) rfl)) all0)) rfl pd_14 rfl (Nat.le_of_eq rfl) (by decide) (by decide) (by decide) (by decide) rfl ?_
  rintro T4 h4 _ W4 K4 P4 ⟨rfl, ⟨Fe_a1, Fs_a1, Fm_a1, QA⟩⟩
  have X_a1 := X_a1.keep K4
  show own_Go p e below C T4 (mkF m 38 #[.val (.ref a1), .val (.int (0 : Int32)), .val (.int (1 : Int32))] [])
  refine own_retV (Q := fun v h => v = none ∧ (own_fe Z h a1 (.ref ed) ∧ own_fs Z h a1 (.int (1 : Int32)) ∧ own_fm Z h a1 (.int (mc + (1 : Int32))) ∧ (∃ vf', own_R Z h ed "java/lang/Object" 10 vf' ∧ own_Rf vf' ∧ own_El Z h vf' 0 1))) W4 hC (by decide) (by decide) d32_38 ?_
  exact ⟨rfl, ⟨Fe_a1, Fs_a1, Fm_a1, QA⟩⟩
theorem ef_m31_21 (m : MethodId) (x0 : Addr) (x1 : Int32) (x2 : Int32) : entryFrame m #[(.ref x0), (.int x1), (.int x2)] 3 = mkF m 0 #[.val (.ref x0), .val (.int x1), .val (.int x2)] [] := by first | (simp [entryFrame, mkF, argsToLocals, Value.category]; done) | rfl
set_option maxRecDepth 65536 in
set_option maxHeartbeats 40000000 in
theorem own_m31_21 (l : Launch) (Z : State) (a0 : Array Value) (hw : ∀ d ∈ tables_1, d.before a0 Z = true) (wo : List Jvm.Cond) (h0 : Heap) (a1 : Addr) (li : Addr) (ed : Addr) (mc : Int32) (vf : Nat → Value) (X_a1 : own_xs Z h0 a1) (Fu_a1 : own_fu Z h0 a1 (.ref li)) (Fq_a1 : own_fq Z h0 a1 .null) (Fo_a1 : own_fo Z h0 a1 (.int (0 : Int32))) (Fs_a1 : own_fz Z h0 a1 (.int (1 : Int32))) (Fm_a1 : own_fm Z h0 a1 (.int mc)) (X_li : own_xl Z h0 li) (Fe_li : own_fe Z h0 li (.ref ed)) (Fs_li : own_fs Z h0 li (.int (2 : Int32))) (Fm_li : own_fm Z h0 li (.int mc)) (V_ed : own_R Z h0 ed "java/lang/Object" 10 vf) (E_l : own_El Z h0 vf 1 2) (hrf : own_Rf vf) (ne_a1_li : a1 ≠ li) (ne_a1_ed : a1 ≠ ed) (ne_li_ed : li ≠ ed) :
    own_M l Z wo (⟨"java/util/ArrayList$SubList", "removeRange", "(II)V"⟩ : MethodName) jdk_130_method_8_code 3 none ({ frames := 3, cells := 0, slots := 0, locals := 49 } : Room) [a1, li, ed] #[(.ref a1), (.int (0 : Int32)), (.int (1 : Int32))] h0 (fun v h => v = none ∧ (own_fe Z h li (.ref ed) ∧ own_fs Z h li (.int (1 : Int32)) ∧ own_fm Z h li (.int (mc + (1 : Int32))) ∧ (∃ vf', own_R Z h ed "java/lang/Object" 10 vf' ∧ own_Rf vf' ∧ own_El Z h vf' 0 1))) := by
  refine own_body (plainFor_of_name pn_31) (fun m => ef_m31_21 m a1 (0 : Int32) (1 : Int32)) ?_
  intro p e s m below meth c C hC T0 W0
  refine own_aloadN W0 1 d31_0 rfl rfl rfl ?_
  refine own_callP W0 (A := []) (wt := 0) (pc' := 4) (st := []) d31_1 (wd231 hw) (wd232 hw) (wd233 hw) (wd234 hw) rfl (wd196 hw) (wd235 hw) (by decide) X_a1 (own_m30 l Z a0 hw [] h0 a1 li (1 : Int32) mc X_a1 Fu_a1 Fq_a1 Fo_a1 Fs_a1 Fm_a1 Fm_li) all0 rfl pd_0 rfl (Nat.le_of_eq rfl) (by decide) (by decide) (by decide) (by decide) rfl ?_
  rintro T1 h1 _ W1 K1 P1 ⟨rfl, -⟩
  rw [P1 rfl rfl] at W1
  show own_Go p e below C T1 (mkF m 4 #[.val (.ref a1), .val (.int (0 : Int32)), .val (.int (1 : Int32))] [])
  refine own_aloadN W1 5 d31_4 rfl rfl rfl ?_
  refine own_getfield W1 8 d31_5 (wd205 hw) Fu_a1 rfl ?_
  intro T2 W2
  refine own_aloadN W2 9 d31_8 rfl rfl rfl ?_
  refine own_getfield W2 12 d31_9 (wd209 hw) Fo_a1 rfl ?_
  intro T3 W3
  refine own_iloadN W3 13 d31_12 rfl rfl ?_
  refine own_iadd W3 14 d31_13 rfl ?_
  rw [show ((0 : Int32) + (0 : Int32)) = (0 : Int32) from rfl]
  refine own_aloadN W3 15 d31_14 rfl rfl rfl ?_
  refine own_getfield W3 18 d31_15 (wd209 hw) Fo_a1 rfl ?_
  intro T4 W4
  refine own_iloadN W4 19 d31_18 rfl rfl ?_
  refine own_iadd W4 20 d31_19 rfl ?_
  rw [show ((0 : Int32) + (1 : Int32)) = (1 : Int32) from rfl]
  refine own_callV W4 (A := [(.int (0 : Int32)), (.int (1 : Int32))]) (wt := 0) (pc' := 23) (st := []) d31_20 (wd242 hw) (wd243 hw) (own_nf W4 (wd245 hw)) (wd245 hw) (wd244 hw) (wd3 hw) (wd246 hw) (by decide) X_li (own_m32_21 l Z a0 hw [] h0 li ed mc vf X_li Fe_li Fs_li Fm_li V_ed E_l hrf ne_li_ed) (allS (Or.inl (List.mem_of_getElem? (i := 1) rfl)) (allS (Or.inl (List.mem_of_getElem? (i := 2) rfl)) all0)) rfl pd_15 rfl (Nat.le_of_eq rfl) (by decide) (by decide) (by decide) (by decide) rfl ?_
  rintro T5 h5 _ W5 K5 P5 ⟨rfl, ⟨Fe_li, Fs_li, Fm_li, QA⟩⟩
  have X_a1 := X_a1.keep K5
  have Fu_a1 := Fu_a1.keep K5 (ninS ne_a1_li (ninS ne_a1_ed nin0))
  have Fq_a1 := Fq_a1.keep K5 (ninS ne_a1_li (ninS ne_a1_ed nin0))
  have Fo_a1 := Fo_a1.keep K5 (ninS ne_a1_li (ninS ne_a1_ed nin0))
  have Fs_a1 := Fs_a1.keep K5 (ninS ne_a1_li (ninS ne_a1_ed nin0))
  have Fm_a1 := Fm_a1.keep K5 (ninS ne_a1_li (ninS ne_a1_ed nin0))
  have X_li := X_li.keep K5
  show own_Go p e below C T5 (mkF m 23 #[.val (.ref a1), .val (.int (0 : Int32)), .val (.int (1 : Int32))] [])
  obtain ⟨vg, V_ed, hrg, E_l⟩ := QA
  refine own_aloadN W5 24 d31_23 rfl rfl rfl ?_
  refine own_iloadN W5 25 d31_24 rfl rfl ?_
  refine own_iloadN W5 26 d31_25 rfl rfl ?_
  refine own_isub W5 27 d31_26 rfl ?_
  refine own_callP W5 (A := [(.int ((0 : Int32) - (1 : Int32)))]) (wt := 0) (pc' := 30) (st := []) d31_27 (wd256 hw) (wd257 hw) (wd258 hw) (wd259 hw) rfl (wd196 hw) (wd260 hw) (by decide) X_a1 (own_m34 l Z a0 hw [] h5 a1 ((0 : Int32) - (1 : Int32)) li (1 : Int32) (mc + (1 : Int32)) mc X_a1 Fu_a1 Fq_a1 Fo_a1 Fs_a1 Fm_a1 Fm_li ne_a1_li) (allS (Or.inl (List.mem_of_getElem? (i := 0) rfl)) all0) rfl pd_16 rfl (Nat.le_of_eq rfl) (by decide) (by decide) (by decide) (by decide) rfl ?_
  rintro T6 h6 _ W6 K6 P6 ⟨rfl, -⟩
  have X_a1 := X_a1.keep K6
  have X_li := X_li.keep K6
  have Fe_li := Fe_li.keep K6 (ninS (Ne.symm ne_a1_li) nin0)
  have Fs_li := Fs_li.keep K6 (ninS (Ne.symm ne_a1_li) nin0)
  have Fm_li := Fm_li.keep K6 (ninS (Ne.symm ne_a1_li) nin0)
  have V_ed := V_ed.keep K6 (ninS (Ne.symm ne_a1_ed) nin0)
  have E_l := E_l.keep K6
  show own_Go p e below C T6 (mkF m 30 #[.val (.ref a1), .val (.int (0 : Int32)), .val (.int (1 : Int32))] [])
  refine own_retV (Q := fun v h => v = none ∧ (own_fe Z h li (.ref ed) ∧ own_fs Z h li (.int (1 : Int32)) ∧ own_fm Z h li (.int (mc + (1 : Int32))) ∧ (∃ vf', own_R Z h ed "java/lang/Object" 10 vf' ∧ own_Rf vf' ∧ own_El Z h vf' 0 1))) W6 hC (by decide) (by decide) d31_30 ?_
  exact ⟨rfl, ⟨Fe_li, Fs_li, Fm_li, vg, V_ed, hrg, E_l⟩⟩
theorem ef_m28_21 (m : MethodId) (x0 : Addr) : entryFrame m #[(.ref x0)] 1 = mkF m 0 #[.val (.ref x0)] [] := by first | (simp [entryFrame, mkF, argsToLocals, Value.category]; done) | rfl
set_option maxRecDepth 65536 in
set_option maxHeartbeats 40000000 in
theorem own_m28_21 (l : Launch) (Z : State) (a0 : Array Value) (hw : ∀ d ∈ tables_1, d.before a0 Z = true) (wo : List Jvm.Cond) (h0 : Heap) (a1 : Addr) (li : Addr) (ed : Addr) (mc : Int32) (vf : Nat → Value) (X_a1 : own_xs Z h0 a1) (Fu_a1 : own_fu Z h0 a1 (.ref li)) (Fq_a1 : own_fq Z h0 a1 .null) (Fo_a1 : own_fo Z h0 a1 (.int (0 : Int32))) (Fs_a1 : own_fz Z h0 a1 (.int (1 : Int32))) (Fm_a1 : own_fm Z h0 a1 (.int mc)) (X_li : own_xl Z h0 li) (Fe_li : own_fe Z h0 li (.ref ed)) (Fs_li : own_fs Z h0 li (.int (2 : Int32))) (Fm_li : own_fm Z h0 li (.int mc)) (V_ed : own_R Z h0 ed "java/lang/Object" 10 vf) (E_l : own_El Z h0 vf 1 2) (hrf : own_Rf vf) (ne_a1_li : a1 ≠ li) (ne_a1_ed : a1 ≠ ed) (ne_li_ed : li ≠ ed) :
    own_M l Z wo (⟨"java/util/AbstractList", "clear", "()V"⟩ : MethodName) jdk_39_method_9_code 1 none ({ frames := 4, cells := 0, slots := 0, locals := 63 } : Room) [a1, li, ed] #[(.ref a1)] h0 (fun v h => v = none ∧ (own_fe Z h li (.ref ed) ∧ own_fs Z h li (.int (1 : Int32)) ∧ own_fm Z h li (.int (mc + (1 : Int32))) ∧ (∃ vf', own_R Z h ed "java/lang/Object" 10 vf' ∧ own_Rf vf' ∧ own_El Z h vf' 0 1))) := by
  refine own_body (plainFor_of_name pn_28) (fun m => ef_m28_21 m a1) ?_
  intro p e s m below meth c C hC T0 W0
  refine own_aloadN W0 1 d28_0 rfl rfl rfl ?_
  refine own_iconst W0 (0 : Int32) 2 d28_1 rfl rfl ?_
  refine own_aloadN W0 3 d28_2 rfl rfl rfl ?_
  refine own_callU W0 (ow := "java/util/AbstractCollection") (A := []) (wt := 2) (pc' := 6) (st := [(.int (0 : Int32)), (.ref a1)]) d28_3 (wd225 hw) (wd226 hw) (wd227 hw) (wd228 hw) (wd229 hw) (wd196 hw) (wd230 hw) (by decide) X_a1 (own_m29 l Z a0 hw [] h0 a1 li (1 : Int32) mc X_a1 Fu_a1 Fq_a1 Fo_a1 Fs_a1 Fm_a1 Fm_li) all0 rfl pd_17 rfl (Nat.le_of_eq rfl) (by decide) (by decide) (by decide) (by decide) rfl ?_
  rintro T1 h1 _ W1 K1 P1 rfl
  rw [P1 rfl rfl] at W1
  show own_Go p e below C T1 (mkF m 6 #[.val (.ref a1)] [(.int (1 : Int32)), (.int (0 : Int32)), (.ref a1)])
  refine own_callV W1 (A := [(.int (0 : Int32)), (.int (1 : Int32))]) (wt := 0) (pc' := 9) (st := []) d28_6 (wd236 hw) (wd237 hw) (own_nf2 W1 (wd219 hw) rfl) (wd239 hw) (wd240 hw) (wd196 hw) (wd241 hw) (by decide) X_a1 (own_m31_21 l Z a0 hw [] h0 a1 li ed mc vf X_a1 Fu_a1 Fq_a1 Fo_a1 Fs_a1 Fm_a1 X_li Fe_li Fs_li Fm_li V_ed E_l hrf ne_a1_li ne_a1_ed ne_li_ed) (allS (Or.inl (List.mem_of_getElem? (i := 0) rfl)) (allS (Or.inl (List.mem_of_getElem? (i := 1) rfl)) (allS (Or.inl (List.mem_of_getElem? (i := 2) rfl)) all0))) rfl pd_15 rfl (Nat.le_of_eq rfl) (by decide) (by decide) (by decide) (by decide) rfl ?_
  rintro T2 h2 _ W2 K2 P2 ⟨rfl, ⟨Fe_li, Fs_li, Fm_li, QA⟩⟩
  have X_a1 := X_a1.keep K2
  have X_li := X_li.keep K2
  show own_Go p e below C T2 (mkF m 9 #[.val (.ref a1)] [])
  refine own_retV (Q := fun v h => v = none ∧ (own_fe Z h li (.ref ed) ∧ own_fs Z h li (.int (1 : Int32)) ∧ own_fm Z h li (.int (mc + (1 : Int32))) ∧ (∃ vf', own_R Z h ed "java/lang/Object" 10 vf' ∧ own_Rf vf' ∧ own_El Z h vf' 0 1))) W2 hC (by decide) (by decide) d28_9 ?_
  exact ⟨rfl, ⟨Fe_li, Fs_li, Fm_li, QA⟩⟩
theorem ef_m33_22 (m : MethodId) (x0 : Addr) (x1 : Addr) (x2 : Int32) (x3 : Int32) : entryFrame m #[(.ref x0), (.ref x1), (.int x2), (.int x3)] 6 = mkF m 0 #[.val (.ref x0), .val (.ref x1), .val (.int x2), .val (.int x3), .unset, .unset] [] := by first | (simp [entryFrame, mkF, argsToLocals, Value.category]; done) | rfl
set_option maxRecDepth 65536 in
set_option maxHeartbeats 40000000 in
theorem own_m33_22 (l : Launch) (Z : State) (a0 : Array Value) (hw : ∀ d ∈ tables_1, d.before a0 Z = true) (wo : List Jvm.Cond) (h0 : Heap) (a1 : Addr) (a2 : Addr) (mc : Int32) (vf : Nat → Value) (X_a1 : own_xl Z h0 a1) (Fe_a1 : own_fe Z h0 a1 (.ref a2)) (Fs_a1 : own_fs Z h0 a1 (.int (2 : Int32))) (Fm_a1 : own_fm Z h0 a1 (.int mc)) (V_a2 : own_R Z h0 a2 "java/lang/Object" 10 vf) (E_l : own_El Z h0 vf 2 2) (hrf : own_Rf vf) (ne1 : a1 ≠ a2) :
    own_M l Z wo (⟨"java/util/ArrayList", "shiftTailOverGap", "([Ljava/lang/Object;II)V"⟩ : MethodName) jdk_38_method_44_code 6 none ({ frames := 1, cells := 0, slots := 0, locals := 18 } : Room) [a1, a2] #[(.ref a1), (.ref a2), (.int (0 : Int32)), (.int (2 : Int32))] h0 (fun v h => v = none ∧ (own_fe Z h a1 (.ref a2) ∧ own_fs Z h a1 (.int (0 : Int32)) ∧ own_fm Z h a1 (.int mc) ∧ ∃ vf', own_R Z h a2 "java/lang/Object" 10 vf' ∧ own_Rf vf' ∧ own_El Z h vf' 0 0)) := by
  refine own_body (plainFor_of_name pn_33) (fun m => ef_m33_22 m a1 a2 (0 : Int32) (2 : Int32)) ?_
  intro p e s m below meth c C hC T0 W0
  refine own_aloadN W0 1 d33_0 rfl rfl rfl ?_
  refine own_iloadN W0 2 d33_1 rfl rfl ?_
  refine own_aloadN W0 3 d33_2 rfl rfl rfl ?_
  refine own_iloadN W0 4 d33_3 rfl rfl ?_
  refine own_aloadN W0 5 d33_4 rfl rfl rfl ?_
  refine own_getfield W0 8 d33_5 (wd35 hw) Fs_a1 rfl ?_
  intro T1 W1
  refine own_iloadN W1 9 d33_8 rfl rfl ?_
  refine own_isub W1 10 d33_9 rfl ?_
  rw [show ((2 : Int32) - (2 : Int32)) = (0 : Int32) from rfl]
  refine own_arraycopyW W1 (i1 := 2) (j1 := 0) (k1 := 0) (wt := 0) (pc' := 13) d33_10 (wd252 hw) (wd255 hw) (wd253 hw) (wd254 hw) V_a2 (own_R.fits (fun j _ => hrf j)) (by decide) (own_stoL V_a2 (fun _ X => Ins.of_exa X (wd58 hw)) 0 E_l) rfl rfl rfl (by decide) (by decide) (Or.inl (List.mem_of_getElem? (i := 1) rfl)) rfl (Nat.le_of_eq rfl) (by decide) (by decide) rfl ?_
  intro T2 h2 W2 K2 V_a2
  have X_a1 := X_a1.keep K2
  have Fe_a1 := Fe_a1.keep K2 (ninS ne1 nin0)
  have Fs_a1 := Fs_a1.keep K2 (ninS ne1 nin0)
  have Fm_a1 := Fm_a1.keep K2 (ninS ne1 nin0)
  have E_l := E_l.keep K2
  show own_Go p e below C T2 (mkF m 13 #[.val (.ref a1), .val (.ref a2), .val (.int (0 : Int32)), .val (.int (2 : Int32)), .unset, .unset] [])
  refine own_aloadN W2 14 d33_13 rfl rfl rfl ?_
  refine own_getfield W2 17 d33_14 (wd35 hw) Fs_a1 rfl ?_
  intro T3 W3
  refine own_istore W3 19 #[.val (.ref a1), .val (.ref a2), .val (.int (0 : Int32)), .val (.int (2 : Int32)), .val (.int (2 : Int32)), .unset] d33_17 rfl rfl ?_
  refine own_aloadN W3 20 d33_19 rfl rfl rfl ?_
  refine own_dup W3 21 d33_20 rfl rfl ?_
  refine own_getfield W3 24 d33_21 (wd35 hw) Fs_a1 rfl ?_
  intro T4 W4
  refine own_iloadN W4 25 d33_24 rfl rfl ?_
  refine own_iloadN W4 26 d33_25 rfl rfl ?_
  refine own_isub W4 27 d33_26 rfl ?_
  refine own_isub W4 28 d33_27 rfl ?_
  rw [show ((2 : Int32) - ((2 : Int32) - (0 : Int32))) = (0 : Int32) from rfl]
  refine own_dup_x1 W4 29 d33_28 rfl rfl rfl ?_
  refine own_putfield W4 (.int (0 : Int32)) 32 d33_29 (wd35 hw) Fs_a1 X_a1 (Or.inl (wd36 hw)) (wd2 hw) (Or.inl (List.mem_of_getElem? (i := 0) rfl)) (ty := .int) (by decide) rfl rfl rfl ?_
  intro T5 h5 W5 Wr5 Fs_a1
  have X_a1 := X_a1.wr Wr5
  have Fe_a1 := Fe_a1.other Wr5 (Or.inr (slot_ne (Or.inl (wd26 hw)) (Or.inl (wd36 hw)) (by decide) (t := (.array (.object "java/lang/Object"))) (t' := .int) (by decide) (by decide)))
  have Fm_a1 := Fm_a1.other Wr5 (Or.inr (slot_ne (Or.inl (wd23 hw)) (Or.inl (wd36 hw)) (by decide) (t := .int) (t' := .int) (by decide) (by decide)))
  have V_a2 := V_a2.other Wr5 (Ne.symm ne1)
  have E_l := E_l.wr Wr5
  refine own_istore W5 34 #[.val (.ref a1), .val (.ref a2), .val (.int (0 : Int32)), .val (.int (2 : Int32)), .val (.int (2 : Int32)), .val (.int (0 : Int32))] d33_32 rfl rfl ?_
  refine own_iload W5 36 d33_34 rfl rfl ?_
  refine own_iload W5 38 d33_36 rfl rfl ?_
  refine own_icmpN W5 41 d33_38 ((tlt ((by decide) : (0 : Int32) < (2 : Int32))).2.1) rfl ?_
  refine own_aloadN W5 42 d33_41 rfl rfl rfl ?_
  refine own_iload W5 44 d33_42 rfl rfl ?_
  refine own_aconst_null W5 45 d33_44 rfl ?_
  refine own_aastore0 W5 0 46 d33_45 V_a2 (Or.inl (List.mem_of_getElem? (i := 1) rfl)) rfl (by decide) rfl ?_
  intro T6 h6 W6 Wr6 V_a2
  have X_a1 := X_a1.wr Wr6
  have Fe_a1 := Fe_a1.other Wr6 (Or.inl ne1)
  have Fs_a1 := Fs_a1.other Wr6 (Or.inl ne1)
  have Fm_a1 := Fm_a1.other Wr6 (Or.inl ne1)
  have E_l := E_l.wr Wr6
  show own_Go p e below C T6 (mkF m 46 #[.val (.ref a1), .val (.ref a2), .val (.int (0 : Int32)), .val (.int (2 : Int32)), .val (.int (2 : Int32)), .val (.int (0 : Int32))] [])
  refine own_iinc W6 (1 : Int32) 49 #[.val (.ref a1), .val (.ref a2), .val (.int (0 : Int32)), .val (.int (2 : Int32)), .val (.int (2 : Int32)), .val (.int (1 : Int32))] d33_46 rfl rfl rfl rfl ?_
  refine own_goto W6 34 d33_49 (by decide) (by decide) ?_
  refine own_iload W6 36 d33_34 rfl rfl ?_
  refine own_iload W6 38 d33_36 rfl rfl ?_
  refine own_icmpN W6 41 d33_38 ((tlt ((by decide) : (1 : Int32) < (2 : Int32))).2.1) rfl ?_
  refine own_aloadN W6 42 d33_41 rfl rfl rfl ?_
  refine own_iload W6 44 d33_42 rfl rfl ?_
  refine own_aconst_null W6 45 d33_44 rfl ?_
  refine own_aastore0 W6 1 46 d33_45 V_a2 (Or.inl (List.mem_of_getElem? (i := 1) rfl)) rfl (by decide) rfl ?_
  intro T7 h7 W7 Wr7 V_a2
  have X_a1 := X_a1.wr Wr7
  have Fe_a1 := Fe_a1.other Wr7 (Or.inl ne1)
  have Fs_a1 := Fs_a1.other Wr7 (Or.inl ne1)
  have Fm_a1 := Fm_a1.other Wr7 (Or.inl ne1)
  have E_l := E_l.wr Wr7
  show own_Go p e below C T7 (mkF m 46 #[.val (.ref a1), .val (.ref a2), .val (.int (0 : Int32)), .val (.int (2 : Int32)), .val (.int (2 : Int32)), .val (.int (1 : Int32))] [])
  refine own_iinc W7 (2 : Int32) 49 #[.val (.ref a1), .val (.ref a2), .val (.int (0 : Int32)), .val (.int (2 : Int32)), .val (.int (2 : Int32)), .val (.int (2 : Int32))] d33_46 rfl rfl rfl rfl ?_
  refine own_goto W7 34 d33_49 (by decide) (by decide) ?_
  refine own_iload W7 36 d33_34 rfl rfl ?_
  refine own_iload W7 38 d33_36 rfl rfl ?_
  refine own_icmpY W7 52 d33_38 ((flt ((by decide) : ¬ ((2 : Int32) < (2 : Int32)))).2.1) (by decide) (by decide) ?_
  refine own_retV (Q := fun v h => v = none ∧ (own_fe Z h a1 (.ref a2) ∧ own_fs Z h a1 (.int (0 : Int32)) ∧ own_fm Z h a1 (.int mc) ∧ ∃ vf', own_R Z h a2 "java/lang/Object" 10 vf' ∧ own_Rf vf' ∧ own_El Z h vf' 0 0)) W7 hC (by decide) (by decide) d33_52 ?_
  exact ⟨rfl, ⟨Fe_a1, Fs_a1, Fm_a1, _, V_a2, (own_Rf.upd (own_Rf.upd (hrf.ite 2 0 0) 0 rfl) 1 rfl), fun j _ hj => by
    obtain ⟨b, e1, e2, e3⟩ := E_l (2 + j) (by omega) (by omega)
    refine ⟨b, ?_, e2, e3⟩
    simp only [own_upd]
    rw [if_neg (by omega), if_neg (by omega), if_pos (by omega), Nat.sub_zero]
    exact e1⟩⟩
theorem ef_m32_22 (m : MethodId) (x0 : Addr) (x1 : Int32) (x2 : Int32) : entryFrame m #[(.ref x0), (.int x1), (.int x2)] 3 = mkF m 0 #[.val (.ref x0), .val (.int x1), .val (.int x2)] [] := by first | (simp [entryFrame, mkF, argsToLocals, Value.category]; done) | rfl
set_option maxRecDepth 65536 in
set_option maxHeartbeats 40000000 in
theorem own_m32_22 (l : Launch) (Z : State) (a0 : Array Value) (hw : ∀ d ∈ tables_1, d.before a0 Z = true) (wo : List Jvm.Cond) (h0 : Heap) (a1 : Addr) (ed : Addr) (mc : Int32) (vf : Nat → Value) (X_a1 : own_xl Z h0 a1) (Fe_a1 : own_fe Z h0 a1 (.ref ed)) (Fs_a1 : own_fs Z h0 a1 (.int (2 : Int32))) (Fm_a1 : own_fm Z h0 a1 (.int mc)) (V_ed : own_R Z h0 ed "java/lang/Object" 10 vf) (E_l : own_El Z h0 vf 2 2) (hrf : own_Rf vf) (ne1 : a1 ≠ ed) :
    own_M l Z wo (⟨"java/util/ArrayList", "removeRange", "(II)V"⟩ : MethodName) jdk_38_method_43_code 3 none ({ frames := 2, cells := 0, slots := 0, locals := 35 } : Room) [a1, ed] #[(.ref a1), (.int (0 : Int32)), (.int (2 : Int32))] h0 (fun v h => v = none ∧ (own_fe Z h a1 (.ref ed) ∧ own_fs Z h a1 (.int (0 : Int32)) ∧ own_fm Z h a1 (.int (mc + (1 : Int32))) ∧ (∃ vf', own_R Z h ed "java/lang/Object" 10 vf' ∧ own_Rf vf' ∧ own_El Z h vf' 0 0))) := by
  refine own_body (plainFor_of_name pn_32) (fun m => ef_m32_22 m a1 (0 : Int32) (2 : Int32)) ?_
  intro p e s m below meth c C hC T0 W0
  refine own_iloadN W0 1 d32_0 rfl rfl ?_
  refine own_iloadN W0 2 d32_1 rfl rfl ?_
  refine own_icmpY W0 18 d32_2 ((flt ((by decide) : ¬ ((2 : Int32) < (0 : Int32)))).2.2.2) (by decide) (by decide) ?_
  refine own_aloadN W0 19 d32_18 rfl rfl rfl ?_
  refine own_dup W0 20 d32_19 rfl rfl ?_
  refine own_getfieldV W0 23 d32_20 (wd33 hw) (wd34 hw) Fm_a1 rfl ?_
  intro T1 W1
  refine own_iconst W1 (1 : Int32) 24 d32_23 rfl rfl ?_
  refine own_iadd W1 25 d32_24 rfl ?_
  refine own_putfieldV W1 (.int (mc + (1 : Int32))) 28 d32_25 (wd33 hw) (wd34 hw) Fm_a1 X_a1 (Or.inl (wd23 hw)) (wd2 hw) (Or.inl (List.mem_of_getElem? (i := 0) rfl)) (ty := .int) (by decide) rfl rfl rfl ?_
  intro T2 h2 W2 Wr2 Fm_a1
  have X_a1 := X_a1.wr Wr2
  have Fe_a1 := Fe_a1.other Wr2 (Or.inr (slot_ne (Or.inl (wd26 hw)) (Or.inl (wd23 hw)) (by decide) (t := (.array (.object "java/lang/Object"))) (t' := .int) (by decide) (by decide)))
  have Fs_a1 := Fs_a1.other Wr2 (Or.inr (slot_ne (Or.inl (wd36 hw)) (Or.inl (wd23 hw)) (by decide) (t := .int) (t' := .int) (by decide) (by decide)))
  have V_ed := V_ed.other Wr2 (Ne.symm ne1)
  have E_l := E_l.wr Wr2
  refine own_aloadN W2 29 d32_28 rfl rfl rfl ?_
  refine own_aloadN W2 30 d32_29 rfl rfl rfl ?_
  refine own_getfield W2 33 d32_30 (wd25 hw) Fe_a1 rfl ?_
  intro T3 W3
  refine own_iloadN W3 34 d32_33 rfl rfl ?_
  refine own_iloadN W3 35 d32_34 rfl rfl ?_
  refine own_callP W3 (A := [(.ref ed), (.int (0 : Int32)), (.int (2 : Int32))]) (wt := 0) (pc' := 38) (st := []) d32_35 (wd247 hw) (wd248 hw) (wd249 hw) (wd250 hw) rfl (wd3 hw) (wd251 hw) (by decide) X_a1 (own_m33_22 l Z a0 hw [] h2 a1 ed (mc + (1 : Int32)) vf X_a1 Fe_a1 Fs_a1 Fm_a1 V_ed E_l hrf ne1) (allS (Or.inl (List.mem_of_getElem? (i := 0) rfl)) (allS (Or.inl (List.mem_of_getElem? (i := 1) rfl)) all0)) rfl pd_14 rfl (Nat.le_of_eq rfl) (by decide) (by decide) (by decide) (by decide) rfl ?_
  rintro T4 h4 _ W4 K4 P4 ⟨rfl, ⟨Fe_a1, Fs_a1, Fm_a1, QA⟩⟩
  have X_a1 := X_a1.keep K4
  show own_Go p e below C T4 (mkF m 38 #[.val (.ref a1), .val (.int (0 : Int32)), .val (.int (2 : Int32))] [])
  refine own_retV (Q := fun v h => v = none ∧ (own_fe Z h a1 (.ref ed) ∧ own_fs Z h a1 (.int (0 : Int32)) ∧ own_fm Z h a1 (.int (mc + (1 : Int32))) ∧ (∃ vf', own_R Z h ed "java/lang/Object" 10 vf' ∧ own_Rf vf' ∧ own_El Z h vf' 0 0))) W4 hC (by decide) (by decide) d32_38 ?_
  exact ⟨rfl, ⟨Fe_a1, Fs_a1, Fm_a1, QA⟩⟩
theorem ef_m31_22 (m : MethodId) (x0 : Addr) (x1 : Int32) (x2 : Int32) : entryFrame m #[(.ref x0), (.int x1), (.int x2)] 3 = mkF m 0 #[.val (.ref x0), .val (.int x1), .val (.int x2)] [] := by first | (simp [entryFrame, mkF, argsToLocals, Value.category]; done) | rfl
set_option maxRecDepth 65536 in
set_option maxHeartbeats 40000000 in
theorem own_m31_22 (l : Launch) (Z : State) (a0 : Array Value) (hw : ∀ d ∈ tables_1, d.before a0 Z = true) (wo : List Jvm.Cond) (h0 : Heap) (a1 : Addr) (li : Addr) (ed : Addr) (mc : Int32) (vf : Nat → Value) (X_a1 : own_xs Z h0 a1) (Fu_a1 : own_fu Z h0 a1 (.ref li)) (Fq_a1 : own_fq Z h0 a1 .null) (Fo_a1 : own_fo Z h0 a1 (.int (0 : Int32))) (Fs_a1 : own_fz Z h0 a1 (.int (2 : Int32))) (Fm_a1 : own_fm Z h0 a1 (.int mc)) (X_li : own_xl Z h0 li) (Fe_li : own_fe Z h0 li (.ref ed)) (Fs_li : own_fs Z h0 li (.int (2 : Int32))) (Fm_li : own_fm Z h0 li (.int mc)) (V_ed : own_R Z h0 ed "java/lang/Object" 10 vf) (E_l : own_El Z h0 vf 2 2) (hrf : own_Rf vf) (ne_a1_li : a1 ≠ li) (ne_a1_ed : a1 ≠ ed) (ne_li_ed : li ≠ ed) :
    own_M l Z wo (⟨"java/util/ArrayList$SubList", "removeRange", "(II)V"⟩ : MethodName) jdk_130_method_8_code 3 none ({ frames := 3, cells := 0, slots := 0, locals := 49 } : Room) [a1, li, ed] #[(.ref a1), (.int (0 : Int32)), (.int (2 : Int32))] h0 (fun v h => v = none ∧ (own_fe Z h li (.ref ed) ∧ own_fs Z h li (.int (0 : Int32)) ∧ own_fm Z h li (.int (mc + (1 : Int32))) ∧ (∃ vf', own_R Z h ed "java/lang/Object" 10 vf' ∧ own_Rf vf' ∧ own_El Z h vf' 0 0))) := by
  refine own_body (plainFor_of_name pn_31) (fun m => ef_m31_22 m a1 (0 : Int32) (2 : Int32)) ?_
  intro p e s m below meth c C hC T0 W0
  refine own_aloadN W0 1 d31_0 rfl rfl rfl ?_
  refine own_callP W0 (A := []) (wt := 0) (pc' := 4) (st := []) d31_1 (wd231 hw) (wd232 hw) (wd233 hw) (wd234 hw) rfl (wd196 hw) (wd235 hw) (by decide) X_a1 (own_m30 l Z a0 hw [] h0 a1 li (2 : Int32) mc X_a1 Fu_a1 Fq_a1 Fo_a1 Fs_a1 Fm_a1 Fm_li) all0 rfl pd_0 rfl (Nat.le_of_eq rfl) (by decide) (by decide) (by decide) (by decide) rfl ?_
  rintro T1 h1 _ W1 K1 P1 ⟨rfl, -⟩
  rw [P1 rfl rfl] at W1
  show own_Go p e below C T1 (mkF m 4 #[.val (.ref a1), .val (.int (0 : Int32)), .val (.int (2 : Int32))] [])
  refine own_aloadN W1 5 d31_4 rfl rfl rfl ?_
  refine own_getfield W1 8 d31_5 (wd205 hw) Fu_a1 rfl ?_
  intro T2 W2
  refine own_aloadN W2 9 d31_8 rfl rfl rfl ?_
  refine own_getfield W2 12 d31_9 (wd209 hw) Fo_a1 rfl ?_
  intro T3 W3
  refine own_iloadN W3 13 d31_12 rfl rfl ?_
  refine own_iadd W3 14 d31_13 rfl ?_
  rw [show ((0 : Int32) + (0 : Int32)) = (0 : Int32) from rfl]
  refine own_aloadN W3 15 d31_14 rfl rfl rfl ?_
  refine own_getfield W3 18 d31_15 (wd209 hw) Fo_a1 rfl ?_
  intro T4 W4
  refine own_iloadN W4 19 d31_18 rfl rfl ?_
  refine own_iadd W4 20 d31_19 rfl ?_
  rw [show ((0 : Int32) + (2 : Int32)) = (2 : Int32) from rfl]
  refine own_callV W4 (A := [(.int (0 : Int32)), (.int (2 : Int32))]) (wt := 0) (pc' := 23) (st := []) d31_20 (wd242 hw) (wd243 hw) (own_nf W4 (wd245 hw)) (wd245 hw) (wd244 hw) (wd3 hw) (wd246 hw) (by decide) X_li (own_m32_22 l Z a0 hw [] h0 li ed mc vf X_li Fe_li Fs_li Fm_li V_ed E_l hrf ne_li_ed) (allS (Or.inl (List.mem_of_getElem? (i := 1) rfl)) (allS (Or.inl (List.mem_of_getElem? (i := 2) rfl)) all0)) rfl pd_15 rfl (Nat.le_of_eq rfl) (by decide) (by decide) (by decide) (by decide) rfl ?_
  rintro T5 h5 _ W5 K5 P5 ⟨rfl, ⟨Fe_li, Fs_li, Fm_li, QA⟩⟩
  have X_a1 := X_a1.keep K5
  have Fu_a1 := Fu_a1.keep K5 (ninS ne_a1_li (ninS ne_a1_ed nin0))
  have Fq_a1 := Fq_a1.keep K5 (ninS ne_a1_li (ninS ne_a1_ed nin0))
  have Fo_a1 := Fo_a1.keep K5 (ninS ne_a1_li (ninS ne_a1_ed nin0))
  have Fs_a1 := Fs_a1.keep K5 (ninS ne_a1_li (ninS ne_a1_ed nin0))
  have Fm_a1 := Fm_a1.keep K5 (ninS ne_a1_li (ninS ne_a1_ed nin0))
  have X_li := X_li.keep K5
  show own_Go p e below C T5 (mkF m 23 #[.val (.ref a1), .val (.int (0 : Int32)), .val (.int (2 : Int32))] [])
  obtain ⟨vg, V_ed, hrg, E_l⟩ := QA
  refine own_aloadN W5 24 d31_23 rfl rfl rfl ?_
  refine own_iloadN W5 25 d31_24 rfl rfl ?_
  refine own_iloadN W5 26 d31_25 rfl rfl ?_
  refine own_isub W5 27 d31_26 rfl ?_
  refine own_callP W5 (A := [(.int ((0 : Int32) - (2 : Int32)))]) (wt := 0) (pc' := 30) (st := []) d31_27 (wd256 hw) (wd257 hw) (wd258 hw) (wd259 hw) rfl (wd196 hw) (wd260 hw) (by decide) X_a1 (own_m34 l Z a0 hw [] h5 a1 ((0 : Int32) - (2 : Int32)) li (2 : Int32) (mc + (1 : Int32)) mc X_a1 Fu_a1 Fq_a1 Fo_a1 Fs_a1 Fm_a1 Fm_li ne_a1_li) (allS (Or.inl (List.mem_of_getElem? (i := 0) rfl)) all0) rfl pd_16 rfl (Nat.le_of_eq rfl) (by decide) (by decide) (by decide) (by decide) rfl ?_
  rintro T6 h6 _ W6 K6 P6 ⟨rfl, -⟩
  have X_a1 := X_a1.keep K6
  have X_li := X_li.keep K6
  have Fe_li := Fe_li.keep K6 (ninS (Ne.symm ne_a1_li) nin0)
  have Fs_li := Fs_li.keep K6 (ninS (Ne.symm ne_a1_li) nin0)
  have Fm_li := Fm_li.keep K6 (ninS (Ne.symm ne_a1_li) nin0)
  have V_ed := V_ed.keep K6 (ninS (Ne.symm ne_a1_ed) nin0)
  have E_l := E_l.keep K6
  show own_Go p e below C T6 (mkF m 30 #[.val (.ref a1), .val (.int (0 : Int32)), .val (.int (2 : Int32))] [])
  refine own_retV (Q := fun v h => v = none ∧ (own_fe Z h li (.ref ed) ∧ own_fs Z h li (.int (0 : Int32)) ∧ own_fm Z h li (.int (mc + (1 : Int32))) ∧ (∃ vf', own_R Z h ed "java/lang/Object" 10 vf' ∧ own_Rf vf' ∧ own_El Z h vf' 0 0))) W6 hC (by decide) (by decide) d31_30 ?_
  exact ⟨rfl, ⟨Fe_li, Fs_li, Fm_li, vg, V_ed, hrg, E_l⟩⟩
theorem ef_m28_22 (m : MethodId) (x0 : Addr) : entryFrame m #[(.ref x0)] 1 = mkF m 0 #[.val (.ref x0)] [] := by first | (simp [entryFrame, mkF, argsToLocals, Value.category]; done) | rfl
set_option maxRecDepth 65536 in
set_option maxHeartbeats 40000000 in
theorem own_m28_22 (l : Launch) (Z : State) (a0 : Array Value) (hw : ∀ d ∈ tables_1, d.before a0 Z = true) (wo : List Jvm.Cond) (h0 : Heap) (a1 : Addr) (li : Addr) (ed : Addr) (mc : Int32) (vf : Nat → Value) (X_a1 : own_xs Z h0 a1) (Fu_a1 : own_fu Z h0 a1 (.ref li)) (Fq_a1 : own_fq Z h0 a1 .null) (Fo_a1 : own_fo Z h0 a1 (.int (0 : Int32))) (Fs_a1 : own_fz Z h0 a1 (.int (2 : Int32))) (Fm_a1 : own_fm Z h0 a1 (.int mc)) (X_li : own_xl Z h0 li) (Fe_li : own_fe Z h0 li (.ref ed)) (Fs_li : own_fs Z h0 li (.int (2 : Int32))) (Fm_li : own_fm Z h0 li (.int mc)) (V_ed : own_R Z h0 ed "java/lang/Object" 10 vf) (E_l : own_El Z h0 vf 2 2) (hrf : own_Rf vf) (ne_a1_li : a1 ≠ li) (ne_a1_ed : a1 ≠ ed) (ne_li_ed : li ≠ ed) :
    own_M l Z wo (⟨"java/util/AbstractList", "clear", "()V"⟩ : MethodName) jdk_39_method_9_code 1 none ({ frames := 4, cells := 0, slots := 0, locals := 63 } : Room) [a1, li, ed] #[(.ref a1)] h0 (fun v h => v = none ∧ (own_fe Z h li (.ref ed) ∧ own_fs Z h li (.int (0 : Int32)) ∧ own_fm Z h li (.int (mc + (1 : Int32))) ∧ (∃ vf', own_R Z h ed "java/lang/Object" 10 vf' ∧ own_Rf vf' ∧ own_El Z h vf' 0 0))) := by
  refine own_body (plainFor_of_name pn_28) (fun m => ef_m28_22 m a1) ?_
  intro p e s m below meth c C hC T0 W0
  refine own_aloadN W0 1 d28_0 rfl rfl rfl ?_
  refine own_iconst W0 (0 : Int32) 2 d28_1 rfl rfl ?_
  refine own_aloadN W0 3 d28_2 rfl rfl rfl ?_
  refine own_callU W0 (ow := "java/util/AbstractCollection") (A := []) (wt := 2) (pc' := 6) (st := [(.int (0 : Int32)), (.ref a1)]) d28_3 (wd225 hw) (wd226 hw) (wd227 hw) (wd228 hw) (wd229 hw) (wd196 hw) (wd230 hw) (by decide) X_a1 (own_m29 l Z a0 hw [] h0 a1 li (2 : Int32) mc X_a1 Fu_a1 Fq_a1 Fo_a1 Fs_a1 Fm_a1 Fm_li) all0 rfl pd_17 rfl (Nat.le_of_eq rfl) (by decide) (by decide) (by decide) (by decide) rfl ?_
  rintro T1 h1 _ W1 K1 P1 rfl
  rw [P1 rfl rfl] at W1
  show own_Go p e below C T1 (mkF m 6 #[.val (.ref a1)] [(.int (2 : Int32)), (.int (0 : Int32)), (.ref a1)])
  refine own_callV W1 (A := [(.int (0 : Int32)), (.int (2 : Int32))]) (wt := 0) (pc' := 9) (st := []) d28_6 (wd236 hw) (wd237 hw) (own_nf2 W1 (wd219 hw) rfl) (wd239 hw) (wd240 hw) (wd196 hw) (wd241 hw) (by decide) X_a1 (own_m31_22 l Z a0 hw [] h0 a1 li ed mc vf X_a1 Fu_a1 Fq_a1 Fo_a1 Fs_a1 Fm_a1 X_li Fe_li Fs_li Fm_li V_ed E_l hrf ne_a1_li ne_a1_ed ne_li_ed) (allS (Or.inl (List.mem_of_getElem? (i := 0) rfl)) (allS (Or.inl (List.mem_of_getElem? (i := 1) rfl)) (allS (Or.inl (List.mem_of_getElem? (i := 2) rfl)) all0))) rfl pd_15 rfl (Nat.le_of_eq rfl) (by decide) (by decide) (by decide) (by decide) rfl ?_
  rintro T2 h2 _ W2 K2 P2 ⟨rfl, ⟨Fe_li, Fs_li, Fm_li, QA⟩⟩
  have X_a1 := X_a1.keep K2
  have X_li := X_li.keep K2
  show own_Go p e below C T2 (mkF m 9 #[.val (.ref a1)] [])
  refine own_retV (Q := fun v h => v = none ∧ (own_fe Z h li (.ref ed) ∧ own_fs Z h li (.int (0 : Int32)) ∧ own_fm Z h li (.int (mc + (1 : Int32))) ∧ (∃ vf', own_R Z h ed "java/lang/Object" 10 vf' ∧ own_Rf vf' ∧ own_El Z h vf' 0 0))) W2 hC (by decide) (by decide) d28_9 ?_
  exact ⟨rfl, ⟨Fe_li, Fs_li, Fm_li, QA⟩⟩
theorem ef_m33_31 (m : MethodId) (x0 : Addr) (x1 : Addr) (x2 : Int32) (x3 : Int32) : entryFrame m #[(.ref x0), (.ref x1), (.int x2), (.int x3)] 6 = mkF m 0 #[.val (.ref x0), .val (.ref x1), .val (.int x2), .val (.int x3), .unset, .unset] [] := by first | (simp [entryFrame, mkF, argsToLocals, Value.category]; done) | rfl
set_option maxRecDepth 65536 in
set_option maxHeartbeats 40000000 in
theorem own_m33_31 (l : Launch) (Z : State) (a0 : Array Value) (hw : ∀ d ∈ tables_1, d.before a0 Z = true) (wo : List Jvm.Cond) (h0 : Heap) (a1 : Addr) (a2 : Addr) (mc : Int32) (vf : Nat → Value) (X_a1 : own_xl Z h0 a1) (Fe_a1 : own_fe Z h0 a1 (.ref a2)) (Fs_a1 : own_fs Z h0 a1 (.int (3 : Int32))) (Fm_a1 : own_fm Z h0 a1 (.int mc)) (V_a2 : own_R Z h0 a2 "java/lang/Object" 10 vf) (E_l : own_El Z h0 vf 1 3) (hrf : own_Rf vf) (ne1 : a1 ≠ a2) :
    own_M l Z wo (⟨"java/util/ArrayList", "shiftTailOverGap", "([Ljava/lang/Object;II)V"⟩ : MethodName) jdk_38_method_44_code 6 none ({ frames := 1, cells := 0, slots := 0, locals := 18 } : Room) [a1, a2] #[(.ref a1), (.ref a2), (.int (0 : Int32)), (.int (1 : Int32))] h0 (fun v h => v = none ∧ (own_fe Z h a1 (.ref a2) ∧ own_fs Z h a1 (.int (2 : Int32)) ∧ own_fm Z h a1 (.int mc) ∧ ∃ vf', own_R Z h a2 "java/lang/Object" 10 vf' ∧ own_Rf vf' ∧ own_El Z h vf' 0 2)) := by
  refine own_body (plainFor_of_name pn_33) (fun m => ef_m33_31 m a1 a2 (0 : Int32) (1 : Int32)) ?_
  intro p e s m below meth c C hC T0 W0
  refine own_aloadN W0 1 d33_0 rfl rfl rfl ?_
  refine own_iloadN W0 2 d33_1 rfl rfl ?_
  refine own_aloadN W0 3 d33_2 rfl rfl rfl ?_
  refine own_iloadN W0 4 d33_3 rfl rfl ?_
  refine own_aloadN W0 5 d33_4 rfl rfl rfl ?_
  refine own_getfield W0 8 d33_5 (wd35 hw) Fs_a1 rfl ?_
  intro T1 W1
  refine own_iloadN W1 9 d33_8 rfl rfl ?_
  refine own_isub W1 10 d33_9 rfl ?_
  rw [show ((3 : Int32) - (1 : Int32)) = (2 : Int32) from rfl]
  refine own_arraycopyW W1 (i1 := 1) (j1 := 0) (k1 := 2) (wt := 0) (pc' := 13) d33_10 (wd252 hw) (wd255 hw) (wd253 hw) (wd254 hw) V_a2 (own_R.fits (fun j _ => hrf j)) (by decide) (own_stoL V_a2 (fun _ X => Ins.of_exa X (wd58 hw)) 2 E_l) rfl rfl rfl (by decide) (by decide) (Or.inl (List.mem_of_getElem? (i := 1) rfl)) rfl (Nat.le_of_eq rfl) (by decide) (by decide) rfl ?_
  intro T2 h2 W2 K2 V_a2
  have X_a1 := X_a1.keep K2
  have Fe_a1 := Fe_a1.keep K2 (ninS ne1 nin0)
  have Fs_a1 := Fs_a1.keep K2 (ninS ne1 nin0)
  have Fm_a1 := Fm_a1.keep K2 (ninS ne1 nin0)
  have E_l := E_l.keep K2
  show own_Go p e below C T2 (mkF m 13 #[.val (.ref a1), .val (.ref a2), .val (.int (0 : Int32)), .val (.int (1 : Int32)), .unset, .unset] [])
  refine own_aloadN W2 14 d33_13 rfl rfl rfl ?_
  refine own_getfield W2 17 d33_14 (wd35 hw) Fs_a1 rfl ?_
  intro T3 W3
  refine own_istore W3 19 #[.val (.ref a1), .val (.ref a2), .val (.int (0 : Int32)), .val (.int (1 : Int32)), .val (.int (3 : Int32)), .unset] d33_17 rfl rfl ?_
  refine own_aloadN W3 20 d33_19 rfl rfl rfl ?_
  refine own_dup W3 21 d33_20 rfl rfl ?_
  refine own_getfield W3 24 d33_21 (wd35 hw) Fs_a1 rfl ?_
  intro T4 W4
  refine own_iloadN W4 25 d33_24 rfl rfl ?_
  refine own_iloadN W4 26 d33_25 rfl rfl ?_
  refine own_isub W4 27 d33_26 rfl ?_
  refine own_isub W4 28 d33_27 rfl ?_
  rw [show ((3 : Int32) - ((1 : Int32) - (0 : Int32))) = (2 : Int32) from rfl]
  refine own_dup_x1 W4 29 d33_28 rfl rfl rfl ?_
  refine own_putfield W4 (.int (2 : Int32)) 32 d33_29 (wd35 hw) Fs_a1 X_a1 (Or.inl (wd36 hw)) (wd2 hw) (Or.inl (List.mem_of_getElem? (i := 0) rfl)) (ty := .int) (by decide) rfl rfl rfl ?_
  intro T5 h5 W5 Wr5 Fs_a1
  have X_a1 := X_a1.wr Wr5
  have Fe_a1 := Fe_a1.other Wr5 (Or.inr (slot_ne (Or.inl (wd26 hw)) (Or.inl (wd36 hw)) (by decide) (t := (.array (.object "java/lang/Object"))) (t' := .int) (by decide) (by decide)))
  have Fm_a1 := Fm_a1.other Wr5 (Or.inr (slot_ne (Or.inl (wd23 hw)) (Or.inl (wd36 hw)) (by decide) (t := .int) (t' := .int) (by decide) (by decide)))
  have V_a2 := V_a2.other Wr5 (Ne.symm ne1)
  have E_l := E_l.wr Wr5
  refine own_istore W5 34 #[.val (.ref a1), .val (.ref a2), .val (.int (0 : Int32)), .val (.int (1 : Int32)), .val (.int (3 : Int32)), .val (.int (2 : Int32))] d33_32 rfl rfl ?_
  refine own_iload W5 36 d33_34 rfl rfl ?_
  refine own_iload W5 38 d33_36 rfl rfl ?_
  refine own_icmpN W5 41 d33_38 ((tlt ((by decide) : (2 : Int32) < (3 : Int32))).2.1) rfl ?_
  refine own_aloadN W5 42 d33_41 rfl rfl rfl ?_
  refine own_iload W5 44 d33_42 rfl rfl ?_
  refine own_aconst_null W5 45 d33_44 rfl ?_
  refine own_aastore0 W5 2 46 d33_45 V_a2 (Or.inl (List.mem_of_getElem? (i := 1) rfl)) rfl (by decide) rfl ?_
  intro T6 h6 W6 Wr6 V_a2
  have X_a1 := X_a1.wr Wr6
  have Fe_a1 := Fe_a1.other Wr6 (Or.inl ne1)
  have Fs_a1 := Fs_a1.other Wr6 (Or.inl ne1)
  have Fm_a1 := Fm_a1.other Wr6 (Or.inl ne1)
  have E_l := E_l.wr Wr6
  show own_Go p e below C T6 (mkF m 46 #[.val (.ref a1), .val (.ref a2), .val (.int (0 : Int32)), .val (.int (1 : Int32)), .val (.int (3 : Int32)), .val (.int (2 : Int32))] [])
  refine own_iinc W6 (3 : Int32) 49 #[.val (.ref a1), .val (.ref a2), .val (.int (0 : Int32)), .val (.int (1 : Int32)), .val (.int (3 : Int32)), .val (.int (3 : Int32))] d33_46 rfl rfl rfl rfl ?_
  refine own_goto W6 34 d33_49 (by decide) (by decide) ?_
  refine own_iload W6 36 d33_34 rfl rfl ?_
  refine own_iload W6 38 d33_36 rfl rfl ?_
  refine own_icmpY W6 52 d33_38 ((flt ((by decide) : ¬ ((3 : Int32) < (3 : Int32)))).2.1) (by decide) (by decide) ?_
  refine own_retV (Q := fun v h => v = none ∧ (own_fe Z h a1 (.ref a2) ∧ own_fs Z h a1 (.int (2 : Int32)) ∧ own_fm Z h a1 (.int mc) ∧ ∃ vf', own_R Z h a2 "java/lang/Object" 10 vf' ∧ own_Rf vf' ∧ own_El Z h vf' 0 2)) W6 hC (by decide) (by decide) d33_52 ?_
  exact ⟨rfl, ⟨Fe_a1, Fs_a1, Fm_a1, _, V_a2, (own_Rf.upd (hrf.ite 1 0 2) 2 rfl), fun j _ hj => by
    obtain ⟨b, e1, e2, e3⟩ := E_l (1 + j) (by omega) (by omega)
    refine ⟨b, ?_, e2, e3⟩
    simp only [own_upd]
    rw [if_neg (by omega), if_pos (by omega), Nat.sub_zero]
    exact e1⟩⟩
theorem ef_m32_31 (m : MethodId) (x0 : Addr) (x1 : Int32) (x2 : Int32) : entryFrame m #[(.ref x0), (.int x1), (.int x2)] 3 = mkF m 0 #[.val (.ref x0), .val (.int x1), .val (.int x2)] [] := by first | (simp [entryFrame, mkF, argsToLocals, Value.category]; done) | rfl
set_option maxRecDepth 65536 in
set_option maxHeartbeats 40000000 in
theorem own_m32_31 (l : Launch) (Z : State) (a0 : Array Value) (hw : ∀ d ∈ tables_1, d.before a0 Z = true) (wo : List Jvm.Cond) (h0 : Heap) (a1 : Addr) (ed : Addr) (mc : Int32) (vf : Nat → Value) (X_a1 : own_xl Z h0 a1) (Fe_a1 : own_fe Z h0 a1 (.ref ed)) (Fs_a1 : own_fs Z h0 a1 (.int (3 : Int32))) (Fm_a1 : own_fm Z h0 a1 (.int mc)) (V_ed : own_R Z h0 ed "java/lang/Object" 10 vf) (E_l : own_El Z h0 vf 1 3) (hrf : own_Rf vf) (ne1 : a1 ≠ ed) :
    own_M l Z wo (⟨"java/util/ArrayList", "removeRange", "(II)V"⟩ : MethodName) jdk_38_method_43_code 3 none ({ frames := 2, cells := 0, slots := 0, locals := 35 } : Room) [a1, ed] #[(.ref a1), (.int (0 : Int32)), (.int (1 : Int32))] h0 (fun v h => v = none ∧ (own_fe Z h a1 (.ref ed) ∧ own_fs Z h a1 (.int (2 : Int32)) ∧ own_fm Z h a1 (.int (mc + (1 : Int32))) ∧ (∃ vf', own_R Z h ed "java/lang/Object" 10 vf' ∧ own_Rf vf' ∧ own_El Z h vf' 0 2))) := by
  refine own_body (plainFor_of_name pn_32) (fun m => ef_m32_31 m a1 (0 : Int32) (1 : Int32)) ?_
  intro p e s m below meth c C hC T0 W0
  refine own_iloadN W0 1 d32_0 rfl rfl ?_
  refine own_iloadN W0 2 d32_1 rfl rfl ?_
  refine own_icmpY W0 18 d32_2 ((flt ((by decide) : ¬ ((1 : Int32) < (0 : Int32)))).2.2.2) (by decide) (by decide) ?_
  refine own_aloadN W0 19 d32_18 rfl rfl rfl ?_
  refine own_dup W0 20 d32_19 rfl rfl ?_
  refine own_getfieldV W0 23 d32_20 (wd33 hw) (wd34 hw) Fm_a1 rfl ?_
  intro T1 W1
  refine own_iconst W1 (1 : Int32) 24 d32_23 rfl rfl ?_
  refine own_iadd W1 25 d32_24 rfl ?_
  refine own_putfieldV W1 (.int (mc + (1 : Int32))) 28 d32_25 (wd33 hw) (wd34 hw) Fm_a1 X_a1 (Or.inl (wd23 hw)) (wd2 hw) (Or.inl (List.mem_of_getElem? (i := 0) rfl)) (ty := .int) (by decide) rfl rfl rfl ?_
  intro T2 h2 W2 Wr2 Fm_a1
  have X_a1 := X_a1.wr Wr2
  have Fe_a1 := Fe_a1.other Wr2 (Or.inr (slot_ne (Or.inl (wd26 hw)) (Or.inl (wd23 hw)) (by decide) (t := (.array (.object "java/lang/Object"))) (t' := .int) (by decide) (by decide)))
  have Fs_a1 := Fs_a1.other Wr2 (Or.inr (slot_ne (Or.inl (wd36 hw)) (Or.inl (wd23 hw)) (by decide) (t := .int) (t' := .int) (by decide) (by decide)))
  have V_ed := V_ed.other Wr2 (Ne.symm ne1)
  have E_l := E_l.wr Wr2
  refine own_aloadN W2 29 d32_28 rfl rfl rfl ?_
  refine own_aloadN W2 30 d32_29 rfl rfl rfl ?_
  refine own_getfield W2 33 d32_30 (wd25 hw) Fe_a1 rfl ?_
  intro T3 W3
  refine own_iloadN W3 34 d32_33 rfl rfl ?_
  refine own_iloadN W3 35 d32_34 rfl rfl ?_
  refine own_callP W3 (A := [(.ref ed), (.int (0 : Int32)), (.int (1 : Int32))]) (wt := 0) (pc' := 38) (st := []) d32_35 (wd247 hw) (wd248 hw) (wd249 hw) (wd250 hw) rfl (wd3 hw) (wd251 hw) (by decide) X_a1 (own_m33_31 l Z a0 hw [] h2 a1 ed (mc + (1 : Int32)) vf X_a1 Fe_a1 Fs_a1 Fm_a1 V_ed E_l hrf ne1) (allS (Or.inl (List.mem_of_getElem? (i := 0) rfl)) (allS (Or.inl (List.mem_of_getElem? (i := 1) rfl)) all0)) rfl pd_14 rfl (Nat.le_of_eq rfl) (by decide) (by decide) (by decide) (by decide) rfl ?_
  rintro T4 h4 _ W4 K4 P4 ⟨rfl, ⟨Fe_a1, Fs_a1, Fm_a1, QA⟩⟩
  have X_a1 := X_a1.keep K4
  show own_Go p e below C T4 (mkF m 38 #[.val (.ref a1), .val (.int (0 : Int32)), .val (.int (1 : Int32))] [])
  refine own_retV (Q := fun v h => v = none ∧ (own_fe Z h a1 (.ref ed) ∧ own_fs Z h a1 (.int (2 : Int32)) ∧ own_fm Z h a1 (.int (mc + (1 : Int32))) ∧ (∃ vf', own_R Z h ed "java/lang/Object" 10 vf' ∧ own_Rf vf' ∧ own_El Z h vf' 0 2))) W4 hC (by decide) (by decide) d32_38 ?_
  exact ⟨rfl, ⟨Fe_a1, Fs_a1, Fm_a1, QA⟩⟩
theorem ef_m31_31 (m : MethodId) (x0 : Addr) (x1 : Int32) (x2 : Int32) : entryFrame m #[(.ref x0), (.int x1), (.int x2)] 3 = mkF m 0 #[.val (.ref x0), .val (.int x1), .val (.int x2)] [] := by first | (simp [entryFrame, mkF, argsToLocals, Value.category]; done) | rfl
set_option maxRecDepth 65536 in
set_option maxHeartbeats 40000000 in
theorem own_m31_31 (l : Launch) (Z : State) (a0 : Array Value) (hw : ∀ d ∈ tables_1, d.before a0 Z = true) (wo : List Jvm.Cond) (h0 : Heap) (a1 : Addr) (li : Addr) (ed : Addr) (mc : Int32) (vf : Nat → Value) (X_a1 : own_xs Z h0 a1) (Fu_a1 : own_fu Z h0 a1 (.ref li)) (Fq_a1 : own_fq Z h0 a1 .null) (Fo_a1 : own_fo Z h0 a1 (.int (0 : Int32))) (Fs_a1 : own_fz Z h0 a1 (.int (1 : Int32))) (Fm_a1 : own_fm Z h0 a1 (.int mc)) (X_li : own_xl Z h0 li) (Fe_li : own_fe Z h0 li (.ref ed)) (Fs_li : own_fs Z h0 li (.int (3 : Int32))) (Fm_li : own_fm Z h0 li (.int mc)) (V_ed : own_R Z h0 ed "java/lang/Object" 10 vf) (E_l : own_El Z h0 vf 1 3) (hrf : own_Rf vf) (ne_a1_li : a1 ≠ li) (ne_a1_ed : a1 ≠ ed) (ne_li_ed : li ≠ ed) :
    own_M l Z wo (⟨"java/util/ArrayList$SubList", "removeRange", "(II)V"⟩ : MethodName) jdk_130_method_8_code 3 none ({ frames := 3, cells := 0, slots := 0, locals := 49 } : Room) [a1, li, ed] #[(.ref a1), (.int (0 : Int32)), (.int (1 : Int32))] h0 (fun v h => v = none ∧ (own_fe Z h li (.ref ed) ∧ own_fs Z h li (.int (2 : Int32)) ∧ own_fm Z h li (.int (mc + (1 : Int32))) ∧ (∃ vf', own_R Z h ed "java/lang/Object" 10 vf' ∧ own_Rf vf' ∧ own_El Z h vf' 0 2))) := by
  refine own_body (plainFor_of_name pn_31) (fun m => ef_m31_31 m a1 (0 : Int32) (1 : Int32)) ?_
  intro p e s m below meth c C hC T0 W0
  refine own_aloadN W0 1 d31_0 rfl rfl rfl ?_
  refine own_callP W0 (A := []) (wt := 0) (pc' := 4) (st := []) d31_1 (wd231 hw) (wd232 hw) (wd233 hw) (wd234 hw) rfl (wd196 hw) (wd235 hw) (by decide) X_a1 (own_m30 l Z a0 hw [] h0 a1 li (1 : Int32) mc X_a1 Fu_a1 Fq_a1 Fo_a1 Fs_a1 Fm_a1 Fm_li) all0 rfl pd_0 rfl (Nat.le_of_eq rfl) (by decide) (by decide) (by decide) (by decide) rfl ?_
  rintro T1 h1 _ W1 K1 P1 ⟨rfl, -⟩
  rw [P1 rfl rfl] at W1
  show own_Go p e below C T1 (mkF m 4 #[.val (.ref a1), .val (.int (0 : Int32)), .val (.int (1 : Int32))] [])
  refine own_aloadN W1 5 d31_4 rfl rfl rfl ?_
  refine own_getfield W1 8 d31_5 (wd205 hw) Fu_a1 rfl ?_
  intro T2 W2
  refine own_aloadN W2 9 d31_8 rfl rfl rfl ?_
  refine own_getfield W2 12 d31_9 (wd209 hw) Fo_a1 rfl ?_
  intro T3 W3
  refine own_iloadN W3 13 d31_12 rfl rfl ?_
  refine own_iadd W3 14 d31_13 rfl ?_
  rw [show ((0 : Int32) + (0 : Int32)) = (0 : Int32) from rfl]
  refine own_aloadN W3 15 d31_14 rfl rfl rfl ?_
  refine own_getfield W3 18 d31_15 (wd209 hw) Fo_a1 rfl ?_
  intro T4 W4
  refine own_iloadN W4 19 d31_18 rfl rfl ?_
  refine own_iadd W4 20 d31_19 rfl ?_
  rw [show ((0 : Int32) + (1 : Int32)) = (1 : Int32) from rfl]
  refine own_callV W4 (A := [(.int (0 : Int32)), (.int (1 : Int32))]) (wt := 0) (pc' := 23) (st := []) d31_20 (wd242 hw) (wd243 hw) (own_nf W4 (wd245 hw)) (wd245 hw) (wd244 hw) (wd3 hw) (wd246 hw) (by decide) X_li (own_m32_31 l Z a0 hw [] h0 li ed mc vf X_li Fe_li Fs_li Fm_li V_ed E_l hrf ne_li_ed) (allS (Or.inl (List.mem_of_getElem? (i := 1) rfl)) (allS (Or.inl (List.mem_of_getElem? (i := 2) rfl)) all0)) rfl pd_15 rfl (Nat.le_of_eq rfl) (by decide) (by decide) (by decide) (by decide) rfl ?_
  rintro T5 h5 _ W5 K5 P5 ⟨rfl, ⟨Fe_li, Fs_li, Fm_li, QA⟩⟩
  have X_a1 := X_a1.keep K5
  have Fu_a1 := Fu_a1.keep K5 (ninS ne_a1_li (ninS ne_a1_ed nin0))
  have Fq_a1 := Fq_a1.keep K5 (ninS ne_a1_li (ninS ne_a1_ed nin0))
  have Fo_a1 := Fo_a1.keep K5 (ninS ne_a1_li (ninS ne_a1_ed nin0))
  have Fs_a1 := Fs_a1.keep K5 (ninS ne_a1_li (ninS ne_a1_ed nin0))
  have Fm_a1 := Fm_a1.keep K5 (ninS ne_a1_li (ninS ne_a1_ed nin0))
  have X_li := X_li.keep K5
  show own_Go p e below C T5 (mkF m 23 #[.val (.ref a1), .val (.int (0 : Int32)), .val (.int (1 : Int32))] [])
  obtain ⟨vg, V_ed, hrg, E_l⟩ := QA
  refine own_aloadN W5 24 d31_23 rfl rfl rfl ?_
  refine own_iloadN W5 25 d31_24 rfl rfl ?_
  refine own_iloadN W5 26 d31_25 rfl rfl ?_
  refine own_isub W5 27 d31_26 rfl ?_
  refine own_callP W5 (A := [(.int ((0 : Int32) - (1 : Int32)))]) (wt := 0) (pc' := 30) (st := []) d31_27 (wd256 hw) (wd257 hw) (wd258 hw) (wd259 hw) rfl (wd196 hw) (wd260 hw) (by decide) X_a1 (own_m34 l Z a0 hw [] h5 a1 ((0 : Int32) - (1 : Int32)) li (1 : Int32) (mc + (1 : Int32)) mc X_a1 Fu_a1 Fq_a1 Fo_a1 Fs_a1 Fm_a1 Fm_li ne_a1_li) (allS (Or.inl (List.mem_of_getElem? (i := 0) rfl)) all0) rfl pd_16 rfl (Nat.le_of_eq rfl) (by decide) (by decide) (by decide) (by decide) rfl ?_
  rintro T6 h6 _ W6 K6 P6 ⟨rfl, -⟩
  have X_a1 := X_a1.keep K6
  have X_li := X_li.keep K6
  have Fe_li := Fe_li.keep K6 (ninS (Ne.symm ne_a1_li) nin0)
  have Fs_li := Fs_li.keep K6 (ninS (Ne.symm ne_a1_li) nin0)
  have Fm_li := Fm_li.keep K6 (ninS (Ne.symm ne_a1_li) nin0)
  have V_ed := V_ed.keep K6 (ninS (Ne.symm ne_a1_ed) nin0)
  have E_l := E_l.keep K6
  show own_Go p e below C T6 (mkF m 30 #[.val (.ref a1), .val (.int (0 : Int32)), .val (.int (1 : Int32))] [])
  refine own_retV (Q := fun v h => v = none ∧ (own_fe Z h li (.ref ed) ∧ own_fs Z h li (.int (2 : Int32)) ∧ own_fm Z h li (.int (mc + (1 : Int32))) ∧ (∃ vf', own_R Z h ed "java/lang/Object" 10 vf' ∧ own_Rf vf' ∧ own_El Z h vf' 0 2))) W6 hC (by decide) (by decide) d31_30 ?_
  exact ⟨rfl, ⟨Fe_li, Fs_li, Fm_li, vg, V_ed, hrg, E_l⟩⟩
theorem ef_m28_31 (m : MethodId) (x0 : Addr) : entryFrame m #[(.ref x0)] 1 = mkF m 0 #[.val (.ref x0)] [] := by first | (simp [entryFrame, mkF, argsToLocals, Value.category]; done) | rfl
set_option maxRecDepth 65536 in
set_option maxHeartbeats 40000000 in
theorem own_m28_31 (l : Launch) (Z : State) (a0 : Array Value) (hw : ∀ d ∈ tables_1, d.before a0 Z = true) (wo : List Jvm.Cond) (h0 : Heap) (a1 : Addr) (li : Addr) (ed : Addr) (mc : Int32) (vf : Nat → Value) (X_a1 : own_xs Z h0 a1) (Fu_a1 : own_fu Z h0 a1 (.ref li)) (Fq_a1 : own_fq Z h0 a1 .null) (Fo_a1 : own_fo Z h0 a1 (.int (0 : Int32))) (Fs_a1 : own_fz Z h0 a1 (.int (1 : Int32))) (Fm_a1 : own_fm Z h0 a1 (.int mc)) (X_li : own_xl Z h0 li) (Fe_li : own_fe Z h0 li (.ref ed)) (Fs_li : own_fs Z h0 li (.int (3 : Int32))) (Fm_li : own_fm Z h0 li (.int mc)) (V_ed : own_R Z h0 ed "java/lang/Object" 10 vf) (E_l : own_El Z h0 vf 1 3) (hrf : own_Rf vf) (ne_a1_li : a1 ≠ li) (ne_a1_ed : a1 ≠ ed) (ne_li_ed : li ≠ ed) :
    own_M l Z wo (⟨"java/util/AbstractList", "clear", "()V"⟩ : MethodName) jdk_39_method_9_code 1 none ({ frames := 4, cells := 0, slots := 0, locals := 63 } : Room) [a1, li, ed] #[(.ref a1)] h0 (fun v h => v = none ∧ (own_fe Z h li (.ref ed) ∧ own_fs Z h li (.int (2 : Int32)) ∧ own_fm Z h li (.int (mc + (1 : Int32))) ∧ (∃ vf', own_R Z h ed "java/lang/Object" 10 vf' ∧ own_Rf vf' ∧ own_El Z h vf' 0 2))) := by
  refine own_body (plainFor_of_name pn_28) (fun m => ef_m28_31 m a1) ?_
  intro p e s m below meth c C hC T0 W0
  refine own_aloadN W0 1 d28_0 rfl rfl rfl ?_
  refine own_iconst W0 (0 : Int32) 2 d28_1 rfl rfl ?_
  refine own_aloadN W0 3 d28_2 rfl rfl rfl ?_
  refine own_callU W0 (ow := "java/util/AbstractCollection") (A := []) (wt := 2) (pc' := 6) (st := [(.int (0 : Int32)), (.ref a1)]) d28_3 (wd225 hw) (wd226 hw) (wd227 hw) (wd228 hw) (wd229 hw) (wd196 hw) (wd230 hw) (by decide) X_a1 (own_m29 l Z a0 hw [] h0 a1 li (1 : Int32) mc X_a1 Fu_a1 Fq_a1 Fo_a1 Fs_a1 Fm_a1 Fm_li) all0 rfl pd_17 rfl (Nat.le_of_eq rfl) (by decide) (by decide) (by decide) (by decide) rfl ?_
  rintro T1 h1 _ W1 K1 P1 rfl
  rw [P1 rfl rfl] at W1
  show own_Go p e below C T1 (mkF m 6 #[.val (.ref a1)] [(.int (1 : Int32)), (.int (0 : Int32)), (.ref a1)])
  refine own_callV W1 (A := [(.int (0 : Int32)), (.int (1 : Int32))]) (wt := 0) (pc' := 9) (st := []) d28_6 (wd236 hw) (wd237 hw) (own_nf2 W1 (wd219 hw) rfl) (wd239 hw) (wd240 hw) (wd196 hw) (wd241 hw) (by decide) X_a1 (own_m31_31 l Z a0 hw [] h0 a1 li ed mc vf X_a1 Fu_a1 Fq_a1 Fo_a1 Fs_a1 Fm_a1 X_li Fe_li Fs_li Fm_li V_ed E_l hrf ne_a1_li ne_a1_ed ne_li_ed) (allS (Or.inl (List.mem_of_getElem? (i := 0) rfl)) (allS (Or.inl (List.mem_of_getElem? (i := 1) rfl)) (allS (Or.inl (List.mem_of_getElem? (i := 2) rfl)) all0))) rfl pd_15 rfl (Nat.le_of_eq rfl) (by decide) (by decide) (by decide) (by decide) rfl ?_
  rintro T2 h2 _ W2 K2 P2 ⟨rfl, ⟨Fe_li, Fs_li, Fm_li, QA⟩⟩
  have X_a1 := X_a1.keep K2
  have X_li := X_li.keep K2
  show own_Go p e below C T2 (mkF m 9 #[.val (.ref a1)] [])
  refine own_retV (Q := fun v h => v = none ∧ (own_fe Z h li (.ref ed) ∧ own_fs Z h li (.int (2 : Int32)) ∧ own_fm Z h li (.int (mc + (1 : Int32))) ∧ (∃ vf', own_R Z h ed "java/lang/Object" 10 vf' ∧ own_Rf vf' ∧ own_El Z h vf' 0 2))) W2 hC (by decide) (by decide) d28_9 ?_
  exact ⟨rfl, ⟨Fe_li, Fs_li, Fm_li, QA⟩⟩
theorem ef_m33_32 (m : MethodId) (x0 : Addr) (x1 : Addr) (x2 : Int32) (x3 : Int32) : entryFrame m #[(.ref x0), (.ref x1), (.int x2), (.int x3)] 6 = mkF m 0 #[.val (.ref x0), .val (.ref x1), .val (.int x2), .val (.int x3), .unset, .unset] [] := by first | (simp [entryFrame, mkF, argsToLocals, Value.category]; done) | rfl
set_option maxRecDepth 65536 in
set_option maxHeartbeats 40000000 in
theorem own_m33_32 (l : Launch) (Z : State) (a0 : Array Value) (hw : ∀ d ∈ tables_1, d.before a0 Z = true) (wo : List Jvm.Cond) (h0 : Heap) (a1 : Addr) (a2 : Addr) (mc : Int32) (vf : Nat → Value) (X_a1 : own_xl Z h0 a1) (Fe_a1 : own_fe Z h0 a1 (.ref a2)) (Fs_a1 : own_fs Z h0 a1 (.int (3 : Int32))) (Fm_a1 : own_fm Z h0 a1 (.int mc)) (V_a2 : own_R Z h0 a2 "java/lang/Object" 10 vf) (E_l : own_El Z h0 vf 2 3) (hrf : own_Rf vf) (ne1 : a1 ≠ a2) :
    own_M l Z wo (⟨"java/util/ArrayList", "shiftTailOverGap", "([Ljava/lang/Object;II)V"⟩ : MethodName) jdk_38_method_44_code 6 none ({ frames := 1, cells := 0, slots := 0, locals := 18 } : Room) [a1, a2] #[(.ref a1), (.ref a2), (.int (0 : Int32)), (.int (2 : Int32))] h0 (fun v h => v = none ∧ (own_fe Z h a1 (.ref a2) ∧ own_fs Z h a1 (.int (1 : Int32)) ∧ own_fm Z h a1 (.int mc) ∧ ∃ vf', own_R Z h a2 "java/lang/Object" 10 vf' ∧ own_Rf vf' ∧ own_El Z h vf' 0 1)) := by
  refine own_body (plainFor_of_name pn_33) (fun m => ef_m33_32 m a1 a2 (0 : Int32) (2 : Int32)) ?_
  intro p e s m below meth c C hC T0 W0
  refine own_aloadN W0 1 d33_0 rfl rfl rfl ?_
  refine own_iloadN W0 2 d33_1 rfl rfl ?_
  refine own_aloadN W0 3 d33_2 rfl rfl rfl ?_
  refine own_iloadN W0 4 d33_3 rfl rfl ?_
  refine own_aloadN W0 5 d33_4 rfl rfl rfl ?_
  refine own_getfield W0 8 d33_5 (wd35 hw) Fs_a1 rfl ?_
  intro T1 W1
  refine own_iloadN W1 9 d33_8 rfl rfl ?_
  refine own_isub W1 10 d33_9 rfl ?_
  rw [show ((3 : Int32) - (2 : Int32)) = (1 : Int32) from rfl]
  refine own_arraycopyW W1 (i1 := 2) (j1 := 0) (k1 := 1) (wt := 0) (pc' := 13) d33_10 (wd252 hw) (wd255 hw) (wd253 hw) (wd254 hw) V_a2 (own_R.fits (fun j _ => hrf j)) (by decide) (own_stoL V_a2 (fun _ X => Ins.of_exa X (wd58 hw)) 1 E_l) rfl rfl rfl (by decide) (by decide) (Or.inl (List.mem_of_getElem? (i := 1) rfl)) rfl (Nat.le_of_eq rfl) (by decide) (by decide) rfl ?_
  intro T2 h2 W2 K2 V_a2
  have X_a1 := X_a1.keep K2
  have Fe_a1 := Fe_a1.keep K2 (ninS ne1 nin0)
  have Fs_a1 := Fs_a1.keep K2 (ninS ne1 nin0)
  have Fm_a1 := Fm_a1.keep K2 (ninS ne1 nin0)
  have E_l := E_l.keep K2
  show own_Go p e below C T2 (mkF m 13 #[.val (.ref a1), .val (.ref a2), .val (.int (0 : Int32)), .val (.int (2 : Int32)), .unset, .unset] [])
  refine own_aloadN W2 14 d33_13 rfl rfl rfl ?_
  refine own_getfield W2 17 d33_14 (wd35 hw) Fs_a1 rfl ?_
  intro T3 W3
  refine own_istore W3 19 #[.val (.ref a1), .val (.ref a2), .val (.int (0 : Int32)), .val (.int (2 : Int32)), .val (.int (3 : Int32)), .unset] d33_17 rfl rfl ?_
  refine own_aloadN W3 20 d33_19 rfl rfl rfl ?_
  refine own_dup W3 21 d33_20 rfl rfl ?_
  refine own_getfield W3 24 d33_21 (wd35 hw) Fs_a1 rfl ?_
  intro T4 W4
  refine own_iloadN W4 25 d33_24 rfl rfl ?_
  refine own_iloadN W4 26 d33_25 rfl rfl ?_
  refine own_isub W4 27 d33_26 rfl ?_
  refine own_isub W4 28 d33_27 rfl ?_
  rw [show ((3 : Int32) - ((2 : Int32) - (0 : Int32))) = (1 : Int32) from rfl]
  refine own_dup_x1 W4 29 d33_28 rfl rfl rfl ?_
  refine own_putfield W4 (.int (1 : Int32)) 32 d33_29 (wd35 hw) Fs_a1 X_a1 (Or.inl (wd36 hw)) (wd2 hw) (Or.inl (List.mem_of_getElem? (i := 0) rfl)) (ty := .int) (by decide) rfl rfl rfl ?_
  intro T5 h5 W5 Wr5 Fs_a1
  have X_a1 := X_a1.wr Wr5
  have Fe_a1 := Fe_a1.other Wr5 (Or.inr (slot_ne (Or.inl (wd26 hw)) (Or.inl (wd36 hw)) (by decide) (t := (.array (.object "java/lang/Object"))) (t' := .int) (by decide) (by decide)))
  have Fm_a1 := Fm_a1.other Wr5 (Or.inr (slot_ne (Or.inl (wd23 hw)) (Or.inl (wd36 hw)) (by decide) (t := .int) (t' := .int) (by decide) (by decide)))
  have V_a2 := V_a2.other Wr5 (Ne.symm ne1)
  have E_l := E_l.wr Wr5
  refine own_istore W5 34 #[.val (.ref a1), .val (.ref a2), .val (.int (0 : Int32)), .val (.int (2 : Int32)), .val (.int (3 : Int32)), .val (.int (1 : Int32))] d33_32 rfl rfl ?_
  refine own_iload W5 36 d33_34 rfl rfl ?_
  refine own_iload W5 38 d33_36 rfl rfl ?_
  refine own_icmpN W5 41 d33_38 ((tlt ((by decide) : (1 : Int32) < (3 : Int32))).2.1) rfl ?_
  refine own_aloadN W5 42 d33_41 rfl rfl rfl ?_
  refine own_iload W5 44 d33_42 rfl rfl ?_
  refine own_aconst_null W5 45 d33_44 rfl ?_
  refine own_aastore0 W5 1 46 d33_45 V_a2 (Or.inl (List.mem_of_getElem? (i := 1) rfl)) rfl (by decide) rfl ?_
  intro T6 h6 W6 Wr6 V_a2
  have X_a1 := X_a1.wr Wr6
  have Fe_a1 := Fe_a1.other Wr6 (Or.inl ne1)
  have Fs_a1 := Fs_a1.other Wr6 (Or.inl ne1)
  have Fm_a1 := Fm_a1.other Wr6 (Or.inl ne1)
  have E_l := E_l.wr Wr6
  show own_Go p e below C T6 (mkF m 46 #[.val (.ref a1), .val (.ref a2), .val (.int (0 : Int32)), .val (.int (2 : Int32)), .val (.int (3 : Int32)), .val (.int (1 : Int32))] [])
  refine own_iinc W6 (2 : Int32) 49 #[.val (.ref a1), .val (.ref a2), .val (.int (0 : Int32)), .val (.int (2 : Int32)), .val (.int (3 : Int32)), .val (.int (2 : Int32))] d33_46 rfl rfl rfl rfl ?_
  refine own_goto W6 34 d33_49 (by decide) (by decide) ?_
  refine own_iload W6 36 d33_34 rfl rfl ?_
  refine own_iload W6 38 d33_36 rfl rfl ?_
  refine own_icmpN W6 41 d33_38 ((tlt ((by decide) : (2 : Int32) < (3 : Int32))).2.1) rfl ?_
  refine own_aloadN W6 42 d33_41 rfl rfl rfl ?_
  refine own_iload W6 44 d33_42 rfl rfl ?_
  refine own_aconst_null W6 45 d33_44 rfl ?_
  refine own_aastore0 W6 2 46 d33_45 V_a2 (Or.inl (List.mem_of_getElem? (i := 1) rfl)) rfl (by decide) rfl ?_
  intro T7 h7 W7 Wr7 V_a2
  have X_a1 := X_a1.wr Wr7
  have Fe_a1 := Fe_a1.other Wr7 (Or.inl ne1)
  have Fs_a1 := Fs_a1.other Wr7 (Or.inl ne1)
  have Fm_a1 := Fm_a1.other Wr7 (Or.inl ne1)
  have E_l := E_l.wr Wr7
  show own_Go p e below C T7 (mkF m 46 #[.val (.ref a1), .val (.ref a2), .val (.int (0 : Int32)), .val (.int (2 : Int32)), .val (.int (3 : Int32)), .val (.int (2 : Int32))] [])
  refine own_iinc W7 (3 : Int32) 49 #[.val (.ref a1), .val (.ref a2), .val (.int (0 : Int32)), .val (.int (2 : Int32)), .val (.int (3 : Int32)), .val (.int (3 : Int32))] d33_46 rfl rfl rfl rfl ?_
  refine own_goto W7 34 d33_49 (by decide) (by decide) ?_
  refine own_iload W7 36 d33_34 rfl rfl ?_
  refine own_iload W7 38 d33_36 rfl rfl ?_
  refine own_icmpY W7 52 d33_38 ((flt ((by decide) : ¬ ((3 : Int32) < (3 : Int32)))).2.1) (by decide) (by decide) ?_
  refine own_retV (Q := fun v h => v = none ∧ (own_fe Z h a1 (.ref a2) ∧ own_fs Z h a1 (.int (1 : Int32)) ∧ own_fm Z h a1 (.int mc) ∧ ∃ vf', own_R Z h a2 "java/lang/Object" 10 vf' ∧ own_Rf vf' ∧ own_El Z h vf' 0 1)) W7 hC (by decide) (by decide) d33_52 ?_
  exact ⟨rfl, ⟨Fe_a1, Fs_a1, Fm_a1, _, V_a2, (own_Rf.upd (own_Rf.upd (hrf.ite 2 0 1) 1 rfl) 2 rfl), fun j _ hj => by
    obtain ⟨b, e1, e2, e3⟩ := E_l (2 + j) (by omega) (by omega)
    refine ⟨b, ?_, e2, e3⟩
    simp only [own_upd]
    rw [if_neg (by omega), if_neg (by omega), if_pos (by omega), Nat.sub_zero]
    exact e1⟩⟩
theorem ef_m32_32 (m : MethodId) (x0 : Addr) (x1 : Int32) (x2 : Int32) : entryFrame m #[(.ref x0), (.int x1), (.int x2)] 3 = mkF m 0 #[.val (.ref x0), .val (.int x1), .val (.int x2)] [] := by first | (simp [entryFrame, mkF, argsToLocals, Value.category]; done) | rfl
set_option maxRecDepth 65536 in
set_option maxHeartbeats 40000000 in
theorem own_m32_32 (l : Launch) (Z : State) (a0 : Array Value) (hw : ∀ d ∈ tables_1, d.before a0 Z = true) (wo : List Jvm.Cond) (h0 : Heap) (a1 : Addr) (ed : Addr) (mc : Int32) (vf : Nat → Value) (X_a1 : own_xl Z h0 a1) (Fe_a1 : own_fe Z h0 a1 (.ref ed)) (Fs_a1 : own_fs Z h0 a1 (.int (3 : Int32))) (Fm_a1 : own_fm Z h0 a1 (.int mc)) (V_ed : own_R Z h0 ed "java/lang/Object" 10 vf) (E_l : own_El Z h0 vf 2 3) (hrf : own_Rf vf) (ne1 : a1 ≠ ed) :
    own_M l Z wo (⟨"java/util/ArrayList", "removeRange", "(II)V"⟩ : MethodName) jdk_38_method_43_code 3 none ({ frames := 2, cells := 0, slots := 0, locals := 35 } : Room) [a1, ed] #[(.ref a1), (.int (0 : Int32)), (.int (2 : Int32))] h0 (fun v h => v = none ∧ (own_fe Z h a1 (.ref ed) ∧ own_fs Z h a1 (.int (1 : Int32)) ∧ own_fm Z h a1 (.int (mc + (1 : Int32))) ∧ (∃ vf', own_R Z h ed "java/lang/Object" 10 vf' ∧ own_Rf vf' ∧ own_El Z h vf' 0 1))) := by
  refine own_body (plainFor_of_name pn_32) (fun m => ef_m32_32 m a1 (0 : Int32) (2 : Int32)) ?_
  intro p e s m below meth c C hC T0 W0
  refine own_iloadN W0 1 d32_0 rfl rfl ?_
  refine own_iloadN W0 2 d32_1 rfl rfl ?_
  refine own_icmpY W0 18 d32_2 ((flt ((by decide) : ¬ ((2 : Int32) < (0 : Int32)))).2.2.2) (by decide) (by decide) ?_
  refine own_aloadN W0 19 d32_18 rfl rfl rfl ?_
  refine own_dup W0 20 d32_19 rfl rfl ?_
  refine own_getfieldV W0 23 d32_20 (wd33 hw) (wd34 hw) Fm_a1 rfl ?_
  intro T1 W1
  refine own_iconst W1 (1 : Int32) 24 d32_23 rfl rfl ?_
  refine own_iadd W1 25 d32_24 rfl ?_
  refine own_putfieldV W1 (.int (mc + (1 : Int32))) 28 d32_25 (wd33 hw) (wd34 hw) Fm_a1 X_a1 (Or.inl (wd23 hw)) (wd2 hw) (Or.inl (List.mem_of_getElem? (i := 0) rfl)) (ty := .int) (by decide) rfl rfl rfl ?_
  intro T2 h2 W2 Wr2 Fm_a1
  have X_a1 := X_a1.wr Wr2
  have Fe_a1 := Fe_a1.other Wr2 (Or.inr (slot_ne (Or.inl (wd26 hw)) (Or.inl (wd23 hw)) (by decide) (t := (.array (.object "java/lang/Object"))) (t' := .int) (by decide) (by decide)))
  have Fs_a1 := Fs_a1.other Wr2 (Or.inr (slot_ne (Or.inl (wd36 hw)) (Or.inl (wd23 hw)) (by decide) (t := .int) (t' := .int) (by decide) (by decide)))
  have V_ed := V_ed.other Wr2 (Ne.symm ne1)
  have E_l := E_l.wr Wr2
  refine own_aloadN W2 29 d32_28 rfl rfl rfl ?_
  refine own_aloadN W2 30 d32_29 rfl rfl rfl ?_
  refine own_getfield W2 33 d32_30 (wd25 hw) Fe_a1 rfl ?_
  intro T3 W3
  refine own_iloadN W3 34 d32_33 rfl rfl ?_
  refine own_iloadN W3 35 d32_34 rfl rfl ?_
  refine own_callP W3 (A := [(.ref ed), (.int (0 : Int32)), (.int (2 : Int32))]) (wt := 0) (pc' := 38) (st := []) d32_35 (wd247 hw) (wd248 hw) (wd249 hw) (wd250 hw) rfl (wd3 hw) (wd251 hw) (by decide) X_a1 (own_m33_32 l Z a0 hw [] h2 a1 ed (mc + (1 : Int32)) vf X_a1 Fe_a1 Fs_a1 Fm_a1 V_ed E_l hrf ne1) (allS (Or.inl (List.mem_of_getElem? (i := 0) rfl)) (allS (Or.inl (List.mem_of_getElem? (i := 1) rfl)) all0)) rfl pd_14 rfl (Nat.le_of_eq rfl) (by decide) (by decide) (by decide) (by decide) rfl ?_
  rintro T4 h4 _ W4 K4 P4 ⟨rfl, ⟨Fe_a1, Fs_a1, Fm_a1, QA⟩⟩
  have X_a1 := X_a1.keep K4
  show own_Go p e below C T4 (mkF m 38 #[.val (.ref a1), .val (.int (0 : Int32)), .val (.int (2 : Int32))] [])
  refine own_retV (Q := fun v h => v = none ∧ (own_fe Z h a1 (.ref ed) ∧ own_fs Z h a1 (.int (1 : Int32)) ∧ own_fm Z h a1 (.int (mc + (1 : Int32))) ∧ (∃ vf', own_R Z h ed "java/lang/Object" 10 vf' ∧ own_Rf vf' ∧ own_El Z h vf' 0 1))) W4 hC (by decide) (by decide) d32_38 ?_
  exact ⟨rfl, ⟨Fe_a1, Fs_a1, Fm_a1, QA⟩⟩
theorem ef_m31_32 (m : MethodId) (x0 : Addr) (x1 : Int32) (x2 : Int32) : entryFrame m #[(.ref x0), (.int x1), (.int x2)] 3 = mkF m 0 #[.val (.ref x0), .val (.int x1), .val (.int x2)] [] := by first | (simp [entryFrame, mkF, argsToLocals, Value.category]; done) | rfl
set_option maxRecDepth 65536 in
set_option maxHeartbeats 40000000 in
theorem own_m31_32 (l : Launch) (Z : State) (a0 : Array Value) (hw : ∀ d ∈ tables_1, d.before a0 Z = true) (wo : List Jvm.Cond) (h0 : Heap) (a1 : Addr) (li : Addr) (ed : Addr) (mc : Int32) (vf : Nat → Value) (X_a1 : own_xs Z h0 a1) (Fu_a1 : own_fu Z h0 a1 (.ref li)) (Fq_a1 : own_fq Z h0 a1 .null) (Fo_a1 : own_fo Z h0 a1 (.int (0 : Int32))) (Fs_a1 : own_fz Z h0 a1 (.int (2 : Int32))) (Fm_a1 : own_fm Z h0 a1 (.int mc)) (X_li : own_xl Z h0 li) (Fe_li : own_fe Z h0 li (.ref ed)) (Fs_li : own_fs Z h0 li (.int (3 : Int32))) (Fm_li : own_fm Z h0 li (.int mc)) (V_ed : own_R Z h0 ed "java/lang/Object" 10 vf) (E_l : own_El Z h0 vf 2 3) (hrf : own_Rf vf) (ne_a1_li : a1 ≠ li) (ne_a1_ed : a1 ≠ ed) (ne_li_ed : li ≠ ed) :
    own_M l Z wo (⟨"java/util/ArrayList$SubList", "removeRange", "(II)V"⟩ : MethodName) jdk_130_method_8_code 3 none ({ frames := 3, cells := 0, slots := 0, locals := 49 } : Room) [a1, li, ed] #[(.ref a1), (.int (0 : Int32)), (.int (2 : Int32))] h0 (fun v h => v = none ∧ (own_fe Z h li (.ref ed) ∧ own_fs Z h li (.int (1 : Int32)) ∧ own_fm Z h li (.int (mc + (1 : Int32))) ∧ (∃ vf', own_R Z h ed "java/lang/Object" 10 vf' ∧ own_Rf vf' ∧ own_El Z h vf' 0 1))) := by
  refine own_body (plainFor_of_name pn_31) (fun m => ef_m31_32 m a1 (0 : Int32) (2 : Int32)) ?_
  intro p e s m below meth c C hC T0 W0
  refine own_aloadN W0 1 d31_0 rfl rfl rfl ?_
  refine own_callP W0 (A := []) (wt := 0) (pc' := 4) (st := []) d31_1 (wd231 hw) (wd232 hw) (wd233 hw) (wd234 hw) rfl (wd196 hw) (wd235 hw) (by decide) X_a1 (own_m30 l Z a0 hw [] h0 a1 li (2 : Int32) mc X_a1 Fu_a1 Fq_a1 Fo_a1 Fs_a1 Fm_a1 Fm_li) all0 rfl pd_0 rfl (Nat.le_of_eq rfl) (by decide) (by decide) (by decide) (by decide) rfl ?_
  rintro T1 h1 _ W1 K1 P1 ⟨rfl, -⟩
  rw [P1 rfl rfl] at W1
  show own_Go p e below C T1 (mkF m 4 #[.val (.ref a1), .val (.int (0 : Int32)), .val (.int (2 : Int32))] [])
  refine own_aloadN W1 5 d31_4 rfl rfl rfl ?_
  refine own_getfield W1 8 d31_5 (wd205 hw) Fu_a1 rfl ?_
  intro T2 W2
  refine own_aloadN W2 9 d31_8 rfl rfl rfl ?_
  refine own_getfield W2 12 d31_9 (wd209 hw) Fo_a1 rfl ?_
  intro T3 W3
  refine own_iloadN W3 13 d31_12 rfl rfl ?_
  refine own_iadd W3 14 d31_13 rfl ?_
  rw [show ((0 : Int32) + (0 : Int32)) = (0 : Int32) from rfl]
  refine own_aloadN W3 15 d31_14 rfl rfl rfl ?_
  refine own_getfield W3 18 d31_15 (wd209 hw) Fo_a1 rfl ?_
  intro T4 W4
  refine own_iloadN W4 19 d31_18 rfl rfl ?_
  refine own_iadd W4 20 d31_19 rfl ?_
  rw [show ((0 : Int32) + (2 : Int32)) = (2 : Int32) from rfl]
  refine own_callV W4 (A := [(.int (0 : Int32)), (.int (2 : Int32))]) (wt := 0) (pc' := 23) (st := []) d31_20 (wd242 hw) (wd243 hw) (own_nf W4 (wd245 hw)) (wd245 hw) (wd244 hw) (wd3 hw) (wd246 hw) (by decide) X_li (own_m32_32 l Z a0 hw [] h0 li ed mc vf X_li Fe_li Fs_li Fm_li V_ed E_l hrf ne_li_ed) (allS (Or.inl (List.mem_of_getElem? (i := 1) rfl)) (allS (Or.inl (List.mem_of_getElem? (i := 2) rfl)) all0)) rfl pd_15 rfl (Nat.le_of_eq rfl) (by decide) (by decide) (by decide) (by decide) rfl ?_
  rintro T5 h5 _ W5 K5 P5 ⟨rfl, ⟨Fe_li, Fs_li, Fm_li, QA⟩⟩
  have X_a1 := X_a1.keep K5
  have Fu_a1 := Fu_a1.keep K5 (ninS ne_a1_li (ninS ne_a1_ed nin0))
  have Fq_a1 := Fq_a1.keep K5 (ninS ne_a1_li (ninS ne_a1_ed nin0))
  have Fo_a1 := Fo_a1.keep K5 (ninS ne_a1_li (ninS ne_a1_ed nin0))
  have Fs_a1 := Fs_a1.keep K5 (ninS ne_a1_li (ninS ne_a1_ed nin0))
  have Fm_a1 := Fm_a1.keep K5 (ninS ne_a1_li (ninS ne_a1_ed nin0))
  have X_li := X_li.keep K5
  show own_Go p e below C T5 (mkF m 23 #[.val (.ref a1), .val (.int (0 : Int32)), .val (.int (2 : Int32))] [])
  obtain ⟨vg, V_ed, hrg, E_l⟩ := QA
  refine own_aloadN W5 24 d31_23 rfl rfl rfl ?_
  refine own_iloadN W5 25 d31_24 rfl rfl ?_
  refine own_iloadN W5 26 d31_25 rfl rfl ?_
  refine own_isub W5 27 d31_26 rfl ?_
  refine own_callP W5 (A := [(.int ((0 : Int32) - (2 : Int32)))]) (wt := 0) (pc' := 30) (st := []) d31_27 (wd256 hw) (wd257 hw) (wd258 hw) (wd259 hw) rfl (wd196 hw) (wd260 hw) (by decide) X_a1 (own_m34 l Z a0 hw [] h5 a1 ((0 : Int32) - (2 : Int32)) li (2 : Int32) (mc + (1 : Int32)) mc X_a1 Fu_a1 Fq_a1 Fo_a1 Fs_a1 Fm_a1 Fm_li ne_a1_li) (allS (Or.inl (List.mem_of_getElem? (i := 0) rfl)) all0) rfl pd_16 rfl (Nat.le_of_eq rfl) (by decide) (by decide) (by decide) (by decide) rfl ?_
  rintro T6 h6 _ W6 K6 P6 ⟨rfl, -⟩
  have X_a1 := X_a1.keep K6
  have X_li := X_li.keep K6
  have Fe_li := Fe_li.keep K6 (ninS (Ne.symm ne_a1_li) nin0)
  have Fs_li := Fs_li.keep K6 (ninS (Ne.symm ne_a1_li) nin0)
  have Fm_li := Fm_li.keep K6 (ninS (Ne.symm ne_a1_li) nin0)
  have V_ed := V_ed.keep K6 (ninS (Ne.symm ne_a1_ed) nin0)
  have E_l := E_l.keep K6
  show own_Go p e below C T6 (mkF m 30 #[.val (.ref a1), .val (.int (0 : Int32)), .val (.int (2 : Int32))] [])
  refine own_retV (Q := fun v h => v = none ∧ (own_fe Z h li (.ref ed) ∧ own_fs Z h li (.int (1 : Int32)) ∧ own_fm Z h li (.int (mc + (1 : Int32))) ∧ (∃ vf', own_R Z h ed "java/lang/Object" 10 vf' ∧ own_Rf vf' ∧ own_El Z h vf' 0 1))) W6 hC (by decide) (by decide) d31_30 ?_
  exact ⟨rfl, ⟨Fe_li, Fs_li, Fm_li, vg, V_ed, hrg, E_l⟩⟩
theorem ef_m28_32 (m : MethodId) (x0 : Addr) : entryFrame m #[(.ref x0)] 1 = mkF m 0 #[.val (.ref x0)] [] := by first | (simp [entryFrame, mkF, argsToLocals, Value.category]; done) | rfl
set_option maxRecDepth 65536 in
set_option maxHeartbeats 40000000 in
theorem own_m28_32 (l : Launch) (Z : State) (a0 : Array Value) (hw : ∀ d ∈ tables_1, d.before a0 Z = true) (wo : List Jvm.Cond) (h0 : Heap) (a1 : Addr) (li : Addr) (ed : Addr) (mc : Int32) (vf : Nat → Value) (X_a1 : own_xs Z h0 a1) (Fu_a1 : own_fu Z h0 a1 (.ref li)) (Fq_a1 : own_fq Z h0 a1 .null) (Fo_a1 : own_fo Z h0 a1 (.int (0 : Int32))) (Fs_a1 : own_fz Z h0 a1 (.int (2 : Int32))) (Fm_a1 : own_fm Z h0 a1 (.int mc)) (X_li : own_xl Z h0 li) (Fe_li : own_fe Z h0 li (.ref ed)) (Fs_li : own_fs Z h0 li (.int (3 : Int32))) (Fm_li : own_fm Z h0 li (.int mc)) (V_ed : own_R Z h0 ed "java/lang/Object" 10 vf) (E_l : own_El Z h0 vf 2 3) (hrf : own_Rf vf) (ne_a1_li : a1 ≠ li) (ne_a1_ed : a1 ≠ ed) (ne_li_ed : li ≠ ed) :
    own_M l Z wo (⟨"java/util/AbstractList", "clear", "()V"⟩ : MethodName) jdk_39_method_9_code 1 none ({ frames := 4, cells := 0, slots := 0, locals := 63 } : Room) [a1, li, ed] #[(.ref a1)] h0 (fun v h => v = none ∧ (own_fe Z h li (.ref ed) ∧ own_fs Z h li (.int (1 : Int32)) ∧ own_fm Z h li (.int (mc + (1 : Int32))) ∧ (∃ vf', own_R Z h ed "java/lang/Object" 10 vf' ∧ own_Rf vf' ∧ own_El Z h vf' 0 1))) := by
  refine own_body (plainFor_of_name pn_28) (fun m => ef_m28_32 m a1) ?_
  intro p e s m below meth c C hC T0 W0
  refine own_aloadN W0 1 d28_0 rfl rfl rfl ?_
  refine own_iconst W0 (0 : Int32) 2 d28_1 rfl rfl ?_
  refine own_aloadN W0 3 d28_2 rfl rfl rfl ?_
  refine own_callU W0 (ow := "java/util/AbstractCollection") (A := []) (wt := 2) (pc' := 6) (st := [(.int (0 : Int32)), (.ref a1)]) d28_3 (wd225 hw) (wd226 hw) (wd227 hw) (wd228 hw) (wd229 hw) (wd196 hw) (wd230 hw) (by decide) X_a1 (own_m29 l Z a0 hw [] h0 a1 li (2 : Int32) mc X_a1 Fu_a1 Fq_a1 Fo_a1 Fs_a1 Fm_a1 Fm_li) all0 rfl pd_17 rfl (Nat.le_of_eq rfl) (by decide) (by decide) (by decide) (by decide) rfl ?_
  rintro T1 h1 _ W1 K1 P1 rfl
  rw [P1 rfl rfl] at W1
  show own_Go p e below C T1 (mkF m 6 #[.val (.ref a1)] [(.int (2 : Int32)), (.int (0 : Int32)), (.ref a1)])
  refine own_callV W1 (A := [(.int (0 : Int32)), (.int (2 : Int32))]) (wt := 0) (pc' := 9) (st := []) d28_6 (wd236 hw) (wd237 hw) (own_nf2 W1 (wd219 hw) rfl) (wd239 hw) (wd240 hw) (wd196 hw) (wd241 hw) (by decide) X_a1 (own_m31_32 l Z a0 hw [] h0 a1 li ed mc vf X_a1 Fu_a1 Fq_a1 Fo_a1 Fs_a1 Fm_a1 X_li Fe_li Fs_li Fm_li V_ed E_l hrf ne_a1_li ne_a1_ed ne_li_ed) (allS (Or.inl (List.mem_of_getElem? (i := 0) rfl)) (allS (Or.inl (List.mem_of_getElem? (i := 1) rfl)) (allS (Or.inl (List.mem_of_getElem? (i := 2) rfl)) all0))) rfl pd_15 rfl (Nat.le_of_eq rfl) (by decide) (by decide) (by decide) (by decide) rfl ?_
  rintro T2 h2 _ W2 K2 P2 ⟨rfl, ⟨Fe_li, Fs_li, Fm_li, QA⟩⟩
  have X_a1 := X_a1.keep K2
  have X_li := X_li.keep K2
  show own_Go p e below C T2 (mkF m 9 #[.val (.ref a1)] [])
  refine own_retV (Q := fun v h => v = none ∧ (own_fe Z h li (.ref ed) ∧ own_fs Z h li (.int (1 : Int32)) ∧ own_fm Z h li (.int (mc + (1 : Int32))) ∧ (∃ vf', own_R Z h ed "java/lang/Object" 10 vf' ∧ own_Rf vf' ∧ own_El Z h vf' 0 1))) W2 hC (by decide) (by decide) d28_9 ?_
  exact ⟨rfl, ⟨Fe_li, Fs_li, Fm_li, QA⟩⟩
theorem ef_m33_33 (m : MethodId) (x0 : Addr) (x1 : Addr) (x2 : Int32) (x3 : Int32) : entryFrame m #[(.ref x0), (.ref x1), (.int x2), (.int x3)] 6 = mkF m 0 #[.val (.ref x0), .val (.ref x1), .val (.int x2), .val (.int x3), .unset, .unset] [] := by first | (simp [entryFrame, mkF, argsToLocals, Value.category]; done) | rfl
set_option maxRecDepth 65536 in
set_option maxHeartbeats 40000000 in
theorem own_m33_33 (l : Launch) (Z : State) (a0 : Array Value) (hw : ∀ d ∈ tables_1, d.before a0 Z = true) (wo : List Jvm.Cond) (h0 : Heap) (a1 : Addr) (a2 : Addr) (mc : Int32) (vf : Nat → Value) (X_a1 : own_xl Z h0 a1) (Fe_a1 : own_fe Z h0 a1 (.ref a2)) (Fs_a1 : own_fs Z h0 a1 (.int (3 : Int32))) (Fm_a1 : own_fm Z h0 a1 (.int mc)) (V_a2 : own_R Z h0 a2 "java/lang/Object" 10 vf) (E_l : own_El Z h0 vf 3 3) (hrf : own_Rf vf) (ne1 : a1 ≠ a2) :
    own_M l Z wo (⟨"java/util/ArrayList", "shiftTailOverGap", "([Ljava/lang/Object;II)V"⟩ : MethodName) jdk_38_method_44_code 6 none ({ frames := 1, cells := 0, slots := 0, locals := 18 } : Room) [a1, a2] #[(.ref a1), (.ref a2), (.int (0 : Int32)), (.int (3 : Int32))] h0 (fun v h => v = none ∧ (own_fe Z h a1 (.ref a2) ∧ own_fs Z h a1 (.int (0 : Int32)) ∧ own_fm Z h a1 (.int mc) ∧ ∃ vf', own_R Z h a2 "java/lang/Object" 10 vf' ∧ own_Rf vf' ∧ own_El Z h vf' 0 0)) := by
  refine own_body (plainFor_of_name pn_33) (fun m => ef_m33_33 m a1 a2 (0 : Int32) (3 : Int32)) ?_
  intro p e s m below meth c C hC T0 W0
  refine own_aloadN W0 1 d33_0 rfl rfl rfl ?_
  refine own_iloadN W0 2 d33_1 rfl rfl ?_
  refine own_aloadN W0 3 d33_2 rfl rfl rfl ?_
  refine own_iloadN W0 4 d33_3 rfl rfl ?_
  refine own_aloadN W0 5 d33_4 rfl rfl rfl ?_
  refine own_getfield W0 8 d33_5 (wd35 hw) Fs_a1 rfl ?_
  intro T1 W1
  refine own_iloadN W1 9 d33_8 rfl rfl ?_
  refine own_isub W1 10 d33_9 rfl ?_
  rw [show ((3 : Int32) - (3 : Int32)) = (0 : Int32) from rfl]
  refine own_arraycopyW W1 (i1 := 3) (j1 := 0) (k1 := 0) (wt := 0) (pc' := 13) d33_10 (wd252 hw) (wd255 hw) (wd253 hw) (wd254 hw) V_a2 (own_R.fits (fun j _ => hrf j)) (by decide) (own_stoL V_a2 (fun _ X => Ins.of_exa X (wd58 hw)) 0 E_l) rfl rfl rfl (by decide) (by decide) (Or.inl (List.mem_of_getElem? (i := 1) rfl)) rfl (Nat.le_of_eq rfl) (by decide) (by decide) rfl ?_
  intro T2 h2 W2 K2 V_a2
  have X_a1 := X_a1.keep K2
  have Fe_a1 := Fe_a1.keep K2 (ninS ne1 nin0)
  have Fs_a1 := Fs_a1.keep K2 (ninS ne1 nin0)
  have Fm_a1 := Fm_a1.keep K2 (ninS ne1 nin0)
  have E_l := E_l.keep K2
  show own_Go p e below C T2 (mkF m 13 #[.val (.ref a1), .val (.ref a2), .val (.int (0 : Int32)), .val (.int (3 : Int32)), .unset, .unset] [])
  refine own_aloadN W2 14 d33_13 rfl rfl rfl ?_
  refine own_getfield W2 17 d33_14 (wd35 hw) Fs_a1 rfl ?_
  intro T3 W3
  refine own_istore W3 19 #[.val (.ref a1), .val (.ref a2), .val (.int (0 : Int32)), .val (.int (3 : Int32)), .val (.int (3 : Int32)), .unset] d33_17 rfl rfl ?_
  refine own_aloadN W3 20 d33_19 rfl rfl rfl ?_
  refine own_dup W3 21 d33_20 rfl rfl ?_
  refine own_getfield W3 24 d33_21 (wd35 hw) Fs_a1 rfl ?_
  intro T4 W4
  refine own_iloadN W4 25 d33_24 rfl rfl ?_
  refine own_iloadN W4 26 d33_25 rfl rfl ?_
  refine own_isub W4 27 d33_26 rfl ?_
  refine own_isub W4 28 d33_27 rfl ?_
  rw [show ((3 : Int32) - ((3 : Int32) - (0 : Int32))) = (0 : Int32) from rfl]
  refine own_dup_x1 W4 29 d33_28 rfl rfl rfl ?_
  refine own_putfield W4 (.int (0 : Int32)) 32 d33_29 (wd35 hw) Fs_a1 X_a1 (Or.inl (wd36 hw)) (wd2 hw) (Or.inl (List.mem_of_getElem? (i := 0) rfl)) (ty := .int) (by decide) rfl rfl rfl ?_
  intro T5 h5 W5 Wr5 Fs_a1
  have X_a1 := X_a1.wr Wr5
  have Fe_a1 := Fe_a1.other Wr5 (Or.inr (slot_ne (Or.inl (wd26 hw)) (Or.inl (wd36 hw)) (by decide) (t := (.array (.object "java/lang/Object"))) (t' := .int) (by decide) (by decide)))
  have Fm_a1 := Fm_a1.other Wr5 (Or.inr (slot_ne (Or.inl (wd23 hw)) (Or.inl (wd36 hw)) (by decide) (t := .int) (t' := .int) (by decide) (by decide)))
  have V_a2 := V_a2.other Wr5 (Ne.symm ne1)
  have E_l := E_l.wr Wr5
  refine own_istore W5 34 #[.val (.ref a1), .val (.ref a2), .val (.int (0 : Int32)), .val (.int (3 : Int32)), .val (.int (3 : Int32)), .val (.int (0 : Int32))] d33_32 rfl rfl ?_
  refine own_iload W5 36 d33_34 rfl rfl ?_
  refine own_iload W5 38 d33_36 rfl rfl ?_
  refine own_icmpN W5 41 d33_38 ((tlt ((by decide) : (0 : Int32) < (3 : Int32))).2.1) rfl ?_
  refine own_aloadN W5 42 d33_41 rfl rfl rfl ?_
  refine own_iload W5 44 d33_42 rfl rfl ?_
  refine own_aconst_null W5 45 d33_44 rfl ?_
  refine own_aastore0 W5 0 46 d33_45 V_a2 (Or.inl (List.mem_of_getElem? (i := 1) rfl)) rfl (by decide) rfl ?_
  intro T6 h6 W6 Wr6 V_a2
  have X_a1 := X_a1.wr Wr6
  have Fe_a1 := Fe_a1.other Wr6 (Or.inl ne1)
  have Fs_a1 := Fs_a1.other Wr6 (Or.inl ne1)
  have Fm_a1 := Fm_a1.other Wr6 (Or.inl ne1)
  have E_l := E_l.wr Wr6
  show own_Go p e below C T6 (mkF m 46 #[.val (.ref a1), .val (.ref a2), .val (.int (0 : Int32)), .val (.int (3 : Int32)), .val (.int (3 : Int32)), .val (.int (0 : Int32))] [])
  refine own_iinc W6 (1 : Int32) 49 #[.val (.ref a1), .val (.ref a2), .val (.int (0 : Int32)), .val (.int (3 : Int32)), .val (.int (3 : Int32)), .val (.int (1 : Int32))] d33_46 rfl rfl rfl rfl ?_
  refine own_goto W6 34 d33_49 (by decide) (by decide) ?_
  refine own_iload W6 36 d33_34 rfl rfl ?_
  refine own_iload W6 38 d33_36 rfl rfl ?_
  refine own_icmpN W6 41 d33_38 ((tlt ((by decide) : (1 : Int32) < (3 : Int32))).2.1) rfl ?_
  refine own_aloadN W6 42 d33_41 rfl rfl rfl ?_
  refine own_iload W6 44 d33_42 rfl rfl ?_
  refine own_aconst_null W6 45 d33_44 rfl ?_
  refine own_aastore0 W6 1 46 d33_45 V_a2 (Or.inl (List.mem_of_getElem? (i := 1) rfl)) rfl (by decide) rfl ?_
  intro T7 h7 W7 Wr7 V_a2
  have X_a1 := X_a1.wr Wr7
  have Fe_a1 := Fe_a1.other Wr7 (Or.inl ne1)
  have Fs_a1 := Fs_a1.other Wr7 (Or.inl ne1)
  have Fm_a1 := Fm_a1.other Wr7 (Or.inl ne1)
  have E_l := E_l.wr Wr7
  show own_Go p e below C T7 (mkF m 46 #[.val (.ref a1), .val (.ref a2), .val (.int (0 : Int32)), .val (.int (3 : Int32)), .val (.int (3 : Int32)), .val (.int (1 : Int32))] [])
  refine own_iinc W7 (2 : Int32) 49 #[.val (.ref a1), .val (.ref a2), .val (.int (0 : Int32)), .val (.int (3 : Int32)), .val (.int (3 : Int32)), .val (.int (2 : Int32))] d33_46 rfl rfl rfl rfl ?_
  refine own_goto W7 34 d33_49 (by decide) (by decide) ?_
  refine own_iload W7 36 d33_34 rfl rfl ?_
  refine own_iload W7 38 d33_36 rfl rfl ?_
  refine own_icmpN W7 41 d33_38 ((tlt ((by decide) : (2 : Int32) < (3 : Int32))).2.1) rfl ?_
  refine own_aloadN W7 42 d33_41 rfl rfl rfl ?_
  refine own_iload W7 44 d33_42 rfl rfl ?_
  refine own_aconst_null W7 45 d33_44 rfl ?_
  refine own_aastore0 W7 2 46 d33_45 V_a2 (Or.inl (List.mem_of_getElem? (i := 1) rfl)) rfl (by decide) rfl ?_
  intro T8 h8 W8 Wr8 V_a2
  have X_a1 := X_a1.wr Wr8
  have Fe_a1 := Fe_a1.other Wr8 (Or.inl ne1)
  have Fs_a1 := Fs_a1.other Wr8 (Or.inl ne1)
  have Fm_a1 := Fm_a1.other Wr8 (Or.inl ne1)
  have E_l := E_l.wr Wr8
  show own_Go p e below C T8 (mkF m 46 #[.val (.ref a1), .val (.ref a2), .val (.int (0 : Int32)), .val (.int (3 : Int32)), .val (.int (3 : Int32)), .val (.int (2 : Int32))] [])
  refine own_iinc W8 (3 : Int32) 49 #[.val (.ref a1), .val (.ref a2), .val (.int (0 : Int32)), .val (.int (3 : Int32)), .val (.int (3 : Int32)), .val (.int (3 : Int32))] d33_46 rfl rfl rfl rfl ?_
  refine own_goto W8 34 d33_49 (by decide) (by decide) ?_
  refine own_iload W8 36 d33_34 rfl rfl ?_
  refine own_iload W8 38 d33_36 rfl rfl ?_
  refine own_icmpY W8 52 d33_38 ((flt ((by decide) : ¬ ((3 : Int32) < (3 : Int32)))).2.1) (by decide) (by decide) ?_
  refine own_retV (Q := fun v h => v = none ∧ (own_fe Z h a1 (.ref a2) ∧ own_fs Z h a1 (.int (0 : Int32)) ∧ own_fm Z h a1 (.int mc) ∧ ∃ vf', own_R Z h a2 "java/lang/Object" 10 vf' ∧ own_Rf vf' ∧ own_El Z h vf' 0 0)) W8 hC (by decide) (by decide) d33_52 ?_
  exact ⟨rfl, ⟨Fe_a1, Fs_a1, Fm_a1, _, V_a2, (own_Rf.upd (own_Rf.upd (own_Rf.upd (hrf.ite 3 0 0) 0 rfl) 1 rfl) 2 rfl), fun j _ hj => by
    obtain ⟨b, e1, e2, e3⟩ := E_l (3 + j) (by omega) (by omega)
    refine ⟨b, ?_, e2, e3⟩
    simp only [own_upd]
    rw [if_neg (by omega), if_neg (by omega), if_neg (by omega), if_pos (by omega), Nat.sub_zero]
    exact e1⟩⟩
theorem ef_m32_33 (m : MethodId) (x0 : Addr) (x1 : Int32) (x2 : Int32) : entryFrame m #[(.ref x0), (.int x1), (.int x2)] 3 = mkF m 0 #[.val (.ref x0), .val (.int x1), .val (.int x2)] [] := by first | (simp [entryFrame, mkF, argsToLocals, Value.category]; done) | rfl
set_option maxRecDepth 65536 in
set_option maxHeartbeats 40000000 in
theorem own_m32_33 (l : Launch) (Z : State) (a0 : Array Value) (hw : ∀ d ∈ tables_1, d.before a0 Z = true) (wo : List Jvm.Cond) (h0 : Heap) (a1 : Addr) (ed : Addr) (mc : Int32) (vf : Nat → Value) (X_a1 : own_xl Z h0 a1) (Fe_a1 : own_fe Z h0 a1 (.ref ed)) (Fs_a1 : own_fs Z h0 a1 (.int (3 : Int32))) (Fm_a1 : own_fm Z h0 a1 (.int mc)) (V_ed : own_R Z h0 ed "java/lang/Object" 10 vf) (E_l : own_El Z h0 vf 3 3) (hrf : own_Rf vf) (ne1 : a1 ≠ ed) :
    own_M l Z wo (⟨"java/util/ArrayList", "removeRange", "(II)V"⟩ : MethodName) jdk_38_method_43_code 3 none ({ frames := 2, cells := 0, slots := 0, locals := 35 } : Room) [a1, ed] #[(.ref a1), (.int (0 : Int32)), (.int (3 : Int32))] h0 (fun v h => v = none ∧ (own_fe Z h a1 (.ref ed) ∧ own_fs Z h a1 (.int (0 : Int32)) ∧ own_fm Z h a1 (.int (mc + (1 : Int32))) ∧ (∃ vf', own_R Z h ed "java/lang/Object" 10 vf' ∧ own_Rf vf' ∧ own_El Z h vf' 0 0))) := by
  refine own_body (plainFor_of_name pn_32) (fun m => ef_m32_33 m a1 (0 : Int32) (3 : Int32)) ?_
  intro p e s m below meth c C hC T0 W0
  refine own_iloadN W0 1 d32_0 rfl rfl ?_
  refine own_iloadN W0 2 d32_1 rfl rfl ?_
  refine own_icmpY W0 18 d32_2 ((flt ((by decide) : ¬ ((3 : Int32) < (0 : Int32)))).2.2.2) (by decide) (by decide) ?_
  refine own_aloadN W0 19 d32_18 rfl rfl rfl ?_
  refine own_dup W0 20 d32_19 rfl rfl ?_
  refine own_getfieldV W0 23 d32_20 (wd33 hw) (wd34 hw) Fm_a1 rfl ?_
  intro T1 W1
  refine own_iconst W1 (1 : Int32) 24 d32_23 rfl rfl ?_
  refine own_iadd W1 25 d32_24 rfl ?_
  refine own_putfieldV W1 (.int (mc + (1 : Int32))) 28 d32_25 (wd33 hw) (wd34 hw) Fm_a1 X_a1 (Or.inl (wd23 hw)) (wd2 hw) (Or.inl (List.mem_of_getElem? (i := 0) rfl)) (ty := .int) (by decide) rfl rfl rfl ?_
  intro T2 h2 W2 Wr2 Fm_a1
  have X_a1 := X_a1.wr Wr2
  have Fe_a1 := Fe_a1.other Wr2 (Or.inr (slot_ne (Or.inl (wd26 hw)) (Or.inl (wd23 hw)) (by decide) (t := (.array (.object "java/lang/Object"))) (t' := .int) (by decide) (by decide)))
  have Fs_a1 := Fs_a1.other Wr2 (Or.inr (slot_ne (Or.inl (wd36 hw)) (Or.inl (wd23 hw)) (by decide) (t := .int) (t' := .int) (by decide) (by decide)))
  have V_ed := V_ed.other Wr2 (Ne.symm ne1)
  have E_l := E_l.wr Wr2
  refine own_aloadN W2 29 d32_28 rfl rfl rfl ?_
  refine own_aloadN W2 30 d32_29 rfl rfl rfl ?_
  refine own_getfield W2 33 d32_30 (wd25 hw) Fe_a1 rfl ?_
  intro T3 W3
  refine own_iloadN W3 34 d32_33 rfl rfl ?_
  refine own_iloadN W3 35 d32_34 rfl rfl ?_
  refine own_callP W3 (A := [(.ref ed), (.int (0 : Int32)), (.int (3 : Int32))]) (wt := 0) (pc' := 38) (st := []) d32_35 (wd247 hw) (wd248 hw) (wd249 hw) (wd250 hw) rfl (wd3 hw) (wd251 hw) (by decide) X_a1 (own_m33_33 l Z a0 hw [] h2 a1 ed (mc + (1 : Int32)) vf X_a1 Fe_a1 Fs_a1 Fm_a1 V_ed E_l hrf ne1) (allS (Or.inl (List.mem_of_getElem? (i := 0) rfl)) (allS (Or.inl (List.mem_of_getElem? (i := 1) rfl)) all0)) rfl pd_14 rfl (Nat.le_of_eq rfl) (by decide) (by decide) (by decide) (by decide) rfl ?_
  rintro T4 h4 _ W4 K4 P4 ⟨rfl, ⟨Fe_a1, Fs_a1, Fm_a1, QA⟩⟩
  have X_a1 := X_a1.keep K4
  show own_Go p e below C T4 (mkF m 38 #[.val (.ref a1), .val (.int (0 : Int32)), .val (.int (3 : Int32))] [])
  refine own_retV (Q := fun v h => v = none ∧ (own_fe Z h a1 (.ref ed) ∧ own_fs Z h a1 (.int (0 : Int32)) ∧ own_fm Z h a1 (.int (mc + (1 : Int32))) ∧ (∃ vf', own_R Z h ed "java/lang/Object" 10 vf' ∧ own_Rf vf' ∧ own_El Z h vf' 0 0))) W4 hC (by decide) (by decide) d32_38 ?_
  exact ⟨rfl, ⟨Fe_a1, Fs_a1, Fm_a1, QA⟩⟩
theorem ef_m31_33 (m : MethodId) (x0 : Addr) (x1 : Int32) (x2 : Int32) : entryFrame m #[(.ref x0), (.int x1), (.int x2)] 3 = mkF m 0 #[.val (.ref x0), .val (.int x1), .val (.int x2)] [] := by first | (simp [entryFrame, mkF, argsToLocals, Value.category]; done) | rfl
set_option maxRecDepth 65536 in
set_option maxHeartbeats 40000000 in
theorem own_m31_33 (l : Launch) (Z : State) (a0 : Array Value) (hw : ∀ d ∈ tables_1, d.before a0 Z = true) (wo : List Jvm.Cond) (h0 : Heap) (a1 : Addr) (li : Addr) (ed : Addr) (mc : Int32) (vf : Nat → Value) (X_a1 : own_xs Z h0 a1) (Fu_a1 : own_fu Z h0 a1 (.ref li)) (Fq_a1 : own_fq Z h0 a1 .null) (Fo_a1 : own_fo Z h0 a1 (.int (0 : Int32))) (Fs_a1 : own_fz Z h0 a1 (.int (3 : Int32))) (Fm_a1 : own_fm Z h0 a1 (.int mc)) (X_li : own_xl Z h0 li) (Fe_li : own_fe Z h0 li (.ref ed)) (Fs_li : own_fs Z h0 li (.int (3 : Int32))) (Fm_li : own_fm Z h0 li (.int mc)) (V_ed : own_R Z h0 ed "java/lang/Object" 10 vf) (E_l : own_El Z h0 vf 3 3) (hrf : own_Rf vf) (ne_a1_li : a1 ≠ li) (ne_a1_ed : a1 ≠ ed) (ne_li_ed : li ≠ ed) :
    own_M l Z wo (⟨"java/util/ArrayList$SubList", "removeRange", "(II)V"⟩ : MethodName) jdk_130_method_8_code 3 none ({ frames := 3, cells := 0, slots := 0, locals := 49 } : Room) [a1, li, ed] #[(.ref a1), (.int (0 : Int32)), (.int (3 : Int32))] h0 (fun v h => v = none ∧ (own_fe Z h li (.ref ed) ∧ own_fs Z h li (.int (0 : Int32)) ∧ own_fm Z h li (.int (mc + (1 : Int32))) ∧ (∃ vf', own_R Z h ed "java/lang/Object" 10 vf' ∧ own_Rf vf' ∧ own_El Z h vf' 0 0))) := by
  refine own_body (plainFor_of_name pn_31) (fun m => ef_m31_33 m a1 (0 : Int32) (3 : Int32)) ?_
  intro p e s m below meth c C hC T0 W0
  refine own_aloadN W0 1 d31_0 rfl rfl rfl ?_
  refine own_callP W0 (A := []) (wt := 0) (pc' := 4) (st := []) d31_1 (wd231 hw) (wd232 hw) (wd233 hw) (wd234 hw) rfl (wd196 hw) (wd235 hw) (by decide) X_a1 (own_m30 l Z a0 hw [] h0 a1 li (3 : Int32) mc X_a1 Fu_a1 Fq_a1 Fo_a1 Fs_a1 Fm_a1 Fm_li) all0 rfl pd_0 rfl (Nat.le_of_eq rfl) (by decide) (by decide) (by decide) (by decide) rfl ?_
  rintro T1 h1 _ W1 K1 P1 ⟨rfl, -⟩
  rw [P1 rfl rfl] at W1
  show own_Go p e below C T1 (mkF m 4 #[.val (.ref a1), .val (.int (0 : Int32)), .val (.int (3 : Int32))] [])
  refine own_aloadN W1 5 d31_4 rfl rfl rfl ?_
  refine own_getfield W1 8 d31_5 (wd205 hw) Fu_a1 rfl ?_
  intro T2 W2
  refine own_aloadN W2 9 d31_8 rfl rfl rfl ?_
  refine own_getfield W2 12 d31_9 (wd209 hw) Fo_a1 rfl ?_
  intro T3 W3
  refine own_iloadN W3 13 d31_12 rfl rfl ?_
  refine own_iadd W3 14 d31_13 rfl ?_
  rw [show ((0 : Int32) + (0 : Int32)) = (0 : Int32) from rfl]
  refine own_aloadN W3 15 d31_14 rfl rfl rfl ?_
  refine own_getfield W3 18 d31_15 (wd209 hw) Fo_a1 rfl ?_
  intro T4 W4
  refine own_iloadN W4 19 d31_18 rfl rfl ?_
  refine own_iadd W4 20 d31_19 rfl ?_
  rw [show ((0 : Int32) + (3 : Int32)) = (3 : Int32) from rfl]
  refine own_callV W4 (A := [(.int (0 : Int32)), (.int (3 : Int32))]) (wt := 0) (pc' := 23) (st := []) d31_20 (wd242 hw) (wd243 hw) (own_nf W4 (wd245 hw)) (wd245 hw) (wd244 hw) (wd3 hw) (wd246 hw) (by decide) X_li (own_m32_33 l Z a0 hw [] h0 li ed mc vf X_li Fe_li Fs_li Fm_li V_ed E_l hrf ne_li_ed) (allS (Or.inl (List.mem_of_getElem? (i := 1) rfl)) (allS (Or.inl (List.mem_of_getElem? (i := 2) rfl)) all0)) rfl pd_15 rfl (Nat.le_of_eq rfl) (by decide) (by decide) (by decide) (by decide) rfl ?_
  rintro T5 h5 _ W5 K5 P5 ⟨rfl, ⟨Fe_li, Fs_li, Fm_li, QA⟩⟩
  have X_a1 := X_a1.keep K5
  have Fu_a1 := Fu_a1.keep K5 (ninS ne_a1_li (ninS ne_a1_ed nin0))
  have Fq_a1 := Fq_a1.keep K5 (ninS ne_a1_li (ninS ne_a1_ed nin0))
  have Fo_a1 := Fo_a1.keep K5 (ninS ne_a1_li (ninS ne_a1_ed nin0))
  have Fs_a1 := Fs_a1.keep K5 (ninS ne_a1_li (ninS ne_a1_ed nin0))
  have Fm_a1 := Fm_a1.keep K5 (ninS ne_a1_li (ninS ne_a1_ed nin0))
  have X_li := X_li.keep K5
  show own_Go p e below C T5 (mkF m 23 #[.val (.ref a1), .val (.int (0 : Int32)), .val (.int (3 : Int32))] [])
  obtain ⟨vg, V_ed, hrg, E_l⟩ := QA
  refine own_aloadN W5 24 d31_23 rfl rfl rfl ?_
  refine own_iloadN W5 25 d31_24 rfl rfl ?_
  refine own_iloadN W5 26 d31_25 rfl rfl ?_
  refine own_isub W5 27 d31_26 rfl ?_
  refine own_callP W5 (A := [(.int ((0 : Int32) - (3 : Int32)))]) (wt := 0) (pc' := 30) (st := []) d31_27 (wd256 hw) (wd257 hw) (wd258 hw) (wd259 hw) rfl (wd196 hw) (wd260 hw) (by decide) X_a1 (own_m34 l Z a0 hw [] h5 a1 ((0 : Int32) - (3 : Int32)) li (3 : Int32) (mc + (1 : Int32)) mc X_a1 Fu_a1 Fq_a1 Fo_a1 Fs_a1 Fm_a1 Fm_li ne_a1_li) (allS (Or.inl (List.mem_of_getElem? (i := 0) rfl)) all0) rfl pd_16 rfl (Nat.le_of_eq rfl) (by decide) (by decide) (by decide) (by decide) rfl ?_
  rintro T6 h6 _ W6 K6 P6 ⟨rfl, -⟩
  have X_a1 := X_a1.keep K6
  have X_li := X_li.keep K6
  have Fe_li := Fe_li.keep K6 (ninS (Ne.symm ne_a1_li) nin0)
  have Fs_li := Fs_li.keep K6 (ninS (Ne.symm ne_a1_li) nin0)
  have Fm_li := Fm_li.keep K6 (ninS (Ne.symm ne_a1_li) nin0)
  have V_ed := V_ed.keep K6 (ninS (Ne.symm ne_a1_ed) nin0)
  have E_l := E_l.keep K6
  show own_Go p e below C T6 (mkF m 30 #[.val (.ref a1), .val (.int (0 : Int32)), .val (.int (3 : Int32))] [])
  refine own_retV (Q := fun v h => v = none ∧ (own_fe Z h li (.ref ed) ∧ own_fs Z h li (.int (0 : Int32)) ∧ own_fm Z h li (.int (mc + (1 : Int32))) ∧ (∃ vf', own_R Z h ed "java/lang/Object" 10 vf' ∧ own_Rf vf' ∧ own_El Z h vf' 0 0))) W6 hC (by decide) (by decide) d31_30 ?_
  exact ⟨rfl, ⟨Fe_li, Fs_li, Fm_li, vg, V_ed, hrg, E_l⟩⟩
theorem ef_m28_33 (m : MethodId) (x0 : Addr) : entryFrame m #[(.ref x0)] 1 = mkF m 0 #[.val (.ref x0)] [] := by first | (simp [entryFrame, mkF, argsToLocals, Value.category]; done) | rfl
set_option maxRecDepth 65536 in
set_option maxHeartbeats 40000000 in
theorem own_m28_33 (l : Launch) (Z : State) (a0 : Array Value) (hw : ∀ d ∈ tables_1, d.before a0 Z = true) (wo : List Jvm.Cond) (h0 : Heap) (a1 : Addr) (li : Addr) (ed : Addr) (mc : Int32) (vf : Nat → Value) (X_a1 : own_xs Z h0 a1) (Fu_a1 : own_fu Z h0 a1 (.ref li)) (Fq_a1 : own_fq Z h0 a1 .null) (Fo_a1 : own_fo Z h0 a1 (.int (0 : Int32))) (Fs_a1 : own_fz Z h0 a1 (.int (3 : Int32))) (Fm_a1 : own_fm Z h0 a1 (.int mc)) (X_li : own_xl Z h0 li) (Fe_li : own_fe Z h0 li (.ref ed)) (Fs_li : own_fs Z h0 li (.int (3 : Int32))) (Fm_li : own_fm Z h0 li (.int mc)) (V_ed : own_R Z h0 ed "java/lang/Object" 10 vf) (E_l : own_El Z h0 vf 3 3) (hrf : own_Rf vf) (ne_a1_li : a1 ≠ li) (ne_a1_ed : a1 ≠ ed) (ne_li_ed : li ≠ ed) :
    own_M l Z wo (⟨"java/util/AbstractList", "clear", "()V"⟩ : MethodName) jdk_39_method_9_code 1 none ({ frames := 4, cells := 0, slots := 0, locals := 63 } : Room) [a1, li, ed] #[(.ref a1)] h0 (fun v h => v = none ∧ (own_fe Z h li (.ref ed) ∧ own_fs Z h li (.int (0 : Int32)) ∧ own_fm Z h li (.int (mc + (1 : Int32))) ∧ (∃ vf', own_R Z h ed "java/lang/Object" 10 vf' ∧ own_Rf vf' ∧ own_El Z h vf' 0 0))) := by
  refine own_body (plainFor_of_name pn_28) (fun m => ef_m28_33 m a1) ?_
  intro p e s m below meth c C hC T0 W0
  refine own_aloadN W0 1 d28_0 rfl rfl rfl ?_
  refine own_iconst W0 (0 : Int32) 2 d28_1 rfl rfl ?_
  refine own_aloadN W0 3 d28_2 rfl rfl rfl ?_
  refine own_callU W0 (ow := "java/util/AbstractCollection") (A := []) (wt := 2) (pc' := 6) (st := [(.int (0 : Int32)), (.ref a1)]) d28_3 (wd225 hw) (wd226 hw) (wd227 hw) (wd228 hw) (wd229 hw) (wd196 hw) (wd230 hw) (by decide) X_a1 (own_m29 l Z a0 hw [] h0 a1 li (3 : Int32) mc X_a1 Fu_a1 Fq_a1 Fo_a1 Fs_a1 Fm_a1 Fm_li) all0 rfl pd_17 rfl (Nat.le_of_eq rfl) (by decide) (by decide) (by decide) (by decide) rfl ?_
  rintro T1 h1 _ W1 K1 P1 rfl
  rw [P1 rfl rfl] at W1
  show own_Go p e below C T1 (mkF m 6 #[.val (.ref a1)] [(.int (3 : Int32)), (.int (0 : Int32)), (.ref a1)])
  refine own_callV W1 (A := [(.int (0 : Int32)), (.int (3 : Int32))]) (wt := 0) (pc' := 9) (st := []) d28_6 (wd236 hw) (wd237 hw) (own_nf2 W1 (wd219 hw) rfl) (wd239 hw) (wd240 hw) (wd196 hw) (wd241 hw) (by decide) X_a1 (own_m31_33 l Z a0 hw [] h0 a1 li ed mc vf X_a1 Fu_a1 Fq_a1 Fo_a1 Fs_a1 Fm_a1 X_li Fe_li Fs_li Fm_li V_ed E_l hrf ne_a1_li ne_a1_ed ne_li_ed) (allS (Or.inl (List.mem_of_getElem? (i := 0) rfl)) (allS (Or.inl (List.mem_of_getElem? (i := 1) rfl)) (allS (Or.inl (List.mem_of_getElem? (i := 2) rfl)) all0))) rfl pd_15 rfl (Nat.le_of_eq rfl) (by decide) (by decide) (by decide) (by decide) rfl ?_
  rintro T2 h2 _ W2 K2 P2 ⟨rfl, ⟨Fe_li, Fs_li, Fm_li, QA⟩⟩
  have X_a1 := X_a1.keep K2
  have X_li := X_li.keep K2
  show own_Go p e below C T2 (mkF m 9 #[.val (.ref a1)] [])
  refine own_retV (Q := fun v h => v = none ∧ (own_fe Z h li (.ref ed) ∧ own_fs Z h li (.int (0 : Int32)) ∧ own_fm Z h li (.int (mc + (1 : Int32))) ∧ (∃ vf', own_R Z h ed "java/lang/Object" 10 vf' ∧ own_Rf vf' ∧ own_El Z h vf' 0 0))) W2 hC (by decide) (by decide) d28_9 ?_
  exact ⟨rfl, ⟨Fe_li, Fs_li, Fm_li, QA⟩⟩
theorem own_ltQ {u v : Int64} {i j : Nat} (hu : u.toInt = (i : Int)) (hv : v.toInt = (j : Int)) : u < v ↔ i < j := by
  rw [Int64.lt_iff_toInt_lt]; omega
theorem own_incQ {q : Int64} {k : Nat} (h : q.toInt = (k : Int)) (hk : k < 1000) : (q + (1 : Int64)).toInt = ((k + 1 : Nat) : Int) := by
  have h1 := c_ladd q 1
  have h2 := rng64 (q + 1)
  have h3 : (1 : Int64).toInt = 1 := rfl
  omega
theorem own_slot {q v : Int64} {a b j : Nat} (hq : q.toInt = (a : Int)) (hv : v.toInt = (b : Int)) (h : a = b + j) (hj : j < 1000) (z : Int32) (hz : z.toInt = (j : Int)) : (q - v).toInt32 = z := by
  apply Int32.toInt_inj.mp
  have h1 := c_lsub q v
  have h2 := rng64 (q - v)
  have h5 := rng64 q
  have h3 := c_l2i (q - v)
  have h4 := rng32 (q - v).toInt32
  omega
theorem own_eqQ {u v : Int64} {n : Nat} (hu : u.toInt = (n : Int)) (hv : v.toInt = (n : Int)) : u = v := Int64.toInt_inj.mp (hu.trans hv.symm)
theorem own_A.ba {Z : State} {h : Heap} {b : Addr} {n : Nat} {f : Nat → Value} (F : own_A Z h b .byte n f) : own_Ba Z h b := by
  obtain ⟨cl, A, -⟩ := F
  exact ⟨cl, A⟩
theorem ef_m18_00 (m : MethodId) (x0 : Addr) (x1 : Int64) : entryFrame m #[(.ref x0), (.long x1)] 5 = mkF m 0 #[.val (.ref x0), .val (.long x1), .second, .unset, .unset] [] := by first | (simp [entryFrame, mkF, argsToLocals, Value.category]; done) | rfl
set_option maxRecDepth 65536 in
set_option maxHeartbeats 40000000 in
theorem own_m18_00 (l : Launch) (Z : State) (a0 : Array Value) (hw : ∀ d ∈ tables_1, d.before a0 Z = true) (wo : List Jvm.Cond) (h0 : Heap) (a1 : Addr) (q2 : Int64) (ml : Addr) (ed : Addr) (pl : Int64) (fl : Int64) (mc : Int32) (vf : Nat → Value) (NN : Nat) (f0 : Nat) (X_a1 : own_xm Z h0 a1) (Fg_a1 : own_fg Z h0 a1 (.ref ml)) (Fp_a1 : own_fp Z h0 a1 (.long pl)) (Ff_a1 : own_ff Z h0 a1 (.long fl)) (Fl_a1 : own_fl Z h0 a1 (.long fl)) (X_ml : own_xl Z h0 ml) (Fe_ml : own_fe Z h0 ml (.ref ed)) (Fs_ml : own_fs Z h0 ml (.int (0 : Int32))) (Fm_ml : own_fm Z h0 ml (.int mc)) (V_ed : own_A Z h0 ed (.object "java/lang/Object") NN vf) (ne_a1_ml : a1 ≠ ml) (ne_a1_ed : a1 ≠ ed) (ne_ml_ed : ml ≠ ed) (hfl : fl.toInt = (f0 : Int)) (hq2 : q2.toInt = ((f0 + 0 : Nat) : Int)) (hf0 : f0 < 10) :
    own_M l Z wo (⟨"com/example/redelivery/redelivery/engine/MemoryLog", "dropBefore", "(J)V"⟩ : MethodName) prog_7_method_4_code 5 none ({ frames := 7, cells := 1, slots := 5, locals := 140 } : Room) [a1, ml] #[(.ref a1), (.long q2)] h0 (fun v h => v = none ∧ (∃ pl' mc', own_fg Z h a1 (.ref ml) ∧ own_fp Z h a1 (.long pl') ∧ own_ff Z h a1 (.long q2) ∧ own_fl Z h a1 (.long q2) ∧ own_fe Z h ml (.ref ed) ∧ own_fs Z h ml (.int (0 : Int32)) ∧ own_fm Z h ml (.int mc'))) := by
  refine own_body (plainFor_of_name pn_18) (fun m => ef_m18_00 m a1 q2) ?_
  intro p e s m below meth c C hC T0 W0
  refine own_aloadN W0 1 d18_0 rfl rfl rfl ?_
  refine own_getfield W0 4 d18_1 (wd75 hw) Ff_a1 rfl ?_
  intro T1 W1
  refine own_lstoreN W1 5 #[.val (.ref a1), .val (.long q2), .second, .val (.long fl), .second] d18_4 rfl rfl ?_
  refine own_lloadN W1 6 d18_5 rfl rfl ?_
  refine own_lloadN W1 7 d18_6 rfl rfl ?_
  refine own_lcmp W1 8 d18_7 rfl ?_
  have hc0 := hfl
  refine own_ifY W1 47 d18_8 ((if0 _ _).trans (flt (mt (lw_lt fl q2).mp ((mt (own_ltQ hc0 hq2).mp (by omega)) : ¬ (fl < q2)))).2.1) (by decide) (by decide) ?_
  refine own_aloadN W1 48 d18_47 rfl rfl rfl ?_
  refine own_lloadN W1 49 d18_48 rfl rfl ?_
  refine own_putfield W1 (.long q2) 52 d18_49 (wd75 hw) Ff_a1 X_a1 (Or.inl (wd76 hw)) (wd60 hw) (Or.inl (List.mem_of_getElem? (i := 0) rfl)) (ty := .long) (by decide) rfl rfl rfl ?_
  intro T2 h2 W2 Wr2 Ff_a1
  have X_a1 := X_a1.wr Wr2
  have Fg_a1 := Fg_a1.other Wr2 (Or.inr (slot_ne (Or.inr (wd69 hw)) (Or.inl (wd76 hw)) (by decide) (t := (.object "java/util/List")) (t' := .long) (by decide) (by decide)))
  have Fp_a1 := Fp_a1.other Wr2 (Or.inr (slot_ne (Or.inl (wd141 hw)) (Or.inl (wd76 hw)) (by decide) (t := .long) (t' := .long) (by decide) (by decide)))
  have Fl_a1 := Fl_a1.other Wr2 (Or.inr (slot_ne (Or.inl (wd152 hw)) (Or.inl (wd76 hw)) (by decide) (t := .long) (t' := .long) (by decide) (by decide)))
  have X_ml := X_ml.wr Wr2
  have Fe_ml := Fe_ml.other Wr2 (Or.inl (Ne.symm ne_a1_ml))
  have Fs_ml := Fs_ml.other Wr2 (Or.inl (Ne.symm ne_a1_ml))
  have Fm_ml := Fm_ml.other Wr2 (Or.inl (Ne.symm ne_a1_ml))
  have V_ed := V_ed.other Wr2 (Ne.symm ne_a1_ed)
  refine own_aloadN W2 53 d18_52 rfl rfl rfl ?_
  refine own_aloadN W2 54 d18_53 rfl rfl rfl ?_
  refine own_getfield W2 57 d18_54 (wd75 hw) Ff_a1 rfl ?_
  intro T3 W3
  refine own_callP W3 (A := [(.long q2)]) (wt := 0) (pc' := 60) (st := []) d18_57 (wd147 hw) (wd148 hw) (wd149 hw) (wd73 hw) rfl (wd61 hw) (wd150 hw) (by decide) X_a1 (own_m19 l Z a0 hw [] h2 a1 q2 fl Fl_a1) all0 rfl pd_18 rfl (Nat.le_of_eq rfl) (by decide) (by decide) (by decide) (by decide) rfl ?_
  rintro T4 h4 _ W4 K4 P4 rfl
  rw [P4 rfl rfl] at W4
  show own_Go p e below C T4 (mkF m 60 #[.val (.ref a1), .val (.long q2), .second, .val (.long fl), .second] [(.int (q2 - fl).toInt32)])
  rw [show (q2 - fl).toInt32 = (0 : Int32) from own_slot (j := 0) hq2 hfl (by omega) (by decide) _ rfl]
  refine own_istoreN W4 61 #[.val (.ref a1), .val (.long q2), .second, .val (.int (0 : Int32)), .unset] d18_60 rfl rfl ?_
  refine own_iloadN W4 62 d18_61 rfl rfl ?_
  refine own_aloadN W4 63 d18_62 rfl rfl rfl ?_
  refine own_getfield W4 66 d18_63 (wd68 hw) Fg_a1 rfl ?_
  intro T5 W5
  refine own_callI W5 (A := []) (wt := 1) (pc' := 71) (st := [(.int (0 : Int32))]) d18_66 (wd174 hw) (wd175 hw) (wd176 hw) (by first | rfl | decide +kernel) (wd177 hw) (wd178 hw) (wd179 hw) (wd180 hw) (wd89 hw) (wd3 hw) (wd181 hw) (by decide) X_ml (own_m24 l Z a0 hw [] h2 ml (0 : Int32) Fs_ml) all0 rfl pd_17 rfl (Nat.le_of_eq rfl) (by decide) (by decide) (by decide) (by decide) rfl ?_
  rintro T6 h6 _ W6 K6 P6 rfl
  rw [P6 rfl rfl] at W6
  show own_Go p e below C T6 (mkF m 71 #[.val (.ref a1), .val (.long q2), .second, .val (.int (0 : Int32)), .unset] [(.int (0 : Int32)), (.int (0 : Int32))])
  refine own_iconst W6 (2 : Int32) 72 d18_71 rfl rfl ?_
  refine own_idiv W6 73 d18_72 (by decide) rfl ?_
  refine own_icmpN W6 76 d18_73 ((flt ((by decide) : ¬ ((0 : Int32) < ((0 : Int32) / (2 : Int32))))).1) rfl ?_
  refine own_aloadN W6 77 d18_76 rfl rfl rfl ?_
  refine own_getfield W6 80 d18_77 (wd68 hw) Fg_a1 rfl ?_
  intro T7 W7
  refine own_iconst W7 (0 : Int32) 81 d18_80 rfl rfl ?_
  refine own_iloadN W7 82 d18_81 rfl rfl ?_
  have hsH := own_le W7
  have q_a1 := X_a1.lt
  have q_ml := X_ml.lt
  have q_ed := V_ed.lt
  refine own_callI W7 (A := [(.int (0 : Int32)), (.int (0 : Int32))]) (wt := 0) (pc' := 87) (st := []) d18_82 (wd182 hw) (wd183 hw) (wd184 hw) (by first | rfl | decide +kernel) (wd185 hw) (wd186 hw) (wd187 hw) (wd188 hw) (wd89 hw) (wd3 hw) (wd189 hw) (by decide) X_ml (own_m25 l Z a0 hw [] h2 ml (0 : Int32) ed (0 : Int32) mc X_ml Fe_ml Fs_ml Fm_ml (by decide) (by decide)) all0 rfl pd_19 rfl (Nat.le_of_eq rfl) (by decide) (by decide) (by decide) (by decide) rfl ?_
  rintro T8 h8 _ W8 K8 P8 ⟨sl, rfl, o_sl, X_sl, Fu_sl, Fq_sl, Fo_sl, Fs_sl, Fm_sl⟩
  have X_a1 := X_a1.keep K8
  have Fg_a1 := Fg_a1.keep K8 nin0
  have Fp_a1 := Fp_a1.keep K8 nin0
  have Ff_a1 := Ff_a1.keep K8 nin0
  have Fl_a1 := Fl_a1.keep K8 nin0
  have X_ml := X_ml.keep K8
  have Fe_ml := Fe_ml.keep K8 nin0
  have Fs_ml := Fs_ml.keep K8 nin0
  have Fm_ml := Fm_ml.keep K8 nin0
  have V_ed := V_ed.keep K8 nin0
  show own_Go p e below C T8 (mkF m 87 #[.val (.ref a1), .val (.long q2), .second, .val (.int (0 : Int32)), .unset] [(.ref sl)])
  have ne_a1_sl : a1 ≠ sl := Nat.ne_of_lt (Nat.lt_of_lt_of_le q_a1 o_sl)
  have ne_ml_sl : ml ≠ sl := Nat.ne_of_lt (Nat.lt_of_lt_of_le q_ml o_sl)
  have ne_ed_sl : ed ≠ sl := Nat.ne_of_lt (Nat.lt_of_lt_of_le q_ed o_sl)
  have os_sl : s.heap.size ≤ sl := Nat.le_trans hsH o_sl
  refine own_callI W8 (A := []) (wt := 0) (pc' := 92) (st := []) d18_87 (wd216 hw) (wd217 hw) (wd218 hw) (by first | rfl | decide +kernel) (wd219 hw) (wd220 hw) (wd221 hw) (wd222 hw) (wd223 hw) (wd11 hw) (wd224 hw) (by decide) X_sl (own_m28_00 l Z a0 hw [] h8 sl ml ed mc vf NN X_sl Fu_sl Fq_sl Fo_sl Fs_sl Fm_sl X_ml Fe_ml Fs_ml Fm_ml V_ed (Ne.symm ne_ml_sl) (Ne.symm ne_ed_sl) ne_ml_ed) (allS (Or.inr os_sl) (allS (Or.inl (List.mem_of_getElem? (i := 1) rfl)) all0)) rfl pd_0 rfl (Nat.le_of_eq rfl) (by decide) (by decide) (by decide) (by decide) rfl ?_
  rintro T9 h9 _ W9 K9 P9 ⟨rfl, ⟨Fe_ml, Fs_ml, Fm_ml, QA⟩⟩
  have X_a1 := X_a1.keep K9
  have Fg_a1 := Fg_a1.keep K9 (ninS ne_a1_sl (ninS ne_a1_ml nin0))
  have Fp_a1 := Fp_a1.keep K9 (ninS ne_a1_sl (ninS ne_a1_ml nin0))
  have Ff_a1 := Ff_a1.keep K9 (ninS ne_a1_sl (ninS ne_a1_ml nin0))
  have Fl_a1 := Fl_a1.keep K9 (ninS ne_a1_sl (ninS ne_a1_ml nin0))
  have X_ml := X_ml.keep K9
  have X_sl := X_sl.keep K9
  show own_Go p e below C T9 (mkF m 92 #[.val (.ref a1), .val (.long q2), .second, .val (.int (0 : Int32)), .unset] [])
  refine own_aloadN W9 93 d18_92 rfl rfl rfl ?_
  refine own_aloadN W9 94 d18_93 rfl rfl rfl ?_
  refine own_getfield W9 97 d18_94 (wd75 hw) Ff_a1 rfl ?_
  intro T10 W10
  refine own_putfield W10 (.long q2) 100 d18_97 (wd151 hw) Fl_a1 X_a1 (Or.inl (wd152 hw)) (wd60 hw) (Or.inl (List.mem_of_getElem? (i := 0) rfl)) (ty := .long) (by decide) rfl rfl rfl ?_
  intro T11 h11 W11 Wr11 Fl_a1
  have X_a1 := X_a1.wr Wr11
  have Fg_a1 := Fg_a1.other Wr11 (Or.inr (slot_ne (Or.inr (wd69 hw)) (Or.inl (wd152 hw)) (by decide) (t := (.object "java/util/List")) (t' := .long) (by decide) (by decide)))
  have Fp_a1 := Fp_a1.other Wr11 (Or.inr (slot_ne (Or.inl (wd141 hw)) (Or.inl (wd152 hw)) (by decide) (t := .long) (t' := .long) (by decide) (by decide)))
  have Ff_a1 := Ff_a1.other Wr11 (Or.inr (slot_ne (Or.inl (wd76 hw)) (Or.inl (wd152 hw)) (by decide) (t := .long) (t' := .long) (by decide) (by decide)))
  have X_ml := X_ml.wr Wr11
  have X_sl := X_sl.wr Wr11
  have Fe_ml := Fe_ml.other Wr11 (Or.inl (Ne.symm ne_a1_ml))
  have Fs_ml := Fs_ml.other Wr11 (Or.inl (Ne.symm ne_a1_ml))
  have Fm_ml := Fm_ml.other Wr11 (Or.inl (Ne.symm ne_a1_ml))
  refine own_retV (Q := fun v h => v = none ∧ (∃ pl' mc', own_fg Z h a1 (.ref ml) ∧ own_fp Z h a1 (.long pl') ∧ own_ff Z h a1 (.long q2) ∧ own_fl Z h a1 (.long q2) ∧ own_fe Z h ml (.ref ed) ∧ own_fs Z h ml (.int (0 : Int32)) ∧ own_fm Z h ml (.int mc'))) W11 hC (by decide) (by decide) d18_100 ?_
  exact ⟨rfl, ⟨_, _, Fg_a1, Fp_a1, Ff_a1, Fl_a1, Fe_ml, Fs_ml, Fm_ml⟩⟩
theorem ef_m18_10 (m : MethodId) (x0 : Addr) (x1 : Int64) : entryFrame m #[(.ref x0), (.long x1)] 5 = mkF m 0 #[.val (.ref x0), .val (.long x1), .second, .unset, .unset] [] := by first | (simp [entryFrame, mkF, argsToLocals, Value.category]; done) | rfl
set_option maxRecDepth 65536 in
set_option maxHeartbeats 40000000 in
theorem own_m18_10 (l : Launch) (Z : State) (a0 : Array Value) (hw : ∀ d ∈ tables_1, d.before a0 Z = true) (wo : List Jvm.Cond) (h0 : Heap) (a1 : Addr) (q2 : Int64) (ml : Addr) (ed : Addr) (pl : Int64) (fl : Int64) (mc : Int32) (vf : Nat → Value) (f0 : Nat) (X_a1 : own_xm Z h0 a1) (Fg_a1 : own_fg Z h0 a1 (.ref ml)) (Fp_a1 : own_fp Z h0 a1 (.long pl)) (Ff_a1 : own_ff Z h0 a1 (.long fl)) (Fl_a1 : own_fl Z h0 a1 (.long fl)) (X_ml : own_xl Z h0 ml) (Fe_ml : own_fe Z h0 ml (.ref ed)) (Fs_ml : own_fs Z h0 ml (.int (1 : Int32))) (Fm_ml : own_fm Z h0 ml (.int mc)) (V_ed : own_R Z h0 ed "java/lang/Object" 10 vf) (E_l : own_El Z h0 vf 0 1) (hrf : own_Rf vf) (ne_a1_ml : a1 ≠ ml) (ne_a1_ed : a1 ≠ ed) (ne_ml_ed : ml ≠ ed) (hfl : fl.toInt = (f0 : Int)) (hq2 : q2.toInt = ((f0 + 0 : Nat) : Int)) (hf0 : f0 < 10) :
    own_M l Z wo (⟨"com/example/redelivery/redelivery/engine/MemoryLog", "dropBefore", "(J)V"⟩ : MethodName) prog_7_method_4_code 5 none ({ frames := 7, cells := 1, slots := 5, locals := 140 } : Room) [a1, ml, ed] #[(.ref a1), (.long q2)] h0 (fun v h => v = none ∧ (∃ pl' mc' vf', own_fg Z h a1 (.ref ml) ∧ own_fp Z h a1 (.long pl') ∧ own_ff Z h a1 (.long q2) ∧ own_fl Z h a1 (.long q2) ∧ own_fe Z h ml (.ref ed) ∧ own_fs Z h ml (.int (1 : Int32)) ∧ own_fm Z h ml (.int mc') ∧ own_R Z h ed "java/lang/Object" 10 vf' ∧ own_Rf vf' ∧ own_El Z h vf' 0 1)) := by
  refine own_body (plainFor_of_name pn_18) (fun m => ef_m18_10 m a1 q2) ?_
  intro p e s m below meth c C hC T0 W0
  refine own_aloadN W0 1 d18_0 rfl rfl rfl ?_
  refine own_getfield W0 4 d18_1 (wd75 hw) Ff_a1 rfl ?_
  intro T1 W1
  refine own_lstoreN W1 5 #[.val (.ref a1), .val (.long q2), .second, .val (.long fl), .second] d18_4 rfl rfl ?_
  refine own_lloadN W1 6 d18_5 rfl rfl ?_
  refine own_lloadN W1 7 d18_6 rfl rfl ?_
  refine own_lcmp W1 8 d18_7 rfl ?_
  have hc0 := hfl
  refine own_ifY W1 47 d18_8 ((if0 _ _).trans (flt (mt (lw_lt fl q2).mp ((mt (own_ltQ hc0 hq2).mp (by omega)) : ¬ (fl < q2)))).2.1) (by decide) (by decide) ?_
  refine own_aloadN W1 48 d18_47 rfl rfl rfl ?_
  refine own_lloadN W1 49 d18_48 rfl rfl ?_
  refine own_putfield W1 (.long q2) 52 d18_49 (wd75 hw) Ff_a1 X_a1 (Or.inl (wd76 hw)) (wd60 hw) (Or.inl (List.mem_of_getElem? (i := 0) rfl)) (ty := .long) (by decide) rfl rfl rfl ?_
  intro T2 h2 W2 Wr2 Ff_a1
  have X_a1 := X_a1.wr Wr2
  have Fg_a1 := Fg_a1.other Wr2 (Or.inr (slot_ne (Or.inr (wd69 hw)) (Or.inl (wd76 hw)) (by decide) (t := (.object "java/util/List")) (t' := .long) (by decide) (by decide)))
  have Fp_a1 := Fp_a1.other Wr2 (Or.inr (slot_ne (Or.inl (wd141 hw)) (Or.inl (wd76 hw)) (by decide) (t := .long) (t' := .long) (by decide) (by decide)))
  have Fl_a1 := Fl_a1.other Wr2 (Or.inr (slot_ne (Or.inl (wd152 hw)) (Or.inl (wd76 hw)) (by decide) (t := .long) (t' := .long) (by decide) (by decide)))
  have X_ml := X_ml.wr Wr2
  have Fe_ml := Fe_ml.other Wr2 (Or.inl (Ne.symm ne_a1_ml))
  have Fs_ml := Fs_ml.other Wr2 (Or.inl (Ne.symm ne_a1_ml))
  have Fm_ml := Fm_ml.other Wr2 (Or.inl (Ne.symm ne_a1_ml))
  have V_ed := V_ed.other Wr2 (Ne.symm ne_a1_ed)
  have E_l := E_l.wr Wr2
  refine own_aloadN W2 53 d18_52 rfl rfl rfl ?_
  refine own_aloadN W2 54 d18_53 rfl rfl rfl ?_
  refine own_getfield W2 57 d18_54 (wd75 hw) Ff_a1 rfl ?_
  intro T3 W3
  refine own_callP W3 (A := [(.long q2)]) (wt := 0) (pc' := 60) (st := []) d18_57 (wd147 hw) (wd148 hw) (wd149 hw) (wd73 hw) rfl (wd61 hw) (wd150 hw) (by decide) X_a1 (own_m19 l Z a0 hw [] h2 a1 q2 fl Fl_a1) all0 rfl pd_18 rfl (Nat.le_of_eq rfl) (by decide) (by decide) (by decide) (by decide) rfl ?_
  rintro T4 h4 _ W4 K4 P4 rfl
  rw [P4 rfl rfl] at W4
  show own_Go p e below C T4 (mkF m 60 #[.val (.ref a1), .val (.long q2), .second, .val (.long fl), .second] [(.int (q2 - fl).toInt32)])
  rw [show (q2 - fl).toInt32 = (0 : Int32) from own_slot (j := 0) hq2 hfl (by omega) (by decide) _ rfl]
  refine own_istoreN W4 61 #[.val (.ref a1), .val (.long q2), .second, .val (.int (0 : Int32)), .unset] d18_60 rfl rfl ?_
  refine own_iloadN W4 62 d18_61 rfl rfl ?_
  refine own_aloadN W4 63 d18_62 rfl rfl rfl ?_
  refine own_getfield W4 66 d18_63 (wd68 hw) Fg_a1 rfl ?_
  intro T5 W5
  refine own_callI W5 (A := []) (wt := 1) (pc' := 71) (st := [(.int (0 : Int32))]) d18_66 (wd174 hw) (wd175 hw) (wd176 hw) (by first | rfl | decide +kernel) (wd177 hw) (wd178 hw) (wd179 hw) (wd180 hw) (wd89 hw) (wd3 hw) (wd181 hw) (by decide) X_ml (own_m24 l Z a0 hw [] h2 ml (1 : Int32) Fs_ml) all0 rfl pd_17 rfl (Nat.le_of_eq rfl) (by decide) (by decide) (by decide) (by decide) rfl ?_
  rintro T6 h6 _ W6 K6 P6 rfl
  rw [P6 rfl rfl] at W6
  show own_Go p e below C T6 (mkF m 71 #[.val (.ref a1), .val (.long q2), .second, .val (.int (0 : Int32)), .unset] [(.int (1 : Int32)), (.int (0 : Int32))])
  refine own_iconst W6 (2 : Int32) 72 d18_71 rfl rfl ?_
  refine own_idiv W6 73 d18_72 (by decide) rfl ?_
  refine own_icmpN W6 76 d18_73 ((flt ((by decide) : ¬ ((0 : Int32) < ((1 : Int32) / (2 : Int32))))).1) rfl ?_
  refine own_aloadN W6 77 d18_76 rfl rfl rfl ?_
  refine own_getfield W6 80 d18_77 (wd68 hw) Fg_a1 rfl ?_
  intro T7 W7
  refine own_iconst W7 (0 : Int32) 81 d18_80 rfl rfl ?_
  refine own_iloadN W7 82 d18_81 rfl rfl ?_
  have hsH := own_le W7
  have q_a1 := X_a1.lt
  have q_ml := X_ml.lt
  have q_ed := V_ed.lt
  refine own_callI W7 (A := [(.int (0 : Int32)), (.int (0 : Int32))]) (wt := 0) (pc' := 87) (st := []) d18_82 (wd182 hw) (wd183 hw) (wd184 hw) (by first | rfl | decide +kernel) (wd185 hw) (wd186 hw) (wd187 hw) (wd188 hw) (wd89 hw) (wd3 hw) (wd189 hw) (by decide) X_ml (own_m25 l Z a0 hw [] h2 ml (0 : Int32) ed (1 : Int32) mc X_ml Fe_ml Fs_ml Fm_ml (by decide) (by decide)) all0 rfl pd_19 rfl (Nat.le_of_eq rfl) (by decide) (by decide) (by decide) (by decide) rfl ?_
  rintro T8 h8 _ W8 K8 P8 ⟨sl, rfl, o_sl, X_sl, Fu_sl, Fq_sl, Fo_sl, Fs_sl, Fm_sl⟩
  have X_a1 := X_a1.keep K8
  have Fg_a1 := Fg_a1.keep K8 nin0
  have Fp_a1 := Fp_a1.keep K8 nin0
  have Ff_a1 := Ff_a1.keep K8 nin0
  have Fl_a1 := Fl_a1.keep K8 nin0
  have X_ml := X_ml.keep K8
  have Fe_ml := Fe_ml.keep K8 nin0
  have Fs_ml := Fs_ml.keep K8 nin0
  have Fm_ml := Fm_ml.keep K8 nin0
  have V_ed := V_ed.keep K8 nin0
  have E_l := E_l.keep K8
  show own_Go p e below C T8 (mkF m 87 #[.val (.ref a1), .val (.long q2), .second, .val (.int (0 : Int32)), .unset] [(.ref sl)])
  have ne_a1_sl : a1 ≠ sl := Nat.ne_of_lt (Nat.lt_of_lt_of_le q_a1 o_sl)
  have ne_ml_sl : ml ≠ sl := Nat.ne_of_lt (Nat.lt_of_lt_of_le q_ml o_sl)
  have ne_ed_sl : ed ≠ sl := Nat.ne_of_lt (Nat.lt_of_lt_of_le q_ed o_sl)
  have os_sl : s.heap.size ≤ sl := Nat.le_trans hsH o_sl
  have E_t := E_l
  refine own_callI W8 (A := []) (wt := 0) (pc' := 92) (st := []) d18_87 (wd216 hw) (wd217 hw) (wd218 hw) (by first | rfl | decide +kernel) (wd219 hw) (wd220 hw) (wd221 hw) (wd222 hw) (wd223 hw) (wd11 hw) (wd224 hw) (by decide) X_sl (own_m28_10 l Z a0 hw [] h8 sl ml ed mc vf X_sl Fu_sl Fq_sl Fo_sl Fs_sl Fm_sl X_ml Fe_ml Fs_ml Fm_ml V_ed E_t hrf (Ne.symm ne_ml_sl) (Ne.symm ne_ed_sl) ne_ml_ed) (allS (Or.inr os_sl) (allS (Or.inl (List.mem_of_getElem? (i := 1) rfl)) (allS (Or.inl (List.mem_of_getElem? (i := 2) rfl)) all0))) rfl pd_0 rfl (Nat.le_of_eq rfl) (by decide) (by decide) (by decide) (by decide) rfl ?_
  rintro T9 h9 _ W9 K9 P9 ⟨rfl, ⟨Fe_ml, Fs_ml, Fm_ml, QA⟩⟩
  have X_a1 := X_a1.keep K9
  have Fg_a1 := Fg_a1.keep K9 (ninS ne_a1_sl (ninS ne_a1_ml (ninS ne_a1_ed nin0)))
  have Fp_a1 := Fp_a1.keep K9 (ninS ne_a1_sl (ninS ne_a1_ml (ninS ne_a1_ed nin0)))
  have Ff_a1 := Ff_a1.keep K9 (ninS ne_a1_sl (ninS ne_a1_ml (ninS ne_a1_ed nin0)))
  have Fl_a1 := Fl_a1.keep K9 (ninS ne_a1_sl (ninS ne_a1_ml (ninS ne_a1_ed nin0)))
  have X_ml := X_ml.keep K9
  have X_sl := X_sl.keep K9
  show own_Go p e below C T9 (mkF m 92 #[.val (.ref a1), .val (.long q2), .second, .val (.int (0 : Int32)), .unset] [])
  obtain ⟨vg, V_ed, hrg, E_g⟩ := QA
  refine own_aloadN W9 93 d18_92 rfl rfl rfl ?_
  refine own_aloadN W9 94 d18_93 rfl rfl rfl ?_
  refine own_getfield W9 97 d18_94 (wd75 hw) Ff_a1 rfl ?_
  intro T10 W10
  refine own_putfield W10 (.long q2) 100 d18_97 (wd151 hw) Fl_a1 X_a1 (Or.inl (wd152 hw)) (wd60 hw) (Or.inl (List.mem_of_getElem? (i := 0) rfl)) (ty := .long) (by decide) rfl rfl rfl ?_
  intro T11 h11 W11 Wr11 Fl_a1
  have X_a1 := X_a1.wr Wr11
  have Fg_a1 := Fg_a1.other Wr11 (Or.inr (slot_ne (Or.inr (wd69 hw)) (Or.inl (wd152 hw)) (by decide) (t := (.object "java/util/List")) (t' := .long) (by decide) (by decide)))
  have Fp_a1 := Fp_a1.other Wr11 (Or.inr (slot_ne (Or.inl (wd141 hw)) (Or.inl (wd152 hw)) (by decide) (t := .long) (t' := .long) (by decide) (by decide)))
  have Ff_a1 := Ff_a1.other Wr11 (Or.inr (slot_ne (Or.inl (wd76 hw)) (Or.inl (wd152 hw)) (by decide) (t := .long) (t' := .long) (by decide) (by decide)))
  have X_ml := X_ml.wr Wr11
  have X_sl := X_sl.wr Wr11
  have Fe_ml := Fe_ml.other Wr11 (Or.inl (Ne.symm ne_a1_ml))
  have Fs_ml := Fs_ml.other Wr11 (Or.inl (Ne.symm ne_a1_ml))
  have Fm_ml := Fm_ml.other Wr11 (Or.inl (Ne.symm ne_a1_ml))
  have V_ed := V_ed.other Wr11 (Ne.symm ne_a1_ed)
  have E_g := E_g.wr Wr11
  refine own_retV (Q := fun v h => v = none ∧ (∃ pl' mc' vf', own_fg Z h a1 (.ref ml) ∧ own_fp Z h a1 (.long pl') ∧ own_ff Z h a1 (.long q2) ∧ own_fl Z h a1 (.long q2) ∧ own_fe Z h ml (.ref ed) ∧ own_fs Z h ml (.int (1 : Int32)) ∧ own_fm Z h ml (.int mc') ∧ own_R Z h ed "java/lang/Object" 10 vf' ∧ own_Rf vf' ∧ own_El Z h vf' 0 1)) W11 hC (by decide) (by decide) d18_100 ?_
  exact ⟨rfl, ⟨_, _, vg, Fg_a1, Fp_a1, Ff_a1, Fl_a1, Fe_ml, Fs_ml, Fm_ml, V_ed, hrg, E_g⟩⟩
theorem ef_m18_11 (m : MethodId) (x0 : Addr) (x1 : Int64) : entryFrame m #[(.ref x0), (.long x1)] 5 = mkF m 0 #[.val (.ref x0), .val (.long x1), .second, .unset, .unset] [] := by first | (simp [entryFrame, mkF, argsToLocals, Value.category]; done) | rfl
set_option maxRecDepth 65536 in
set_option maxHeartbeats 40000000 in
theorem own_m18_11 (l : Launch) (Z : State) (a0 : Array Value) (hw : ∀ d ∈ tables_1, d.before a0 Z = true) (wo : List Jvm.Cond) (h0 : Heap) (a1 : Addr) (q2 : Int64) (ml : Addr) (ed : Addr) (pl : Int64) (fl : Int64) (mc : Int32) (vf : Nat → Value) (f0 : Nat) (X_a1 : own_xm Z h0 a1) (Fg_a1 : own_fg Z h0 a1 (.ref ml)) (Fp_a1 : own_fp Z h0 a1 (.long pl)) (Ff_a1 : own_ff Z h0 a1 (.long fl)) (Fl_a1 : own_fl Z h0 a1 (.long fl)) (X_ml : own_xl Z h0 ml) (Fe_ml : own_fe Z h0 ml (.ref ed)) (Fs_ml : own_fs Z h0 ml (.int (1 : Int32))) (Fm_ml : own_fm Z h0 ml (.int mc)) (V_ed : own_R Z h0 ed "java/lang/Object" 10 vf) (E_l : own_El Z h0 vf 0 1) (hrf : own_Rf vf) (ne_a1_ml : a1 ≠ ml) (ne_a1_ed : a1 ≠ ed) (ne_ml_ed : ml ≠ ed) (hfl : fl.toInt = (f0 : Int)) (hq2 : q2.toInt = ((f0 + 1 : Nat) : Int)) (hf0 : f0 < 10) :
    own_M l Z wo (⟨"com/example/redelivery/redelivery/engine/MemoryLog", "dropBefore", "(J)V"⟩ : MethodName) prog_7_method_4_code 5 none ({ frames := 7, cells := 1, slots := 5, locals := 140 } : Room) [a1, ml, ed] #[(.ref a1), (.long q2)] h0 (fun v h => v = none ∧ (∃ pl' mc' vf', own_fg Z h a1 (.ref ml) ∧ own_fp Z h a1 (.long pl') ∧ own_ff Z h a1 (.long q2) ∧ own_fl Z h a1 (.long q2) ∧ own_fe Z h ml (.ref ed) ∧ own_fs Z h ml (.int (0 : Int32)) ∧ own_fm Z h ml (.int mc') ∧ own_R Z h ed "java/lang/Object" 10 vf' ∧ own_Rf vf' ∧ own_El Z h vf' 0 0)) := by
  refine own_body (plainFor_of_name pn_18) (fun m => ef_m18_11 m a1 q2) ?_
  intro p e s m below meth c C hC T0 W0
  refine own_aloadN W0 1 d18_0 rfl rfl rfl ?_
  refine own_getfield W0 4 d18_1 (wd75 hw) Ff_a1 rfl ?_
  intro T1 W1
  refine own_lstoreN W1 5 #[.val (.ref a1), .val (.long q2), .second, .val (.long fl), .second] d18_4 rfl rfl ?_
  refine own_lloadN W1 6 d18_5 rfl rfl ?_
  refine own_lloadN W1 7 d18_6 rfl rfl ?_
  refine own_lcmp W1 8 d18_7 rfl ?_
  have hc0 := hfl
  refine own_ifN W1 11 d18_8 ((if0 _ _).trans (tlt ((lw_lt fl q2).mpr (((own_ltQ hc0 hq2).mpr (by omega)) : fl < q2))).2.1) rfl ?_
  refine own_aloadN W1 12 d18_11 rfl rfl rfl ?_
  refine own_dup W1 13 d18_12 rfl rfl ?_
  refine own_getfield W1 16 d18_13 (wd140 hw) Fp_a1 rfl ?_
  intro T2 W2
  refine own_aloadN W2 17 d18_16 rfl rfl rfl ?_
  refine own_getfield W2 20 d18_17 (wd68 hw) Fg_a1 rfl ?_
  intro T3 W3
  refine own_aloadN W3 21 d18_20 rfl rfl rfl ?_
  refine own_lloadN W3 22 d18_21 rfl rfl ?_
  refine own_callP W3 (A := [(.long fl)]) (wt := 4) (pc' := 25) (st := [(.ref ml), (.long pl), (.ref a1)]) d18_22 (wd147 hw) (wd148 hw) (wd149 hw) (wd73 hw) rfl (wd61 hw) (wd150 hw) (by decide) X_a1 (own_m19 l Z a0 hw [] h0 a1 fl fl Fl_a1) all0 rfl pd_18 rfl (Nat.le_of_eq rfl) (by decide) (by decide) (by decide) (by decide) rfl ?_
  rintro T4 h4 _ W4 K4 P4 rfl
  rw [P4 rfl rfl] at W4
  show own_Go p e below C T4 (mkF m 25 #[.val (.ref a1), .val (.long q2), .second, .val (.long fl), .second] [(.int (fl - fl).toInt32), (.ref ml), (.long pl), (.ref a1)])
  rw [show (fl - fl).toInt32 = (0 : Int32) from own_slot (j := 0) hc0 hfl (by omega) (by decide) _ rfl]
  refine own_aconst_null W4 26 d18_25 rfl ?_
  obtain ⟨b0, eb0, X_b0, B_b0⟩ := E_l 0 (by omega) (by omega)
  refine own_callI W4 (A := [(.int (0 : Int32)), .null]) (wt := 3) (pc' := 31) (st := [(.long pl), (.ref a1)]) d18_26 (wd153 hw) (wd154 hw) (wd155 hw) (by first | rfl | decide +kernel) (wd156 hw) (wd157 hw) (wd158 hw) (wd159 hw) (wd89 hw) (wd3 hw) (wd160 hw) (by decide) X_ml (own_m20 l Z a0 hw [] h0 ml (0 : Int32) ed (1 : Int32) mc vf b0 0 1 X_ml Fe_ml Fs_ml Fm_ml V_ed ne_ml_ed rfl rfl (by omega) (by omega) eb0) (allS (Or.inl (List.mem_of_getElem? (i := 2) rfl)) all0) rfl pd_20 rfl (Nat.le_of_eq rfl) (by decide) (by decide) (by decide) (by decide) rfl ?_
  rintro T5 h5 _ W5 K5 P5 ⟨rfl, V_ed⟩
  have X_a1 := X_a1.keep K5
  have Fg_a1 := Fg_a1.keep K5 (ninS ne_a1_ed nin0)
  have Fp_a1 := Fp_a1.keep K5 (ninS ne_a1_ed nin0)
  have Ff_a1 := Ff_a1.keep K5 (ninS ne_a1_ed nin0)
  have Fl_a1 := Fl_a1.keep K5 (ninS ne_a1_ed nin0)
  have X_ml := X_ml.keep K5
  have Fe_ml := Fe_ml.keep K5 (ninS ne_ml_ed nin0)
  have Fs_ml := Fs_ml.keep K5 (ninS ne_ml_ed nin0)
  have Fm_ml := Fm_ml.keep K5 (ninS ne_ml_ed nin0)
  have E_l := E_l.keep K5
  have X_b0 := X_b0.keep K5
  have B_b0 := B_b0.keep K5
  show own_Go p e below C T5 (mkF m 31 #[.val (.ref a1), .val (.long q2), .second, .val (.long fl), .second] [(.ref b0), (.long pl), (.ref a1)])
  refine own_checkcast W5 34 d18_31 (wd132 hw) (Ins.of_exa X_b0 (wd133 hw)) rfl ?_
  intro T6 W6
  obtain ⟨ln0, lf0, V_b0⟩ := B_b0.A
  refine own_arraylength W6 ln0.toInt32 35 d18_34 V_b0 rfl rfl ?_
  refine own_i2l W6 36 d18_35 rfl ?_
  refine own_lsub W6 37 d18_36 rfl ?_
  refine own_putfield W6 (.long (pl - ln0.toInt32.toInt64)) 40 d18_37 (wd140 hw) Fp_a1 X_a1 (Or.inl (wd141 hw)) (wd60 hw) (Or.inl (List.mem_of_getElem? (i := 0) rfl)) (ty := .long) (by decide) rfl rfl rfl ?_
  intro T7 h7 W7 Wr7 Fp_a1
  have X_a1 := X_a1.wr Wr7
  have Fg_a1 := Fg_a1.other Wr7 (Or.inr (slot_ne (Or.inr (wd69 hw)) (Or.inl (wd141 hw)) (by decide) (t := (.object "java/util/List")) (t' := .long) (by decide) (by decide)))
  have Ff_a1 := Ff_a1.other Wr7 (Or.inr (slot_ne (Or.inl (wd76 hw)) (Or.inl (wd141 hw)) (by decide) (t := .long) (t' := .long) (by decide) (by decide)))
  have Fl_a1 := Fl_a1.other Wr7 (Or.inr (slot_ne (Or.inl (wd152 hw)) (Or.inl (wd141 hw)) (by decide) (t := .long) (t' := .long) (by decide) (by decide)))
  have X_ml := X_ml.wr Wr7
  have Fe_ml := Fe_ml.other Wr7 (Or.inl (Ne.symm ne_a1_ml))
  have Fs_ml := Fs_ml.other Wr7 (Or.inl (Ne.symm ne_a1_ml))
  have Fm_ml := Fm_ml.other Wr7 (Or.inl (Ne.symm ne_a1_ml))
  have E_l := E_l.wr Wr7
  have X_b0 := X_b0.wr Wr7
  have B_b0 := B_b0.wr Wr7
  have V_ed := V_ed.other Wr7 (Ne.symm ne_a1_ed)
  have hc1 := own_incQ hc0 (by omega)
  refine own_lloadN W7 41 d18_40 rfl rfl ?_
  refine own_lconst W7 (1 : Int64) 42 d18_41 rfl rfl ?_
  refine own_ladd W7 43 d18_42 rfl ?_
  refine own_lstoreN W7 44 #[.val (.ref a1), .val (.long q2), .second, .val (.long (fl + (1 : Int64))), .second] d18_43 rfl rfl ?_
  refine own_goto W7 5 d18_44 (by decide) (by decide) ?_
  refine own_lloadN W7 6 d18_5 rfl rfl ?_
  refine own_lloadN W7 7 d18_6 rfl rfl ?_
  refine own_lcmp W7 8 d18_7 rfl ?_
  refine own_ifY W7 47 d18_8 ((if0 _ _).trans (flt (mt (lw_lt (fl + (1 : Int64)) q2).mp ((mt (own_ltQ hc1 hq2).mp (by omega)) : ¬ ((fl + (1 : Int64)) < q2)))).2.1) (by decide) (by decide) ?_
  refine own_aloadN W7 48 d18_47 rfl rfl rfl ?_
  refine own_lloadN W7 49 d18_48 rfl rfl ?_
  refine own_putfield W7 (.long q2) 52 d18_49 (wd75 hw) Ff_a1 X_a1 (Or.inl (wd76 hw)) (wd60 hw) (Or.inl (List.mem_of_getElem? (i := 0) rfl)) (ty := .long) (by decide) rfl rfl rfl ?_
  intro T8 h8 W8 Wr8 Ff_a1
  have X_a1 := X_a1.wr Wr8
  have Fg_a1 := Fg_a1.other Wr8 (Or.inr (slot_ne (Or.inr (wd69 hw)) (Or.inl (wd76 hw)) (by decide) (t := (.object "java/util/List")) (t' := .long) (by decide) (by decide)))
  have Fp_a1 := Fp_a1.other Wr8 (Or.inr (slot_ne (Or.inl (wd141 hw)) (Or.inl (wd76 hw)) (by decide) (t := .long) (t' := .long) (by decide) (by decide)))
  have Fl_a1 := Fl_a1.other Wr8 (Or.inr (slot_ne (Or.inl (wd152 hw)) (Or.inl (wd76 hw)) (by decide) (t := .long) (t' := .long) (by decide) (by decide)))
  have X_ml := X_ml.wr Wr8
  have Fe_ml := Fe_ml.other Wr8 (Or.inl (Ne.symm ne_a1_ml))
  have Fs_ml := Fs_ml.other Wr8 (Or.inl (Ne.symm ne_a1_ml))
  have Fm_ml := Fm_ml.other Wr8 (Or.inl (Ne.symm ne_a1_ml))
  have E_l := E_l.wr Wr8
  have X_b0 := X_b0.wr Wr8
  have B_b0 := B_b0.wr Wr8
  have V_ed := V_ed.other Wr8 (Ne.symm ne_a1_ed)
  refine own_aloadN W8 53 d18_52 rfl rfl rfl ?_
  refine own_aloadN W8 54 d18_53 rfl rfl rfl ?_
  refine own_getfield W8 57 d18_54 (wd75 hw) Ff_a1 rfl ?_
  intro T9 W9
  refine own_callP W9 (A := [(.long q2)]) (wt := 0) (pc' := 60) (st := []) d18_57 (wd147 hw) (wd148 hw) (wd149 hw) (wd73 hw) rfl (wd61 hw) (wd150 hw) (by decide) X_a1 (own_m19 l Z a0 hw [] h8 a1 q2 fl Fl_a1) all0 rfl pd_18 rfl (Nat.le_of_eq rfl) (by decide) (by decide) (by decide) (by decide) rfl ?_
  rintro T10 h10 _ W10 K10 P10 rfl
  rw [P10 rfl rfl] at W10
  show own_Go p e below C T10 (mkF m 60 #[.val (.ref a1), .val (.long q2), .second, .val (.long (fl + (1 : Int64))), .second] [(.int (q2 - fl).toInt32)])
  rw [show (q2 - fl).toInt32 = (1 : Int32) from own_slot (j := 1) hq2 hfl (by omega) (by decide) _ rfl]
  refine own_istoreN W10 61 #[.val (.ref a1), .val (.long q2), .second, .val (.int (1 : Int32)), .unset] d18_60 rfl rfl ?_
  refine own_iloadN W10 62 d18_61 rfl rfl ?_
  refine own_aloadN W10 63 d18_62 rfl rfl rfl ?_
  refine own_getfield W10 66 d18_63 (wd68 hw) Fg_a1 rfl ?_
  intro T11 W11
  refine own_callI W11 (A := []) (wt := 1) (pc' := 71) (st := [(.int (1 : Int32))]) d18_66 (wd174 hw) (wd175 hw) (wd176 hw) (by first | rfl | decide +kernel) (wd177 hw) (wd178 hw) (wd179 hw) (wd180 hw) (wd89 hw) (wd3 hw) (wd181 hw) (by decide) X_ml (own_m24 l Z a0 hw [] h8 ml (1 : Int32) Fs_ml) all0 rfl pd_17 rfl (Nat.le_of_eq rfl) (by decide) (by decide) (by decide) (by decide) rfl ?_
  rintro T12 h12 _ W12 K12 P12 rfl
  rw [P12 rfl rfl] at W12
  show own_Go p e below C T12 (mkF m 71 #[.val (.ref a1), .val (.long q2), .second, .val (.int (1 : Int32)), .unset] [(.int (1 : Int32)), (.int (1 : Int32))])
  refine own_iconst W12 (2 : Int32) 72 d18_71 rfl rfl ?_
  refine own_idiv W12 73 d18_72 (by decide) rfl ?_
  refine own_icmpN W12 76 d18_73 ((flt ((by decide) : ¬ ((1 : Int32) < ((1 : Int32) / (2 : Int32))))).1) rfl ?_
  refine own_aloadN W12 77 d18_76 rfl rfl rfl ?_
  refine own_getfield W12 80 d18_77 (wd68 hw) Fg_a1 rfl ?_
  intro T13 W13
  refine own_iconst W13 (0 : Int32) 81 d18_80 rfl rfl ?_
  refine own_iloadN W13 82 d18_81 rfl rfl ?_
  have hsH := own_le W13
  have q_a1 := X_a1.lt
  have q_ml := X_ml.lt
  have q_ed := V_ed.lt
  refine own_callI W13 (A := [(.int (0 : Int32)), (.int (1 : Int32))]) (wt := 0) (pc' := 87) (st := []) d18_82 (wd182 hw) (wd183 hw) (wd184 hw) (by first | rfl | decide +kernel) (wd185 hw) (wd186 hw) (wd187 hw) (wd188 hw) (wd89 hw) (wd3 hw) (wd189 hw) (by decide) X_ml (own_m25 l Z a0 hw [] h8 ml (1 : Int32) ed (1 : Int32) mc X_ml Fe_ml Fs_ml Fm_ml (by decide) (by decide)) all0 rfl pd_19 rfl (Nat.le_of_eq rfl) (by decide) (by decide) (by decide) (by decide) rfl ?_
  rintro T14 h14 _ W14 K14 P14 ⟨sl, rfl, o_sl, X_sl, Fu_sl, Fq_sl, Fo_sl, Fs_sl, Fm_sl⟩
  have X_a1 := X_a1.keep K14
  have Fg_a1 := Fg_a1.keep K14 nin0
  have Fp_a1 := Fp_a1.keep K14 nin0
  have Ff_a1 := Ff_a1.keep K14 nin0
  have Fl_a1 := Fl_a1.keep K14 nin0
  have X_ml := X_ml.keep K14
  have Fe_ml := Fe_ml.keep K14 nin0
  have Fs_ml := Fs_ml.keep K14 nin0
  have Fm_ml := Fm_ml.keep K14 nin0
  have E_l := E_l.keep K14
  have X_b0 := X_b0.keep K14
  have B_b0 := B_b0.keep K14
  have V_ed := V_ed.keep K14 nin0
  show own_Go p e below C T14 (mkF m 87 #[.val (.ref a1), .val (.long q2), .second, .val (.int (1 : Int32)), .unset] [(.ref sl)])
  have ne_a1_sl : a1 ≠ sl := Nat.ne_of_lt (Nat.lt_of_lt_of_le q_a1 o_sl)
  have ne_ml_sl : ml ≠ sl := Nat.ne_of_lt (Nat.lt_of_lt_of_le q_ml o_sl)
  have ne_ed_sl : ed ≠ sl := Nat.ne_of_lt (Nat.lt_of_lt_of_le q_ed o_sl)
  have os_sl : s.heap.size ≤ sl := Nat.le_trans hsH o_sl
  have E_t : own_El Z h14 (own_upd vf 0 .null) 1 1 := fun j h1 h2 => by
    obtain ⟨b, e1, e2, e3⟩ := E_l j (by omega) h2
    exact ⟨b, by simp only [own_upd]; rw [if_neg (by omega)]; exact e1, e2, e3⟩
  refine own_callI W14 (A := []) (wt := 0) (pc' := 92) (st := []) d18_87 (wd216 hw) (wd217 hw) (wd218 hw) (by first | rfl | decide +kernel) (wd219 hw) (wd220 hw) (wd221 hw) (wd222 hw) (wd223 hw) (wd11 hw) (wd224 hw) (by decide) X_sl (own_m28_11 l Z a0 hw [] h14 sl ml ed mc (own_upd vf 0 .null) X_sl Fu_sl Fq_sl Fo_sl Fs_sl Fm_sl X_ml Fe_ml Fs_ml Fm_ml V_ed E_t (own_Rf.upd hrf 0 rfl) (Ne.symm ne_ml_sl) (Ne.symm ne_ed_sl) ne_ml_ed) (allS (Or.inr os_sl) (allS (Or.inl (List.mem_of_getElem? (i := 1) rfl)) (allS (Or.inl (List.mem_of_getElem? (i := 2) rfl)) all0))) rfl pd_0 rfl (Nat.le_of_eq rfl) (by decide) (by decide) (by decide) (by decide) rfl ?_
  rintro T15 h15 _ W15 K15 P15 ⟨rfl, ⟨Fe_ml, Fs_ml, Fm_ml, QA⟩⟩
  have X_a1 := X_a1.keep K15
  have Fg_a1 := Fg_a1.keep K15 (ninS ne_a1_sl (ninS ne_a1_ml (ninS ne_a1_ed nin0)))
  have Fp_a1 := Fp_a1.keep K15 (ninS ne_a1_sl (ninS ne_a1_ml (ninS ne_a1_ed nin0)))
  have Ff_a1 := Ff_a1.keep K15 (ninS ne_a1_sl (ninS ne_a1_ml (ninS ne_a1_ed nin0)))
  have Fl_a1 := Fl_a1.keep K15 (ninS ne_a1_sl (ninS ne_a1_ml (ninS ne_a1_ed nin0)))
  have X_ml := X_ml.keep K15
  have X_b0 := X_b0.keep K15
  have X_sl := X_sl.keep K15
  show own_Go p e below C T15 (mkF m 92 #[.val (.ref a1), .val (.long q2), .second, .val (.int (1 : Int32)), .unset] [])
  obtain ⟨vg, V_ed, hrg, E_g⟩ := QA
  refine own_aloadN W15 93 d18_92 rfl rfl rfl ?_
  refine own_aloadN W15 94 d18_93 rfl rfl rfl ?_
  refine own_getfield W15 97 d18_94 (wd75 hw) Ff_a1 rfl ?_
  intro T16 W16
  refine own_putfield W16 (.long q2) 100 d18_97 (wd151 hw) Fl_a1 X_a1 (Or.inl (wd152 hw)) (wd60 hw) (Or.inl (List.mem_of_getElem? (i := 0) rfl)) (ty := .long) (by decide) rfl rfl rfl ?_
  intro T17 h17 W17 Wr17 Fl_a1
  have X_a1 := X_a1.wr Wr17
  have Fg_a1 := Fg_a1.other Wr17 (Or.inr (slot_ne (Or.inr (wd69 hw)) (Or.inl (wd152 hw)) (by decide) (t := (.object "java/util/List")) (t' := .long) (by decide) (by decide)))
  have Fp_a1 := Fp_a1.other Wr17 (Or.inr (slot_ne (Or.inl (wd141 hw)) (Or.inl (wd152 hw)) (by decide) (t := .long) (t' := .long) (by decide) (by decide)))
  have Ff_a1 := Ff_a1.other Wr17 (Or.inr (slot_ne (Or.inl (wd76 hw)) (Or.inl (wd152 hw)) (by decide) (t := .long) (t' := .long) (by decide) (by decide)))
  have X_ml := X_ml.wr Wr17
  have X_b0 := X_b0.wr Wr17
  have X_sl := X_sl.wr Wr17
  have Fe_ml := Fe_ml.other Wr17 (Or.inl (Ne.symm ne_a1_ml))
  have Fs_ml := Fs_ml.other Wr17 (Or.inl (Ne.symm ne_a1_ml))
  have Fm_ml := Fm_ml.other Wr17 (Or.inl (Ne.symm ne_a1_ml))
  have V_ed := V_ed.other Wr17 (Ne.symm ne_a1_ed)
  have E_g := E_g.wr Wr17
  refine own_retV (Q := fun v h => v = none ∧ (∃ pl' mc' vf', own_fg Z h a1 (.ref ml) ∧ own_fp Z h a1 (.long pl') ∧ own_ff Z h a1 (.long q2) ∧ own_fl Z h a1 (.long q2) ∧ own_fe Z h ml (.ref ed) ∧ own_fs Z h ml (.int (0 : Int32)) ∧ own_fm Z h ml (.int mc') ∧ own_R Z h ed "java/lang/Object" 10 vf' ∧ own_Rf vf' ∧ own_El Z h vf' 0 0)) W17 hC (by decide) (by decide) d18_100 ?_
  exact ⟨rfl, ⟨_, _, vg, Fg_a1, Fp_a1, Ff_a1, Fl_a1, Fe_ml, Fs_ml, Fm_ml, V_ed, hrg, E_g⟩⟩
theorem ef_m18_20 (m : MethodId) (x0 : Addr) (x1 : Int64) : entryFrame m #[(.ref x0), (.long x1)] 5 = mkF m 0 #[.val (.ref x0), .val (.long x1), .second, .unset, .unset] [] := by first | (simp [entryFrame, mkF, argsToLocals, Value.category]; done) | rfl
set_option maxRecDepth 65536 in
set_option maxHeartbeats 40000000 in
theorem own_m18_20 (l : Launch) (Z : State) (a0 : Array Value) (hw : ∀ d ∈ tables_1, d.before a0 Z = true) (wo : List Jvm.Cond) (h0 : Heap) (a1 : Addr) (q2 : Int64) (ml : Addr) (ed : Addr) (pl : Int64) (fl : Int64) (mc : Int32) (vf : Nat → Value) (f0 : Nat) (X_a1 : own_xm Z h0 a1) (Fg_a1 : own_fg Z h0 a1 (.ref ml)) (Fp_a1 : own_fp Z h0 a1 (.long pl)) (Ff_a1 : own_ff Z h0 a1 (.long fl)) (Fl_a1 : own_fl Z h0 a1 (.long fl)) (X_ml : own_xl Z h0 ml) (Fe_ml : own_fe Z h0 ml (.ref ed)) (Fs_ml : own_fs Z h0 ml (.int (2 : Int32))) (Fm_ml : own_fm Z h0 ml (.int mc)) (V_ed : own_R Z h0 ed "java/lang/Object" 10 vf) (E_l : own_El Z h0 vf 0 2) (hrf : own_Rf vf) (ne_a1_ml : a1 ≠ ml) (ne_a1_ed : a1 ≠ ed) (ne_ml_ed : ml ≠ ed) (hfl : fl.toInt = (f0 : Int)) (hq2 : q2.toInt = ((f0 + 0 : Nat) : Int)) (hf0 : f0 < 10) :
    own_M l Z wo (⟨"com/example/redelivery/redelivery/engine/MemoryLog", "dropBefore", "(J)V"⟩ : MethodName) prog_7_method_4_code 5 none ({ frames := 7, cells := 1, slots := 5, locals := 140 } : Room) [a1, ml, ed] #[(.ref a1), (.long q2)] h0 (fun v h => v = none ∧ (∃ pl' mc' vf', own_fg Z h a1 (.ref ml) ∧ own_fp Z h a1 (.long pl') ∧ own_ff Z h a1 (.long q2) ∧ own_fl Z h a1 (.long q2) ∧ own_fe Z h ml (.ref ed) ∧ own_fs Z h ml (.int (2 : Int32)) ∧ own_fm Z h ml (.int mc') ∧ own_R Z h ed "java/lang/Object" 10 vf' ∧ own_Rf vf' ∧ own_El Z h vf' 0 2)) := by
  refine own_body (plainFor_of_name pn_18) (fun m => ef_m18_20 m a1 q2) ?_
  intro p e s m below meth c C hC T0 W0
  refine own_aloadN W0 1 d18_0 rfl rfl rfl ?_
  refine own_getfield W0 4 d18_1 (wd75 hw) Ff_a1 rfl ?_
  intro T1 W1
  refine own_lstoreN W1 5 #[.val (.ref a1), .val (.long q2), .second, .val (.long fl), .second] d18_4 rfl rfl ?_
  refine own_lloadN W1 6 d18_5 rfl rfl ?_
  refine own_lloadN W1 7 d18_6 rfl rfl ?_
  refine own_lcmp W1 8 d18_7 rfl ?_
  have hc0 := hfl
  refine own_ifY W1 47 d18_8 ((if0 _ _).trans (flt (mt (lw_lt fl q2).mp ((mt (own_ltQ hc0 hq2).mp (by omega)) : ¬ (fl < q2)))).2.1) (by decide) (by decide) ?_
  refine own_aloadN W1 48 d18_47 rfl rfl rfl ?_
  refine own_lloadN W1 49 d18_48 rfl rfl ?_
  refine own_putfield W1 (.long q2) 52 d18_49 (wd75 hw) Ff_a1 X_a1 (Or.inl (wd76 hw)) (wd60 hw) (Or.inl (List.mem_of_getElem? (i := 0) rfl)) (ty := .long) (by decide) rfl rfl rfl ?_
  intro T2 h2 W2 Wr2 Ff_a1
  have X_a1 := X_a1.wr Wr2
  have Fg_a1 := Fg_a1.other Wr2 (Or.inr (slot_ne (Or.inr (wd69 hw)) (Or.inl (wd76 hw)) (by decide) (t := (.object "java/util/List")) (t' := .long) (by decide) (by decide)))
  have Fp_a1 := Fp_a1.other Wr2 (Or.inr (slot_ne (Or.inl (wd141 hw)) (Or.inl (wd76 hw)) (by decide) (t := .long) (t' := .long) (by decide) (by decide)))
  have Fl_a1 := Fl_a1.other Wr2 (Or.inr (slot_ne (Or.inl (wd152 hw)) (Or.inl (wd76 hw)) (by decide) (t := .long) (t' := .long) (by decide) (by decide)))
  have X_ml := X_ml.wr Wr2
  have Fe_ml := Fe_ml.other Wr2 (Or.inl (Ne.symm ne_a1_ml))
  have Fs_ml := Fs_ml.other Wr2 (Or.inl (Ne.symm ne_a1_ml))
  have Fm_ml := Fm_ml.other Wr2 (Or.inl (Ne.symm ne_a1_ml))
  have V_ed := V_ed.other Wr2 (Ne.symm ne_a1_ed)
  have E_l := E_l.wr Wr2
  refine own_aloadN W2 53 d18_52 rfl rfl rfl ?_
  refine own_aloadN W2 54 d18_53 rfl rfl rfl ?_
  refine own_getfield W2 57 d18_54 (wd75 hw) Ff_a1 rfl ?_
  intro T3 W3
  refine own_callP W3 (A := [(.long q2)]) (wt := 0) (pc' := 60) (st := []) d18_57 (wd147 hw) (wd148 hw) (wd149 hw) (wd73 hw) rfl (wd61 hw) (wd150 hw) (by decide) X_a1 (own_m19 l Z a0 hw [] h2 a1 q2 fl Fl_a1) all0 rfl pd_18 rfl (Nat.le_of_eq rfl) (by decide) (by decide) (by decide) (by decide) rfl ?_
  rintro T4 h4 _ W4 K4 P4 rfl
  rw [P4 rfl rfl] at W4
  show own_Go p e below C T4 (mkF m 60 #[.val (.ref a1), .val (.long q2), .second, .val (.long fl), .second] [(.int (q2 - fl).toInt32)])
  rw [show (q2 - fl).toInt32 = (0 : Int32) from own_slot (j := 0) hq2 hfl (by omega) (by decide) _ rfl]
  refine own_istoreN W4 61 #[.val (.ref a1), .val (.long q2), .second, .val (.int (0 : Int32)), .unset] d18_60 rfl rfl ?_
  refine own_iloadN W4 62 d18_61 rfl rfl ?_
  refine own_aloadN W4 63 d18_62 rfl rfl rfl ?_
  refine own_getfield W4 66 d18_63 (wd68 hw) Fg_a1 rfl ?_
  intro T5 W5
  refine own_callI W5 (A := []) (wt := 1) (pc' := 71) (st := [(.int (0 : Int32))]) d18_66 (wd174 hw) (wd175 hw) (wd176 hw) (by first | rfl | decide +kernel) (wd177 hw) (wd178 hw) (wd179 hw) (wd180 hw) (wd89 hw) (wd3 hw) (wd181 hw) (by decide) X_ml (own_m24 l Z a0 hw [] h2 ml (2 : Int32) Fs_ml) all0 rfl pd_17 rfl (Nat.le_of_eq rfl) (by decide) (by decide) (by decide) (by decide) rfl ?_
  rintro T6 h6 _ W6 K6 P6 rfl
  rw [P6 rfl rfl] at W6
  show own_Go p e below C T6 (mkF m 71 #[.val (.ref a1), .val (.long q2), .second, .val (.int (0 : Int32)), .unset] [(.int (2 : Int32)), (.int (0 : Int32))])
  refine own_iconst W6 (2 : Int32) 72 d18_71 rfl rfl ?_
  refine own_idiv W6 73 d18_72 (by decide) rfl ?_
  refine own_icmpY W6 100 d18_73 ((tlt ((by decide) : (0 : Int32) < ((2 : Int32) / (2 : Int32)))).1) (by decide) (by decide) ?_
  have heq : q2 = fl := own_eqQ hq2 hfl
  refine own_retV (Q := fun v h => v = none ∧ (∃ pl' mc' vf', own_fg Z h a1 (.ref ml) ∧ own_fp Z h a1 (.long pl') ∧ own_ff Z h a1 (.long q2) ∧ own_fl Z h a1 (.long q2) ∧ own_fe Z h ml (.ref ed) ∧ own_fs Z h ml (.int (2 : Int32)) ∧ own_fm Z h ml (.int mc') ∧ own_R Z h ed "java/lang/Object" 10 vf' ∧ own_Rf vf' ∧ own_El Z h vf' 0 2)) W6 hC (by decide) (by decide) d18_100 ?_
  exact ⟨rfl, ⟨_, _, _, Fg_a1, Fp_a1, Ff_a1, (by rw [heq]; exact Fl_a1), Fe_ml, Fs_ml, Fm_ml, V_ed, hrf, E_l⟩⟩
theorem ef_m18_21 (m : MethodId) (x0 : Addr) (x1 : Int64) : entryFrame m #[(.ref x0), (.long x1)] 5 = mkF m 0 #[.val (.ref x0), .val (.long x1), .second, .unset, .unset] [] := by first | (simp [entryFrame, mkF, argsToLocals, Value.category]; done) | rfl
set_option maxRecDepth 65536 in
set_option maxHeartbeats 40000000 in
theorem own_m18_21 (l : Launch) (Z : State) (a0 : Array Value) (hw : ∀ d ∈ tables_1, d.before a0 Z = true) (wo : List Jvm.Cond) (h0 : Heap) (a1 : Addr) (q2 : Int64) (ml : Addr) (ed : Addr) (pl : Int64) (fl : Int64) (mc : Int32) (vf : Nat → Value) (f0 : Nat) (X_a1 : own_xm Z h0 a1) (Fg_a1 : own_fg Z h0 a1 (.ref ml)) (Fp_a1 : own_fp Z h0 a1 (.long pl)) (Ff_a1 : own_ff Z h0 a1 (.long fl)) (Fl_a1 : own_fl Z h0 a1 (.long fl)) (X_ml : own_xl Z h0 ml) (Fe_ml : own_fe Z h0 ml (.ref ed)) (Fs_ml : own_fs Z h0 ml (.int (2 : Int32))) (Fm_ml : own_fm Z h0 ml (.int mc)) (V_ed : own_R Z h0 ed "java/lang/Object" 10 vf) (E_l : own_El Z h0 vf 0 2) (hrf : own_Rf vf) (ne_a1_ml : a1 ≠ ml) (ne_a1_ed : a1 ≠ ed) (ne_ml_ed : ml ≠ ed) (hfl : fl.toInt = (f0 : Int)) (hq2 : q2.toInt = ((f0 + 1 : Nat) : Int)) (hf0 : f0 < 10) :
    own_M l Z wo (⟨"com/example/redelivery/redelivery/engine/MemoryLog", "dropBefore", "(J)V"⟩ : MethodName) prog_7_method_4_code 5 none ({ frames := 7, cells := 1, slots := 5, locals := 140 } : Room) [a1, ml, ed] #[(.ref a1), (.long q2)] h0 (fun v h => v = none ∧ (∃ pl' mc' vf', own_fg Z h a1 (.ref ml) ∧ own_fp Z h a1 (.long pl') ∧ own_ff Z h a1 (.long q2) ∧ own_fl Z h a1 (.long q2) ∧ own_fe Z h ml (.ref ed) ∧ own_fs Z h ml (.int (1 : Int32)) ∧ own_fm Z h ml (.int mc') ∧ own_R Z h ed "java/lang/Object" 10 vf' ∧ own_Rf vf' ∧ own_El Z h vf' 0 1)) := by
  refine own_body (plainFor_of_name pn_18) (fun m => ef_m18_21 m a1 q2) ?_
  intro p e s m below meth c C hC T0 W0
  refine own_aloadN W0 1 d18_0 rfl rfl rfl ?_
  refine own_getfield W0 4 d18_1 (wd75 hw) Ff_a1 rfl ?_
  intro T1 W1
  refine own_lstoreN W1 5 #[.val (.ref a1), .val (.long q2), .second, .val (.long fl), .second] d18_4 rfl rfl ?_
  refine own_lloadN W1 6 d18_5 rfl rfl ?_
  refine own_lloadN W1 7 d18_6 rfl rfl ?_
  refine own_lcmp W1 8 d18_7 rfl ?_
  have hc0 := hfl
  refine own_ifN W1 11 d18_8 ((if0 _ _).trans (tlt ((lw_lt fl q2).mpr (((own_ltQ hc0 hq2).mpr (by omega)) : fl < q2))).2.1) rfl ?_
  refine own_aloadN W1 12 d18_11 rfl rfl rfl ?_
  refine own_dup W1 13 d18_12 rfl rfl ?_
  refine own_getfield W1 16 d18_13 (wd140 hw) Fp_a1 rfl ?_
  intro T2 W2
  refine own_aloadN W2 17 d18_16 rfl rfl rfl ?_
  refine own_getfield W2 20 d18_17 (wd68 hw) Fg_a1 rfl ?_
  intro T3 W3
  refine own_aloadN W3 21 d18_20 rfl rfl rfl ?_
  refine own_lloadN W3 22 d18_21 rfl rfl ?_
  refine own_callP W3 (A := [(.long fl)]) (wt := 4) (pc' := 25) (st := [(.ref ml), (.long pl), (.ref a1)]) d18_22 (wd147 hw) (wd148 hw) (wd149 hw) (wd73 hw) rfl (wd61 hw) (wd150 hw) (by decide) X_a1 (own_m19 l Z a0 hw [] h0 a1 fl fl Fl_a1) all0 rfl pd_18 rfl (Nat.le_of_eq rfl) (by decide) (by decide) (by decide) (by decide) rfl ?_
  rintro T4 h4 _ W4 K4 P4 rfl
  rw [P4 rfl rfl] at W4
  show own_Go p e below C T4 (mkF m 25 #[.val (.ref a1), .val (.long q2), .second, .val (.long fl), .second] [(.int (fl - fl).toInt32), (.ref ml), (.long pl), (.ref a1)])
  rw [show (fl - fl).toInt32 = (0 : Int32) from own_slot (j := 0) hc0 hfl (by omega) (by decide) _ rfl]
  refine own_aconst_null W4 26 d18_25 rfl ?_
  obtain ⟨b0, eb0, X_b0, B_b0⟩ := E_l 0 (by omega) (by omega)
  refine own_callI W4 (A := [(.int (0 : Int32)), .null]) (wt := 3) (pc' := 31) (st := [(.long pl), (.ref a1)]) d18_26 (wd153 hw) (wd154 hw) (wd155 hw) (by first | rfl | decide +kernel) (wd156 hw) (wd157 hw) (wd158 hw) (wd159 hw) (wd89 hw) (wd3 hw) (wd160 hw) (by decide) X_ml (own_m20 l Z a0 hw [] h0 ml (0 : Int32) ed (2 : Int32) mc vf b0 0 2 X_ml Fe_ml Fs_ml Fm_ml V_ed ne_ml_ed rfl rfl (by omega) (by omega) eb0) (allS (Or.inl (List.mem_of_getElem? (i := 2) rfl)) all0) rfl pd_20 rfl (Nat.le_of_eq rfl) (by decide) (by decide) (by decide) (by decide) rfl ?_
  rintro T5 h5 _ W5 K5 P5 ⟨rfl, V_ed⟩
  have X_a1 := X_a1.keep K5
  have Fg_a1 := Fg_a1.keep K5 (ninS ne_a1_ed nin0)
  have Fp_a1 := Fp_a1.keep K5 (ninS ne_a1_ed nin0)
  have Ff_a1 := Ff_a1.keep K5 (ninS ne_a1_ed nin0)
  have Fl_a1 := Fl_a1.keep K5 (ninS ne_a1_ed nin0)
  have X_ml := X_ml.keep K5
  have Fe_ml := Fe_ml.keep K5 (ninS ne_ml_ed nin0)
  have Fs_ml := Fs_ml.keep K5 (ninS ne_ml_ed nin0)
  have Fm_ml := Fm_ml.keep K5 (ninS ne_ml_ed nin0)
  have E_l := E_l.keep K5
  have X_b0 := X_b0.keep K5
  have B_b0 := B_b0.keep K5
  show own_Go p e below C T5 (mkF m 31 #[.val (.ref a1), .val (.long q2), .second, .val (.long fl), .second] [(.ref b0), (.long pl), (.ref a1)])
  refine own_checkcast W5 34 d18_31 (wd132 hw) (Ins.of_exa X_b0 (wd133 hw)) rfl ?_
  intro T6 W6
  obtain ⟨ln0, lf0, V_b0⟩ := B_b0.A
  refine own_arraylength W6 ln0.toInt32 35 d18_34 V_b0 rfl rfl ?_
  refine own_i2l W6 36 d18_35 rfl ?_
  refine own_lsub W6 37 d18_36 rfl ?_
  refine own_putfield W6 (.long (pl - ln0.toInt32.toInt64)) 40 d18_37 (wd140 hw) Fp_a1 X_a1 (Or.inl (wd141 hw)) (wd60 hw) (Or.inl (List.mem_of_getElem? (i := 0) rfl)) (ty := .long) (by decide) rfl rfl rfl ?_
  intro T7 h7 W7 Wr7 Fp_a1
  have X_a1 := X_a1.wr Wr7
  have Fg_a1 := Fg_a1.other Wr7 (Or.inr (slot_ne (Or.inr (wd69 hw)) (Or.inl (wd141 hw)) (by decide) (t := (.object "java/util/List")) (t' := .long) (by decide) (by decide)))
  have Ff_a1 := Ff_a1.other Wr7 (Or.inr (slot_ne (Or.inl (wd76 hw)) (Or.inl (wd141 hw)) (by decide) (t := .long) (t' := .long) (by decide) (by decide)))
  have Fl_a1 := Fl_a1.other Wr7 (Or.inr (slot_ne (Or.inl (wd152 hw)) (Or.inl (wd141 hw)) (by decide) (t := .long) (t' := .long) (by decide) (by decide)))
  have X_ml := X_ml.wr Wr7
  have Fe_ml := Fe_ml.other Wr7 (Or.inl (Ne.symm ne_a1_ml))
  have Fs_ml := Fs_ml.other Wr7 (Or.inl (Ne.symm ne_a1_ml))
  have Fm_ml := Fm_ml.other Wr7 (Or.inl (Ne.symm ne_a1_ml))
  have E_l := E_l.wr Wr7
  have X_b0 := X_b0.wr Wr7
  have B_b0 := B_b0.wr Wr7
  have V_ed := V_ed.other Wr7 (Ne.symm ne_a1_ed)
  have hc1 := own_incQ hc0 (by omega)
  refine own_lloadN W7 41 d18_40 rfl rfl ?_
  refine own_lconst W7 (1 : Int64) 42 d18_41 rfl rfl ?_
  refine own_ladd W7 43 d18_42 rfl ?_
  refine own_lstoreN W7 44 #[.val (.ref a1), .val (.long q2), .second, .val (.long (fl + (1 : Int64))), .second] d18_43 rfl rfl ?_
  refine own_goto W7 5 d18_44 (by decide) (by decide) ?_
  refine own_lloadN W7 6 d18_5 rfl rfl ?_
  refine own_lloadN W7 7 d18_6 rfl rfl ?_
  refine own_lcmp W7 8 d18_7 rfl ?_
  refine own_ifY W7 47 d18_8 ((if0 _ _).trans (flt (mt (lw_lt (fl + (1 : Int64)) q2).mp ((mt (own_ltQ hc1 hq2).mp (by omega)) : ¬ ((fl + (1 : Int64)) < q2)))).2.1) (by decide) (by decide) ?_
  refine own_aloadN W7 48 d18_47 rfl rfl rfl ?_
  refine own_lloadN W7 49 d18_48 rfl rfl ?_
  refine own_putfield W7 (.long q2) 52 d18_49 (wd75 hw) Ff_a1 X_a1 (Or.inl (wd76 hw)) (wd60 hw) (Or.inl (List.mem_of_getElem? (i := 0) rfl)) (ty := .long) (by decide) rfl rfl rfl ?_
  intro T8 h8 W8 Wr8 Ff_a1
  have X_a1 := X_a1.wr Wr8
  have Fg_a1 := Fg_a1.other Wr8 (Or.inr (slot_ne (Or.inr (wd69 hw)) (Or.inl (wd76 hw)) (by decide) (t := (.object "java/util/List")) (t' := .long) (by decide) (by decide)))
  have Fp_a1 := Fp_a1.other Wr8 (Or.inr (slot_ne (Or.inl (wd141 hw)) (Or.inl (wd76 hw)) (by decide) (t := .long) (t' := .long) (by decide) (by decide)))
  have Fl_a1 := Fl_a1.other Wr8 (Or.inr (slot_ne (Or.inl (wd152 hw)) (Or.inl (wd76 hw)) (by decide) (t := .long) (t' := .long) (by decide) (by decide)))
  have X_ml := X_ml.wr Wr8
  have Fe_ml := Fe_ml.other Wr8 (Or.inl (Ne.symm ne_a1_ml))
  have Fs_ml := Fs_ml.other Wr8 (Or.inl (Ne.symm ne_a1_ml))
  have Fm_ml := Fm_ml.other Wr8 (Or.inl (Ne.symm ne_a1_ml))
  have E_l := E_l.wr Wr8
  have X_b0 := X_b0.wr Wr8
  have B_b0 := B_b0.wr Wr8
  have V_ed := V_ed.other Wr8 (Ne.symm ne_a1_ed)
  refine own_aloadN W8 53 d18_52 rfl rfl rfl ?_
  refine own_aloadN W8 54 d18_53 rfl rfl rfl ?_
  refine own_getfield W8 57 d18_54 (wd75 hw) Ff_a1 rfl ?_
  intro T9 W9
  refine own_callP W9 (A := [(.long q2)]) (wt := 0) (pc' := 60) (st := []) d18_57 (wd147 hw) (wd148 hw) (wd149 hw) (wd73 hw) rfl (wd61 hw) (wd150 hw) (by decide) X_a1 (own_m19 l Z a0 hw [] h8 a1 q2 fl Fl_a1) all0 rfl pd_18 rfl (Nat.le_of_eq rfl) (by decide) (by decide) (by decide) (by decide) rfl ?_
  rintro T10 h10 _ W10 K10 P10 rfl
  rw [P10 rfl rfl] at W10
  show own_Go p e below C T10 (mkF m 60 #[.val (.ref a1), .val (.long q2), .second, .val (.long (fl + (1 : Int64))), .second] [(.int (q2 - fl).toInt32)])
  rw [show (q2 - fl).toInt32 = (1 : Int32) from own_slot (j := 1) hq2 hfl (by omega) (by decide) _ rfl]
  refine own_istoreN W10 61 #[.val (.ref a1), .val (.long q2), .second, .val (.int (1 : Int32)), .unset] d18_60 rfl rfl ?_
  refine own_iloadN W10 62 d18_61 rfl rfl ?_
  refine own_aloadN W10 63 d18_62 rfl rfl rfl ?_
  refine own_getfield W10 66 d18_63 (wd68 hw) Fg_a1 rfl ?_
  intro T11 W11
  refine own_callI W11 (A := []) (wt := 1) (pc' := 71) (st := [(.int (1 : Int32))]) d18_66 (wd174 hw) (wd175 hw) (wd176 hw) (by first | rfl | decide +kernel) (wd177 hw) (wd178 hw) (wd179 hw) (wd180 hw) (wd89 hw) (wd3 hw) (wd181 hw) (by decide) X_ml (own_m24 l Z a0 hw [] h8 ml (2 : Int32) Fs_ml) all0 rfl pd_17 rfl (Nat.le_of_eq rfl) (by decide) (by decide) (by decide) (by decide) rfl ?_
  rintro T12 h12 _ W12 K12 P12 rfl
  rw [P12 rfl rfl] at W12
  show own_Go p e below C T12 (mkF m 71 #[.val (.ref a1), .val (.long q2), .second, .val (.int (1 : Int32)), .unset] [(.int (2 : Int32)), (.int (1 : Int32))])
  refine own_iconst W12 (2 : Int32) 72 d18_71 rfl rfl ?_
  refine own_idiv W12 73 d18_72 (by decide) rfl ?_
  refine own_icmpN W12 76 d18_73 ((flt ((by decide) : ¬ ((1 : Int32) < ((2 : Int32) / (2 : Int32))))).1) rfl ?_
  refine own_aloadN W12 77 d18_76 rfl rfl rfl ?_
  refine own_getfield W12 80 d18_77 (wd68 hw) Fg_a1 rfl ?_
  intro T13 W13
  refine own_iconst W13 (0 : Int32) 81 d18_80 rfl rfl ?_
  refine own_iloadN W13 82 d18_81 rfl rfl ?_
  have hsH := own_le W13
  have q_a1 := X_a1.lt
  have q_ml := X_ml.lt
  have q_ed := V_ed.lt
  refine own_callI W13 (A := [(.int (0 : Int32)), (.int (1 : Int32))]) (wt := 0) (pc' := 87) (st := []) d18_82 (wd182 hw) (wd183 hw) (wd184 hw) (by first | rfl | decide +kernel) (wd185 hw) (wd186 hw) (wd187 hw) (wd188 hw) (wd89 hw) (wd3 hw) (wd189 hw) (by decide) X_ml (own_m25 l Z a0 hw [] h8 ml (1 : Int32) ed (2 : Int32) mc X_ml Fe_ml Fs_ml Fm_ml (by decide) (by decide)) all0 rfl pd_19 rfl (Nat.le_of_eq rfl) (by decide) (by decide) (by decide) (by decide) rfl ?_
  rintro T14 h14 _ W14 K14 P14 ⟨sl, rfl, o_sl, X_sl, Fu_sl, Fq_sl, Fo_sl, Fs_sl, Fm_sl⟩
  have X_a1 := X_a1.keep K14
  have Fg_a1 := Fg_a1.keep K14 nin0
  have Fp_a1 := Fp_a1.keep K14 nin0
  have Ff_a1 := Ff_a1.keep K14 nin0
  have Fl_a1 := Fl_a1.keep K14 nin0
  have X_ml := X_ml.keep K14
  have Fe_ml := Fe_ml.keep K14 nin0
  have Fs_ml := Fs_ml.keep K14 nin0
  have Fm_ml := Fm_ml.keep K14 nin0
  have E_l := E_l.keep K14
  have X_b0 := X_b0.keep K14
  have B_b0 := B_b0.keep K14
  have V_ed := V_ed.keep K14 nin0
  show own_Go p e below C T14 (mkF m 87 #[.val (.ref a1), .val (.long q2), .second, .val (.int (1 : Int32)), .unset] [(.ref sl)])
  have ne_a1_sl : a1 ≠ sl := Nat.ne_of_lt (Nat.lt_of_lt_of_le q_a1 o_sl)
  have ne_ml_sl : ml ≠ sl := Nat.ne_of_lt (Nat.lt_of_lt_of_le q_ml o_sl)
  have ne_ed_sl : ed ≠ sl := Nat.ne_of_lt (Nat.lt_of_lt_of_le q_ed o_sl)
  have os_sl : s.heap.size ≤ sl := Nat.le_trans hsH o_sl
  have E_t : own_El Z h14 (own_upd vf 0 .null) 1 2 := fun j h1 h2 => by
    obtain ⟨b, e1, e2, e3⟩ := E_l j (by omega) h2
    exact ⟨b, by simp only [own_upd]; rw [if_neg (by omega)]; exact e1, e2, e3⟩
  refine own_callI W14 (A := []) (wt := 0) (pc' := 92) (st := []) d18_87 (wd216 hw) (wd217 hw) (wd218 hw) (by first | rfl | decide +kernel) (wd219 hw) (wd220 hw) (wd221 hw) (wd222 hw) (wd223 hw) (wd11 hw) (wd224 hw) (by decide) X_sl (own_m28_21 l Z a0 hw [] h14 sl ml ed mc (own_upd vf 0 .null) X_sl Fu_sl Fq_sl Fo_sl Fs_sl Fm_sl X_ml Fe_ml Fs_ml Fm_ml V_ed E_t (own_Rf.upd hrf 0 rfl) (Ne.symm ne_ml_sl) (Ne.symm ne_ed_sl) ne_ml_ed) (allS (Or.inr os_sl) (allS (Or.inl (List.mem_of_getElem? (i := 1) rfl)) (allS (Or.inl (List.mem_of_getElem? (i := 2) rfl)) all0))) rfl pd_0 rfl (Nat.le_of_eq rfl) (by decide) (by decide) (by decide) (by decide) rfl ?_
  rintro T15 h15 _ W15 K15 P15 ⟨rfl, ⟨Fe_ml, Fs_ml, Fm_ml, QA⟩⟩
  have X_a1 := X_a1.keep K15
  have Fg_a1 := Fg_a1.keep K15 (ninS ne_a1_sl (ninS ne_a1_ml (ninS ne_a1_ed nin0)))
  have Fp_a1 := Fp_a1.keep K15 (ninS ne_a1_sl (ninS ne_a1_ml (ninS ne_a1_ed nin0)))
  have Ff_a1 := Ff_a1.keep K15 (ninS ne_a1_sl (ninS ne_a1_ml (ninS ne_a1_ed nin0)))
  have Fl_a1 := Fl_a1.keep K15 (ninS ne_a1_sl (ninS ne_a1_ml (ninS ne_a1_ed nin0)))
  have X_ml := X_ml.keep K15
  have X_b0 := X_b0.keep K15
  have X_sl := X_sl.keep K15
  show own_Go p e below C T15 (mkF m 92 #[.val (.ref a1), .val (.long q2), .second, .val (.int (1 : Int32)), .unset] [])
  obtain ⟨vg, V_ed, hrg, E_g⟩ := QA
  refine own_aloadN W15 93 d18_92 rfl rfl rfl ?_
  refine own_aloadN W15 94 d18_93 rfl rfl rfl ?_
  refine own_getfield W15 97 d18_94 (wd75 hw) Ff_a1 rfl ?_
  intro T16 W16
  refine own_putfield W16 (.long q2) 100 d18_97 (wd151 hw) Fl_a1 X_a1 (Or.inl (wd152 hw)) (wd60 hw) (Or.inl (List.mem_of_getElem? (i := 0) rfl)) (ty := .long) (by decide) rfl rfl rfl ?_
  intro T17 h17 W17 Wr17 Fl_a1
  have X_a1 := X_a1.wr Wr17
  have Fg_a1 := Fg_a1.other Wr17 (Or.inr (slot_ne (Or.inr (wd69 hw)) (Or.inl (wd152 hw)) (by decide) (t := (.object "java/util/List")) (t' := .long) (by decide) (by decide)))
  have Fp_a1 := Fp_a1.other Wr17 (Or.inr (slot_ne (Or.inl (wd141 hw)) (Or.inl (wd152 hw)) (by decide) (t := .long) (t' := .long) (by decide) (by decide)))
  have Ff_a1 := Ff_a1.other Wr17 (Or.inr (slot_ne (Or.inl (wd76 hw)) (Or.inl (wd152 hw)) (by decide) (t := .long) (t' := .long) (by decide) (by decide)))
  have X_ml := X_ml.wr Wr17
  have X_b0 := X_b0.wr Wr17
  have X_sl := X_sl.wr Wr17
  have Fe_ml := Fe_ml.other Wr17 (Or.inl (Ne.symm ne_a1_ml))
  have Fs_ml := Fs_ml.other Wr17 (Or.inl (Ne.symm ne_a1_ml))
  have Fm_ml := Fm_ml.other Wr17 (Or.inl (Ne.symm ne_a1_ml))
  have V_ed := V_ed.other Wr17 (Ne.symm ne_a1_ed)
  have E_g := E_g.wr Wr17
  refine own_retV (Q := fun v h => v = none ∧ (∃ pl' mc' vf', own_fg Z h a1 (.ref ml) ∧ own_fp Z h a1 (.long pl') ∧ own_ff Z h a1 (.long q2) ∧ own_fl Z h a1 (.long q2) ∧ own_fe Z h ml (.ref ed) ∧ own_fs Z h ml (.int (1 : Int32)) ∧ own_fm Z h ml (.int mc') ∧ own_R Z h ed "java/lang/Object" 10 vf' ∧ own_Rf vf' ∧ own_El Z h vf' 0 1)) W17 hC (by decide) (by decide) d18_100 ?_
  exact ⟨rfl, ⟨_, _, vg, Fg_a1, Fp_a1, Ff_a1, Fl_a1, Fe_ml, Fs_ml, Fm_ml, V_ed, hrg, E_g⟩⟩
theorem ef_m18_22 (m : MethodId) (x0 : Addr) (x1 : Int64) : entryFrame m #[(.ref x0), (.long x1)] 5 = mkF m 0 #[.val (.ref x0), .val (.long x1), .second, .unset, .unset] [] := by first | (simp [entryFrame, mkF, argsToLocals, Value.category]; done) | rfl
set_option maxRecDepth 65536 in
set_option maxHeartbeats 40000000 in
theorem own_m18_22 (l : Launch) (Z : State) (a0 : Array Value) (hw : ∀ d ∈ tables_1, d.before a0 Z = true) (wo : List Jvm.Cond) (h0 : Heap) (a1 : Addr) (q2 : Int64) (ml : Addr) (ed : Addr) (pl : Int64) (fl : Int64) (mc : Int32) (vf : Nat → Value) (f0 : Nat) (X_a1 : own_xm Z h0 a1) (Fg_a1 : own_fg Z h0 a1 (.ref ml)) (Fp_a1 : own_fp Z h0 a1 (.long pl)) (Ff_a1 : own_ff Z h0 a1 (.long fl)) (Fl_a1 : own_fl Z h0 a1 (.long fl)) (X_ml : own_xl Z h0 ml) (Fe_ml : own_fe Z h0 ml (.ref ed)) (Fs_ml : own_fs Z h0 ml (.int (2 : Int32))) (Fm_ml : own_fm Z h0 ml (.int mc)) (V_ed : own_R Z h0 ed "java/lang/Object" 10 vf) (E_l : own_El Z h0 vf 0 2) (hrf : own_Rf vf) (ne_a1_ml : a1 ≠ ml) (ne_a1_ed : a1 ≠ ed) (ne_ml_ed : ml ≠ ed) (hfl : fl.toInt = (f0 : Int)) (hq2 : q2.toInt = ((f0 + 2 : Nat) : Int)) (hf0 : f0 < 10) :
    own_M l Z wo (⟨"com/example/redelivery/redelivery/engine/MemoryLog", "dropBefore", "(J)V"⟩ : MethodName) prog_7_method_4_code 5 none ({ frames := 7, cells := 1, slots := 5, locals := 140 } : Room) [a1, ml, ed] #[(.ref a1), (.long q2)] h0 (fun v h => v = none ∧ (∃ pl' mc' vf', own_fg Z h a1 (.ref ml) ∧ own_fp Z h a1 (.long pl') ∧ own_ff Z h a1 (.long q2) ∧ own_fl Z h a1 (.long q2) ∧ own_fe Z h ml (.ref ed) ∧ own_fs Z h ml (.int (0 : Int32)) ∧ own_fm Z h ml (.int mc') ∧ own_R Z h ed "java/lang/Object" 10 vf' ∧ own_Rf vf' ∧ own_El Z h vf' 0 0)) := by
  refine own_body (plainFor_of_name pn_18) (fun m => ef_m18_22 m a1 q2) ?_
  intro p e s m below meth c C hC T0 W0
  refine own_aloadN W0 1 d18_0 rfl rfl rfl ?_
  refine own_getfield W0 4 d18_1 (wd75 hw) Ff_a1 rfl ?_
  intro T1 W1
  refine own_lstoreN W1 5 #[.val (.ref a1), .val (.long q2), .second, .val (.long fl), .second] d18_4 rfl rfl ?_
  refine own_lloadN W1 6 d18_5 rfl rfl ?_
  refine own_lloadN W1 7 d18_6 rfl rfl ?_
  refine own_lcmp W1 8 d18_7 rfl ?_
  have hc0 := hfl
  refine own_ifN W1 11 d18_8 ((if0 _ _).trans (tlt ((lw_lt fl q2).mpr (((own_ltQ hc0 hq2).mpr (by omega)) : fl < q2))).2.1) rfl ?_
  refine own_aloadN W1 12 d18_11 rfl rfl rfl ?_
  refine own_dup W1 13 d18_12 rfl rfl ?_
  refine own_getfield W1 16 d18_13 (wd140 hw) Fp_a1 rfl ?_
  intro T2 W2
  refine own_aloadN W2 17 d18_16 rfl rfl rfl ?_
  refine own_getfield W2 20 d18_17 (wd68 hw) Fg_a1 rfl ?_
  intro T3 W3
  refine own_aloadN W3 21 d18_20 rfl rfl rfl ?_
  refine own_lloadN W3 22 d18_21 rfl rfl ?_
  refine own_callP W3 (A := [(.long fl)]) (wt := 4) (pc' := 25) (st := [(.ref ml), (.long pl), (.ref a1)]) d18_22 (wd147 hw) (wd148 hw) (wd149 hw) (wd73 hw) rfl (wd61 hw) (wd150 hw) (by decide) X_a1 (own_m19 l Z a0 hw [] h0 a1 fl fl Fl_a1) all0 rfl pd_18 rfl (Nat.le_of_eq rfl) (by decide) (by decide) (by decide) (by decide) rfl ?_
  rintro T4 h4 _ W4 K4 P4 rfl
  rw [P4 rfl rfl] at W4
  show own_Go p e below C T4 (mkF m 25 #[.val (.ref a1), .val (.long q2), .second, .val (.long fl), .second] [(.int (fl - fl).toInt32), (.ref ml), (.long pl), (.ref a1)])
  rw [show (fl - fl).toInt32 = (0 : Int32) from own_slot (j := 0) hc0 hfl (by omega) (by decide) _ rfl]
  refine own_aconst_null W4 26 d18_25 rfl ?_
  obtain ⟨b0, eb0, X_b0, B_b0⟩ := E_l 0 (by omega) (by omega)
  refine own_callI W4 (A := [(.int (0 : Int32)), .null]) (wt := 3) (pc' := 31) (st := [(.long pl), (.ref a1)]) d18_26 (wd153 hw) (wd154 hw) (wd155 hw) (by first | rfl | decide +kernel) (wd156 hw) (wd157 hw) (wd158 hw) (wd159 hw) (wd89 hw) (wd3 hw) (wd160 hw) (by decide) X_ml (own_m20 l Z a0 hw [] h0 ml (0 : Int32) ed (2 : Int32) mc vf b0 0 2 X_ml Fe_ml Fs_ml Fm_ml V_ed ne_ml_ed rfl rfl (by omega) (by omega) eb0) (allS (Or.inl (List.mem_of_getElem? (i := 2) rfl)) all0) rfl pd_20 rfl (Nat.le_of_eq rfl) (by decide) (by decide) (by decide) (by decide) rfl ?_
  rintro T5 h5 _ W5 K5 P5 ⟨rfl, V_ed⟩
  have X_a1 := X_a1.keep K5
  have Fg_a1 := Fg_a1.keep K5 (ninS ne_a1_ed nin0)
  have Fp_a1 := Fp_a1.keep K5 (ninS ne_a1_ed nin0)
  have Ff_a1 := Ff_a1.keep K5 (ninS ne_a1_ed nin0)
  have Fl_a1 := Fl_a1.keep K5 (ninS ne_a1_ed nin0)
  have X_ml := X_ml.keep K5
  have Fe_ml := Fe_ml.keep K5 (ninS ne_ml_ed nin0)
  have Fs_ml := Fs_ml.keep K5 (ninS ne_ml_ed nin0)
  have Fm_ml := Fm_ml.keep K5 (ninS ne_ml_ed nin0)
  have E_l := E_l.keep K5
  have X_b0 := X_b0.keep K5
  have B_b0 := B_b0.keep K5
  show own_Go p e below C T5 (mkF m 31 #[.val (.ref a1), .val (.long q2), .second, .val (.long fl), .second] [(.ref b0), (.long pl), (.ref a1)])
  refine own_checkcast W5 34 d18_31 (wd132 hw) (Ins.of_exa X_b0 (wd133 hw)) rfl ?_
  intro T6 W6
  obtain ⟨ln0, lf0, V_b0⟩ := B_b0.A
  refine own_arraylength W6 ln0.toInt32 35 d18_34 V_b0 rfl rfl ?_
  refine own_i2l W6 36 d18_35 rfl ?_
  refine own_lsub W6 37 d18_36 rfl ?_
  refine own_putfield W6 (.long (pl - ln0.toInt32.toInt64)) 40 d18_37 (wd140 hw) Fp_a1 X_a1 (Or.inl (wd141 hw)) (wd60 hw) (Or.inl (List.mem_of_getElem? (i := 0) rfl)) (ty := .long) (by decide) rfl rfl rfl ?_
  intro T7 h7 W7 Wr7 Fp_a1
  have X_a1 := X_a1.wr Wr7
  have Fg_a1 := Fg_a1.other Wr7 (Or.inr (slot_ne (Or.inr (wd69 hw)) (Or.inl (wd141 hw)) (by decide) (t := (.object "java/util/List")) (t' := .long) (by decide) (by decide)))
  have Ff_a1 := Ff_a1.other Wr7 (Or.inr (slot_ne (Or.inl (wd76 hw)) (Or.inl (wd141 hw)) (by decide) (t := .long) (t' := .long) (by decide) (by decide)))
  have Fl_a1 := Fl_a1.other Wr7 (Or.inr (slot_ne (Or.inl (wd152 hw)) (Or.inl (wd141 hw)) (by decide) (t := .long) (t' := .long) (by decide) (by decide)))
  have X_ml := X_ml.wr Wr7
  have Fe_ml := Fe_ml.other Wr7 (Or.inl (Ne.symm ne_a1_ml))
  have Fs_ml := Fs_ml.other Wr7 (Or.inl (Ne.symm ne_a1_ml))
  have Fm_ml := Fm_ml.other Wr7 (Or.inl (Ne.symm ne_a1_ml))
  have E_l := E_l.wr Wr7
  have X_b0 := X_b0.wr Wr7
  have B_b0 := B_b0.wr Wr7
  have V_ed := V_ed.other Wr7 (Ne.symm ne_a1_ed)
  have hc1 := own_incQ hc0 (by omega)
  refine own_lloadN W7 41 d18_40 rfl rfl ?_
  refine own_lconst W7 (1 : Int64) 42 d18_41 rfl rfl ?_
  refine own_ladd W7 43 d18_42 rfl ?_
  refine own_lstoreN W7 44 #[.val (.ref a1), .val (.long q2), .second, .val (.long (fl + (1 : Int64))), .second] d18_43 rfl rfl ?_
  refine own_goto W7 5 d18_44 (by decide) (by decide) ?_
  refine own_lloadN W7 6 d18_5 rfl rfl ?_
  refine own_lloadN W7 7 d18_6 rfl rfl ?_
  refine own_lcmp W7 8 d18_7 rfl ?_
  refine own_ifN W7 11 d18_8 ((if0 _ _).trans (tlt ((lw_lt (fl + (1 : Int64)) q2).mpr (((own_ltQ hc1 hq2).mpr (by omega)) : (fl + (1 : Int64)) < q2))).2.1) rfl ?_
  refine own_aloadN W7 12 d18_11 rfl rfl rfl ?_
  refine own_dup W7 13 d18_12 rfl rfl ?_
  refine own_getfield W7 16 d18_13 (wd140 hw) Fp_a1 rfl ?_
  intro T8 W8
  refine own_aloadN W8 17 d18_16 rfl rfl rfl ?_
  refine own_getfield W8 20 d18_17 (wd68 hw) Fg_a1 rfl ?_
  intro T9 W9
  refine own_aloadN W9 21 d18_20 rfl rfl rfl ?_
  refine own_lloadN W9 22 d18_21 rfl rfl ?_
  refine own_callP W9 (A := [(.long (fl + (1 : Int64)))]) (wt := 4) (pc' := 25) (st := [(.ref ml), (.long (pl - ln0.toInt32.toInt64)), (.ref a1)]) d18_22 (wd147 hw) (wd148 hw) (wd149 hw) (wd73 hw) rfl (wd61 hw) (wd150 hw) (by decide) X_a1 (own_m19 l Z a0 hw [] h7 a1 (fl + (1 : Int64)) fl Fl_a1) all0 rfl pd_18 rfl (Nat.le_of_eq rfl) (by decide) (by decide) (by decide) (by decide) rfl ?_
  rintro T10 h10 _ W10 K10 P10 rfl
  rw [P10 rfl rfl] at W10
  show own_Go p e below C T10 (mkF m 25 #[.val (.ref a1), .val (.long q2), .second, .val (.long (fl + (1 : Int64))), .second] [(.int ((fl + (1 : Int64)) - fl).toInt32), (.ref ml), (.long (pl - ln0.toInt32.toInt64)), (.ref a1)])
  rw [show ((fl + (1 : Int64)) - fl).toInt32 = (1 : Int32) from own_slot (j := 1) hc1 hfl (by omega) (by decide) _ rfl]
  refine own_aconst_null W10 26 d18_25 rfl ?_
  obtain ⟨b1, eb1, X_b1, B_b1⟩ := E_l 1 (by omega) (by omega)
  refine own_callI W10 (A := [(.int (1 : Int32)), .null]) (wt := 3) (pc' := 31) (st := [(.long (pl - ln0.toInt32.toInt64)), (.ref a1)]) d18_26 (wd153 hw) (wd154 hw) (wd155 hw) (by first | rfl | decide +kernel) (wd156 hw) (wd157 hw) (wd158 hw) (wd159 hw) (wd89 hw) (wd3 hw) (wd160 hw) (by decide) X_ml (own_m20 l Z a0 hw [] h7 ml (1 : Int32) ed (2 : Int32) mc (own_upd vf 0 .null) b1 1 2 X_ml Fe_ml Fs_ml Fm_ml V_ed ne_ml_ed rfl rfl (by omega) (by omega) eb1) (allS (Or.inl (List.mem_of_getElem? (i := 2) rfl)) all0) rfl pd_20 rfl (Nat.le_of_eq rfl) (by decide) (by decide) (by decide) (by decide) rfl ?_
  rintro T11 h11 _ W11 K11 P11 ⟨rfl, V_ed⟩
  have X_a1 := X_a1.keep K11
  have Fg_a1 := Fg_a1.keep K11 (ninS ne_a1_ed nin0)
  have Fp_a1 := Fp_a1.keep K11 (ninS ne_a1_ed nin0)
  have Ff_a1 := Ff_a1.keep K11 (ninS ne_a1_ed nin0)
  have Fl_a1 := Fl_a1.keep K11 (ninS ne_a1_ed nin0)
  have X_ml := X_ml.keep K11
  have Fe_ml := Fe_ml.keep K11 (ninS ne_ml_ed nin0)
  have Fs_ml := Fs_ml.keep K11 (ninS ne_ml_ed nin0)
  have Fm_ml := Fm_ml.keep K11 (ninS ne_ml_ed nin0)
  have E_l := E_l.keep K11
  have X_b0 := X_b0.keep K11
  have B_b0 := B_b0.keep K11
  have X_b1 := X_b1.keep K11
  have B_b1 := B_b1.keep K11
  show own_Go p e below C T11 (mkF m 31 #[.val (.ref a1), .val (.long q2), .second, .val (.long (fl + (1 : Int64))), .second] [(.ref b1), (.long (pl - ln0.toInt32.toInt64)), (.ref a1)])
  refine own_checkcast W11 34 d18_31 (wd132 hw) (Ins.of_exa X_b1 (wd133 hw)) rfl ?_
  intro T12 W12
  obtain ⟨ln1, lf1, V_b1⟩ := B_b1.A
  refine own_arraylength W12 ln1.toInt32 35 d18_34 V_b1 rfl rfl ?_
  refine own_i2l W12 36 d18_35 rfl ?_
  refine own_lsub W12 37 d18_36 rfl ?_
  refine own_putfield W12 (.long ((pl - ln0.toInt32.toInt64) - ln1.toInt32.toInt64)) 40 d18_37 (wd140 hw) Fp_a1 X_a1 (Or.inl (wd141 hw)) (wd60 hw) (Or.inl (List.mem_of_getElem? (i := 0) rfl)) (ty := .long) (by decide) rfl rfl rfl ?_
  intro T13 h13 W13 Wr13 Fp_a1
  have X_a1 := X_a1.wr Wr13
  have Fg_a1 := Fg_a1.other Wr13 (Or.inr (slot_ne (Or.inr (wd69 hw)) (Or.inl (wd141 hw)) (by decide) (t := (.object "java/util/List")) (t' := .long) (by decide) (by decide)))
  have Ff_a1 := Ff_a1.other Wr13 (Or.inr (slot_ne (Or.inl (wd76 hw)) (Or.inl (wd141 hw)) (by decide) (t := .long) (t' := .long) (by decide) (by decide)))
  have Fl_a1 := Fl_a1.other Wr13 (Or.inr (slot_ne (Or.inl (wd152 hw)) (Or.inl (wd141 hw)) (by decide) (t := .long) (t' := .long) (by decide) (by decide)))
  have X_ml := X_ml.wr Wr13
  have Fe_ml := Fe_ml.other Wr13 (Or.inl (Ne.symm ne_a1_ml))
  have Fs_ml := Fs_ml.other Wr13 (Or.inl (Ne.symm ne_a1_ml))
  have Fm_ml := Fm_ml.other Wr13 (Or.inl (Ne.symm ne_a1_ml))
  have E_l := E_l.wr Wr13
  have X_b0 := X_b0.wr Wr13
  have B_b0 := B_b0.wr Wr13
  have X_b1 := X_b1.wr Wr13
  have B_b1 := B_b1.wr Wr13
  have V_ed := V_ed.other Wr13 (Ne.symm ne_a1_ed)
  have hc2 := own_incQ hc1 (by omega)
  refine own_lloadN W13 41 d18_40 rfl rfl ?_
  refine own_lconst W13 (1 : Int64) 42 d18_41 rfl rfl ?_
  refine own_ladd W13 43 d18_42 rfl ?_
  refine own_lstoreN W13 44 #[.val (.ref a1), .val (.long q2), .second, .val (.long ((fl + (1 : Int64)) + (1 : Int64))), .second] d18_43 rfl rfl ?_
  refine own_goto W13 5 d18_44 (by decide) (by decide) ?_
  refine own_lloadN W13 6 d18_5 rfl rfl ?_
  refine own_lloadN W13 7 d18_6 rfl rfl ?_
  refine own_lcmp W13 8 d18_7 rfl ?_
  refine own_ifY W13 47 d18_8 ((if0 _ _).trans (flt (mt (lw_lt ((fl + (1 : Int64)) + (1 : Int64)) q2).mp ((mt (own_ltQ hc2 hq2).mp (by omega)) : ¬ (((fl + (1 : Int64)) + (1 : Int64)) < q2)))).2.1) (by decide) (by decide) ?_
  refine own_aloadN W13 48 d18_47 rfl rfl rfl ?_
  refine own_lloadN W13 49 d18_48 rfl rfl ?_
  refine own_putfield W13 (.long q2) 52 d18_49 (wd75 hw) Ff_a1 X_a1 (Or.inl (wd76 hw)) (wd60 hw) (Or.inl (List.mem_of_getElem? (i := 0) rfl)) (ty := .long) (by decide) rfl rfl rfl ?_
  intro T14 h14 W14 Wr14 Ff_a1
  have X_a1 := X_a1.wr Wr14
  have Fg_a1 := Fg_a1.other Wr14 (Or.inr (slot_ne (Or.inr (wd69 hw)) (Or.inl (wd76 hw)) (by decide) (t := (.object "java/util/List")) (t' := .long) (by decide) (by decide)))
  have Fp_a1 := Fp_a1.other Wr14 (Or.inr (slot_ne (Or.inl (wd141 hw)) (Or.inl (wd76 hw)) (by decide) (t := .long) (t' := .long) (by decide) (by decide)))
  have Fl_a1 := Fl_a1.other Wr14 (Or.inr (slot_ne (Or.inl (wd152 hw)) (Or.inl (wd76 hw)) (by decide) (t := .long) (t' := .long) (by decide) (by decide)))
  have X_ml := X_ml.wr Wr14
  have Fe_ml := Fe_ml.other Wr14 (Or.inl (Ne.symm ne_a1_ml))
  have Fs_ml := Fs_ml.other Wr14 (Or.inl (Ne.symm ne_a1_ml))
  have Fm_ml := Fm_ml.other Wr14 (Or.inl (Ne.symm ne_a1_ml))
  have E_l := E_l.wr Wr14
  have X_b0 := X_b0.wr Wr14
  have B_b0 := B_b0.wr Wr14
  have X_b1 := X_b1.wr Wr14
  have B_b1 := B_b1.wr Wr14
  have V_ed := V_ed.other Wr14 (Ne.symm ne_a1_ed)
  refine own_aloadN W14 53 d18_52 rfl rfl rfl ?_
  refine own_aloadN W14 54 d18_53 rfl rfl rfl ?_
  refine own_getfield W14 57 d18_54 (wd75 hw) Ff_a1 rfl ?_
  intro T15 W15
  refine own_callP W15 (A := [(.long q2)]) (wt := 0) (pc' := 60) (st := []) d18_57 (wd147 hw) (wd148 hw) (wd149 hw) (wd73 hw) rfl (wd61 hw) (wd150 hw) (by decide) X_a1 (own_m19 l Z a0 hw [] h14 a1 q2 fl Fl_a1) all0 rfl pd_18 rfl (Nat.le_of_eq rfl) (by decide) (by decide) (by decide) (by decide) rfl ?_
  rintro T16 h16 _ W16 K16 P16 rfl
  rw [P16 rfl rfl] at W16
  show own_Go p e below C T16 (mkF m 60 #[.val (.ref a1), .val (.long q2), .second, .val (.long ((fl + (1 : Int64)) + (1 : Int64))), .second] [(.int (q2 - fl).toInt32)])
  rw [show (q2 - fl).toInt32 = (2 : Int32) from own_slot (j := 2) hq2 hfl (by omega) (by decide) _ rfl]
  refine own_istoreN W16 61 #[.val (.ref a1), .val (.long q2), .second, .val (.int (2 : Int32)), .unset] d18_60 rfl rfl ?_
  refine own_iloadN W16 62 d18_61 rfl rfl ?_
  refine own_aloadN W16 63 d18_62 rfl rfl rfl ?_
  refine own_getfield W16 66 d18_63 (wd68 hw) Fg_a1 rfl ?_
  intro T17 W17
  refine own_callI W17 (A := []) (wt := 1) (pc' := 71) (st := [(.int (2 : Int32))]) d18_66 (wd174 hw) (wd175 hw) (wd176 hw) (by first | rfl | decide +kernel) (wd177 hw) (wd178 hw) (wd179 hw) (wd180 hw) (wd89 hw) (wd3 hw) (wd181 hw) (by decide) X_ml (own_m24 l Z a0 hw [] h14 ml (2 : Int32) Fs_ml) all0 rfl pd_17 rfl (Nat.le_of_eq rfl) (by decide) (by decide) (by decide) (by decide) rfl ?_
  rintro T18 h18 _ W18 K18 P18 rfl
  rw [P18 rfl rfl] at W18
  show own_Go p e below C T18 (mkF m 71 #[.val (.ref a1), .val (.long q2), .second, .val (.int (2 : Int32)), .unset] [(.int (2 : Int32)), (.int (2 : Int32))])
  refine own_iconst W18 (2 : Int32) 72 d18_71 rfl rfl ?_
  refine own_idiv W18 73 d18_72 (by decide) rfl ?_
  refine own_icmpN W18 76 d18_73 ((flt ((by decide) : ¬ ((2 : Int32) < ((2 : Int32) / (2 : Int32))))).1) rfl ?_
  refine own_aloadN W18 77 d18_76 rfl rfl rfl ?_
  refine own_getfield W18 80 d18_77 (wd68 hw) Fg_a1 rfl ?_
  intro T19 W19
  refine own_iconst W19 (0 : Int32) 81 d18_80 rfl rfl ?_
  refine own_iloadN W19 82 d18_81 rfl rfl ?_
  have hsH := own_le W19
  have q_a1 := X_a1.lt
  have q_ml := X_ml.lt
  have q_ed := V_ed.lt
  refine own_callI W19 (A := [(.int (0 : Int32)), (.int (2 : Int32))]) (wt := 0) (pc' := 87) (st := []) d18_82 (wd182 hw) (wd183 hw) (wd184 hw) (by first | rfl | decide +kernel) (wd185 hw) (wd186 hw) (wd187 hw) (wd188 hw) (wd89 hw) (wd3 hw) (wd189 hw) (by decide) X_ml (own_m25 l Z a0 hw [] h14 ml (2 : Int32) ed (2 : Int32) mc X_ml Fe_ml Fs_ml Fm_ml (by decide) (by decide)) all0 rfl pd_19 rfl (Nat.le_of_eq rfl) (by decide) (by decide) (by decide) (by decide) rfl ?_
  rintro T20 h20 _ W20 K20 P20 ⟨sl, rfl, o_sl, X_sl, Fu_sl, Fq_sl, Fo_sl, Fs_sl, Fm_sl⟩
  have X_a1 := X_a1.keep K20
  have Fg_a1 := Fg_a1.keep K20 nin0
  have Fp_a1 := Fp_a1.keep K20 nin0
  have Ff_a1 := Ff_a1.keep K20 nin0
  have Fl_a1 := Fl_a1.keep K20 nin0
  have X_ml := X_ml.keep K20
  have Fe_ml := Fe_ml.keep K20 nin0
  have Fs_ml := Fs_ml.keep K20 nin0
  have Fm_ml := Fm_ml.keep K20 nin0
  have E_l := E_l.keep K20
  have X_b0 := X_b0.keep K20
  have B_b0 := B_b0.keep K20
  have X_b1 := X_b1.keep K20
  have B_b1 := B_b1.keep K20
  have V_ed := V_ed.keep K20 nin0
  show own_Go p e below C T20 (mkF m 87 #[.val (.ref a1), .val (.long q2), .second, .val (.int (2 : Int32)), .unset] [(.ref sl)])
  have ne_a1_sl : a1 ≠ sl := Nat.ne_of_lt (Nat.lt_of_lt_of_le q_a1 o_sl)
  have ne_ml_sl : ml ≠ sl := Nat.ne_of_lt (Nat.lt_of_lt_of_le q_ml o_sl)
  have ne_ed_sl : ed ≠ sl := Nat.ne_of_lt (Nat.lt_of_lt_of_le q_ed o_sl)
  have os_sl : s.heap.size ≤ sl := Nat.le_trans hsH o_sl
  have E_t : own_El Z h20 (own_upd (own_upd vf 0 .null) 1 .null) 2 2 := fun j h1 h2 => by
    obtain ⟨b, e1, e2, e3⟩ := E_l j (by omega) h2
    exact ⟨b, by simp only [own_upd]; rw [if_neg (by omega), if_neg (by omega)]; exact e1, e2, e3⟩
  refine own_callI W20 (A := []) (wt := 0) (pc' := 92) (st := []) d18_87 (wd216 hw) (wd217 hw) (wd218 hw) (by first | rfl | decide +kernel) (wd219 hw) (wd220 hw) (wd221 hw) (wd222 hw) (wd223 hw) (wd11 hw) (wd224 hw) (by decide) X_sl (own_m28_22 l Z a0 hw [] h20 sl ml ed mc (own_upd (own_upd vf 0 .null) 1 .null) X_sl Fu_sl Fq_sl Fo_sl Fs_sl Fm_sl X_ml Fe_ml Fs_ml Fm_ml V_ed E_t (own_Rf.upd (own_Rf.upd hrf 0 rfl) 1 rfl) (Ne.symm ne_ml_sl) (Ne.symm ne_ed_sl) ne_ml_ed) (allS (Or.inr os_sl) (allS (Or.inl (List.mem_of_getElem? (i := 1) rfl)) (allS (Or.inl (List.mem_of_getElem? (i := 2) rfl)) all0))) rfl pd_0 rfl (Nat.le_of_eq rfl) (by decide) (by decide) (by decide) (by decide) rfl ?_
  rintro T21 h21 _ W21 K21 P21 ⟨rfl, ⟨Fe_ml, Fs_ml, Fm_ml, QA⟩⟩
  have X_a1 := X_a1.keep K21
  have Fg_a1 := Fg_a1.keep K21 (ninS ne_a1_sl (ninS ne_a1_ml (ninS ne_a1_ed nin0)))
  have Fp_a1 := Fp_a1.keep K21 (ninS ne_a1_sl (ninS ne_a1_ml (ninS ne_a1_ed nin0)))
  have Ff_a1 := Ff_a1.keep K21 (ninS ne_a1_sl (ninS ne_a1_ml (ninS ne_a1_ed nin0)))
  have Fl_a1 := Fl_a1.keep K21 (ninS ne_a1_sl (ninS ne_a1_ml (ninS ne_a1_ed nin0)))
  have X_ml := X_ml.keep K21
  have X_b0 := X_b0.keep K21
  have X_b1 := X_b1.keep K21
  have X_sl := X_sl.keep K21
  show own_Go p e below C T21 (mkF m 92 #[.val (.ref a1), .val (.long q2), .second, .val (.int (2 : Int32)), .unset] [])
  obtain ⟨vg, V_ed, hrg, E_g⟩ := QA
  refine own_aloadN W21 93 d18_92 rfl rfl rfl ?_
  refine own_aloadN W21 94 d18_93 rfl rfl rfl ?_
  refine own_getfield W21 97 d18_94 (wd75 hw) Ff_a1 rfl ?_
  intro T22 W22
  refine own_putfield W22 (.long q2) 100 d18_97 (wd151 hw) Fl_a1 X_a1 (Or.inl (wd152 hw)) (wd60 hw) (Or.inl (List.mem_of_getElem? (i := 0) rfl)) (ty := .long) (by decide) rfl rfl rfl ?_
  intro T23 h23 W23 Wr23 Fl_a1
  have X_a1 := X_a1.wr Wr23
  have Fg_a1 := Fg_a1.other Wr23 (Or.inr (slot_ne (Or.inr (wd69 hw)) (Or.inl (wd152 hw)) (by decide) (t := (.object "java/util/List")) (t' := .long) (by decide) (by decide)))
  have Fp_a1 := Fp_a1.other Wr23 (Or.inr (slot_ne (Or.inl (wd141 hw)) (Or.inl (wd152 hw)) (by decide) (t := .long) (t' := .long) (by decide) (by decide)))
  have Ff_a1 := Ff_a1.other Wr23 (Or.inr (slot_ne (Or.inl (wd76 hw)) (Or.inl (wd152 hw)) (by decide) (t := .long) (t' := .long) (by decide) (by decide)))
  have X_ml := X_ml.wr Wr23
  have X_b0 := X_b0.wr Wr23
  have X_b1 := X_b1.wr Wr23
  have X_sl := X_sl.wr Wr23
  have Fe_ml := Fe_ml.other Wr23 (Or.inl (Ne.symm ne_a1_ml))
  have Fs_ml := Fs_ml.other Wr23 (Or.inl (Ne.symm ne_a1_ml))
  have Fm_ml := Fm_ml.other Wr23 (Or.inl (Ne.symm ne_a1_ml))
  have V_ed := V_ed.other Wr23 (Ne.symm ne_a1_ed)
  have E_g := E_g.wr Wr23
  refine own_retV (Q := fun v h => v = none ∧ (∃ pl' mc' vf', own_fg Z h a1 (.ref ml) ∧ own_fp Z h a1 (.long pl') ∧ own_ff Z h a1 (.long q2) ∧ own_fl Z h a1 (.long q2) ∧ own_fe Z h ml (.ref ed) ∧ own_fs Z h ml (.int (0 : Int32)) ∧ own_fm Z h ml (.int mc') ∧ own_R Z h ed "java/lang/Object" 10 vf' ∧ own_Rf vf' ∧ own_El Z h vf' 0 0)) W23 hC (by decide) (by decide) d18_100 ?_
  exact ⟨rfl, ⟨_, _, vg, Fg_a1, Fp_a1, Ff_a1, Fl_a1, Fe_ml, Fs_ml, Fm_ml, V_ed, hrg, E_g⟩⟩
theorem ef_m18_30 (m : MethodId) (x0 : Addr) (x1 : Int64) : entryFrame m #[(.ref x0), (.long x1)] 5 = mkF m 0 #[.val (.ref x0), .val (.long x1), .second, .unset, .unset] [] := by first | (simp [entryFrame, mkF, argsToLocals, Value.category]; done) | rfl
set_option maxRecDepth 65536 in
set_option maxHeartbeats 40000000 in
theorem own_m18_30 (l : Launch) (Z : State) (a0 : Array Value) (hw : ∀ d ∈ tables_1, d.before a0 Z = true) (wo : List Jvm.Cond) (h0 : Heap) (a1 : Addr) (q2 : Int64) (ml : Addr) (ed : Addr) (pl : Int64) (fl : Int64) (mc : Int32) (vf : Nat → Value) (f0 : Nat) (X_a1 : own_xm Z h0 a1) (Fg_a1 : own_fg Z h0 a1 (.ref ml)) (Fp_a1 : own_fp Z h0 a1 (.long pl)) (Ff_a1 : own_ff Z h0 a1 (.long fl)) (Fl_a1 : own_fl Z h0 a1 (.long fl)) (X_ml : own_xl Z h0 ml) (Fe_ml : own_fe Z h0 ml (.ref ed)) (Fs_ml : own_fs Z h0 ml (.int (3 : Int32))) (Fm_ml : own_fm Z h0 ml (.int mc)) (V_ed : own_R Z h0 ed "java/lang/Object" 10 vf) (E_l : own_El Z h0 vf 0 3) (hrf : own_Rf vf) (ne_a1_ml : a1 ≠ ml) (ne_a1_ed : a1 ≠ ed) (ne_ml_ed : ml ≠ ed) (hfl : fl.toInt = (f0 : Int)) (hq2 : q2.toInt = ((f0 + 0 : Nat) : Int)) (hf0 : f0 < 10) :
    own_M l Z wo (⟨"com/example/redelivery/redelivery/engine/MemoryLog", "dropBefore", "(J)V"⟩ : MethodName) prog_7_method_4_code 5 none ({ frames := 7, cells := 1, slots := 5, locals := 140 } : Room) [a1, ml, ed] #[(.ref a1), (.long q2)] h0 (fun v h => v = none ∧ (∃ pl' mc' vf', own_fg Z h a1 (.ref ml) ∧ own_fp Z h a1 (.long pl') ∧ own_ff Z h a1 (.long q2) ∧ own_fl Z h a1 (.long q2) ∧ own_fe Z h ml (.ref ed) ∧ own_fs Z h ml (.int (3 : Int32)) ∧ own_fm Z h ml (.int mc') ∧ own_R Z h ed "java/lang/Object" 10 vf' ∧ own_Rf vf' ∧ own_El Z h vf' 0 3)) := by
  refine own_body (plainFor_of_name pn_18) (fun m => ef_m18_30 m a1 q2) ?_
  intro p e s m below meth c C hC T0 W0
  refine own_aloadN W0 1 d18_0 rfl rfl rfl ?_
  refine own_getfield W0 4 d18_1 (wd75 hw) Ff_a1 rfl ?_
  intro T1 W1
  refine own_lstoreN W1 5 #[.val (.ref a1), .val (.long q2), .second, .val (.long fl), .second] d18_4 rfl rfl ?_
  refine own_lloadN W1 6 d18_5 rfl rfl ?_
  refine own_lloadN W1 7 d18_6 rfl rfl ?_
  refine own_lcmp W1 8 d18_7 rfl ?_
  have hc0 := hfl
  refine own_ifY W1 47 d18_8 ((if0 _ _).trans (flt (mt (lw_lt fl q2).mp ((mt (own_ltQ hc0 hq2).mp (by omega)) : ¬ (fl < q2)))).2.1) (by decide) (by decide) ?_
  refine own_aloadN W1 48 d18_47 rfl rfl rfl ?_
  refine own_lloadN W1 49 d18_48 rfl rfl ?_
  refine own_putfield W1 (.long q2) 52 d18_49 (wd75 hw) Ff_a1 X_a1 (Or.inl (wd76 hw)) (wd60 hw) (Or.inl (List.mem_of_getElem? (i := 0) rfl)) (ty := .long) (by decide) rfl rfl rfl ?_
  intro T2 h2 W2 Wr2 Ff_a1
  have X_a1 := X_a1.wr Wr2
  have Fg_a1 := Fg_a1.other Wr2 (Or.inr (slot_ne (Or.inr (wd69 hw)) (Or.inl (wd76 hw)) (by decide) (t := (.object "java/util/List")) (t' := .long) (by decide) (by decide)))
  have Fp_a1 := Fp_a1.other Wr2 (Or.inr (slot_ne (Or.inl (wd141 hw)) (Or.inl (wd76 hw)) (by decide) (t := .long) (t' := .long) (by decide) (by decide)))
  have Fl_a1 := Fl_a1.other Wr2 (Or.inr (slot_ne (Or.inl (wd152 hw)) (Or.inl (wd76 hw)) (by decide) (t := .long) (t' := .long) (by decide) (by decide)))
  have X_ml := X_ml.wr Wr2
  have Fe_ml := Fe_ml.other Wr2 (Or.inl (Ne.symm ne_a1_ml))
  have Fs_ml := Fs_ml.other Wr2 (Or.inl (Ne.symm ne_a1_ml))
  have Fm_ml := Fm_ml.other Wr2 (Or.inl (Ne.symm ne_a1_ml))
  have V_ed := V_ed.other Wr2 (Ne.symm ne_a1_ed)
  have E_l := E_l.wr Wr2
  refine own_aloadN W2 53 d18_52 rfl rfl rfl ?_
  refine own_aloadN W2 54 d18_53 rfl rfl rfl ?_
  refine own_getfield W2 57 d18_54 (wd75 hw) Ff_a1 rfl ?_
  intro T3 W3
  refine own_callP W3 (A := [(.long q2)]) (wt := 0) (pc' := 60) (st := []) d18_57 (wd147 hw) (wd148 hw) (wd149 hw) (wd73 hw) rfl (wd61 hw) (wd150 hw) (by decide) X_a1 (own_m19 l Z a0 hw [] h2 a1 q2 fl Fl_a1) all0 rfl pd_18 rfl (Nat.le_of_eq rfl) (by decide) (by decide) (by decide) (by decide) rfl ?_
  rintro T4 h4 _ W4 K4 P4 rfl
  rw [P4 rfl rfl] at W4
  show own_Go p e below C T4 (mkF m 60 #[.val (.ref a1), .val (.long q2), .second, .val (.long fl), .second] [(.int (q2 - fl).toInt32)])
  rw [show (q2 - fl).toInt32 = (0 : Int32) from own_slot (j := 0) hq2 hfl (by omega) (by decide) _ rfl]
  refine own_istoreN W4 61 #[.val (.ref a1), .val (.long q2), .second, .val (.int (0 : Int32)), .unset] d18_60 rfl rfl ?_
  refine own_iloadN W4 62 d18_61 rfl rfl ?_
  refine own_aloadN W4 63 d18_62 rfl rfl rfl ?_
  refine own_getfield W4 66 d18_63 (wd68 hw) Fg_a1 rfl ?_
  intro T5 W5
  refine own_callI W5 (A := []) (wt := 1) (pc' := 71) (st := [(.int (0 : Int32))]) d18_66 (wd174 hw) (wd175 hw) (wd176 hw) (by first | rfl | decide +kernel) (wd177 hw) (wd178 hw) (wd179 hw) (wd180 hw) (wd89 hw) (wd3 hw) (wd181 hw) (by decide) X_ml (own_m24 l Z a0 hw [] h2 ml (3 : Int32) Fs_ml) all0 rfl pd_17 rfl (Nat.le_of_eq rfl) (by decide) (by decide) (by decide) (by decide) rfl ?_
  rintro T6 h6 _ W6 K6 P6 rfl
  rw [P6 rfl rfl] at W6
  show own_Go p e below C T6 (mkF m 71 #[.val (.ref a1), .val (.long q2), .second, .val (.int (0 : Int32)), .unset] [(.int (3 : Int32)), (.int (0 : Int32))])
  refine own_iconst W6 (2 : Int32) 72 d18_71 rfl rfl ?_
  refine own_idiv W6 73 d18_72 (by decide) rfl ?_
  refine own_icmpY W6 100 d18_73 ((tlt ((by decide) : (0 : Int32) < ((3 : Int32) / (2 : Int32)))).1) (by decide) (by decide) ?_
  have heq : q2 = fl := own_eqQ hq2 hfl
  refine own_retV (Q := fun v h => v = none ∧ (∃ pl' mc' vf', own_fg Z h a1 (.ref ml) ∧ own_fp Z h a1 (.long pl') ∧ own_ff Z h a1 (.long q2) ∧ own_fl Z h a1 (.long q2) ∧ own_fe Z h ml (.ref ed) ∧ own_fs Z h ml (.int (3 : Int32)) ∧ own_fm Z h ml (.int mc') ∧ own_R Z h ed "java/lang/Object" 10 vf' ∧ own_Rf vf' ∧ own_El Z h vf' 0 3)) W6 hC (by decide) (by decide) d18_100 ?_
  exact ⟨rfl, ⟨_, _, _, Fg_a1, Fp_a1, Ff_a1, (by rw [heq]; exact Fl_a1), Fe_ml, Fs_ml, Fm_ml, V_ed, hrf, E_l⟩⟩
theorem ef_m18_31 (m : MethodId) (x0 : Addr) (x1 : Int64) : entryFrame m #[(.ref x0), (.long x1)] 5 = mkF m 0 #[.val (.ref x0), .val (.long x1), .second, .unset, .unset] [] := by first | (simp [entryFrame, mkF, argsToLocals, Value.category]; done) | rfl
set_option maxRecDepth 65536 in
set_option maxHeartbeats 40000000 in
theorem own_m18_31 (l : Launch) (Z : State) (a0 : Array Value) (hw : ∀ d ∈ tables_1, d.before a0 Z = true) (wo : List Jvm.Cond) (h0 : Heap) (a1 : Addr) (q2 : Int64) (ml : Addr) (ed : Addr) (pl : Int64) (fl : Int64) (mc : Int32) (vf : Nat → Value) (f0 : Nat) (X_a1 : own_xm Z h0 a1) (Fg_a1 : own_fg Z h0 a1 (.ref ml)) (Fp_a1 : own_fp Z h0 a1 (.long pl)) (Ff_a1 : own_ff Z h0 a1 (.long fl)) (Fl_a1 : own_fl Z h0 a1 (.long fl)) (X_ml : own_xl Z h0 ml) (Fe_ml : own_fe Z h0 ml (.ref ed)) (Fs_ml : own_fs Z h0 ml (.int (3 : Int32))) (Fm_ml : own_fm Z h0 ml (.int mc)) (V_ed : own_R Z h0 ed "java/lang/Object" 10 vf) (E_l : own_El Z h0 vf 0 3) (hrf : own_Rf vf) (ne_a1_ml : a1 ≠ ml) (ne_a1_ed : a1 ≠ ed) (ne_ml_ed : ml ≠ ed) (hfl : fl.toInt = (f0 : Int)) (hq2 : q2.toInt = ((f0 + 1 : Nat) : Int)) (hf0 : f0 < 10) :
    own_M l Z wo (⟨"com/example/redelivery/redelivery/engine/MemoryLog", "dropBefore", "(J)V"⟩ : MethodName) prog_7_method_4_code 5 none ({ frames := 7, cells := 1, slots := 5, locals := 140 } : Room) [a1, ml, ed] #[(.ref a1), (.long q2)] h0 (fun v h => v = none ∧ (∃ pl' mc' vf', own_fg Z h a1 (.ref ml) ∧ own_fp Z h a1 (.long pl') ∧ own_ff Z h a1 (.long q2) ∧ own_fl Z h a1 (.long q2) ∧ own_fe Z h ml (.ref ed) ∧ own_fs Z h ml (.int (2 : Int32)) ∧ own_fm Z h ml (.int mc') ∧ own_R Z h ed "java/lang/Object" 10 vf' ∧ own_Rf vf' ∧ own_El Z h vf' 0 2)) := by
  refine own_body (plainFor_of_name pn_18) (fun m => ef_m18_31 m a1 q2) ?_
  intro p e s m below meth c C hC T0 W0
  refine own_aloadN W0 1 d18_0 rfl rfl rfl ?_
  refine own_getfield W0 4 d18_1 (wd75 hw) Ff_a1 rfl ?_
  intro T1 W1
  refine own_lstoreN W1 5 #[.val (.ref a1), .val (.long q2), .second, .val (.long fl), .second] d18_4 rfl rfl ?_
  refine own_lloadN W1 6 d18_5 rfl rfl ?_
  refine own_lloadN W1 7 d18_6 rfl rfl ?_
  refine own_lcmp W1 8 d18_7 rfl ?_
  have hc0 := hfl
  refine own_ifN W1 11 d18_8 ((if0 _ _).trans (tlt ((lw_lt fl q2).mpr (((own_ltQ hc0 hq2).mpr (by omega)) : fl < q2))).2.1) rfl ?_
  refine own_aloadN W1 12 d18_11 rfl rfl rfl ?_
  refine own_dup W1 13 d18_12 rfl rfl ?_
  refine own_getfield W1 16 d18_13 (wd140 hw) Fp_a1 rfl ?_
  intro T2 W2
  refine own_aloadN W2 17 d18_16 rfl rfl rfl ?_
  refine own_getfield W2 20 d18_17 (wd68 hw) Fg_a1 rfl ?_
  intro T3 W3
  refine own_aloadN W3 21 d18_20 rfl rfl rfl ?_
  refine own_lloadN W3 22 d18_21 rfl rfl ?_
  refine own_callP W3 (A := [(.long fl)]) (wt := 4) (pc' := 25) (st := [(.ref ml), (.long pl), (.ref a1)]) d18_22 (wd147 hw) (wd148 hw) (wd149 hw) (wd73 hw) rfl (wd61 hw) (wd150 hw) (by decide) X_a1 (own_m19 l Z a0 hw [] h0 a1 fl fl Fl_a1) all0 rfl pd_18 rfl (Nat.le_of_eq rfl) (by decide) (by decide) (by decide) (by decide) rfl ?_
  rintro T4 h4 _ W4 K4 P4 rfl
  rw [P4 rfl rfl] at W4
  show own_Go p e below C T4 (mkF m 25 #[.val (.ref a1), .val (.long q2), .second, .val (.long fl), .second] [(.int (fl - fl).toInt32), (.ref ml), (.long pl), (.ref a1)])
  rw [show (fl - fl).toInt32 = (0 : Int32) from own_slot (j := 0) hc0 hfl (by omega) (by decide) _ rfl]
  refine own_aconst_null W4 26 d18_25 rfl ?_
  obtain ⟨b0, eb0, X_b0, B_b0⟩ := E_l 0 (by omega) (by omega)
  refine own_callI W4 (A := [(.int (0 : Int32)), .null]) (wt := 3) (pc' := 31) (st := [(.long pl), (.ref a1)]) d18_26 (wd153 hw) (wd154 hw) (wd155 hw) (by first | rfl | decide +kernel) (wd156 hw) (wd157 hw) (wd158 hw) (wd159 hw) (wd89 hw) (wd3 hw) (wd160 hw) (by decide) X_ml (own_m20 l Z a0 hw [] h0 ml (0 : Int32) ed (3 : Int32) mc vf b0 0 3 X_ml Fe_ml Fs_ml Fm_ml V_ed ne_ml_ed rfl rfl (by omega) (by omega) eb0) (allS (Or.inl (List.mem_of_getElem? (i := 2) rfl)) all0) rfl pd_20 rfl (Nat.le_of_eq rfl) (by decide) (by decide) (by decide) (by decide) rfl ?_
  rintro T5 h5 _ W5 K5 P5 ⟨rfl, V_ed⟩
  have X_a1 := X_a1.keep K5
  have Fg_a1 := Fg_a1.keep K5 (ninS ne_a1_ed nin0)
  have Fp_a1 := Fp_a1.keep K5 (ninS ne_a1_ed nin0)
  have Ff_a1 := Ff_a1.keep K5 (ninS ne_a1_ed nin0)
  have Fl_a1 := Fl_a1.keep K5 (ninS ne_a1_ed nin0)
  have X_ml := X_ml.keep K5
  have Fe_ml := Fe_ml.keep K5 (ninS ne_ml_ed nin0)
  have Fs_ml := Fs_ml.keep K5 (ninS ne_ml_ed nin0)
  have Fm_ml := Fm_ml.keep K5 (ninS ne_ml_ed nin0)
  have E_l := E_l.keep K5
  have X_b0 := X_b0.keep K5
  have B_b0 := B_b0.keep K5
  show own_Go p e below C T5 (mkF m 31 #[.val (.ref a1), .val (.long q2), .second, .val (.long fl), .second] [(.ref b0), (.long pl), (.ref a1)])
  refine own_checkcast W5 34 d18_31 (wd132 hw) (Ins.of_exa X_b0 (wd133 hw)) rfl ?_
  intro T6 W6
  obtain ⟨ln0, lf0, V_b0⟩ := B_b0.A
  refine own_arraylength W6 ln0.toInt32 35 d18_34 V_b0 rfl rfl ?_
  refine own_i2l W6 36 d18_35 rfl ?_
  refine own_lsub W6 37 d18_36 rfl ?_
  refine own_putfield W6 (.long (pl - ln0.toInt32.toInt64)) 40 d18_37 (wd140 hw) Fp_a1 X_a1 (Or.inl (wd141 hw)) (wd60 hw) (Or.inl (List.mem_of_getElem? (i := 0) rfl)) (ty := .long) (by decide) rfl rfl rfl ?_
  intro T7 h7 W7 Wr7 Fp_a1
  have X_a1 := X_a1.wr Wr7
  have Fg_a1 := Fg_a1.other Wr7 (Or.inr (slot_ne (Or.inr (wd69 hw)) (Or.inl (wd141 hw)) (by decide) (t := (.object "java/util/List")) (t' := .long) (by decide) (by decide)))
  have Ff_a1 := Ff_a1.other Wr7 (Or.inr (slot_ne (Or.inl (wd76 hw)) (Or.inl (wd141 hw)) (by decide) (t := .long) (t' := .long) (by decide) (by decide)))
  have Fl_a1 := Fl_a1.other Wr7 (Or.inr (slot_ne (Or.inl (wd152 hw)) (Or.inl (wd141 hw)) (by decide) (t := .long) (t' := .long) (by decide) (by decide)))
  have X_ml := X_ml.wr Wr7
  have Fe_ml := Fe_ml.other Wr7 (Or.inl (Ne.symm ne_a1_ml))
  have Fs_ml := Fs_ml.other Wr7 (Or.inl (Ne.symm ne_a1_ml))
  have Fm_ml := Fm_ml.other Wr7 (Or.inl (Ne.symm ne_a1_ml))
  have E_l := E_l.wr Wr7
  have X_b0 := X_b0.wr Wr7
  have B_b0 := B_b0.wr Wr7
  have V_ed := V_ed.other Wr7 (Ne.symm ne_a1_ed)
  have hc1 := own_incQ hc0 (by omega)
  refine own_lloadN W7 41 d18_40 rfl rfl ?_
  refine own_lconst W7 (1 : Int64) 42 d18_41 rfl rfl ?_
  refine own_ladd W7 43 d18_42 rfl ?_
  refine own_lstoreN W7 44 #[.val (.ref a1), .val (.long q2), .second, .val (.long (fl + (1 : Int64))), .second] d18_43 rfl rfl ?_
  refine own_goto W7 5 d18_44 (by decide) (by decide) ?_
  refine own_lloadN W7 6 d18_5 rfl rfl ?_
  refine own_lloadN W7 7 d18_6 rfl rfl ?_
  refine own_lcmp W7 8 d18_7 rfl ?_
  refine own_ifY W7 47 d18_8 ((if0 _ _).trans (flt (mt (lw_lt (fl + (1 : Int64)) q2).mp ((mt (own_ltQ hc1 hq2).mp (by omega)) : ¬ ((fl + (1 : Int64)) < q2)))).2.1) (by decide) (by decide) ?_
  refine own_aloadN W7 48 d18_47 rfl rfl rfl ?_
  refine own_lloadN W7 49 d18_48 rfl rfl ?_
  refine own_putfield W7 (.long q2) 52 d18_49 (wd75 hw) Ff_a1 X_a1 (Or.inl (wd76 hw)) (wd60 hw) (Or.inl (List.mem_of_getElem? (i := 0) rfl)) (ty := .long) (by decide) rfl rfl rfl ?_
  intro T8 h8 W8 Wr8 Ff_a1
  have X_a1 := X_a1.wr Wr8
  have Fg_a1 := Fg_a1.other Wr8 (Or.inr (slot_ne (Or.inr (wd69 hw)) (Or.inl (wd76 hw)) (by decide) (t := (.object "java/util/List")) (t' := .long) (by decide) (by decide)))
  have Fp_a1 := Fp_a1.other Wr8 (Or.inr (slot_ne (Or.inl (wd141 hw)) (Or.inl (wd76 hw)) (by decide) (t := .long) (t' := .long) (by decide) (by decide)))
  have Fl_a1 := Fl_a1.other Wr8 (Or.inr (slot_ne (Or.inl (wd152 hw)) (Or.inl (wd76 hw)) (by decide) (t := .long) (t' := .long) (by decide) (by decide)))
  have X_ml := X_ml.wr Wr8
  have Fe_ml := Fe_ml.other Wr8 (Or.inl (Ne.symm ne_a1_ml))
  have Fs_ml := Fs_ml.other Wr8 (Or.inl (Ne.symm ne_a1_ml))
  have Fm_ml := Fm_ml.other Wr8 (Or.inl (Ne.symm ne_a1_ml))
  have E_l := E_l.wr Wr8
  have X_b0 := X_b0.wr Wr8
  have B_b0 := B_b0.wr Wr8
  have V_ed := V_ed.other Wr8 (Ne.symm ne_a1_ed)
  refine own_aloadN W8 53 d18_52 rfl rfl rfl ?_
  refine own_aloadN W8 54 d18_53 rfl rfl rfl ?_
  refine own_getfield W8 57 d18_54 (wd75 hw) Ff_a1 rfl ?_
  intro T9 W9
  refine own_callP W9 (A := [(.long q2)]) (wt := 0) (pc' := 60) (st := []) d18_57 (wd147 hw) (wd148 hw) (wd149 hw) (wd73 hw) rfl (wd61 hw) (wd150 hw) (by decide) X_a1 (own_m19 l Z a0 hw [] h8 a1 q2 fl Fl_a1) all0 rfl pd_18 rfl (Nat.le_of_eq rfl) (by decide) (by decide) (by decide) (by decide) rfl ?_
  rintro T10 h10 _ W10 K10 P10 rfl
  rw [P10 rfl rfl] at W10
  show own_Go p e below C T10 (mkF m 60 #[.val (.ref a1), .val (.long q2), .second, .val (.long (fl + (1 : Int64))), .second] [(.int (q2 - fl).toInt32)])
  rw [show (q2 - fl).toInt32 = (1 : Int32) from own_slot (j := 1) hq2 hfl (by omega) (by decide) _ rfl]
  refine own_istoreN W10 61 #[.val (.ref a1), .val (.long q2), .second, .val (.int (1 : Int32)), .unset] d18_60 rfl rfl ?_
  refine own_iloadN W10 62 d18_61 rfl rfl ?_
  refine own_aloadN W10 63 d18_62 rfl rfl rfl ?_
  refine own_getfield W10 66 d18_63 (wd68 hw) Fg_a1 rfl ?_
  intro T11 W11
  refine own_callI W11 (A := []) (wt := 1) (pc' := 71) (st := [(.int (1 : Int32))]) d18_66 (wd174 hw) (wd175 hw) (wd176 hw) (by first | rfl | decide +kernel) (wd177 hw) (wd178 hw) (wd179 hw) (wd180 hw) (wd89 hw) (wd3 hw) (wd181 hw) (by decide) X_ml (own_m24 l Z a0 hw [] h8 ml (3 : Int32) Fs_ml) all0 rfl pd_17 rfl (Nat.le_of_eq rfl) (by decide) (by decide) (by decide) (by decide) rfl ?_
  rintro T12 h12 _ W12 K12 P12 rfl
  rw [P12 rfl rfl] at W12
  show own_Go p e below C T12 (mkF m 71 #[.val (.ref a1), .val (.long q2), .second, .val (.int (1 : Int32)), .unset] [(.int (3 : Int32)), (.int (1 : Int32))])
  refine own_iconst W12 (2 : Int32) 72 d18_71 rfl rfl ?_
  refine own_idiv W12 73 d18_72 (by decide) rfl ?_
  refine own_icmpN W12 76 d18_73 ((flt ((by decide) : ¬ ((1 : Int32) < ((3 : Int32) / (2 : Int32))))).1) rfl ?_
  refine own_aloadN W12 77 d18_76 rfl rfl rfl ?_
  refine own_getfield W12 80 d18_77 (wd68 hw) Fg_a1 rfl ?_
  intro T13 W13
  refine own_iconst W13 (0 : Int32) 81 d18_80 rfl rfl ?_
  refine own_iloadN W13 82 d18_81 rfl rfl ?_
  have hsH := own_le W13
  have q_a1 := X_a1.lt
  have q_ml := X_ml.lt
  have q_ed := V_ed.lt
  refine own_callI W13 (A := [(.int (0 : Int32)), (.int (1 : Int32))]) (wt := 0) (pc' := 87) (st := []) d18_82 (wd182 hw) (wd183 hw) (wd184 hw) (by first | rfl | decide +kernel) (wd185 hw) (wd186 hw) (wd187 hw) (wd188 hw) (wd89 hw) (wd3 hw) (wd189 hw) (by decide) X_ml (own_m25 l Z a0 hw [] h8 ml (1 : Int32) ed (3 : Int32) mc X_ml Fe_ml Fs_ml Fm_ml (by decide) (by decide)) all0 rfl pd_19 rfl (Nat.le_of_eq rfl) (by decide) (by decide) (by decide) (by decide) rfl ?_
  rintro T14 h14 _ W14 K14 P14 ⟨sl, rfl, o_sl, X_sl, Fu_sl, Fq_sl, Fo_sl, Fs_sl, Fm_sl⟩
  have X_a1 := X_a1.keep K14
  have Fg_a1 := Fg_a1.keep K14 nin0
  have Fp_a1 := Fp_a1.keep K14 nin0
  have Ff_a1 := Ff_a1.keep K14 nin0
  have Fl_a1 := Fl_a1.keep K14 nin0
  have X_ml := X_ml.keep K14
  have Fe_ml := Fe_ml.keep K14 nin0
  have Fs_ml := Fs_ml.keep K14 nin0
  have Fm_ml := Fm_ml.keep K14 nin0
  have E_l := E_l.keep K14
  have X_b0 := X_b0.keep K14
  have B_b0 := B_b0.keep K14
  have V_ed := V_ed.keep K14 nin0
  show own_Go p e below C T14 (mkF m 87 #[.val (.ref a1), .val (.long q2), .second, .val (.int (1 : Int32)), .unset] [(.ref sl)])
  have ne_a1_sl : a1 ≠ sl := Nat.ne_of_lt (Nat.lt_of_lt_of_le q_a1 o_sl)
  have ne_ml_sl : ml ≠ sl := Nat.ne_of_lt (Nat.lt_of_lt_of_le q_ml o_sl)
  have ne_ed_sl : ed ≠ sl := Nat.ne_of_lt (Nat.lt_of_lt_of_le q_ed o_sl)
  have os_sl : s.heap.size ≤ sl := Nat.le_trans hsH o_sl
  have E_t : own_El Z h14 (own_upd vf 0 .null) 1 3 := fun j h1 h2 => by
    obtain ⟨b, e1, e2, e3⟩ := E_l j (by omega) h2
    exact ⟨b, by simp only [own_upd]; rw [if_neg (by omega)]; exact e1, e2, e3⟩
  refine own_callI W14 (A := []) (wt := 0) (pc' := 92) (st := []) d18_87 (wd216 hw) (wd217 hw) (wd218 hw) (by first | rfl | decide +kernel) (wd219 hw) (wd220 hw) (wd221 hw) (wd222 hw) (wd223 hw) (wd11 hw) (wd224 hw) (by decide) X_sl (own_m28_31 l Z a0 hw [] h14 sl ml ed mc (own_upd vf 0 .null) X_sl Fu_sl Fq_sl Fo_sl Fs_sl Fm_sl X_ml Fe_ml Fs_ml Fm_ml V_ed E_t (own_Rf.upd hrf 0 rfl) (Ne.symm ne_ml_sl) (Ne.symm ne_ed_sl) ne_ml_ed) (allS (Or.inr os_sl) (allS (Or.inl (List.mem_of_getElem? (i := 1) rfl)) (allS (Or.inl (List.mem_of_getElem? (i := 2) rfl)) all0))) rfl pd_0 rfl (Nat.le_of_eq rfl) (by decide) (by decide) (by decide) (by decide) rfl ?_
  rintro T15 h15 _ W15 K15 P15 ⟨rfl, ⟨Fe_ml, Fs_ml, Fm_ml, QA⟩⟩
  have X_a1 := X_a1.keep K15
  have Fg_a1 := Fg_a1.keep K15 (ninS ne_a1_sl (ninS ne_a1_ml (ninS ne_a1_ed nin0)))
  have Fp_a1 := Fp_a1.keep K15 (ninS ne_a1_sl (ninS ne_a1_ml (ninS ne_a1_ed nin0)))
  have Ff_a1 := Ff_a1.keep K15 (ninS ne_a1_sl (ninS ne_a1_ml (ninS ne_a1_ed nin0)))
  have Fl_a1 := Fl_a1.keep K15 (ninS ne_a1_sl (ninS ne_a1_ml (ninS ne_a1_ed nin0)))
  have X_ml := X_ml.keep K15
  have X_b0 := X_b0.keep K15
  have X_sl := X_sl.keep K15
  show own_Go p e below C T15 (mkF m 92 #[.val (.ref a1), .val (.long q2), .second, .val (.int (1 : Int32)), .unset] [])
  obtain ⟨vg, V_ed, hrg, E_g⟩ := QA
  refine own_aloadN W15 93 d18_92 rfl rfl rfl ?_
  refine own_aloadN W15 94 d18_93 rfl rfl rfl ?_
  refine own_getfield W15 97 d18_94 (wd75 hw) Ff_a1 rfl ?_
  intro T16 W16
  refine own_putfield W16 (.long q2) 100 d18_97 (wd151 hw) Fl_a1 X_a1 (Or.inl (wd152 hw)) (wd60 hw) (Or.inl (List.mem_of_getElem? (i := 0) rfl)) (ty := .long) (by decide) rfl rfl rfl ?_
  intro T17 h17 W17 Wr17 Fl_a1
  have X_a1 := X_a1.wr Wr17
  have Fg_a1 := Fg_a1.other Wr17 (Or.inr (slot_ne (Or.inr (wd69 hw)) (Or.inl (wd152 hw)) (by decide) (t := (.object "java/util/List")) (t' := .long) (by decide) (by decide)))
  have Fp_a1 := Fp_a1.other Wr17 (Or.inr (slot_ne (Or.inl (wd141 hw)) (Or.inl (wd152 hw)) (by decide) (t := .long) (t' := .long) (by decide) (by decide)))
  have Ff_a1 := Ff_a1.other Wr17 (Or.inr (slot_ne (Or.inl (wd76 hw)) (Or.inl (wd152 hw)) (by decide) (t := .long) (t' := .long) (by decide) (by decide)))
  have X_ml := X_ml.wr Wr17
  have X_b0 := X_b0.wr Wr17
  have X_sl := X_sl.wr Wr17
  have Fe_ml := Fe_ml.other Wr17 (Or.inl (Ne.symm ne_a1_ml))
  have Fs_ml := Fs_ml.other Wr17 (Or.inl (Ne.symm ne_a1_ml))
  have Fm_ml := Fm_ml.other Wr17 (Or.inl (Ne.symm ne_a1_ml))
  have V_ed := V_ed.other Wr17 (Ne.symm ne_a1_ed)
  have E_g := E_g.wr Wr17
  refine own_retV (Q := fun v h => v = none ∧ (∃ pl' mc' vf', own_fg Z h a1 (.ref ml) ∧ own_fp Z h a1 (.long pl') ∧ own_ff Z h a1 (.long q2) ∧ own_fl Z h a1 (.long q2) ∧ own_fe Z h ml (.ref ed) ∧ own_fs Z h ml (.int (2 : Int32)) ∧ own_fm Z h ml (.int mc') ∧ own_R Z h ed "java/lang/Object" 10 vf' ∧ own_Rf vf' ∧ own_El Z h vf' 0 2)) W17 hC (by decide) (by decide) d18_100 ?_
  exact ⟨rfl, ⟨_, _, vg, Fg_a1, Fp_a1, Ff_a1, Fl_a1, Fe_ml, Fs_ml, Fm_ml, V_ed, hrg, E_g⟩⟩
theorem ef_m18_32 (m : MethodId) (x0 : Addr) (x1 : Int64) : entryFrame m #[(.ref x0), (.long x1)] 5 = mkF m 0 #[.val (.ref x0), .val (.long x1), .second, .unset, .unset] [] := by first | (simp [entryFrame, mkF, argsToLocals, Value.category]; done) | rfl
set_option maxRecDepth 65536 in
set_option maxHeartbeats 40000000 in
theorem own_m18_32 (l : Launch) (Z : State) (a0 : Array Value) (hw : ∀ d ∈ tables_1, d.before a0 Z = true) (wo : List Jvm.Cond) (h0 : Heap) (a1 : Addr) (q2 : Int64) (ml : Addr) (ed : Addr) (pl : Int64) (fl : Int64) (mc : Int32) (vf : Nat → Value) (f0 : Nat) (X_a1 : own_xm Z h0 a1) (Fg_a1 : own_fg Z h0 a1 (.ref ml)) (Fp_a1 : own_fp Z h0 a1 (.long pl)) (Ff_a1 : own_ff Z h0 a1 (.long fl)) (Fl_a1 : own_fl Z h0 a1 (.long fl)) (X_ml : own_xl Z h0 ml) (Fe_ml : own_fe Z h0 ml (.ref ed)) (Fs_ml : own_fs Z h0 ml (.int (3 : Int32))) (Fm_ml : own_fm Z h0 ml (.int mc)) (V_ed : own_R Z h0 ed "java/lang/Object" 10 vf) (E_l : own_El Z h0 vf 0 3) (hrf : own_Rf vf) (ne_a1_ml : a1 ≠ ml) (ne_a1_ed : a1 ≠ ed) (ne_ml_ed : ml ≠ ed) (hfl : fl.toInt = (f0 : Int)) (hq2 : q2.toInt = ((f0 + 2 : Nat) : Int)) (hf0 : f0 < 10) :
    own_M l Z wo (⟨"com/example/redelivery/redelivery/engine/MemoryLog", "dropBefore", "(J)V"⟩ : MethodName) prog_7_method_4_code 5 none ({ frames := 7, cells := 1, slots := 5, locals := 140 } : Room) [a1, ml, ed] #[(.ref a1), (.long q2)] h0 (fun v h => v = none ∧ (∃ pl' mc' vf', own_fg Z h a1 (.ref ml) ∧ own_fp Z h a1 (.long pl') ∧ own_ff Z h a1 (.long q2) ∧ own_fl Z h a1 (.long q2) ∧ own_fe Z h ml (.ref ed) ∧ own_fs Z h ml (.int (1 : Int32)) ∧ own_fm Z h ml (.int mc') ∧ own_R Z h ed "java/lang/Object" 10 vf' ∧ own_Rf vf' ∧ own_El Z h vf' 0 1)) := by
  refine own_body (plainFor_of_name pn_18) (fun m => ef_m18_32 m a1 q2) ?_
  intro p e s m below meth c C hC T0 W0
  refine own_aloadN W0 1 d18_0 rfl rfl rfl ?_
  refine own_getfield W0 4 d18_1 (wd75 hw) Ff_a1 rfl ?_
  intro T1 W1
  refine own_lstoreN W1 5 #[.val (.ref a1), .val (.long q2), .second, .val (.long fl), .second] d18_4 rfl rfl ?_
  refine own_lloadN W1 6 d18_5 rfl rfl ?_
  refine own_lloadN W1 7 d18_6 rfl rfl ?_
  refine own_lcmp W1 8 d18_7 rfl ?_
  have hc0 := hfl
  refine own_ifN W1 11 d18_8 ((if0 _ _).trans (tlt ((lw_lt fl q2).mpr (((own_ltQ hc0 hq2).mpr (by omega)) : fl < q2))).2.1) rfl ?_
  refine own_aloadN W1 12 d18_11 rfl rfl rfl ?_
  refine own_dup W1 13 d18_12 rfl rfl ?_
  refine own_getfield W1 16 d18_13 (wd140 hw) Fp_a1 rfl ?_
  intro T2 W2
  refine own_aloadN W2 17 d18_16 rfl rfl rfl ?_
  refine own_getfield W2 20 d18_17 (wd68 hw) Fg_a1 rfl ?_
  intro T3 W3
  refine own_aloadN W3 21 d18_20 rfl rfl rfl ?_
  refine own_lloadN W3 22 d18_21 rfl rfl ?_
  refine own_callP W3 (A := [(.long fl)]) (wt := 4) (pc' := 25) (st := [(.ref ml), (.long pl), (.ref a1)]) d18_22 (wd147 hw) (wd148 hw) (wd149 hw) (wd73 hw) rfl (wd61 hw) (wd150 hw) (by decide) X_a1 (own_m19 l Z a0 hw [] h0 a1 fl fl Fl_a1) all0 rfl pd_18 rfl (Nat.le_of_eq rfl) (by decide) (by decide) (by decide) (by decide) rfl ?_
  rintro T4 h4 _ W4 K4 P4 rfl
  rw [P4 rfl rfl] at W4
  show own_Go p e below C T4 (mkF m 25 #[.val (.ref a1), .val (.long q2), .second, .val (.long fl), .second] [(.int (fl - fl).toInt32), (.ref ml), (.long pl), (.ref a1)])
  rw [show (fl - fl).toInt32 = (0 : Int32) from own_slot (j := 0) hc0 hfl (by omega) (by decide) _ rfl]
  refine own_aconst_null W4 26 d18_25 rfl ?_
  obtain ⟨b0, eb0, X_b0, B_b0⟩ := E_l 0 (by omega) (by omega)
  refine own_callI W4 (A := [(.int (0 : Int32)), .null]) (wt := 3) (pc' := 31) (st := [(.long pl), (.ref a1)]) d18_26 (wd153 hw) (wd154 hw) (wd155 hw) (by first | rfl | decide +kernel) (wd156 hw) (wd157 hw) (wd158 hw) (wd159 hw) (wd89 hw) (wd3 hw) (wd160 hw) (by decide) X_ml (own_m20 l Z a0 hw [] h0 ml (0 : Int32) ed (3 : Int32) mc vf b0 0 3 X_ml Fe_ml Fs_ml Fm_ml V_ed ne_ml_ed rfl rfl (by omega) (by omega) eb0) (allS (Or.inl (List.mem_of_getElem? (i := 2) rfl)) all0) rfl pd_20 rfl (Nat.le_of_eq rfl) (by decide) (by decide) (by decide) (by decide) rfl ?_
  rintro T5 h5 _ W5 K5 P5 ⟨rfl, V_ed⟩
  have X_a1 := X_a1.keep K5
  have Fg_a1 := Fg_a1.keep K5 (ninS ne_a1_ed nin0)
  have Fp_a1 := Fp_a1.keep K5 (ninS ne_a1_ed nin0)
  have Ff_a1 := Ff_a1.keep K5 (ninS ne_a1_ed nin0)
  have Fl_a1 := Fl_a1.keep K5 (ninS ne_a1_ed nin0)
  have X_ml := X_ml.keep K5
  have Fe_ml := Fe_ml.keep K5 (ninS ne_ml_ed nin0)
  have Fs_ml := Fs_ml.keep K5 (ninS ne_ml_ed nin0)
  have Fm_ml := Fm_ml.keep K5 (ninS ne_ml_ed nin0)
  have E_l := E_l.keep K5
  have X_b0 := X_b0.keep K5
  have B_b0 := B_b0.keep K5
  show own_Go p e below C T5 (mkF m 31 #[.val (.ref a1), .val (.long q2), .second, .val (.long fl), .second] [(.ref b0), (.long pl), (.ref a1)])
  refine own_checkcast W5 34 d18_31 (wd132 hw) (Ins.of_exa X_b0 (wd133 hw)) rfl ?_
  intro T6 W6
  obtain ⟨ln0, lf0, V_b0⟩ := B_b0.A
  refine own_arraylength W6 ln0.toInt32 35 d18_34 V_b0 rfl rfl ?_
  refine own_i2l W6 36 d18_35 rfl ?_
  refine own_lsub W6 37 d18_36 rfl ?_
  refine own_putfield W6 (.long (pl - ln0.toInt32.toInt64)) 40 d18_37 (wd140 hw) Fp_a1 X_a1 (Or.inl (wd141 hw)) (wd60 hw) (Or.inl (List.mem_of_getElem? (i := 0) rfl)) (ty := .long) (by decide) rfl rfl rfl ?_
  intro T7 h7 W7 Wr7 Fp_a1
  have X_a1 := X_a1.wr Wr7
  have Fg_a1 := Fg_a1.other Wr7 (Or.inr (slot_ne (Or.inr (wd69 hw)) (Or.inl (wd141 hw)) (by decide) (t := (.object "java/util/List")) (t' := .long) (by decide) (by decide)))
  have Ff_a1 := Ff_a1.other Wr7 (Or.inr (slot_ne (Or.inl (wd76 hw)) (Or.inl (wd141 hw)) (by decide) (t := .long) (t' := .long) (by decide) (by decide)))
  have Fl_a1 := Fl_a1.other Wr7 (Or.inr (slot_ne (Or.inl (wd152 hw)) (Or.inl (wd141 hw)) (by decide) (t := .long) (t' := .long) (by decide) (by decide)))
  have X_ml := X_ml.wr Wr7
  have Fe_ml := Fe_ml.other Wr7 (Or.inl (Ne.symm ne_a1_ml))
  have Fs_ml := Fs_ml.other Wr7 (Or.inl (Ne.symm ne_a1_ml))
  have Fm_ml := Fm_ml.other Wr7 (Or.inl (Ne.symm ne_a1_ml))
  have E_l := E_l.wr Wr7
  have X_b0 := X_b0.wr Wr7
  have B_b0 := B_b0.wr Wr7
  have V_ed := V_ed.other Wr7 (Ne.symm ne_a1_ed)
  have hc1 := own_incQ hc0 (by omega)
  refine own_lloadN W7 41 d18_40 rfl rfl ?_
  refine own_lconst W7 (1 : Int64) 42 d18_41 rfl rfl ?_
  refine own_ladd W7 43 d18_42 rfl ?_
  refine own_lstoreN W7 44 #[.val (.ref a1), .val (.long q2), .second, .val (.long (fl + (1 : Int64))), .second] d18_43 rfl rfl ?_
  refine own_goto W7 5 d18_44 (by decide) (by decide) ?_
  refine own_lloadN W7 6 d18_5 rfl rfl ?_
  refine own_lloadN W7 7 d18_6 rfl rfl ?_
  refine own_lcmp W7 8 d18_7 rfl ?_
  refine own_ifN W7 11 d18_8 ((if0 _ _).trans (tlt ((lw_lt (fl + (1 : Int64)) q2).mpr (((own_ltQ hc1 hq2).mpr (by omega)) : (fl + (1 : Int64)) < q2))).2.1) rfl ?_
  refine own_aloadN W7 12 d18_11 rfl rfl rfl ?_
  refine own_dup W7 13 d18_12 rfl rfl ?_
  refine own_getfield W7 16 d18_13 (wd140 hw) Fp_a1 rfl ?_
  intro T8 W8
  refine own_aloadN W8 17 d18_16 rfl rfl rfl ?_
  refine own_getfield W8 20 d18_17 (wd68 hw) Fg_a1 rfl ?_
  intro T9 W9
  refine own_aloadN W9 21 d18_20 rfl rfl rfl ?_
  refine own_lloadN W9 22 d18_21 rfl rfl ?_
  refine own_callP W9 (A := [(.long (fl + (1 : Int64)))]) (wt := 4) (pc' := 25) (st := [(.ref ml), (.long (pl - ln0.toInt32.toInt64)), (.ref a1)]) d18_22 (wd147 hw) (wd148 hw) (wd149 hw) (wd73 hw) rfl (wd61 hw) (wd150 hw) (by decide) X_a1 (own_m19 l Z a0 hw [] h7 a1 (fl + (1 : Int64)) fl Fl_a1) all0 rfl pd_18 rfl (Nat.le_of_eq rfl) (by decide) (by decide) (by decide) (by decide) rfl ?_
  rintro T10 h10 _ W10 K10 P10 rfl
  rw [P10 rfl rfl] at W10
  show own_Go p e below C T10 (mkF m 25 #[.val (.ref a1), .val (.long q2), .second, .val (.long (fl + (1 : Int64))), .second] [(.int ((fl + (1 : Int64)) - fl).toInt32), (.ref ml), (.long (pl - ln0.toInt32.toInt64)), (.ref a1)])
  rw [show ((fl + (1 : Int64)) - fl).toInt32 = (1 : Int32) from own_slot (j := 1) hc1 hfl (by omega) (by decide) _ rfl]
  refine own_aconst_null W10 26 d18_25 rfl ?_
  obtain ⟨b1, eb1, X_b1, B_b1⟩ := E_l 1 (by omega) (by omega)
  refine own_callI W10 (A := [(.int (1 : Int32)), .null]) (wt := 3) (pc' := 31) (st := [(.long (pl - ln0.toInt32.toInt64)), (.ref a1)]) d18_26 (wd153 hw) (wd154 hw) (wd155 hw) (by first | rfl | decide +kernel) (wd156 hw) (wd157 hw) (wd158 hw) (wd159 hw) (wd89 hw) (wd3 hw) (wd160 hw) (by decide) X_ml (own_m20 l Z a0 hw [] h7 ml (1 : Int32) ed (3 : Int32) mc (own_upd vf 0 .null) b1 1 3 X_ml Fe_ml Fs_ml Fm_ml V_ed ne_ml_ed rfl rfl (by omega) (by omega) eb1) (allS (Or.inl (List.mem_of_getElem? (i := 2) rfl)) all0) rfl pd_20 rfl (Nat.le_of_eq rfl) (by decide) (by decide) (by decide) (by decide) rfl ?_
  rintro T11 h11 _ W11 K11 P11 ⟨rfl, V_ed⟩
  have X_a1 := X_a1.keep K11
  have Fg_a1 := Fg_a1.keep K11 (ninS ne_a1_ed nin0)
  have Fp_a1 := Fp_a1.keep K11 (ninS ne_a1_ed nin0)
  have Ff_a1 := Ff_a1.keep K11 (ninS ne_a1_ed nin0)
  have Fl_a1 := Fl_a1.keep K11 (ninS ne_a1_ed nin0)
  have X_ml := X_ml.keep K11
  have Fe_ml := Fe_ml.keep K11 (ninS ne_ml_ed nin0)
  have Fs_ml := Fs_ml.keep K11 (ninS ne_ml_ed nin0)
  have Fm_ml := Fm_ml.keep K11 (ninS ne_ml_ed nin0)
  have E_l := E_l.keep K11
  have X_b0 := X_b0.keep K11
  have B_b0 := B_b0.keep K11
  have X_b1 := X_b1.keep K11
  have B_b1 := B_b1.keep K11
  show own_Go p e below C T11 (mkF m 31 #[.val (.ref a1), .val (.long q2), .second, .val (.long (fl + (1 : Int64))), .second] [(.ref b1), (.long (pl - ln0.toInt32.toInt64)), (.ref a1)])
  refine own_checkcast W11 34 d18_31 (wd132 hw) (Ins.of_exa X_b1 (wd133 hw)) rfl ?_
  intro T12 W12
  obtain ⟨ln1, lf1, V_b1⟩ := B_b1.A
  refine own_arraylength W12 ln1.toInt32 35 d18_34 V_b1 rfl rfl ?_
  refine own_i2l W12 36 d18_35 rfl ?_
  refine own_lsub W12 37 d18_36 rfl ?_
  refine own_putfield W12 (.long ((pl - ln0.toInt32.toInt64) - ln1.toInt32.toInt64)) 40 d18_37 (wd140 hw) Fp_a1 X_a1 (Or.inl (wd141 hw)) (wd60 hw) (Or.inl (List.mem_of_getElem? (i := 0) rfl)) (ty := .long) (by decide) rfl rfl rfl ?_
  intro T13 h13 W13 Wr13 Fp_a1
  have X_a1 := X_a1.wr Wr13
  have Fg_a1 := Fg_a1.other Wr13 (Or.inr (slot_ne (Or.inr (wd69 hw)) (Or.inl (wd141 hw)) (by decide) (t := (.object "java/util/List")) (t' := .long) (by decide) (by decide)))
  have Ff_a1 := Ff_a1.other Wr13 (Or.inr (slot_ne (Or.inl (wd76 hw)) (Or.inl (wd141 hw)) (by decide) (t := .long) (t' := .long) (by decide) (by decide)))
  have Fl_a1 := Fl_a1.other Wr13 (Or.inr (slot_ne (Or.inl (wd152 hw)) (Or.inl (wd141 hw)) (by decide) (t := .long) (t' := .long) (by decide) (by decide)))
  have X_ml := X_ml.wr Wr13
  have Fe_ml := Fe_ml.other Wr13 (Or.inl (Ne.symm ne_a1_ml))
  have Fs_ml := Fs_ml.other Wr13 (Or.inl (Ne.symm ne_a1_ml))
  have Fm_ml := Fm_ml.other Wr13 (Or.inl (Ne.symm ne_a1_ml))
  have E_l := E_l.wr Wr13
  have X_b0 := X_b0.wr Wr13
  have B_b0 := B_b0.wr Wr13
  have X_b1 := X_b1.wr Wr13
  have B_b1 := B_b1.wr Wr13
  have V_ed := V_ed.other Wr13 (Ne.symm ne_a1_ed)
  have hc2 := own_incQ hc1 (by omega)
  refine own_lloadN W13 41 d18_40 rfl rfl ?_
  refine own_lconst W13 (1 : Int64) 42 d18_41 rfl rfl ?_
  refine own_ladd W13 43 d18_42 rfl ?_
  refine own_lstoreN W13 44 #[.val (.ref a1), .val (.long q2), .second, .val (.long ((fl + (1 : Int64)) + (1 : Int64))), .second] d18_43 rfl rfl ?_
  refine own_goto W13 5 d18_44 (by decide) (by decide) ?_
  refine own_lloadN W13 6 d18_5 rfl rfl ?_
  refine own_lloadN W13 7 d18_6 rfl rfl ?_
  refine own_lcmp W13 8 d18_7 rfl ?_
  refine own_ifY W13 47 d18_8 ((if0 _ _).trans (flt (mt (lw_lt ((fl + (1 : Int64)) + (1 : Int64)) q2).mp ((mt (own_ltQ hc2 hq2).mp (by omega)) : ¬ (((fl + (1 : Int64)) + (1 : Int64)) < q2)))).2.1) (by decide) (by decide) ?_
  refine own_aloadN W13 48 d18_47 rfl rfl rfl ?_
  refine own_lloadN W13 49 d18_48 rfl rfl ?_
  refine own_putfield W13 (.long q2) 52 d18_49 (wd75 hw) Ff_a1 X_a1 (Or.inl (wd76 hw)) (wd60 hw) (Or.inl (List.mem_of_getElem? (i := 0) rfl)) (ty := .long) (by decide) rfl rfl rfl ?_
  intro T14 h14 W14 Wr14 Ff_a1
  have X_a1 := X_a1.wr Wr14
  have Fg_a1 := Fg_a1.other Wr14 (Or.inr (slot_ne (Or.inr (wd69 hw)) (Or.inl (wd76 hw)) (by decide) (t := (.object "java/util/List")) (t' := .long) (by decide) (by decide)))
  have Fp_a1 := Fp_a1.other Wr14 (Or.inr (slot_ne (Or.inl (wd141 hw)) (Or.inl (wd76 hw)) (by decide) (t := .long) (t' := .long) (by decide) (by decide)))
  have Fl_a1 := Fl_a1.other Wr14 (Or.inr (slot_ne (Or.inl (wd152 hw)) (Or.inl (wd76 hw)) (by decide) (t := .long) (t' := .long) (by decide) (by decide)))
  have X_ml := X_ml.wr Wr14
  have Fe_ml := Fe_ml.other Wr14 (Or.inl (Ne.symm ne_a1_ml))
  have Fs_ml := Fs_ml.other Wr14 (Or.inl (Ne.symm ne_a1_ml))
  have Fm_ml := Fm_ml.other Wr14 (Or.inl (Ne.symm ne_a1_ml))
  have E_l := E_l.wr Wr14
  have X_b0 := X_b0.wr Wr14
  have B_b0 := B_b0.wr Wr14
  have X_b1 := X_b1.wr Wr14
  have B_b1 := B_b1.wr Wr14
  have V_ed := V_ed.other Wr14 (Ne.symm ne_a1_ed)
  refine own_aloadN W14 53 d18_52 rfl rfl rfl ?_
  refine own_aloadN W14 54 d18_53 rfl rfl rfl ?_
  refine own_getfield W14 57 d18_54 (wd75 hw) Ff_a1 rfl ?_
  intro T15 W15
  refine own_callP W15 (A := [(.long q2)]) (wt := 0) (pc' := 60) (st := []) d18_57 (wd147 hw) (wd148 hw) (wd149 hw) (wd73 hw) rfl (wd61 hw) (wd150 hw) (by decide) X_a1 (own_m19 l Z a0 hw [] h14 a1 q2 fl Fl_a1) all0 rfl pd_18 rfl (Nat.le_of_eq rfl) (by decide) (by decide) (by decide) (by decide) rfl ?_
  rintro T16 h16 _ W16 K16 P16 rfl
  rw [P16 rfl rfl] at W16
  show own_Go p e below C T16 (mkF m 60 #[.val (.ref a1), .val (.long q2), .second, .val (.long ((fl + (1 : Int64)) + (1 : Int64))), .second] [(.int (q2 - fl).toInt32)])
  rw [show (q2 - fl).toInt32 = (2 : Int32) from own_slot (j := 2) hq2 hfl (by omega) (by decide) _ rfl]
  refine own_istoreN W16 61 #[.val (.ref a1), .val (.long q2), .second, .val (.int (2 : Int32)), .unset] d18_60 rfl rfl ?_
  refine own_iloadN W16 62 d18_61 rfl rfl ?_
  refine own_aloadN W16 63 d18_62 rfl rfl rfl ?_
  refine own_getfield W16 66 d18_63 (wd68 hw) Fg_a1 rfl ?_
  intro T17 W17
  refine own_callI W17 (A := []) (wt := 1) (pc' := 71) (st := [(.int (2 : Int32))]) d18_66 (wd174 hw) (wd175 hw) (wd176 hw) (by first | rfl | decide +kernel) (wd177 hw) (wd178 hw) (wd179 hw) (wd180 hw) (wd89 hw) (wd3 hw) (wd181 hw) (by decide) X_ml (own_m24 l Z a0 hw [] h14 ml (3 : Int32) Fs_ml) all0 rfl pd_17 rfl (Nat.le_of_eq rfl) (by decide) (by decide) (by decide) (by decide) rfl ?_
  rintro T18 h18 _ W18 K18 P18 rfl
  rw [P18 rfl rfl] at W18
  show own_Go p e below C T18 (mkF m 71 #[.val (.ref a1), .val (.long q2), .second, .val (.int (2 : Int32)), .unset] [(.int (3 : Int32)), (.int (2 : Int32))])
  refine own_iconst W18 (2 : Int32) 72 d18_71 rfl rfl ?_
  refine own_idiv W18 73 d18_72 (by decide) rfl ?_
  refine own_icmpN W18 76 d18_73 ((flt ((by decide) : ¬ ((2 : Int32) < ((3 : Int32) / (2 : Int32))))).1) rfl ?_
  refine own_aloadN W18 77 d18_76 rfl rfl rfl ?_
  refine own_getfield W18 80 d18_77 (wd68 hw) Fg_a1 rfl ?_
  intro T19 W19
  refine own_iconst W19 (0 : Int32) 81 d18_80 rfl rfl ?_
  refine own_iloadN W19 82 d18_81 rfl rfl ?_
  have hsH := own_le W19
  have q_a1 := X_a1.lt
  have q_ml := X_ml.lt
  have q_ed := V_ed.lt
  refine own_callI W19 (A := [(.int (0 : Int32)), (.int (2 : Int32))]) (wt := 0) (pc' := 87) (st := []) d18_82 (wd182 hw) (wd183 hw) (wd184 hw) (by first | rfl | decide +kernel) (wd185 hw) (wd186 hw) (wd187 hw) (wd188 hw) (wd89 hw) (wd3 hw) (wd189 hw) (by decide) X_ml (own_m25 l Z a0 hw [] h14 ml (2 : Int32) ed (3 : Int32) mc X_ml Fe_ml Fs_ml Fm_ml (by decide) (by decide)) all0 rfl pd_19 rfl (Nat.le_of_eq rfl) (by decide) (by decide) (by decide) (by decide) rfl ?_
  rintro T20 h20 _ W20 K20 P20 ⟨sl, rfl, o_sl, X_sl, Fu_sl, Fq_sl, Fo_sl, Fs_sl, Fm_sl⟩
  have X_a1 := X_a1.keep K20
  have Fg_a1 := Fg_a1.keep K20 nin0
  have Fp_a1 := Fp_a1.keep K20 nin0
  have Ff_a1 := Ff_a1.keep K20 nin0
  have Fl_a1 := Fl_a1.keep K20 nin0
  have X_ml := X_ml.keep K20
  have Fe_ml := Fe_ml.keep K20 nin0
  have Fs_ml := Fs_ml.keep K20 nin0
  have Fm_ml := Fm_ml.keep K20 nin0
  have E_l := E_l.keep K20
  have X_b0 := X_b0.keep K20
  have B_b0 := B_b0.keep K20
  have X_b1 := X_b1.keep K20
  have B_b1 := B_b1.keep K20
  have V_ed := V_ed.keep K20 nin0
  show own_Go p e below C T20 (mkF m 87 #[.val (.ref a1), .val (.long q2), .second, .val (.int (2 : Int32)), .unset] [(.ref sl)])
  have ne_a1_sl : a1 ≠ sl := Nat.ne_of_lt (Nat.lt_of_lt_of_le q_a1 o_sl)
  have ne_ml_sl : ml ≠ sl := Nat.ne_of_lt (Nat.lt_of_lt_of_le q_ml o_sl)
  have ne_ed_sl : ed ≠ sl := Nat.ne_of_lt (Nat.lt_of_lt_of_le q_ed o_sl)
  have os_sl : s.heap.size ≤ sl := Nat.le_trans hsH o_sl
  have E_t : own_El Z h20 (own_upd (own_upd vf 0 .null) 1 .null) 2 3 := fun j h1 h2 => by
    obtain ⟨b, e1, e2, e3⟩ := E_l j (by omega) h2
    exact ⟨b, by simp only [own_upd]; rw [if_neg (by omega), if_neg (by omega)]; exact e1, e2, e3⟩
  refine own_callI W20 (A := []) (wt := 0) (pc' := 92) (st := []) d18_87 (wd216 hw) (wd217 hw) (wd218 hw) (by first | rfl | decide +kernel) (wd219 hw) (wd220 hw) (wd221 hw) (wd222 hw) (wd223 hw) (wd11 hw) (wd224 hw) (by decide) X_sl (own_m28_32 l Z a0 hw [] h20 sl ml ed mc (own_upd (own_upd vf 0 .null) 1 .null) X_sl Fu_sl Fq_sl Fo_sl Fs_sl Fm_sl X_ml Fe_ml Fs_ml Fm_ml V_ed E_t (own_Rf.upd (own_Rf.upd hrf 0 rfl) 1 rfl) (Ne.symm ne_ml_sl) (Ne.symm ne_ed_sl) ne_ml_ed) (allS (Or.inr os_sl) (allS (Or.inl (List.mem_of_getElem? (i := 1) rfl)) (allS (Or.inl (List.mem_of_getElem? (i := 2) rfl)) all0))) rfl pd_0 rfl (Nat.le_of_eq rfl) (by decide) (by decide) (by decide) (by decide) rfl ?_
  rintro T21 h21 _ W21 K21 P21 ⟨rfl, ⟨Fe_ml, Fs_ml, Fm_ml, QA⟩⟩
  have X_a1 := X_a1.keep K21
  have Fg_a1 := Fg_a1.keep K21 (ninS ne_a1_sl (ninS ne_a1_ml (ninS ne_a1_ed nin0)))
  have Fp_a1 := Fp_a1.keep K21 (ninS ne_a1_sl (ninS ne_a1_ml (ninS ne_a1_ed nin0)))
  have Ff_a1 := Ff_a1.keep K21 (ninS ne_a1_sl (ninS ne_a1_ml (ninS ne_a1_ed nin0)))
  have Fl_a1 := Fl_a1.keep K21 (ninS ne_a1_sl (ninS ne_a1_ml (ninS ne_a1_ed nin0)))
  have X_ml := X_ml.keep K21
  have X_b0 := X_b0.keep K21
  have X_b1 := X_b1.keep K21
  have X_sl := X_sl.keep K21
  show own_Go p e below C T21 (mkF m 92 #[.val (.ref a1), .val (.long q2), .second, .val (.int (2 : Int32)), .unset] [])
  obtain ⟨vg, V_ed, hrg, E_g⟩ := QA
  refine own_aloadN W21 93 d18_92 rfl rfl rfl ?_
  refine own_aloadN W21 94 d18_93 rfl rfl rfl ?_
  refine own_getfield W21 97 d18_94 (wd75 hw) Ff_a1 rfl ?_
  intro T22 W22
  refine own_putfield W22 (.long q2) 100 d18_97 (wd151 hw) Fl_a1 X_a1 (Or.inl (wd152 hw)) (wd60 hw) (Or.inl (List.mem_of_getElem? (i := 0) rfl)) (ty := .long) (by decide) rfl rfl rfl ?_
  intro T23 h23 W23 Wr23 Fl_a1
  have X_a1 := X_a1.wr Wr23
  have Fg_a1 := Fg_a1.other Wr23 (Or.inr (slot_ne (Or.inr (wd69 hw)) (Or.inl (wd152 hw)) (by decide) (t := (.object "java/util/List")) (t' := .long) (by decide) (by decide)))
  have Fp_a1 := Fp_a1.other Wr23 (Or.inr (slot_ne (Or.inl (wd141 hw)) (Or.inl (wd152 hw)) (by decide) (t := .long) (t' := .long) (by decide) (by decide)))
  have Ff_a1 := Ff_a1.other Wr23 (Or.inr (slot_ne (Or.inl (wd76 hw)) (Or.inl (wd152 hw)) (by decide) (t := .long) (t' := .long) (by decide) (by decide)))
  have X_ml := X_ml.wr Wr23
  have X_b0 := X_b0.wr Wr23
  have X_b1 := X_b1.wr Wr23
  have X_sl := X_sl.wr Wr23
  have Fe_ml := Fe_ml.other Wr23 (Or.inl (Ne.symm ne_a1_ml))
  have Fs_ml := Fs_ml.other Wr23 (Or.inl (Ne.symm ne_a1_ml))
  have Fm_ml := Fm_ml.other Wr23 (Or.inl (Ne.symm ne_a1_ml))
  have V_ed := V_ed.other Wr23 (Ne.symm ne_a1_ed)
  have E_g := E_g.wr Wr23
  refine own_retV (Q := fun v h => v = none ∧ (∃ pl' mc' vf', own_fg Z h a1 (.ref ml) ∧ own_fp Z h a1 (.long pl') ∧ own_ff Z h a1 (.long q2) ∧ own_fl Z h a1 (.long q2) ∧ own_fe Z h ml (.ref ed) ∧ own_fs Z h ml (.int (1 : Int32)) ∧ own_fm Z h ml (.int mc') ∧ own_R Z h ed "java/lang/Object" 10 vf' ∧ own_Rf vf' ∧ own_El Z h vf' 0 1)) W23 hC (by decide) (by decide) d18_100 ?_
  exact ⟨rfl, ⟨_, _, vg, Fg_a1, Fp_a1, Ff_a1, Fl_a1, Fe_ml, Fs_ml, Fm_ml, V_ed, hrg, E_g⟩⟩
theorem ef_m18_33 (m : MethodId) (x0 : Addr) (x1 : Int64) : entryFrame m #[(.ref x0), (.long x1)] 5 = mkF m 0 #[.val (.ref x0), .val (.long x1), .second, .unset, .unset] [] := by first | (simp [entryFrame, mkF, argsToLocals, Value.category]; done) | rfl
set_option maxRecDepth 65536 in
set_option maxHeartbeats 40000000 in
theorem own_m18_33 (l : Launch) (Z : State) (a0 : Array Value) (hw : ∀ d ∈ tables_1, d.before a0 Z = true) (wo : List Jvm.Cond) (h0 : Heap) (a1 : Addr) (q2 : Int64) (ml : Addr) (ed : Addr) (pl : Int64) (fl : Int64) (mc : Int32) (vf : Nat → Value) (f0 : Nat) (X_a1 : own_xm Z h0 a1) (Fg_a1 : own_fg Z h0 a1 (.ref ml)) (Fp_a1 : own_fp Z h0 a1 (.long pl)) (Ff_a1 : own_ff Z h0 a1 (.long fl)) (Fl_a1 : own_fl Z h0 a1 (.long fl)) (X_ml : own_xl Z h0 ml) (Fe_ml : own_fe Z h0 ml (.ref ed)) (Fs_ml : own_fs Z h0 ml (.int (3 : Int32))) (Fm_ml : own_fm Z h0 ml (.int mc)) (V_ed : own_R Z h0 ed "java/lang/Object" 10 vf) (E_l : own_El Z h0 vf 0 3) (hrf : own_Rf vf) (ne_a1_ml : a1 ≠ ml) (ne_a1_ed : a1 ≠ ed) (ne_ml_ed : ml ≠ ed) (hfl : fl.toInt = (f0 : Int)) (hq2 : q2.toInt = ((f0 + 3 : Nat) : Int)) (hf0 : f0 < 10) :
    own_M l Z wo (⟨"com/example/redelivery/redelivery/engine/MemoryLog", "dropBefore", "(J)V"⟩ : MethodName) prog_7_method_4_code 5 none ({ frames := 7, cells := 1, slots := 5, locals := 140 } : Room) [a1, ml, ed] #[(.ref a1), (.long q2)] h0 (fun v h => v = none ∧ (∃ pl' mc' vf', own_fg Z h a1 (.ref ml) ∧ own_fp Z h a1 (.long pl') ∧ own_ff Z h a1 (.long q2) ∧ own_fl Z h a1 (.long q2) ∧ own_fe Z h ml (.ref ed) ∧ own_fs Z h ml (.int (0 : Int32)) ∧ own_fm Z h ml (.int mc') ∧ own_R Z h ed "java/lang/Object" 10 vf' ∧ own_Rf vf' ∧ own_El Z h vf' 0 0)) := by
  refine own_body (plainFor_of_name pn_18) (fun m => ef_m18_33 m a1 q2) ?_
  intro p e s m below meth c C hC T0 W0
  refine own_aloadN W0 1 d18_0 rfl rfl rfl ?_
  refine own_getfield W0 4 d18_1 (wd75 hw) Ff_a1 rfl ?_
  intro T1 W1
  refine own_lstoreN W1 5 #[.val (.ref a1), .val (.long q2), .second, .val (.long fl), .second] d18_4 rfl rfl ?_
  refine own_lloadN W1 6 d18_5 rfl rfl ?_
  refine own_lloadN W1 7 d18_6 rfl rfl ?_
  refine own_lcmp W1 8 d18_7 rfl ?_
  have hc0 := hfl
  refine own_ifN W1 11 d18_8 ((if0 _ _).trans (tlt ((lw_lt fl q2).mpr (((own_ltQ hc0 hq2).mpr (by omega)) : fl < q2))).2.1) rfl ?_
  refine own_aloadN W1 12 d18_11 rfl rfl rfl ?_
  refine own_dup W1 13 d18_12 rfl rfl ?_
  refine own_getfield W1 16 d18_13 (wd140 hw) Fp_a1 rfl ?_
  intro T2 W2
  refine own_aloadN W2 17 d18_16 rfl rfl rfl ?_
  refine own_getfield W2 20 d18_17 (wd68 hw) Fg_a1 rfl ?_
  intro T3 W3
  refine own_aloadN W3 21 d18_20 rfl rfl rfl ?_
  refine own_lloadN W3 22 d18_21 rfl rfl ?_
  refine own_callP W3 (A := [(.long fl)]) (wt := 4) (pc' := 25) (st := [(.ref ml), (.long pl), (.ref a1)]) d18_22 (wd147 hw) (wd148 hw) (wd149 hw) (wd73 hw) rfl (wd61 hw) (wd150 hw) (by decide) X_a1 (own_m19 l Z a0 hw [] h0 a1 fl fl Fl_a1) all0 rfl pd_18 rfl (Nat.le_of_eq rfl) (by decide) (by decide) (by decide) (by decide) rfl ?_
  rintro T4 h4 _ W4 K4 P4 rfl
  rw [P4 rfl rfl] at W4
  show own_Go p e below C T4 (mkF m 25 #[.val (.ref a1), .val (.long q2), .second, .val (.long fl), .second] [(.int (fl - fl).toInt32), (.ref ml), (.long pl), (.ref a1)])
  rw [show (fl - fl).toInt32 = (0 : Int32) from own_slot (j := 0) hc0 hfl (by omega) (by decide) _ rfl]
  refine own_aconst_null W4 26 d18_25 rfl ?_
  obtain ⟨b0, eb0, X_b0, B_b0⟩ := E_l 0 (by omega) (by omega)
  refine own_callI W4 (A := [(.int (0 : Int32)), .null]) (wt := 3) (pc' := 31) (st := [(.long pl), (.ref a1)]) d18_26 (wd153 hw) (wd154 hw) (wd155 hw) (by first | rfl | decide +kernel) (wd156 hw) (wd157 hw) (wd158 hw) (wd159 hw) (wd89 hw) (wd3 hw) (wd160 hw) (by decide) X_ml (own_m20 l Z a0 hw [] h0 ml (0 : Int32) ed (3 : Int32) mc vf b0 0 3 X_ml Fe_ml Fs_ml Fm_ml V_ed ne_ml_ed rfl rfl (by omega) (by omega) eb0) (allS (Or.inl (List.mem_of_getElem? (i := 2) rfl)) all0) rfl pd_20 rfl (Nat.le_of_eq rfl) (by decide) (by decide) (by decide) (by decide) rfl ?_
  rintro T5 h5 _ W5 K5 P5 ⟨rfl, V_ed⟩
  have X_a1 := X_a1.keep K5
  have Fg_a1 := Fg_a1.keep K5 (ninS ne_a1_ed nin0)
  have Fp_a1 := Fp_a1.keep K5 (ninS ne_a1_ed nin0)
  have Ff_a1 := Ff_a1.keep K5 (ninS ne_a1_ed nin0)
  have Fl_a1 := Fl_a1.keep K5 (ninS ne_a1_ed nin0)
  have X_ml := X_ml.keep K5
  have Fe_ml := Fe_ml.keep K5 (ninS ne_ml_ed nin0)
  have Fs_ml := Fs_ml.keep K5 (ninS ne_ml_ed nin0)
  have Fm_ml := Fm_ml.keep K5 (ninS ne_ml_ed nin0)
  have E_l := E_l.keep K5
  have X_b0 := X_b0.keep K5
  have B_b0 := B_b0.keep K5
  show own_Go p e below C T5 (mkF m 31 #[.val (.ref a1), .val (.long q2), .second, .val (.long fl), .second] [(.ref b0), (.long pl), (.ref a1)])
  refine own_checkcast W5 34 d18_31 (wd132 hw) (Ins.of_exa X_b0 (wd133 hw)) rfl ?_
  intro T6 W6
  obtain ⟨ln0, lf0, V_b0⟩ := B_b0.A
  refine own_arraylength W6 ln0.toInt32 35 d18_34 V_b0 rfl rfl ?_
  refine own_i2l W6 36 d18_35 rfl ?_
  refine own_lsub W6 37 d18_36 rfl ?_
  refine own_putfield W6 (.long (pl - ln0.toInt32.toInt64)) 40 d18_37 (wd140 hw) Fp_a1 X_a1 (Or.inl (wd141 hw)) (wd60 hw) (Or.inl (List.mem_of_getElem? (i := 0) rfl)) (ty := .long) (by decide) rfl rfl rfl ?_
  intro T7 h7 W7 Wr7 Fp_a1
  have X_a1 := X_a1.wr Wr7
  have Fg_a1 := Fg_a1.other Wr7 (Or.inr (slot_ne (Or.inr (wd69 hw)) (Or.inl (wd141 hw)) (by decide) (t := (.object "java/util/List")) (t' := .long) (by decide) (by decide)))
  have Ff_a1 := Ff_a1.other Wr7 (Or.inr (slot_ne (Or.inl (wd76 hw)) (Or.inl (wd141 hw)) (by decide) (t := .long) (t' := .long) (by decide) (by decide)))
  have Fl_a1 := Fl_a1.other Wr7 (Or.inr (slot_ne (Or.inl (wd152 hw)) (Or.inl (wd141 hw)) (by decide) (t := .long) (t' := .long) (by decide) (by decide)))
  have X_ml := X_ml.wr Wr7
  have Fe_ml := Fe_ml.other Wr7 (Or.inl (Ne.symm ne_a1_ml))
  have Fs_ml := Fs_ml.other Wr7 (Or.inl (Ne.symm ne_a1_ml))
  have Fm_ml := Fm_ml.other Wr7 (Or.inl (Ne.symm ne_a1_ml))
  have E_l := E_l.wr Wr7
  have X_b0 := X_b0.wr Wr7
  have B_b0 := B_b0.wr Wr7
  have V_ed := V_ed.other Wr7 (Ne.symm ne_a1_ed)
  have hc1 := own_incQ hc0 (by omega)
  refine own_lloadN W7 41 d18_40 rfl rfl ?_
  refine own_lconst W7 (1 : Int64) 42 d18_41 rfl rfl ?_
  refine own_ladd W7 43 d18_42 rfl ?_
  refine own_lstoreN W7 44 #[.val (.ref a1), .val (.long q2), .second, .val (.long (fl + (1 : Int64))), .second] d18_43 rfl rfl ?_
  refine own_goto W7 5 d18_44 (by decide) (by decide) ?_
  refine own_lloadN W7 6 d18_5 rfl rfl ?_
  refine own_lloadN W7 7 d18_6 rfl rfl ?_
  refine own_lcmp W7 8 d18_7 rfl ?_
  refine own_ifN W7 11 d18_8 ((if0 _ _).trans (tlt ((lw_lt (fl + (1 : Int64)) q2).mpr (((own_ltQ hc1 hq2).mpr (by omega)) : (fl + (1 : Int64)) < q2))).2.1) rfl ?_
  refine own_aloadN W7 12 d18_11 rfl rfl rfl ?_
  refine own_dup W7 13 d18_12 rfl rfl ?_
  refine own_getfield W7 16 d18_13 (wd140 hw) Fp_a1 rfl ?_
  intro T8 W8
  refine own_aloadN W8 17 d18_16 rfl rfl rfl ?_
  refine own_getfield W8 20 d18_17 (wd68 hw) Fg_a1 rfl ?_
  intro T9 W9
  refine own_aloadN W9 21 d18_20 rfl rfl rfl ?_
  refine own_lloadN W9 22 d18_21 rfl rfl ?_
  refine own_callP W9 (A := [(.long (fl + (1 : Int64)))]) (wt := 4) (pc' := 25) (st := [(.ref ml), (.long (pl - ln0.toInt32.toInt64)), (.ref a1)]) d18_22 (wd147 hw) (wd148 hw) (wd149 hw) (wd73 hw) rfl (wd61 hw) (wd150 hw) (by decide) X_a1 (own_m19 l Z a0 hw [] h7 a1 (fl + (1 : Int64)) fl Fl_a1) all0 rfl pd_18 rfl (Nat.le_of_eq rfl) (by decide) (by decide) (by decide) (by decide) rfl ?_
  rintro T10 h10 _ W10 K10 P10 rfl
  rw [P10 rfl rfl] at W10
  show own_Go p e below C T10 (mkF m 25 #[.val (.ref a1), .val (.long q2), .second, .val (.long (fl + (1 : Int64))), .second] [(.int ((fl + (1 : Int64)) - fl).toInt32), (.ref ml), (.long (pl - ln0.toInt32.toInt64)), (.ref a1)])
  rw [show ((fl + (1 : Int64)) - fl).toInt32 = (1 : Int32) from own_slot (j := 1) hc1 hfl (by omega) (by decide) _ rfl]
  refine own_aconst_null W10 26 d18_25 rfl ?_
  obtain ⟨b1, eb1, X_b1, B_b1⟩ := E_l 1 (by omega) (by omega)
  refine own_callI W10 (A := [(.int (1 : Int32)), .null]) (wt := 3) (pc' := 31) (st := [(.long (pl - ln0.toInt32.toInt64)), (.ref a1)]) d18_26 (wd153 hw) (wd154 hw) (wd155 hw) (by first | rfl | decide +kernel) (wd156 hw) (wd157 hw) (wd158 hw) (wd159 hw) (wd89 hw) (wd3 hw) (wd160 hw) (by decide) X_ml (own_m20 l Z a0 hw [] h7 ml (1 : Int32) ed (3 : Int32) mc (own_upd vf 0 .null) b1 1 3 X_ml Fe_ml Fs_ml Fm_ml V_ed ne_ml_ed rfl rfl (by omega) (by omega) eb1) (allS (Or.inl (List.mem_of_getElem? (i := 2) rfl)) all0) rfl pd_20 rfl (Nat.le_of_eq rfl) (by decide) (by decide) (by decide) (by decide) rfl ?_
  rintro T11 h11 _ W11 K11 P11 ⟨rfl, V_ed⟩
  have X_a1 := X_a1.keep K11
  have Fg_a1 := Fg_a1.keep K11 (ninS ne_a1_ed nin0)
  have Fp_a1 := Fp_a1.keep K11 (ninS ne_a1_ed nin0)
  have Ff_a1 := Ff_a1.keep K11 (ninS ne_a1_ed nin0)
  have Fl_a1 := Fl_a1.keep K11 (ninS ne_a1_ed nin0)
  have X_ml := X_ml.keep K11
  have Fe_ml := Fe_ml.keep K11 (ninS ne_ml_ed nin0)
  have Fs_ml := Fs_ml.keep K11 (ninS ne_ml_ed nin0)
  have Fm_ml := Fm_ml.keep K11 (ninS ne_ml_ed nin0)
  have E_l := E_l.keep K11
  have X_b0 := X_b0.keep K11
  have B_b0 := B_b0.keep K11
  have X_b1 := X_b1.keep K11
  have B_b1 := B_b1.keep K11
  show own_Go p e below C T11 (mkF m 31 #[.val (.ref a1), .val (.long q2), .second, .val (.long (fl + (1 : Int64))), .second] [(.ref b1), (.long (pl - ln0.toInt32.toInt64)), (.ref a1)])
  refine own_checkcast W11 34 d18_31 (wd132 hw) (Ins.of_exa X_b1 (wd133 hw)) rfl ?_
  intro T12 W12
  obtain ⟨ln1, lf1, V_b1⟩ := B_b1.A
  refine own_arraylength W12 ln1.toInt32 35 d18_34 V_b1 rfl rfl ?_
  refine own_i2l W12 36 d18_35 rfl ?_
  refine own_lsub W12 37 d18_36 rfl ?_
  refine own_putfield W12 (.long ((pl - ln0.toInt32.toInt64) - ln1.toInt32.toInt64)) 40 d18_37 (wd140 hw) Fp_a1 X_a1 (Or.inl (wd141 hw)) (wd60 hw) (Or.inl (List.mem_of_getElem? (i := 0) rfl)) (ty := .long) (by decide) rfl rfl rfl ?_
  intro T13 h13 W13 Wr13 Fp_a1
  have X_a1 := X_a1.wr Wr13
  have Fg_a1 := Fg_a1.other Wr13 (Or.inr (slot_ne (Or.inr (wd69 hw)) (Or.inl (wd141 hw)) (by decide) (t := (.object "java/util/List")) (t' := .long) (by decide) (by decide)))
  have Ff_a1 := Ff_a1.other Wr13 (Or.inr (slot_ne (Or.inl (wd76 hw)) (Or.inl (wd141 hw)) (by decide) (t := .long) (t' := .long) (by decide) (by decide)))
  have Fl_a1 := Fl_a1.other Wr13 (Or.inr (slot_ne (Or.inl (wd152 hw)) (Or.inl (wd141 hw)) (by decide) (t := .long) (t' := .long) (by decide) (by decide)))
  have X_ml := X_ml.wr Wr13
  have Fe_ml := Fe_ml.other Wr13 (Or.inl (Ne.symm ne_a1_ml))
  have Fs_ml := Fs_ml.other Wr13 (Or.inl (Ne.symm ne_a1_ml))
  have Fm_ml := Fm_ml.other Wr13 (Or.inl (Ne.symm ne_a1_ml))
  have E_l := E_l.wr Wr13
  have X_b0 := X_b0.wr Wr13
  have B_b0 := B_b0.wr Wr13
  have X_b1 := X_b1.wr Wr13
  have B_b1 := B_b1.wr Wr13
  have V_ed := V_ed.other Wr13 (Ne.symm ne_a1_ed)
  have hc2 := own_incQ hc1 (by omega)
  refine own_lloadN W13 41 d18_40 rfl rfl ?_
  refine own_lconst W13 (1 : Int64) 42 d18_41 rfl rfl ?_
  refine own_ladd W13 43 d18_42 rfl ?_
  refine own_lstoreN W13 44 #[.val (.ref a1), .val (.long q2), .second, .val (.long ((fl + (1 : Int64)) + (1 : Int64))), .second] d18_43 rfl rfl ?_
  refine own_goto W13 5 d18_44 (by decide) (by decide) ?_
  refine own_lloadN W13 6 d18_5 rfl rfl ?_
  refine own_lloadN W13 7 d18_6 rfl rfl ?_
  refine own_lcmp W13 8 d18_7 rfl ?_
  refine own_ifN W13 11 d18_8 ((if0 _ _).trans (tlt ((lw_lt ((fl + (1 : Int64)) + (1 : Int64)) q2).mpr (((own_ltQ hc2 hq2).mpr (by omega)) : ((fl + (1 : Int64)) + (1 : Int64)) < q2))).2.1) rfl ?_
  refine own_aloadN W13 12 d18_11 rfl rfl rfl ?_
  refine own_dup W13 13 d18_12 rfl rfl ?_
  refine own_getfield W13 16 d18_13 (wd140 hw) Fp_a1 rfl ?_
  intro T14 W14
  refine own_aloadN W14 17 d18_16 rfl rfl rfl ?_
  refine own_getfield W14 20 d18_17 (wd68 hw) Fg_a1 rfl ?_
  intro T15 W15
  refine own_aloadN W15 21 d18_20 rfl rfl rfl ?_
  refine own_lloadN W15 22 d18_21 rfl rfl ?_
  refine own_callP W15 (A := [(.long ((fl + (1 : Int64)) + (1 : Int64)))]) (wt := 4) (pc' := 25) (st := [(.ref ml), (.long ((pl - ln0.toInt32.toInt64) - ln1.toInt32.toInt64)), (.ref a1)]) d18_22 (wd147 hw) (wd148 hw) (wd149 hw) (wd73 hw) rfl (wd61 hw) (wd150 hw) (by decide) X_a1 (own_m19 l Z a0 hw [] h13 a1 ((fl + (1 : Int64)) + (1 : Int64)) fl Fl_a1) all0 rfl pd_18 rfl (Nat.le_of_eq rfl) (by decide) (by decide) (by decide) (by decide) rfl ?_
  rintro T16 h16 _ W16 K16 P16 rfl
  rw [P16 rfl rfl] at W16
  show own_Go p e below C T16 (mkF m 25 #[.val (.ref a1), .val (.long q2), .second, .val (.long ((fl + (1 : Int64)) + (1 : Int64))), .second] [(.int (((fl + (1 : Int64)) + (1 : Int64)) - fl).toInt32), (.ref ml), (.long ((pl - ln0.toInt32.toInt64) - ln1.toInt32.toInt64)), (.ref a1)])
  rw [show (((fl + (1 : Int64)) + (1 : Int64)) - fl).toInt32 = (2 : Int32) from own_slot (j := 2) hc2 hfl (by omega) (by decide) _ rfl]
  refine own_aconst_null W16 26 d18_25 rfl ?_
  obtain ⟨b2, eb2, X_b2, B_b2⟩ := E_l 2 (by omega) (by omega)
  refine own_callI W16 (A := [(.int (2 : Int32)), .null]) (wt := 3) (pc' := 31) (st := [(.long ((pl - ln0.toInt32.toInt64) - ln1.toInt32.toInt64)), (.ref a1)]) d18_26 (wd153 hw) (wd154 hw) (wd155 hw) (by first | rfl | decide +kernel) (wd156 hw) (wd157 hw) (wd158 hw) (wd159 hw) (wd89 hw) (wd3 hw) (wd160 hw) (by decide) X_ml (own_m20 l Z a0 hw [] h13 ml (2 : Int32) ed (3 : Int32) mc (own_upd (own_upd vf 0 .null) 1 .null) b2 2 3 X_ml Fe_ml Fs_ml Fm_ml V_ed ne_ml_ed rfl rfl (by omega) (by omega) eb2) (allS (Or.inl (List.mem_of_getElem? (i := 2) rfl)) all0) rfl pd_20 rfl (Nat.le_of_eq rfl) (by decide) (by decide) (by decide) (by decide) rfl ?_
  rintro T17 h17 _ W17 K17 P17 ⟨rfl, V_ed⟩
  have X_a1 := X_a1.keep K17
  have Fg_a1 := Fg_a1.keep K17 (ninS ne_a1_ed nin0)
  have Fp_a1 := Fp_a1.keep K17 (ninS ne_a1_ed nin0)
  have Ff_a1 := Ff_a1.keep K17 (ninS ne_a1_ed nin0)
  have Fl_a1 := Fl_a1.keep K17 (ninS ne_a1_ed nin0)
  have X_ml := X_ml.keep K17
  have Fe_ml := Fe_ml.keep K17 (ninS ne_ml_ed nin0)
  have Fs_ml := Fs_ml.keep K17 (ninS ne_ml_ed nin0)
  have Fm_ml := Fm_ml.keep K17 (ninS ne_ml_ed nin0)
  have E_l := E_l.keep K17
  have X_b0 := X_b0.keep K17
  have B_b0 := B_b0.keep K17
  have X_b1 := X_b1.keep K17
  have B_b1 := B_b1.keep K17
  have X_b2 := X_b2.keep K17
  have B_b2 := B_b2.keep K17
  show own_Go p e below C T17 (mkF m 31 #[.val (.ref a1), .val (.long q2), .second, .val (.long ((fl + (1 : Int64)) + (1 : Int64))), .second] [(.ref b2), (.long ((pl - ln0.toInt32.toInt64) - ln1.toInt32.toInt64)), (.ref a1)])
  refine own_checkcast W17 34 d18_31 (wd132 hw) (Ins.of_exa X_b2 (wd133 hw)) rfl ?_
  intro T18 W18
  obtain ⟨ln2, lf2, V_b2⟩ := B_b2.A
  refine own_arraylength W18 ln2.toInt32 35 d18_34 V_b2 rfl rfl ?_
  refine own_i2l W18 36 d18_35 rfl ?_
  refine own_lsub W18 37 d18_36 rfl ?_
  refine own_putfield W18 (.long (((pl - ln0.toInt32.toInt64) - ln1.toInt32.toInt64) - ln2.toInt32.toInt64)) 40 d18_37 (wd140 hw) Fp_a1 X_a1 (Or.inl (wd141 hw)) (wd60 hw) (Or.inl (List.mem_of_getElem? (i := 0) rfl)) (ty := .long) (by decide) rfl rfl rfl ?_
  intro T19 h19 W19 Wr19 Fp_a1
  have X_a1 := X_a1.wr Wr19
  have Fg_a1 := Fg_a1.other Wr19 (Or.inr (slot_ne (Or.inr (wd69 hw)) (Or.inl (wd141 hw)) (by decide) (t := (.object "java/util/List")) (t' := .long) (by decide) (by decide)))
  have Ff_a1 := Ff_a1.other Wr19 (Or.inr (slot_ne (Or.inl (wd76 hw)) (Or.inl (wd141 hw)) (by decide) (t := .long) (t' := .long) (by decide) (by decide)))
  have Fl_a1 := Fl_a1.other Wr19 (Or.inr (slot_ne (Or.inl (wd152 hw)) (Or.inl (wd141 hw)) (by decide) (t := .long) (t' := .long) (by decide) (by decide)))
  have X_ml := X_ml.wr Wr19
  have Fe_ml := Fe_ml.other Wr19 (Or.inl (Ne.symm ne_a1_ml))
  have Fs_ml := Fs_ml.other Wr19 (Or.inl (Ne.symm ne_a1_ml))
  have Fm_ml := Fm_ml.other Wr19 (Or.inl (Ne.symm ne_a1_ml))
  have E_l := E_l.wr Wr19
  have X_b0 := X_b0.wr Wr19
  have B_b0 := B_b0.wr Wr19
  have X_b1 := X_b1.wr Wr19
  have B_b1 := B_b1.wr Wr19
  have X_b2 := X_b2.wr Wr19
  have B_b2 := B_b2.wr Wr19
  have V_ed := V_ed.other Wr19 (Ne.symm ne_a1_ed)
  have hc3 := own_incQ hc2 (by omega)
  refine own_lloadN W19 41 d18_40 rfl rfl ?_
  refine own_lconst W19 (1 : Int64) 42 d18_41 rfl rfl ?_
  refine own_ladd W19 43 d18_42 rfl ?_
  refine own_lstoreN W19 44 #[.val (.ref a1), .val (.long q2), .second, .val (.long (((fl + (1 : Int64)) + (1 : Int64)) + (1 : Int64))), .second] d18_43 rfl rfl ?_
  refine own_goto W19 5 d18_44 (by decide) (by decide) ?_
  refine own_lloadN W19 6 d18_5 rfl rfl ?_
  refine own_lloadN W19 7 d18_6 rfl rfl ?_
  refine own_lcmp W19 8 d18_7 rfl ?_
  refine own_ifY W19 47 d18_8 ((if0 _ _).trans (flt (mt (lw_lt (((fl + (1 : Int64)) + (1 : Int64)) + (1 : Int64)) q2).mp ((mt (own_ltQ hc3 hq2).mp (by omega)) : ¬ ((((fl + (1 : Int64)) + (1 : Int64)) + (1 : Int64)) < q2)))).2.1) (by decide) (by decide) ?_
  refine own_aloadN W19 48 d18_47 rfl rfl rfl ?_
  refine own_lloadN W19 49 d18_48 rfl rfl ?_
  refine own_putfield W19 (.long q2) 52 d18_49 (wd75 hw) Ff_a1 X_a1 (Or.inl (wd76 hw)) (wd60 hw) (Or.inl (List.mem_of_getElem? (i := 0) rfl)) (ty := .long) (by decide) rfl rfl rfl ?_
  intro T20 h20 W20 Wr20 Ff_a1
  have X_a1 := X_a1.wr Wr20
  have Fg_a1 := Fg_a1.other Wr20 (Or.inr (slot_ne (Or.inr (wd69 hw)) (Or.inl (wd76 hw)) (by decide) (t := (.object "java/util/List")) (t' := .long) (by decide) (by decide)))
  have Fp_a1 := Fp_a1.other Wr20 (Or.inr (slot_ne (Or.inl (wd141 hw)) (Or.inl (wd76 hw)) (by decide) (t := .long) (t' := .long) (by decide) (by decide)))
  have Fl_a1 := Fl_a1.other Wr20 (Or.inr (slot_ne (Or.inl (wd152 hw)) (Or.inl (wd76 hw)) (by decide) (t := .long) (t' := .long) (by decide) (by decide)))
  have X_ml := X_ml.wr Wr20
  have Fe_ml := Fe_ml.other Wr20 (Or.inl (Ne.symm ne_a1_ml))
  have Fs_ml := Fs_ml.other Wr20 (Or.inl (Ne.symm ne_a1_ml))
  have Fm_ml := Fm_ml.other Wr20 (Or.inl (Ne.symm ne_a1_ml))
  have E_l := E_l.wr Wr20
  have X_b0 := X_b0.wr Wr20
  have B_b0 := B_b0.wr Wr20
  have X_b1 := X_b1.wr Wr20
  have B_b1 := B_b1.wr Wr20
  have X_b2 := X_b2.wr Wr20
  have B_b2 := B_b2.wr Wr20
  have V_ed := V_ed.other Wr20 (Ne.symm ne_a1_ed)
  refine own_aloadN W20 53 d18_52 rfl rfl rfl ?_
  refine own_aloadN W20 54 d18_53 rfl rfl rfl ?_
  refine own_getfield W20 57 d18_54 (wd75 hw) Ff_a1 rfl ?_
  intro T21 W21
  refine own_callP W21 (A := [(.long q2)]) (wt := 0) (pc' := 60) (st := []) d18_57 (wd147 hw) (wd148 hw) (wd149 hw) (wd73 hw) rfl (wd61 hw) (wd150 hw) (by decide) X_a1 (own_m19 l Z a0 hw [] h20 a1 q2 fl Fl_a1) all0 rfl pd_18 rfl (Nat.le_of_eq rfl) (by decide) (by decide) (by decide) (by decide) rfl ?_
  rintro T22 h22 _ W22 K22 P22 rfl
  rw [P22 rfl rfl] at W22
  show own_Go p e below C T22 (mkF m 60 #[.val (.ref a1), .val (.long q2), .second, .val (.long (((fl + (1 : Int64)) + (1 : Int64)) + (1 : Int64))), .second] [(.int (q2 - fl).toInt32)])
  rw [show (q2 - fl).toInt32 = (3 : Int32) from own_slot (j := 3) hq2 hfl (by omega) (by decide) _ rfl]
  refine own_istoreN W22 61 #[.val (.ref a1), .val (.long q2), .second, .val (.int (3 : Int32)), .unset] d18_60 rfl rfl ?_
  refine own_iloadN W22 62 d18_61 rfl rfl ?_
  refine own_aloadN W22 63 d18_62 rfl rfl rfl ?_
  refine own_getfield W22 66 d18_63 (wd68 hw) Fg_a1 rfl ?_
  intro T23 W23
  refine own_callI W23 (A := []) (wt := 1) (pc' := 71) (st := [(.int (3 : Int32))]) d18_66 (wd174 hw) (wd175 hw) (wd176 hw) (by first | rfl | decide +kernel) (wd177 hw) (wd178 hw) (wd179 hw) (wd180 hw) (wd89 hw) (wd3 hw) (wd181 hw) (by decide) X_ml (own_m24 l Z a0 hw [] h20 ml (3 : Int32) Fs_ml) all0 rfl pd_17 rfl (Nat.le_of_eq rfl) (by decide) (by decide) (by decide) (by decide) rfl ?_
  rintro T24 h24 _ W24 K24 P24 rfl
  rw [P24 rfl rfl] at W24
  show own_Go p e below C T24 (mkF m 71 #[.val (.ref a1), .val (.long q2), .second, .val (.int (3 : Int32)), .unset] [(.int (3 : Int32)), (.int (3 : Int32))])
  refine own_iconst W24 (2 : Int32) 72 d18_71 rfl rfl ?_
  refine own_idiv W24 73 d18_72 (by decide) rfl ?_
  refine own_icmpN W24 76 d18_73 ((flt ((by decide) : ¬ ((3 : Int32) < ((3 : Int32) / (2 : Int32))))).1) rfl ?_
  refine own_aloadN W24 77 d18_76 rfl rfl rfl ?_
  refine own_getfield W24 80 d18_77 (wd68 hw) Fg_a1 rfl ?_
  intro T25 W25
  refine own_iconst W25 (0 : Int32) 81 d18_80 rfl rfl ?_
  refine own_iloadN W25 82 d18_81 rfl rfl ?_
  have hsH := own_le W25
  have q_a1 := X_a1.lt
  have q_ml := X_ml.lt
  have q_ed := V_ed.lt
  refine own_callI W25 (A := [(.int (0 : Int32)), (.int (3 : Int32))]) (wt := 0) (pc' := 87) (st := []) d18_82 (wd182 hw) (wd183 hw) (wd184 hw) (by first | rfl | decide +kernel) (wd185 hw) (wd186 hw) (wd187 hw) (wd188 hw) (wd89 hw) (wd3 hw) (wd189 hw) (by decide) X_ml (own_m25 l Z a0 hw [] h20 ml (3 : Int32) ed (3 : Int32) mc X_ml Fe_ml Fs_ml Fm_ml (by decide) (by decide)) all0 rfl pd_19 rfl (Nat.le_of_eq rfl) (by decide) (by decide) (by decide) (by decide) rfl ?_
  rintro T26 h26 _ W26 K26 P26 ⟨sl, rfl, o_sl, X_sl, Fu_sl, Fq_sl, Fo_sl, Fs_sl, Fm_sl⟩
  have X_a1 := X_a1.keep K26
  have Fg_a1 := Fg_a1.keep K26 nin0
  have Fp_a1 := Fp_a1.keep K26 nin0
  have Ff_a1 := Ff_a1.keep K26 nin0
  have Fl_a1 := Fl_a1.keep K26 nin0
  have X_ml := X_ml.keep K26
  have Fe_ml := Fe_ml.keep K26 nin0
  have Fs_ml := Fs_ml.keep K26 nin0
  have Fm_ml := Fm_ml.keep K26 nin0
  have E_l := E_l.keep K26
  have X_b0 := X_b0.keep K26
  have B_b0 := B_b0.keep K26
  have X_b1 := X_b1.keep K26
  have B_b1 := B_b1.keep K26
  have X_b2 := X_b2.keep K26
  have B_b2 := B_b2.keep K26
  have V_ed := V_ed.keep K26 nin0
  show own_Go p e below C T26 (mkF m 87 #[.val (.ref a1), .val (.long q2), .second, .val (.int (3 : Int32)), .unset] [(.ref sl)])
  have ne_a1_sl : a1 ≠ sl := Nat.ne_of_lt (Nat.lt_of_lt_of_le q_a1 o_sl)
  have ne_ml_sl : ml ≠ sl := Nat.ne_of_lt (Nat.lt_of_lt_of_le q_ml o_sl)
  have ne_ed_sl : ed ≠ sl := Nat.ne_of_lt (Nat.lt_of_lt_of_le q_ed o_sl)
  have os_sl : s.heap.size ≤ sl := Nat.le_trans hsH o_sl
  have E_t : own_El Z h26 (own_upd (own_upd (own_upd vf 0 .null) 1 .null) 2 .null) 3 3 := fun j h1 h2 => by
    obtain ⟨b, e1, e2, e3⟩ := E_l j (by omega) h2
    exact ⟨b, by simp only [own_upd]; rw [if_neg (by omega), if_neg (by omega), if_neg (by omega)]; exact e1, e2, e3⟩
  refine own_callI W26 (A := []) (wt := 0) (pc' := 92) (st := []) d18_87 (wd216 hw) (wd217 hw) (wd218 hw) (by first | rfl | decide +kernel) (wd219 hw) (wd220 hw) (wd221 hw) (wd222 hw) (wd223 hw) (wd11 hw) (wd224 hw) (by decide) X_sl (own_m28_33 l Z a0 hw [] h26 sl ml ed mc (own_upd (own_upd (own_upd vf 0 .null) 1 .null) 2 .null) X_sl Fu_sl Fq_sl Fo_sl Fs_sl Fm_sl X_ml Fe_ml Fs_ml Fm_ml V_ed E_t (own_Rf.upd (own_Rf.upd (own_Rf.upd hrf 0 rfl) 1 rfl) 2 rfl) (Ne.symm ne_ml_sl) (Ne.symm ne_ed_sl) ne_ml_ed) (allS (Or.inr os_sl) (allS (Or.inl (List.mem_of_getElem? (i := 1) rfl)) (allS (Or.inl (List.mem_of_getElem? (i := 2) rfl)) all0))) rfl pd_0 rfl (Nat.le_of_eq rfl) (by decide) (by decide) (by decide) (by decide) rfl ?_
  rintro T27 h27 _ W27 K27 P27 ⟨rfl, ⟨Fe_ml, Fs_ml, Fm_ml, QA⟩⟩
  have X_a1 := X_a1.keep K27
  have Fg_a1 := Fg_a1.keep K27 (ninS ne_a1_sl (ninS ne_a1_ml (ninS ne_a1_ed nin0)))
  have Fp_a1 := Fp_a1.keep K27 (ninS ne_a1_sl (ninS ne_a1_ml (ninS ne_a1_ed nin0)))
  have Ff_a1 := Ff_a1.keep K27 (ninS ne_a1_sl (ninS ne_a1_ml (ninS ne_a1_ed nin0)))
  have Fl_a1 := Fl_a1.keep K27 (ninS ne_a1_sl (ninS ne_a1_ml (ninS ne_a1_ed nin0)))
  have X_ml := X_ml.keep K27
  have X_b0 := X_b0.keep K27
  have X_b1 := X_b1.keep K27
  have X_b2 := X_b2.keep K27
  have X_sl := X_sl.keep K27
  show own_Go p e below C T27 (mkF m 92 #[.val (.ref a1), .val (.long q2), .second, .val (.int (3 : Int32)), .unset] [])
  obtain ⟨vg, V_ed, hrg, E_g⟩ := QA
  refine own_aloadN W27 93 d18_92 rfl rfl rfl ?_
  refine own_aloadN W27 94 d18_93 rfl rfl rfl ?_
  refine own_getfield W27 97 d18_94 (wd75 hw) Ff_a1 rfl ?_
  intro T28 W28
  refine own_putfield W28 (.long q2) 100 d18_97 (wd151 hw) Fl_a1 X_a1 (Or.inl (wd152 hw)) (wd60 hw) (Or.inl (List.mem_of_getElem? (i := 0) rfl)) (ty := .long) (by decide) rfl rfl rfl ?_
  intro T29 h29 W29 Wr29 Fl_a1
  have X_a1 := X_a1.wr Wr29
  have Fg_a1 := Fg_a1.other Wr29 (Or.inr (slot_ne (Or.inr (wd69 hw)) (Or.inl (wd152 hw)) (by decide) (t := (.object "java/util/List")) (t' := .long) (by decide) (by decide)))
  have Fp_a1 := Fp_a1.other Wr29 (Or.inr (slot_ne (Or.inl (wd141 hw)) (Or.inl (wd152 hw)) (by decide) (t := .long) (t' := .long) (by decide) (by decide)))
  have Ff_a1 := Ff_a1.other Wr29 (Or.inr (slot_ne (Or.inl (wd76 hw)) (Or.inl (wd152 hw)) (by decide) (t := .long) (t' := .long) (by decide) (by decide)))
  have X_ml := X_ml.wr Wr29
  have X_b0 := X_b0.wr Wr29
  have X_b1 := X_b1.wr Wr29
  have X_b2 := X_b2.wr Wr29
  have X_sl := X_sl.wr Wr29
  have Fe_ml := Fe_ml.other Wr29 (Or.inl (Ne.symm ne_a1_ml))
  have Fs_ml := Fs_ml.other Wr29 (Or.inl (Ne.symm ne_a1_ml))
  have Fm_ml := Fm_ml.other Wr29 (Or.inl (Ne.symm ne_a1_ml))
  have V_ed := V_ed.other Wr29 (Ne.symm ne_a1_ed)
  have E_g := E_g.wr Wr29
  refine own_retV (Q := fun v h => v = none ∧ (∃ pl' mc' vf', own_fg Z h a1 (.ref ml) ∧ own_fp Z h a1 (.long pl') ∧ own_ff Z h a1 (.long q2) ∧ own_fl Z h a1 (.long q2) ∧ own_fe Z h ml (.ref ed) ∧ own_fs Z h ml (.int (0 : Int32)) ∧ own_fm Z h ml (.int mc') ∧ own_R Z h ed "java/lang/Object" 10 vf' ∧ own_Rf vf' ∧ own_El Z h vf' 0 0)) W29 hC (by decide) (by decide) d18_100 ?_
  exact ⟨rfl, ⟨_, _, vg, Fg_a1, Fp_a1, Ff_a1, Fl_a1, Fe_ml, Fs_ml, Fm_ml, V_ed, hrg, E_g⟩⟩
theorem own_k3 (u : Int32) : ∃ k : Nat, (u &&& (3 : Int32)).toInt = (k : Int) ∧ k < 4 := by
  have h1 := c_mask u 3 2 (by decide) (by decide)
  simp only [Nat.reducePow] at h1
  exact ⟨((u &&& (3 : Int32)).toInt).toNat, by omega, by omega⟩
theorem own_rm {u v : Int32} {n : Nat} (hv : v.toInt = (n : Int)) (hn : 0 < n) : ∃ k : Nat, ((u &&& (2147483647 : Int32)) % v).toInt = (k : Int) ∧ k < n := by
  have h1 := c_mask u 2147483647 31 (by decide) (by decide)
  simp only [Nat.reducePow] at h1
  have h2 := (c_irem (u &&& 2147483647) v n hv).1 (by omega)
  have h3 := Int.emod_nonneg (u &&& 2147483647).toInt (show (n : Int) ≠ 0 by omega)
  have h4 := Int.emod_lt_of_pos (u &&& 2147483647).toInt (show (0 : Int) < n by omega)
  exact ⟨((u &&& (2147483647 : Int32)) % v).toInt.toNat, by omega, by omega⟩
theorem own_addN {u v : Int32} {i j : Nat} (hu : u.toInt = (i : Int)) (hv : v.toInt = (j : Int)) (q : i + j < 2147483648) : (u + v).toInt = ((i + j : Nat) : Int) := by
  have h1 := c_iadd u v
  have h2 := rng32 (u + v)
  omega
theorem own_subN {u v : Int32} {i j : Nat} (hu : u.toInt = (i : Int)) (hv : v.toInt = (j : Int)) (q : j ≤ i) : (u - v).toInt = ((i - j : Nat) : Int) := by
  have h1 := c_isub u v
  have h2 := rng32 (u - v)
  have h3 := rng32 u
  omega
theorem own_nz32 {u : Int32} {n : Nat} (h : u.toInt = (n : Int)) (h1 : 1 ≤ n) : u ≠ 0 := by
  intro q
  rw [q] at h
  have : (0 : Int32).toInt = 0 := rfl
  omega
theorem ef_m0 (m : MethodId) (x0 : Int64) (x1 : Int32) (x2 : Int32) (x3 : Int32) (x4 : Int32) : entryFrame m #[(.long x0), (.int x1), (.int x2), (.int x3), (.int x4)] maxLocals = mkF m 0 #[.val (.long x0), .second, .val (.int x1), .val (.int x2), .val (.int x3), .val (.int x4), .unset, .unset, .unset, .unset, .unset, .unset, .unset, .unset] [] := by first | (simp [entryFrame, mkF, argsToLocals, Value.category, maxLocals]; done) | rfl
set_option maxRecDepth 65536 in
set_option maxHeartbeats 40000000 in
theorem own_kd_00 (l : Launch) (Z : State) (a0 : Array Value) (hw : ∀ d ∈ tables_1, d.before a0 Z = true) (h0 : Heap) (q1 : Int64) (p2 : Int32) (p3 : Int32) (p4 : Int32) (p5 : Int32) (p : Program) (e : Env) (s : State) (m : MethodId) (below : List Frame) (meth : Method) (c : Code) (C : Outcome → State → Prop) (hC : ∀ v L u, own_Fw s [] L → (v = some (.int (1 : Int32))) → FrameEnd s (.returned v) u L room_1.cells room_1.slots → C (.returned v) u) (T : State) (h : Heap) (de : Addr) (df : Nat → Value) (xx : Int64) (d2 : Int32) (d2n : Nat) (ad lg ml : Addr) (pl1 : Int64) (W : own_W p l e room_1 s m #[(.long q1), (.int p2), (.int p3), (.int p4), (.int p5)] below meth c Z x ret code maxLocals [] T h (0 + 1 + 0 + 1 + 1 + 0 + 1 + 0) (0 + 3 + 0 + 4 + 3 + 0 + 4 + 0)) (S0 : Sta Z s.heap "java/util/ArrayList" "DEFAULTCAPACITY_EMPTY_ELEMENTDATA" "[Ljava/lang/Object;" (.ref de)) (V0 : own_A Z s.heap de (.object "java/lang/Object") 0 df) (hd2 : d2.toInt = (d2n : Int)) (h12 : 0 ≤ d2n ∧ d2n ≤ 0) (os_lg : s.heap.size ≤ lg) (os_ml : s.heap.size ≤ ml) (X_lg : own_xm Z h lg) (Fg_lg : own_fg Z h lg (.ref ml)) (Fp_lg : own_fp Z h lg (.long pl1)) (Ff_lg : own_ff Z h lg (.long (0 : Int64))) (Fl_lg : own_fl Z h lg (.long (0 : Int64))) (X_ml : own_xl Z h ml) (Fe_ml : own_fe Z h ml (.ref de)) (Fs_ml : own_fs Z h ml (.int (0 : Int32))) (Fm_ml : own_fm Z h ml (.int (0 : Int32))) (ne_lg_ml : lg ≠ ml) (ne_lg_de : lg ≠ de) (ne_ml_de : ml ≠ de) :
    own_Go p e below C T (mkF m 189 #[.val (.long q1), .second, .val (.int p2), .val (.int p3), .val (.int p4), .val (.int p5), .val (.int (0 : Int32)), .val (.int (0 : Int32)), .val (.int d2), .val (.long xx), .second, .val (.ref ad), .val (.ref lg), .val (.int (1 : Int32))] []) := by
  refine own_aload W 191 at_189 rfl rfl rfl ?_
  refine own_iload W 193 at_191 rfl rfl ?_
  refine own_i2l W 194 at_193 rfl ?_
  have S_de := own_staK0 S0 (own_WK W)
  have V_de := V0.keep (own_WK W) nin0
  refine own_callV W (A := [(.long (0 : Int32).toInt64)]) (wt := 0) (pc' := 197) (st := []) at_194 (wd142 hw) (wd143 hw) (own_nf W (wd145 hw)) (wd145 hw) (wd144 hw) (wd61 hw) (wd146 hw) (by decide) X_lg (own_m18_00 l Z a0 hw [] h lg (0 : Int32).toInt64 ml de pl1 (0 : Int64) (0 : Int32) df 0 0 X_lg Fg_lg Fp_lg Ff_lg Fl_lg X_ml Fe_ml Fs_ml Fm_ml V_de ne_lg_ml ne_lg_de ne_ml_de rfl rfl (by decide)) (allS (Or.inr os_lg) (allS (Or.inr os_ml) all0)) rfl pd_23 rfl (Nat.le_of_eq rfl) (by decide) (by decide) (by decide) (by decide) rfl ?_
  rintro T2013 h2013 _ W2013 K2013 P2013 ⟨rfl, ⟨pl2, mc2, Fg_lg, Fp_lg, Ff_lg, Fl_lg, Fe_ml, Fs_ml, Fm_ml⟩⟩
  have X_lg := X_lg.keep K2013
  have X_ml := X_ml.keep K2013
  show own_Go p e below C T2013 (mkF m 197 #[.val (.long q1), .second, .val (.int p2), .val (.int p3), .val (.int p4), .val (.int p5), .val (.int (0 : Int32)), .val (.int (0 : Int32)), .val (.int d2), .val (.long xx), .second, .val (.ref ad), .val (.ref lg), .val (.int (1 : Int32))] [])
  refine own_iload W2013 199 at_197 rfl rfl ?_
  refine own_ifN W2013 202 at_199 ((if0 _ _).trans (feq ((by decide) : ¬ ((1 : Int32) = (0 : Int32)))).1) rfl ?_
  refine own_aload W2013 204 at_202 rfl rfl rfl ?_
  refine own_lload W2013 206 at_204 rfl rfl ?_
  refine own_callV W2013 (A := [(.long xx)]) (wt := 0) (pc' := 209) (st := []) at_206 (wd70 hw) (wd71 hw) (own_nf W2013 (wd73 hw)) (wd73 hw) (wd72 hw) (wd61 hw) (wd74 hw) (by decide) X_lg (own_m11 l Z a0 hw [] h2013 lg xx (0 : Int32).toInt64 Ff_lg) all0 rfl pd_21 rfl (Nat.le_of_eq rfl) (by decide) (by decide) (by decide) (by decide) rfl ?_
  rintro T2014 h2014 _ W2014 K2014 P2014 rfl
  rw [P2014 rfl rfl] at W2014
  show own_Go p e below C T2014 (mkF m 209 #[.val (.long q1), .second, .val (.int p2), .val (.int p3), .val (.int p4), .val (.int p5), .val (.int (0 : Int32)), .val (.int (0 : Int32)), .val (.int d2), .val (.long xx), .second, .val (.ref ad), .val (.ref lg), .val (.int (1 : Int32))] [(.int (if (0 : Int32).toInt64 < xx then (1 : Int32) else 0))])
  refine own_lload W2014 211 at_209 rfl rfl ?_
  refine own_iload W2014 213 at_211 rfl rfl ?_
  refine own_i2l W2014 214 at_213 rfl ?_
  refine own_lcmp W2014 215 at_214 rfl ?_
  suffices J2015 : own_Go p e below C T2014 (mkF m 223 #[.val (.long q1), .second, .val (.int p2), .val (.int p3), .val (.int p4), .val (.int p5), .val (.int (0 : Int32)), .val (.int (0 : Int32)), .val (.int d2), .val (.long xx), .second, .val (.ref ad), .val (.ref lg), .val (.int (1 : Int32))] [(.int (if (0 : Int32).toInt64 < xx then (1 : Int32) else (0 : Int32))), (.int (if (0 : Int32).toInt64 < xx then (1 : Int32) else 0))]) by
    by_cases c2016 : (0 : Int32).toInt64 < xx
    · refine own_ifN W2014 218 at_215 ((if0 _ _).trans (tlt ((lw_gt xx (0 : Int32).toInt64).mpr c2016)).2.2.2) rfl ?_
      refine own_iconst W2014 (1 : Int32) 219 at_218 rfl rfl ?_
      refine own_goto W2014 223 at_219 (by decide) (by decide) ?_
      first | (simp only [if_pos c2016] at J2015; exact J2015) | (simp only [if_pos c2016] at J2015 ⊢; exact J2015)
    · refine own_ifY W2014 222 at_215 ((if0 _ _).trans (flt (mt (lw_gt xx (0 : Int32).toInt64).mp c2016)).2.2.2) (by decide) (by decide) ?_
      refine own_iconst W2014 (0 : Int32) 223 at_222 rfl rfl ?_
      first | (simp only [if_neg c2016] at J2015; exact J2015) | (simp only [if_neg c2016] at J2015 ⊢; exact J2015)
  refine own_icmpN W2014 226 at_223 ((teq (rfl : (if (0 : Int32).toInt64 < xx then (1 : Int32) else 0) = (if (0 : Int32).toInt64 < xx then (1 : Int32) else (0 : Int32)))).2) rfl ?_
  refine own_iconst W2014 (1 : Int32) 227 at_226 rfl rfl ?_
  refine own_goto W2014 231 at_227 (by decide) (by decide) ?_
  refine own_istore W2014 233 #[.val (.long q1), .second, .val (.int p2), .val (.int p3), .val (.int p4), .val (.int p5), .val (.int (0 : Int32)), .val (.int (0 : Int32)), .val (.int d2), .val (.long xx), .second, .val (.ref ad), .val (.ref lg), .val (.int (1 : Int32))] at_231 rfl rfl ?_
  have fin : ∀ (dd : Int32) (T : State) (h : Heap), own_W p l e room_1 s m #[(.long q1), (.int p2), (.int p3), (.int p4), (.int p5)] below meth c Z x ret code maxLocals [] T h (0 + 1 + 0 + 1 + 1 + 0 + 1 + 0 + 1 + 0 + 1) (0 + 3 + 0 + 4 + 3 + 0 + 4 + 0 + 5 + 0 + 5) → own_xm Z h lg → own_ff Z h lg (.long dd.toInt64) → own_Go p e below C T (mkF m 241 #[.val (.long q1), .second, .val (.int p2), .val (.int p3), .val (.int p4), .val (.int p5), .val (.int (0 : Int32)), .val (.int (0 : Int32)), .val (.int dd), .val (.long xx), .second, .val (.ref ad), .val (.ref lg), .val (.int (1 : Int32))] []) := by
    intro dd T h W X_lg Ff_lg
    refine own_iload W 243 at_241 rfl rfl ?_
    refine own_ifN W 246 at_243 ((if0 _ _).trans (feq ((by decide) : ¬ ((1 : Int32) = (0 : Int32)))).1) rfl ?_
    refine own_aload W 248 at_246 rfl rfl rfl ?_
    refine own_lload W 250 at_248 rfl rfl ?_
    refine own_callV W (A := [(.long xx)]) (wt := 0) (pc' := 253) (st := []) at_250 (wd70 hw) (wd71 hw) (own_nf W (wd73 hw)) (wd73 hw) (wd72 hw) (wd61 hw) (wd74 hw) (by decide) X_lg (own_m11 l Z a0 hw [] h lg xx dd.toInt64 Ff_lg) all0 rfl pd_21 rfl (Nat.le_of_eq rfl) (by decide) (by decide) (by decide) (by decide) rfl ?_
    rintro T2017 h2017 _ W2017 K2017 P2017 rfl
    rw [P2017 rfl rfl] at W2017
    show own_Go p e below C T2017 (mkF m 253 #[.val (.long q1), .second, .val (.int p2), .val (.int p3), .val (.int p4), .val (.int p5), .val (.int (0 : Int32)), .val (.int (0 : Int32)), .val (.int dd), .val (.long xx), .second, .val (.ref ad), .val (.ref lg), .val (.int (1 : Int32))] [(.int (if dd.toInt64 < xx then (1 : Int32) else 0))])
    refine own_lload W2017 255 at_253 rfl rfl ?_
    refine own_iload W2017 257 at_255 rfl rfl ?_
    refine own_i2l W2017 258 at_257 rfl ?_
    refine own_lcmp W2017 259 at_258 rfl ?_
    suffices J2018 : own_Go p e below C T2017 (mkF m 267 #[.val (.long q1), .second, .val (.int p2), .val (.int p3), .val (.int p4), .val (.int p5), .val (.int (0 : Int32)), .val (.int (0 : Int32)), .val (.int dd), .val (.long xx), .second, .val (.ref ad), .val (.ref lg), .val (.int (1 : Int32))] [(.int (if dd.toInt64 < xx then (1 : Int32) else (0 : Int32))), (.int (if dd.toInt64 < xx then (1 : Int32) else 0))]) by
      by_cases c2019 : dd.toInt64 < xx
      · refine own_ifN W2017 262 at_259 ((if0 _ _).trans (tlt ((lw_gt xx dd.toInt64).mpr c2019)).2.2.2) rfl ?_
        refine own_iconst W2017 (1 : Int32) 263 at_262 rfl rfl ?_
        refine own_goto W2017 267 at_263 (by decide) (by decide) ?_
        first | (simp only [if_pos c2019] at J2018; exact J2018) | (simp only [if_pos c2019] at J2018 ⊢; exact J2018)
      · refine own_ifY W2017 266 at_259 ((if0 _ _).trans (flt (mt (lw_gt xx dd.toInt64).mp c2019)).2.2.2) (by decide) (by decide) ?_
        refine own_iconst W2017 (0 : Int32) 267 at_266 rfl rfl ?_
        first | (simp only [if_neg c2019] at J2018; exact J2018) | (simp only [if_neg c2019] at J2018 ⊢; exact J2018)
    refine own_icmpN W2017 270 at_267 ((teq (rfl : (if dd.toInt64 < xx then (1 : Int32) else 0) = (if dd.toInt64 < xx then (1 : Int32) else (0 : Int32)))).2) rfl ?_
    refine own_iconst W2017 (1 : Int32) 271 at_270 rfl rfl ?_
    refine own_goto W2017 275 at_271 (by decide) (by decide) ?_
    refine own_istore W2017 277 #[.val (.long q1), .second, .val (.int p2), .val (.int p3), .val (.int p4), .val (.int p5), .val (.int (0 : Int32)), .val (.int (0 : Int32)), .val (.int dd), .val (.long xx), .second, .val (.ref ad), .val (.ref lg), .val (.int (1 : Int32))] at_275 rfl rfl ?_
    refine own_iload W2017 279 at_277 rfl rfl ?_
    refine own_retZ (Q := fun v h => v = some (.int (1 : Int32))) W2017 hC (by decide) (by decide) at_279 ?_
    exact rfl
  rcases (by omega : d2n = 0) with rfl
  · obtain rfl : d2 = (0 : Int32) := own_lit32 hd2 _ rfl
    show own_Go p e below C T2014 (mkF m 233 #[.val (.long q1), .second, .val (.int p2), .val (.int p3), .val (.int p4), .val (.int p5), .val (.int (0 : Int32)), .val (.int (0 : Int32)), .val (.int (0 : Int32)), .val (.long xx), .second, .val (.ref ad), .val (.ref lg), .val (.int (1 : Int32))] [])
    refine own_aload W2014 235 at_233 rfl rfl rfl ?_
    refine own_iload W2014 237 at_235 rfl rfl ?_
    refine own_i2l W2014 238 at_237 rfl ?_
    have S_de := own_staK0 S0 (own_WK W2014)
    have V_de := V0.keep (own_WK W2014) nin0
    refine own_callV W2014 (A := [(.long (0 : Int32).toInt64)]) (wt := 0) (pc' := 241) (st := []) at_238 (wd142 hw) (wd143 hw) (own_nf W2014 (wd145 hw)) (wd145 hw) (wd144 hw) (wd61 hw) (wd146 hw) (by decide) X_lg (own_m18_00 l Z a0 hw [] h2013 lg (0 : Int32).toInt64 ml de pl2 (0 : Int32).toInt64 mc2 df 0 0 X_lg Fg_lg Fp_lg Ff_lg Fl_lg X_ml Fe_ml Fs_ml Fm_ml V_de ne_lg_ml ne_lg_de ne_ml_de rfl rfl (by decide)) (allS (Or.inr os_lg) (allS (Or.inr os_ml) all0)) rfl pd_23 rfl (Nat.le_of_eq rfl) (by decide) (by decide) (by decide) (by decide) rfl ?_
    rintro T2020 h2020 _ W2020 K2020 P2020 ⟨rfl, ⟨pl3, mc3, Fg_lg, Fp_lg, Ff_lg, Fl_lg, Fe_ml, Fs_ml, Fm_ml⟩⟩
    have X_lg := X_lg.keep K2020
    have X_ml := X_ml.keep K2020
    show own_Go p e below C T2020 (mkF m 241 #[.val (.long q1), .second, .val (.int p2), .val (.int p3), .val (.int p4), .val (.int p5), .val (.int (0 : Int32)), .val (.int (0 : Int32)), .val (.int (0 : Int32)), .val (.long xx), .second, .val (.ref ad), .val (.ref lg), .val (.int (1 : Int32))] [])
    exact fin (0 : Int32) _ _ W2020 X_lg Ff_lg
set_option maxRecDepth 65536 in
set_option maxHeartbeats 40000000 in
theorem own_k_0 (l : Launch) (Z : State) (a0 : Array Value) (hw : ∀ d ∈ tables_1, d.before a0 Z = true) (h0 : Heap) (q1 : Int64) (p2 : Int32) (p3 : Int32) (p4 : Int32) (p5 : Int32) (p : Program) (e : Env) (s : State) (m : MethodId) (below : List Frame) (meth : Method) (c : Code) (C : Outcome → State → Prop) (hC : ∀ v L u, own_Fw s [] L → (v = some (.int (1 : Int32))) → FrameEnd s (.returned v) u L room_1.cells room_1.slots → C (.returned v) u) (T : State) (h : Heap) (de : Addr) (df : Nat → Value) (xx : Int64) (d1 d2 : Int32) (d1n d2n : Nat) (W : own_W p l e room_1 s m #[(.long q1), (.int p2), (.int p3), (.int p4), (.int p5)] below meth c Z x ret code maxLocals [] T h (0) (0)) (S0 : Sta Z s.heap "java/util/ArrayList" "DEFAULTCAPACITY_EMPTY_ELEMENTDATA" "[Ljava/lang/Object;" (.ref de)) (V0 : own_A Z s.heap de (.object "java/lang/Object") 0 df) (hd1 : d1.toInt = (d1n : Int)) (hd2 : d2.toInt = (d2n : Int)) (h12 : d1n ≤ d2n ∧ d2n ≤ 0) :
    own_Go p e below C T (mkF m 56 #[.val (.long q1), .second, .val (.int p2), .val (.int p3), .val (.int p4), .val (.int p5), .val (.int (0 : Int32)), .val (.int d1), .val (.int d2), .val (.long xx), .second, .unset, .unset, .unset] []) := by
  have S_de := own_staK0 S0 (own_WK W)
  have V_de := V0.keep (own_WK W) nin0
  refine own_new W 59 at_56 (wd1 hw) (wd2 hw) (wd3 hw) (by decide) (by decide) rfl ?_
  intro T1002 h1002 ad W1002 E1002 g_ad o_ad X_ad D_ad
  have S_de := S_de.ext E1002
  have Fm_ad : own_fm Z h1002 ad (.int (0 : Int32)) := D_ad (Or.inl (wd23 hw)) (ty := .int) (by decide)
  have Fe_ad : own_fe Z h1002 ad .null := D_ad (Or.inl (wd26 hw)) (ty := (.array (.object "java/lang/Object"))) (by decide)
  have Fs_ad : own_fs Z h1002 ad (.int (0 : Int32)) := D_ad (Or.inl (wd36 hw)) (ty := .int) (by decide)
  have os_ad := o_ad
  have ne_ad_de := (Nat.ne_of_gt (Nat.lt_of_lt_of_le V0.lt os_ad))
  refine own_dup W1002 60 at_59 rfl rfl ?_
  refine own_callN W1002 (A := []) (wt := 1) (pc' := 63) (st := [(.ref ad)]) at_60 rfl (wd4 hw) (wd5 hw) (wd3 hw) (wd6 hw) (by decide) (own_m1 l Z a0 hw [] h1002 ad de S_de X_ad Fe_ad Fs_ad Fm_ad) (allS (Or.inr o_ad) all0) rfl pd_0 rfl (Nat.le_of_eq rfl) (by decide) (by decide) (by decide) (by decide) rfl ?_
  rintro T1003 h1003 _ W1003 K1003 P1003 ⟨rfl, ⟨Fe_ad, Fs_ad, Fm_ad⟩⟩
  have S_de := own_staK1 S_de K1003 X_ad
  have X_ad := X_ad.keep K1003
  show own_Go p e below C T1003 (mkF m 63 #[.val (.long q1), .second, .val (.int p2), .val (.int p3), .val (.int p4), .val (.int p5), .val (.int (0 : Int32)), .val (.int d1), .val (.int d2), .val (.long xx), .second, .unset, .unset, .unset] [(.ref ad)])
  refine own_astore W1003 65 #[.val (.long q1), .second, .val (.int p2), .val (.int p3), .val (.int p4), .val (.int p5), .val (.int (0 : Int32)), .val (.int d1), .val (.int d2), .val (.long xx), .second, .val (.ref ad), .unset, .unset] at_63 rfl rfl rfl ?_
  refine own_iload W1003 67 at_65 rfl rfl ?_
  refine own_ifY W1003 79 at_67 ((if0 _ _).trans (flt ((by decide) : ¬ ((0 : Int32) < (0 : Int32)))).2.2.2) (by decide) (by decide) ?_
  refine own_iload W1003 81 at_79 rfl rfl ?_
  refine own_iconst W1003 (1 : Int32) 82 at_81 rfl rfl ?_
  refine own_icmpY W1003 94 at_82 ((flt ((by decide) : ¬ ((1 : Int32) < (0 : Int32)))).2.2.2) (by decide) (by decide) ?_
  refine own_iload W1003 96 at_94 rfl rfl ?_
  refine own_iconst W1003 (2 : Int32) 97 at_96 rfl rfl ?_
  refine own_icmpY W1003 109 at_97 ((flt ((by decide) : ¬ ((2 : Int32) < (0 : Int32)))).2.2.2) (by decide) (by decide) ?_
  refine own_new W1003 112 at_109 (wd59 hw) (wd60 hw) (wd61 hw) (by decide) (by decide) rfl ?_
  intro T1004 h1004 lg W1004 E1004 g_lg o_lg X_lg D_lg
  have ne_ad_lg : ad ≠ lg := by rw [g_lg]; exact Nat.ne_of_lt X_ad.lt
  have X_ad := X_ad.ext E1004
  have Fe_ad := Fe_ad.ext E1004
  have Fs_ad := Fs_ad.ext E1004
  have Fm_ad := Fm_ad.ext E1004
  have Fg_lg : own_fg Z h1004 lg .null := D_lg (Or.inr (wd69 hw)) (ty := (.object "java/util/List")) (by decide)
  have Ff_lg : own_ff Z h1004 lg (.long (0 : Int64)) := D_lg (Or.inl (wd76 hw)) (ty := .long) (by decide)
  have Fp_lg : own_fp Z h1004 lg (.long (0 : Int64)) := D_lg (Or.inl (wd141 hw)) (ty := .long) (by decide)
  have Fl_lg : own_fl Z h1004 lg (.long (0 : Int64)) := D_lg (Or.inl (wd152 hw)) (ty := .long) (by decide)
  have os_lg := o_lg
  have ne_lg_de := (Nat.ne_of_gt (Nat.lt_of_lt_of_le V0.lt os_lg))
  refine own_dup W1004 113 at_112 rfl rfl ?_
  have S_de := own_staK0 S0 (own_WK W1004)
  have V_de := V0.keep (own_WK W1004) nin0
  have hsH := own_le W1004
  have q_ad := X_ad.lt
  have q_lg := X_lg.lt
  refine own_callN W1004 (A := []) (wt := 1) (pc' := 116) (st := [(.ref lg)]) at_113 rfl (wd62 hw) (wd63 hw) (wd61 hw) (wd64 hw) (by decide) (own_m10 l Z a0 hw [] h1004 lg de S_de X_lg Fg_lg Fp_lg Ff_lg Fl_lg) (allS (Or.inr o_lg) all0) rfl pd_0 rfl (Nat.le_of_eq rfl) (by decide) (by decide) (by decide) (by decide) rfl ?_
  rintro T1005 h1005 _ W1005 K1005 P1005 ⟨rfl, ⟨ml, o_ml, X_ml, Fg_lg, Fp_lg, Ff_lg, Fl_lg, Fe_ml, Fs_ml, Fm_ml⟩⟩
  have X_ad := X_ad.keep K1005
  have Fe_ad := Fe_ad.keep K1005 (ninS ne_ad_lg nin0)
  have Fs_ad := Fs_ad.keep K1005 (ninS ne_ad_lg nin0)
  have Fm_ad := Fm_ad.keep K1005 (ninS ne_ad_lg nin0)
  have X_lg := X_lg.keep K1005
  show own_Go p e below C T1005 (mkF m 116 #[.val (.long q1), .second, .val (.int p2), .val (.int p3), .val (.int p4), .val (.int p5), .val (.int (0 : Int32)), .val (.int d1), .val (.int d2), .val (.long xx), .second, .val (.ref ad), .unset, .unset] [(.ref lg)])
  have ne_ad_ml : ad ≠ ml := Nat.ne_of_lt (Nat.lt_of_lt_of_le q_ad o_ml)
  have ne_lg_ml : lg ≠ ml := Nat.ne_of_lt (Nat.lt_of_lt_of_le q_lg o_ml)
  have os_ml : s.heap.size ≤ ml := Nat.le_trans hsH o_ml
  have ne_ml_de := (Nat.ne_of_gt (Nat.lt_of_lt_of_le V0.lt os_ml))
  refine own_astore W1005 118 #[.val (.long q1), .second, .val (.int p2), .val (.int p3), .val (.int p4), .val (.int p5), .val (.int (0 : Int32)), .val (.int d1), .val (.int d2), .val (.long xx), .second, .val (.ref ad), .val (.ref lg), .unset] at_116 rfl rfl rfl ?_
  refine own_aload W1005 120 at_118 rfl rfl rfl ?_
  refine own_lload W1005 122 at_120 rfl rfl ?_
  refine own_callV W1005 (A := [(.long xx)]) (wt := 0) (pc' := 125) (st := []) at_122 (wd70 hw) (wd71 hw) (own_nf W1005 (wd73 hw)) (wd73 hw) (wd72 hw) (wd61 hw) (wd74 hw) (by decide) X_lg (own_m11 l Z a0 hw [] h1005 lg xx (0 : Int64) Ff_lg) all0 rfl pd_21 rfl (Nat.le_of_eq rfl) (by decide) (by decide) (by decide) (by decide) rfl ?_
  rintro T1006 h1006 _ W1006 K1006 P1006 rfl
  rw [P1006 rfl rfl] at W1006
  show own_Go p e below C T1006 (mkF m 125 #[.val (.long q1), .second, .val (.int p2), .val (.int p3), .val (.int p4), .val (.int p5), .val (.int (0 : Int32)), .val (.int d1), .val (.int d2), .val (.long xx), .second, .val (.ref ad), .val (.ref lg), .unset] [(.int (if (0 : Int64) < xx then (1 : Int32) else 0))])
  refine own_lload W1006 127 at_125 rfl rfl ?_
  refine own_lconst W1006 (0 : Int64) 128 at_127 rfl rfl ?_
  refine own_lcmp W1006 129 at_128 rfl ?_
  suffices J1007 : own_Go p e below C T1006 (mkF m 137 #[.val (.long q1), .second, .val (.int p2), .val (.int p3), .val (.int p4), .val (.int p5), .val (.int (0 : Int32)), .val (.int d1), .val (.int d2), .val (.long xx), .second, .val (.ref ad), .val (.ref lg), .unset] [(.int (if (0 : Int64) < xx then (1 : Int32) else (0 : Int32))), (.int (if (0 : Int64) < xx then (1 : Int32) else 0))]) by
    by_cases c1008 : (0 : Int64) < xx
    · refine own_ifN W1006 132 at_129 ((if0 _ _).trans (tlt ((lw_gt xx (0 : Int64)).mpr c1008)).2.2.2) rfl ?_
      refine own_iconst W1006 (1 : Int32) 133 at_132 rfl rfl ?_
      refine own_goto W1006 137 at_133 (by decide) (by decide) ?_
      first | (simp only [if_pos c1008] at J1007; exact J1007) | (simp only [if_pos c1008] at J1007 ⊢; exact J1007)
    · refine own_ifY W1006 136 at_129 ((if0 _ _).trans (flt (mt (lw_gt xx (0 : Int64)).mp c1008)).2.2.2) (by decide) (by decide) ?_
      refine own_iconst W1006 (0 : Int32) 137 at_136 rfl rfl ?_
      first | (simp only [if_neg c1008] at J1007; exact J1007) | (simp only [if_neg c1008] at J1007 ⊢; exact J1007)
  refine own_icmpN W1006 140 at_137 ((teq (rfl : (if (0 : Int64) < xx then (1 : Int32) else 0) = (if (0 : Int64) < xx then (1 : Int32) else (0 : Int32)))).2) rfl ?_
  refine own_iconst W1006 (1 : Int32) 141 at_140 rfl rfl ?_
  refine own_goto W1006 145 at_141 (by decide) (by decide) ?_
  refine own_istore W1006 147 #[.val (.long q1), .second, .val (.int p2), .val (.int p3), .val (.int p4), .val (.int p5), .val (.int (0 : Int32)), .val (.int d1), .val (.int d2), .val (.long xx), .second, .val (.ref ad), .val (.ref lg), .val (.int (1 : Int32))] at_145 rfl rfl ?_
  refine own_aload W1006 149 at_147 rfl rfl rfl ?_
  refine own_lconst W1006 (0 : Int64) 150 at_149 rfl rfl ?_
  refine own_aload W1006 152 at_150 rfl rfl rfl ?_
  have S_de := own_staK0 S0 (own_WK W1006)
  have V_de := V0.keep (own_WK W1006) nin0
  have hsH := own_le W1006
  have q_ad := X_ad.lt
  have q_lg := X_lg.lt
  have q_ml := X_ml.lt
  refine own_callV W1006 (A := [(.long (0 : Int64)), (.ref ad)]) (wt := 0) (pc' := 155) (st := []) at_152 (wd77 hw) (wd78 hw) (own_nf W1006 (wd80 hw)) (wd80 hw) (wd79 hw) (wd61 hw) (wd81 hw) (by decide) X_lg (own_m12_0 l Z a0 hw [] h1005 lg (0 : Int64) ad de df ml (0 : Int64) (0 : Int32) S_de V_de X_lg Fg_lg Fp_lg Ff_lg Fl_lg X_ml Fe_ml Fs_ml Fm_ml X_ad Fe_ad Fs_ad Fm_ad ne_lg_ml (Ne.symm ne_ad_lg) (Ne.symm ne_ad_ml) ne_ml_de ne_lg_de ne_ad_de) (allS (Or.inr o_lg) (allS (Or.inr os_ml) all0)) rfl pd_22 rfl (Nat.le_of_eq rfl) (by decide) (by decide) (by decide) (by decide) rfl ?_
  rintro T1009 h1009 _ W1009 K1009 P1009 ⟨rfl, ⟨pl1, Fg_lg, Fp_lg, Ff_lg, Fl_lg, Fe_ml, Fs_ml, Fm_ml⟩⟩
  have X_ad := X_ad.keep K1009
  have Fe_ad := Fe_ad.keep K1009 (ninS ne_ad_lg (ninS ne_ad_ml nin0))
  have Fs_ad := Fs_ad.keep K1009 (ninS ne_ad_lg (ninS ne_ad_ml nin0))
  have Fm_ad := Fm_ad.keep K1009 (ninS ne_ad_lg (ninS ne_ad_ml nin0))
  have X_lg := X_lg.keep K1009
  have X_ml := X_ml.keep K1009
  show own_Go p e below C T1009 (mkF m 155 #[.val (.long q1), .second, .val (.int p2), .val (.int p3), .val (.int p4), .val (.int p5), .val (.int (0 : Int32)), .val (.int d1), .val (.int d2), .val (.long xx), .second, .val (.ref ad), .val (.ref lg), .val (.int (1 : Int32))] [])
  refine own_iload W1009 157 at_155 rfl rfl ?_
  refine own_ifN W1009 160 at_157 ((if0 _ _).trans (feq ((by decide) : ¬ ((1 : Int32) = (0 : Int32)))).1) rfl ?_
  refine own_aload W1009 162 at_160 rfl rfl rfl ?_
  refine own_lload W1009 164 at_162 rfl rfl ?_
  refine own_callV W1009 (A := [(.long xx)]) (wt := 0) (pc' := 167) (st := []) at_164 (wd70 hw) (wd71 hw) (own_nf W1009 (wd73 hw)) (wd73 hw) (wd72 hw) (wd61 hw) (wd74 hw) (by decide) X_lg (own_m11 l Z a0 hw [] h1009 lg xx (0 : Int64) Ff_lg) all0 rfl pd_21 rfl (Nat.le_of_eq rfl) (by decide) (by decide) (by decide) (by decide) rfl ?_
  rintro T1010 h1010 _ W1010 K1010 P1010 rfl
  rw [P1010 rfl rfl] at W1010
  show own_Go p e below C T1010 (mkF m 167 #[.val (.long q1), .second, .val (.int p2), .val (.int p3), .val (.int p4), .val (.int p5), .val (.int (0 : Int32)), .val (.int d1), .val (.int d2), .val (.long xx), .second, .val (.ref ad), .val (.ref lg), .val (.int (1 : Int32))] [(.int (if (0 : Int64) < xx then (1 : Int32) else 0))])
  refine own_lload W1010 169 at_167 rfl rfl ?_
  refine own_lconst W1010 (0 : Int64) 170 at_169 rfl rfl ?_
  refine own_lcmp W1010 171 at_170 rfl ?_
  suffices J1011 : own_Go p e below C T1010 (mkF m 179 #[.val (.long q1), .second, .val (.int p2), .val (.int p3), .val (.int p4), .val (.int p5), .val (.int (0 : Int32)), .val (.int d1), .val (.int d2), .val (.long xx), .second, .val (.ref ad), .val (.ref lg), .val (.int (1 : Int32))] [(.int (if (0 : Int64) < xx then (1 : Int32) else (0 : Int32))), (.int (if (0 : Int64) < xx then (1 : Int32) else 0))]) by
    by_cases c1012 : (0 : Int64) < xx
    · refine own_ifN W1010 174 at_171 ((if0 _ _).trans (tlt ((lw_gt xx (0 : Int64)).mpr c1012)).2.2.2) rfl ?_
      refine own_iconst W1010 (1 : Int32) 175 at_174 rfl rfl ?_
      refine own_goto W1010 179 at_175 (by decide) (by decide) ?_
      first | (simp only [if_pos c1012] at J1011; exact J1011) | (simp only [if_pos c1012] at J1011 ⊢; exact J1011)
    · refine own_ifY W1010 178 at_171 ((if0 _ _).trans (flt (mt (lw_gt xx (0 : Int64)).mp c1012)).2.2.2) (by decide) (by decide) ?_
      refine own_iconst W1010 (0 : Int32) 179 at_178 rfl rfl ?_
      first | (simp only [if_neg c1012] at J1011; exact J1011) | (simp only [if_neg c1012] at J1011 ⊢; exact J1011)
  refine own_icmpN W1010 182 at_179 ((teq (rfl : (if (0 : Int64) < xx then (1 : Int32) else 0) = (if (0 : Int64) < xx then (1 : Int32) else (0 : Int32)))).2) rfl ?_
  refine own_iconst W1010 (1 : Int32) 183 at_182 rfl rfl ?_
  refine own_goto W1010 187 at_183 (by decide) (by decide) ?_
  refine own_istore W1010 189 #[.val (.long q1), .second, .val (.int p2), .val (.int p3), .val (.int p4), .val (.int p5), .val (.int (0 : Int32)), .val (.int d1), .val (.int d2), .val (.long xx), .second, .val (.ref ad), .val (.ref lg), .val (.int (1 : Int32))] at_187 rfl rfl ?_
  rcases (by omega : d1n = 0) with rfl
  · obtain rfl : d1 = (0 : Int32) := own_lit32 hd1 _ rfl
    show own_Go p e below C T1010 (mkF m 189 #[.val (.long q1), .second, .val (.int p2), .val (.int p3), .val (.int p4), .val (.int p5), .val (.int (0 : Int32)), .val (.int (0 : Int32)), .val (.int d2), .val (.long xx), .second, .val (.ref ad), .val (.ref lg), .val (.int (1 : Int32))] [])
    exact own_kd_00 l Z a0 hw h0 q1 p2 p3 p4 p5 p e s m below meth c C hC T1010 h1009 de df xx d2 d2n ad lg ml pl1 W1010 S0 V0 hd2 h12 os_lg os_ml X_lg Fg_lg Fp_lg Ff_lg Fl_lg X_ml Fe_ml Fs_ml Fm_ml ne_lg_ml ne_lg_de ne_ml_de
set_option maxRecDepth 65536 in
set_option maxHeartbeats 40000000 in
theorem own_kd_10 (l : Launch) (Z : State) (a0 : Array Value) (hw : ∀ d ∈ tables_1, d.before a0 Z = true) (h0 : Heap) (q1 : Int64) (p2 : Int32) (p3 : Int32) (p4 : Int32) (p5 : Int32) (p : Program) (e : Env) (s : State) (m : MethodId) (below : List Frame) (meth : Method) (c : Code) (C : Outcome → State → Prop) (hC : ∀ v L u, own_Fw s [] L → (v = some (.int (1 : Int32))) → FrameEnd s (.returned v) u L room_1.cells room_1.slots → C (.returned v) u) (T : State) (h : Heap) (de : Addr) (df : Nat → Value) (xx : Int64) (d2 : Int32) (d2n : Nat) (ad lg ml : Addr) (pl1 : Int64) (em : Addr) (mc1 : Int32) (vm : Nat → Value) (W : own_W p l e room_1 s m #[(.long q1), (.int p2), (.int p3), (.int p4), (.int p5)] below meth c Z x ret code maxLocals [] T h (0 + 1 + 0 + 1 + 1 + 1 + 1 + 0 + 2 + 0) (0 + 3 + 0 + 1 + 10 + 4 + 3 + 0 + 14 + 0)) (S0 : Sta Z s.heap "java/util/ArrayList" "DEFAULTCAPACITY_EMPTY_ELEMENTDATA" "[Ljava/lang/Object;" (.ref de)) (V0 : own_A Z s.heap de (.object "java/lang/Object") 0 df) (hd2 : d2.toInt = (d2n : Int)) (h12 : 0 ≤ d2n ∧ d2n ≤ 1) (os_lg : s.heap.size ≤ lg) (os_ml : s.heap.size ≤ ml) (os_em : s.heap.size ≤ em) (X_lg : own_xm Z h lg) (Fg_lg : own_fg Z h lg (.ref ml)) (Fp_lg : own_fp Z h lg (.long pl1)) (Ff_lg : own_ff Z h lg (.long (0 : Int64))) (Fl_lg : own_fl Z h lg (.long (0 : Int64))) (X_ml : own_xl Z h ml) (Fe_ml : own_fe Z h ml (.ref em)) (Fs_ml : own_fs Z h ml (.int (1 : Int32))) (Fm_ml : own_fm Z h ml (.int mc1)) (V_em : own_R Z h em "java/lang/Object" 10 vm) (hrm : own_Rf vm) (E_m : own_El Z h vm 0 1) (ne_lg_ml : lg ≠ ml) (ne_lg_em : lg ≠ em) (ne_ml_em : ml ≠ em) :
    own_Go p e below C T (mkF m 189 #[.val (.long q1), .second, .val (.int p2), .val (.int p3), .val (.int p4), .val (.int p5), .val (.int (1 : Int32)), .val (.int (0 : Int32)), .val (.int d2), .val (.long xx), .second, .val (.ref ad), .val (.ref lg), .val (.int (1 : Int32))] []) := by
  refine own_aload W 191 at_189 rfl rfl rfl ?_
  refine own_iload W 193 at_191 rfl rfl ?_
  refine own_i2l W 194 at_193 rfl ?_
  refine own_callV W (A := [(.long (0 : Int32).toInt64)]) (wt := 0) (pc' := 197) (st := []) at_194 (wd142 hw) (wd143 hw) (own_nf W (wd145 hw)) (wd145 hw) (wd144 hw) (wd61 hw) (wd146 hw) (by decide) X_lg (own_m18_10 l Z a0 hw [] h lg (0 : Int32).toInt64 ml em pl1 (0 : Int64) mc1 vm 0 X_lg Fg_lg Fp_lg Ff_lg Fl_lg X_ml Fe_ml Fs_ml Fm_ml V_em E_m hrm ne_lg_ml ne_lg_em ne_ml_em rfl rfl (by decide)) (allS (Or.inr os_lg) (allS (Or.inr os_ml) (allS (Or.inr os_em) all0))) rfl pd_23 rfl (Nat.le_of_eq rfl) (by decide) (by decide) (by decide) (by decide) rfl ?_
  rintro T2015 h2015 _ W2015 K2015 P2015 ⟨rfl, ⟨pl2, mc2, vm2, Fg_lg, Fp_lg, Ff_lg, Fl_lg, Fe_ml, Fs_ml, Fm_ml, V_em, hrm, E_m⟩⟩
  have X_lg := X_lg.keep K2015
  have X_ml := X_ml.keep K2015
  show own_Go p e below C T2015 (mkF m 197 #[.val (.long q1), .second, .val (.int p2), .val (.int p3), .val (.int p4), .val (.int p5), .val (.int (1 : Int32)), .val (.int (0 : Int32)), .val (.int d2), .val (.long xx), .second, .val (.ref ad), .val (.ref lg), .val (.int (1 : Int32))] [])
  refine own_iload W2015 199 at_197 rfl rfl ?_
  refine own_ifN W2015 202 at_199 ((if0 _ _).trans (feq ((by decide) : ¬ ((1 : Int32) = (0 : Int32)))).1) rfl ?_
  refine own_aload W2015 204 at_202 rfl rfl rfl ?_
  refine own_lload W2015 206 at_204 rfl rfl ?_
  refine own_callV W2015 (A := [(.long xx)]) (wt := 0) (pc' := 209) (st := []) at_206 (wd70 hw) (wd71 hw) (own_nf W2015 (wd73 hw)) (wd73 hw) (wd72 hw) (wd61 hw) (wd74 hw) (by decide) X_lg (own_m11 l Z a0 hw [] h2015 lg xx (0 : Int32).toInt64 Ff_lg) all0 rfl pd_21 rfl (Nat.le_of_eq rfl) (by decide) (by decide) (by decide) (by decide) rfl ?_
  rintro T2016 h2016 _ W2016 K2016 P2016 rfl
  rw [P2016 rfl rfl] at W2016
  show own_Go p e below C T2016 (mkF m 209 #[.val (.long q1), .second, .val (.int p2), .val (.int p3), .val (.int p4), .val (.int p5), .val (.int (1 : Int32)), .val (.int (0 : Int32)), .val (.int d2), .val (.long xx), .second, .val (.ref ad), .val (.ref lg), .val (.int (1 : Int32))] [(.int (if (0 : Int32).toInt64 < xx then (1 : Int32) else 0))])
  refine own_lload W2016 211 at_209 rfl rfl ?_
  refine own_iload W2016 213 at_211 rfl rfl ?_
  refine own_i2l W2016 214 at_213 rfl ?_
  refine own_lcmp W2016 215 at_214 rfl ?_
  suffices J2017 : own_Go p e below C T2016 (mkF m 223 #[.val (.long q1), .second, .val (.int p2), .val (.int p3), .val (.int p4), .val (.int p5), .val (.int (1 : Int32)), .val (.int (0 : Int32)), .val (.int d2), .val (.long xx), .second, .val (.ref ad), .val (.ref lg), .val (.int (1 : Int32))] [(.int (if (0 : Int32).toInt64 < xx then (1 : Int32) else (0 : Int32))), (.int (if (0 : Int32).toInt64 < xx then (1 : Int32) else 0))]) by
    by_cases c2018 : (0 : Int32).toInt64 < xx
    · refine own_ifN W2016 218 at_215 ((if0 _ _).trans (tlt ((lw_gt xx (0 : Int32).toInt64).mpr c2018)).2.2.2) rfl ?_
      refine own_iconst W2016 (1 : Int32) 219 at_218 rfl rfl ?_
      refine own_goto W2016 223 at_219 (by decide) (by decide) ?_
      first | (simp only [if_pos c2018] at J2017; exact J2017) | (simp only [if_pos c2018] at J2017 ⊢; exact J2017)
    · refine own_ifY W2016 222 at_215 ((if0 _ _).trans (flt (mt (lw_gt xx (0 : Int32).toInt64).mp c2018)).2.2.2) (by decide) (by decide) ?_
      refine own_iconst W2016 (0 : Int32) 223 at_222 rfl rfl ?_
      first | (simp only [if_neg c2018] at J2017; exact J2017) | (simp only [if_neg c2018] at J2017 ⊢; exact J2017)
  refine own_icmpN W2016 226 at_223 ((teq (rfl : (if (0 : Int32).toInt64 < xx then (1 : Int32) else 0) = (if (0 : Int32).toInt64 < xx then (1 : Int32) else (0 : Int32)))).2) rfl ?_
  refine own_iconst W2016 (1 : Int32) 227 at_226 rfl rfl ?_
  refine own_goto W2016 231 at_227 (by decide) (by decide) ?_
  refine own_istore W2016 233 #[.val (.long q1), .second, .val (.int p2), .val (.int p3), .val (.int p4), .val (.int p5), .val (.int (1 : Int32)), .val (.int (0 : Int32)), .val (.int d2), .val (.long xx), .second, .val (.ref ad), .val (.ref lg), .val (.int (1 : Int32))] at_231 rfl rfl ?_
  have fin : ∀ (dd : Int32) (T : State) (h : Heap), own_W p l e room_1 s m #[(.long q1), (.int p2), (.int p3), (.int p4), (.int p5)] below meth c Z x ret code maxLocals [] T h (0 + 1 + 0 + 1 + 1 + 1 + 1 + 0 + 2 + 0 + 1 + 0 + 1) (0 + 3 + 0 + 1 + 10 + 4 + 3 + 0 + 14 + 0 + 5 + 0 + 5) → own_xm Z h lg → own_ff Z h lg (.long dd.toInt64) → own_Go p e below C T (mkF m 241 #[.val (.long q1), .second, .val (.int p2), .val (.int p3), .val (.int p4), .val (.int p5), .val (.int (1 : Int32)), .val (.int (0 : Int32)), .val (.int dd), .val (.long xx), .second, .val (.ref ad), .val (.ref lg), .val (.int (1 : Int32))] []) := by
    intro dd T h W X_lg Ff_lg
    refine own_iload W 243 at_241 rfl rfl ?_
    refine own_ifN W 246 at_243 ((if0 _ _).trans (feq ((by decide) : ¬ ((1 : Int32) = (0 : Int32)))).1) rfl ?_
    refine own_aload W 248 at_246 rfl rfl rfl ?_
    refine own_lload W 250 at_248 rfl rfl ?_
    refine own_callV W (A := [(.long xx)]) (wt := 0) (pc' := 253) (st := []) at_250 (wd70 hw) (wd71 hw) (own_nf W (wd73 hw)) (wd73 hw) (wd72 hw) (wd61 hw) (wd74 hw) (by decide) X_lg (own_m11 l Z a0 hw [] h lg xx dd.toInt64 Ff_lg) all0 rfl pd_21 rfl (Nat.le_of_eq rfl) (by decide) (by decide) (by decide) (by decide) rfl ?_
    rintro T2019 h2019 _ W2019 K2019 P2019 rfl
    rw [P2019 rfl rfl] at W2019
    show own_Go p e below C T2019 (mkF m 253 #[.val (.long q1), .second, .val (.int p2), .val (.int p3), .val (.int p4), .val (.int p5), .val (.int (1 : Int32)), .val (.int (0 : Int32)), .val (.int dd), .val (.long xx), .second, .val (.ref ad), .val (.ref lg), .val (.int (1 : Int32))] [(.int (if dd.toInt64 < xx then (1 : Int32) else 0))])
    refine own_lload W2019 255 at_253 rfl rfl ?_
    refine own_iload W2019 257 at_255 rfl rfl ?_
    refine own_i2l W2019 258 at_257 rfl ?_
    refine own_lcmp W2019 259 at_258 rfl ?_
    suffices J2020 : own_Go p e below C T2019 (mkF m 267 #[.val (.long q1), .second, .val (.int p2), .val (.int p3), .val (.int p4), .val (.int p5), .val (.int (1 : Int32)), .val (.int (0 : Int32)), .val (.int dd), .val (.long xx), .second, .val (.ref ad), .val (.ref lg), .val (.int (1 : Int32))] [(.int (if dd.toInt64 < xx then (1 : Int32) else (0 : Int32))), (.int (if dd.toInt64 < xx then (1 : Int32) else 0))]) by
      by_cases c2021 : dd.toInt64 < xx
      · refine own_ifN W2019 262 at_259 ((if0 _ _).trans (tlt ((lw_gt xx dd.toInt64).mpr c2021)).2.2.2) rfl ?_
        refine own_iconst W2019 (1 : Int32) 263 at_262 rfl rfl ?_
        refine own_goto W2019 267 at_263 (by decide) (by decide) ?_
        first | (simp only [if_pos c2021] at J2020; exact J2020) | (simp only [if_pos c2021] at J2020 ⊢; exact J2020)
      · refine own_ifY W2019 266 at_259 ((if0 _ _).trans (flt (mt (lw_gt xx dd.toInt64).mp c2021)).2.2.2) (by decide) (by decide) ?_
        refine own_iconst W2019 (0 : Int32) 267 at_266 rfl rfl ?_
        first | (simp only [if_neg c2021] at J2020; exact J2020) | (simp only [if_neg c2021] at J2020 ⊢; exact J2020)
    refine own_icmpN W2019 270 at_267 ((teq (rfl : (if dd.toInt64 < xx then (1 : Int32) else 0) = (if dd.toInt64 < xx then (1 : Int32) else (0 : Int32)))).2) rfl ?_
    refine own_iconst W2019 (1 : Int32) 271 at_270 rfl rfl ?_
    refine own_goto W2019 275 at_271 (by decide) (by decide) ?_
    refine own_istore W2019 277 #[.val (.long q1), .second, .val (.int p2), .val (.int p3), .val (.int p4), .val (.int p5), .val (.int (1 : Int32)), .val (.int (0 : Int32)), .val (.int dd), .val (.long xx), .second, .val (.ref ad), .val (.ref lg), .val (.int (1 : Int32))] at_275 rfl rfl ?_
    refine own_iload W2019 279 at_277 rfl rfl ?_
    refine own_retZ (Q := fun v h => v = some (.int (1 : Int32))) W2019 hC (by decide) (by decide) at_279 ?_
    exact rfl
  rcases (by omega : d2n = 0 ∨ d2n = 1) with rfl | rfl
  · obtain rfl : d2 = (0 : Int32) := own_lit32 hd2 _ rfl
    show own_Go p e below C T2016 (mkF m 233 #[.val (.long q1), .second, .val (.int p2), .val (.int p3), .val (.int p4), .val (.int p5), .val (.int (1 : Int32)), .val (.int (0 : Int32)), .val (.int (0 : Int32)), .val (.long xx), .second, .val (.ref ad), .val (.ref lg), .val (.int (1 : Int32))] [])
    refine own_aload W2016 235 at_233 rfl rfl rfl ?_
    refine own_iload W2016 237 at_235 rfl rfl ?_
    refine own_i2l W2016 238 at_237 rfl ?_
    refine own_callV W2016 (A := [(.long (0 : Int32).toInt64)]) (wt := 0) (pc' := 241) (st := []) at_238 (wd142 hw) (wd143 hw) (own_nf W2016 (wd145 hw)) (wd145 hw) (wd144 hw) (wd61 hw) (wd146 hw) (by decide) X_lg (own_m18_10 l Z a0 hw [] h2015 lg (0 : Int32).toInt64 ml em pl2 (0 : Int32).toInt64 mc2 vm2 0 X_lg Fg_lg Fp_lg Ff_lg Fl_lg X_ml Fe_ml Fs_ml Fm_ml V_em E_m hrm ne_lg_ml ne_lg_em ne_ml_em rfl rfl (by decide)) (allS (Or.inr os_lg) (allS (Or.inr os_ml) (allS (Or.inr os_em) all0))) rfl pd_23 rfl (Nat.le_of_eq rfl) (by decide) (by decide) (by decide) (by decide) rfl ?_
    rintro T2022 h2022 _ W2022 K2022 P2022 ⟨rfl, ⟨pl3, mc3, vm3, Fg_lg, Fp_lg, Ff_lg, Fl_lg, Fe_ml, Fs_ml, Fm_ml, V_em, hrm, E_m⟩⟩
    have X_lg := X_lg.keep K2022
    have X_ml := X_ml.keep K2022
    show own_Go p e below C T2022 (mkF m 241 #[.val (.long q1), .second, .val (.int p2), .val (.int p3), .val (.int p4), .val (.int p5), .val (.int (1 : Int32)), .val (.int (0 : Int32)), .val (.int (0 : Int32)), .val (.long xx), .second, .val (.ref ad), .val (.ref lg), .val (.int (1 : Int32))] [])
    exact fin (0 : Int32) _ _ W2022 X_lg Ff_lg
  · obtain rfl : d2 = (1 : Int32) := own_lit32 hd2 _ rfl
    show own_Go p e below C T2016 (mkF m 233 #[.val (.long q1), .second, .val (.int p2), .val (.int p3), .val (.int p4), .val (.int p5), .val (.int (1 : Int32)), .val (.int (0 : Int32)), .val (.int (1 : Int32)), .val (.long xx), .second, .val (.ref ad), .val (.ref lg), .val (.int (1 : Int32))] [])
    refine own_aload W2016 235 at_233 rfl rfl rfl ?_
    refine own_iload W2016 237 at_235 rfl rfl ?_
    refine own_i2l W2016 238 at_237 rfl ?_
    refine own_callV W2016 (A := [(.long (1 : Int32).toInt64)]) (wt := 0) (pc' := 241) (st := []) at_238 (wd142 hw) (wd143 hw) (own_nf W2016 (wd145 hw)) (wd145 hw) (wd144 hw) (wd61 hw) (wd146 hw) (by decide) X_lg (own_m18_11 l Z a0 hw [] h2015 lg (1 : Int32).toInt64 ml em pl2 (0 : Int32).toInt64 mc2 vm2 0 X_lg Fg_lg Fp_lg Ff_lg Fl_lg X_ml Fe_ml Fs_ml Fm_ml V_em E_m hrm ne_lg_ml ne_lg_em ne_ml_em rfl rfl (by decide)) (allS (Or.inr os_lg) (allS (Or.inr os_ml) (allS (Or.inr os_em) all0))) rfl pd_23 rfl (Nat.le_of_eq rfl) (by decide) (by decide) (by decide) (by decide) rfl ?_
    rintro T2023 h2023 _ W2023 K2023 P2023 ⟨rfl, ⟨pl3, mc3, vm3, Fg_lg, Fp_lg, Ff_lg, Fl_lg, Fe_ml, Fs_ml, Fm_ml, V_em, hrm, E_m⟩⟩
    have X_lg := X_lg.keep K2023
    have X_ml := X_ml.keep K2023
    show own_Go p e below C T2023 (mkF m 241 #[.val (.long q1), .second, .val (.int p2), .val (.int p3), .val (.int p4), .val (.int p5), .val (.int (1 : Int32)), .val (.int (0 : Int32)), .val (.int (1 : Int32)), .val (.long xx), .second, .val (.ref ad), .val (.ref lg), .val (.int (1 : Int32))] [])
    exact fin (1 : Int32) _ _ W2023 X_lg Ff_lg
set_option maxRecDepth 65536 in
set_option maxHeartbeats 40000000 in
theorem own_kd_11 (l : Launch) (Z : State) (a0 : Array Value) (hw : ∀ d ∈ tables_1, d.before a0 Z = true) (h0 : Heap) (q1 : Int64) (p2 : Int32) (p3 : Int32) (p4 : Int32) (p5 : Int32) (p : Program) (e : Env) (s : State) (m : MethodId) (below : List Frame) (meth : Method) (c : Code) (C : Outcome → State → Prop) (hC : ∀ v L u, own_Fw s [] L → (v = some (.int (1 : Int32))) → FrameEnd s (.returned v) u L room_1.cells room_1.slots → C (.returned v) u) (T : State) (h : Heap) (de : Addr) (df : Nat → Value) (xx : Int64) (d2 : Int32) (d2n : Nat) (ad lg ml : Addr) (pl1 : Int64) (em : Addr) (mc1 : Int32) (vm : Nat → Value) (W : own_W p l e room_1 s m #[(.long q1), (.int p2), (.int p3), (.int p4), (.int p5)] below meth c Z x ret code maxLocals [] T h (0 + 1 + 0 + 1 + 1 + 1 + 1 + 0 + 2 + 0) (0 + 3 + 0 + 1 + 10 + 4 + 3 + 0 + 14 + 0)) (S0 : Sta Z s.heap "java/util/ArrayList" "DEFAULTCAPACITY_EMPTY_ELEMENTDATA" "[Ljava/lang/Object;" (.ref de)) (V0 : own_A Z s.heap de (.object "java/lang/Object") 0 df) (hd2 : d2.toInt = (d2n : Int)) (h12 : 1 ≤ d2n ∧ d2n ≤ 1) (os_lg : s.heap.size ≤ lg) (os_ml : s.heap.size ≤ ml) (os_em : s.heap.size ≤ em) (X_lg : own_xm Z h lg) (Fg_lg : own_fg Z h lg (.ref ml)) (Fp_lg : own_fp Z h lg (.long pl1)) (Ff_lg : own_ff Z h lg (.long (0 : Int64))) (Fl_lg : own_fl Z h lg (.long (0 : Int64))) (X_ml : own_xl Z h ml) (Fe_ml : own_fe Z h ml (.ref em)) (Fs_ml : own_fs Z h ml (.int (1 : Int32))) (Fm_ml : own_fm Z h ml (.int mc1)) (V_em : own_R Z h em "java/lang/Object" 10 vm) (hrm : own_Rf vm) (E_m : own_El Z h vm 0 1) (ne_lg_ml : lg ≠ ml) (ne_lg_em : lg ≠ em) (ne_ml_em : ml ≠ em) :
    own_Go p e below C T (mkF m 189 #[.val (.long q1), .second, .val (.int p2), .val (.int p3), .val (.int p4), .val (.int p5), .val (.int (1 : Int32)), .val (.int (1 : Int32)), .val (.int d2), .val (.long xx), .second, .val (.ref ad), .val (.ref lg), .val (.int (1 : Int32))] []) := by
  refine own_aload W 191 at_189 rfl rfl rfl ?_
  refine own_iload W 193 at_191 rfl rfl ?_
  refine own_i2l W 194 at_193 rfl ?_
  refine own_callV W (A := [(.long (1 : Int32).toInt64)]) (wt := 0) (pc' := 197) (st := []) at_194 (wd142 hw) (wd143 hw) (own_nf W (wd145 hw)) (wd145 hw) (wd144 hw) (wd61 hw) (wd146 hw) (by decide) X_lg (own_m18_11 l Z a0 hw [] h lg (1 : Int32).toInt64 ml em pl1 (0 : Int64) mc1 vm 0 X_lg Fg_lg Fp_lg Ff_lg Fl_lg X_ml Fe_ml Fs_ml Fm_ml V_em E_m hrm ne_lg_ml ne_lg_em ne_ml_em rfl rfl (by decide)) (allS (Or.inr os_lg) (allS (Or.inr os_ml) (allS (Or.inr os_em) all0))) rfl pd_23 rfl (Nat.le_of_eq rfl) (by decide) (by decide) (by decide) (by decide) rfl ?_
  rintro T2015 h2015 _ W2015 K2015 P2015 ⟨rfl, ⟨pl2, mc2, vm2, Fg_lg, Fp_lg, Ff_lg, Fl_lg, Fe_ml, Fs_ml, Fm_ml, V_em, hrm, E_m⟩⟩
  have X_lg := X_lg.keep K2015
  have X_ml := X_ml.keep K2015
  show own_Go p e below C T2015 (mkF m 197 #[.val (.long q1), .second, .val (.int p2), .val (.int p3), .val (.int p4), .val (.int p5), .val (.int (1 : Int32)), .val (.int (1 : Int32)), .val (.int d2), .val (.long xx), .second, .val (.ref ad), .val (.ref lg), .val (.int (1 : Int32))] [])
  refine own_iload W2015 199 at_197 rfl rfl ?_
  refine own_ifN W2015 202 at_199 ((if0 _ _).trans (feq ((by decide) : ¬ ((1 : Int32) = (0 : Int32)))).1) rfl ?_
  refine own_aload W2015 204 at_202 rfl rfl rfl ?_
  refine own_lload W2015 206 at_204 rfl rfl ?_
  refine own_callV W2015 (A := [(.long xx)]) (wt := 0) (pc' := 209) (st := []) at_206 (wd70 hw) (wd71 hw) (own_nf W2015 (wd73 hw)) (wd73 hw) (wd72 hw) (wd61 hw) (wd74 hw) (by decide) X_lg (own_m11 l Z a0 hw [] h2015 lg xx (1 : Int32).toInt64 Ff_lg) all0 rfl pd_21 rfl (Nat.le_of_eq rfl) (by decide) (by decide) (by decide) (by decide) rfl ?_
  rintro T2016 h2016 _ W2016 K2016 P2016 rfl
  rw [P2016 rfl rfl] at W2016
  show own_Go p e below C T2016 (mkF m 209 #[.val (.long q1), .second, .val (.int p2), .val (.int p3), .val (.int p4), .val (.int p5), .val (.int (1 : Int32)), .val (.int (1 : Int32)), .val (.int d2), .val (.long xx), .second, .val (.ref ad), .val (.ref lg), .val (.int (1 : Int32))] [(.int (if (1 : Int32).toInt64 < xx then (1 : Int32) else 0))])
  refine own_lload W2016 211 at_209 rfl rfl ?_
  refine own_iload W2016 213 at_211 rfl rfl ?_
  refine own_i2l W2016 214 at_213 rfl ?_
  refine own_lcmp W2016 215 at_214 rfl ?_
  suffices J2017 : own_Go p e below C T2016 (mkF m 223 #[.val (.long q1), .second, .val (.int p2), .val (.int p3), .val (.int p4), .val (.int p5), .val (.int (1 : Int32)), .val (.int (1 : Int32)), .val (.int d2), .val (.long xx), .second, .val (.ref ad), .val (.ref lg), .val (.int (1 : Int32))] [(.int (if (1 : Int32).toInt64 < xx then (1 : Int32) else (0 : Int32))), (.int (if (1 : Int32).toInt64 < xx then (1 : Int32) else 0))]) by
    by_cases c2018 : (1 : Int32).toInt64 < xx
    · refine own_ifN W2016 218 at_215 ((if0 _ _).trans (tlt ((lw_gt xx (1 : Int32).toInt64).mpr c2018)).2.2.2) rfl ?_
      refine own_iconst W2016 (1 : Int32) 219 at_218 rfl rfl ?_
      refine own_goto W2016 223 at_219 (by decide) (by decide) ?_
      first | (simp only [if_pos c2018] at J2017; exact J2017) | (simp only [if_pos c2018] at J2017 ⊢; exact J2017)
    · refine own_ifY W2016 222 at_215 ((if0 _ _).trans (flt (mt (lw_gt xx (1 : Int32).toInt64).mp c2018)).2.2.2) (by decide) (by decide) ?_
      refine own_iconst W2016 (0 : Int32) 223 at_222 rfl rfl ?_
      first | (simp only [if_neg c2018] at J2017; exact J2017) | (simp only [if_neg c2018] at J2017 ⊢; exact J2017)
  refine own_icmpN W2016 226 at_223 ((teq (rfl : (if (1 : Int32).toInt64 < xx then (1 : Int32) else 0) = (if (1 : Int32).toInt64 < xx then (1 : Int32) else (0 : Int32)))).2) rfl ?_
  refine own_iconst W2016 (1 : Int32) 227 at_226 rfl rfl ?_
  refine own_goto W2016 231 at_227 (by decide) (by decide) ?_
  refine own_istore W2016 233 #[.val (.long q1), .second, .val (.int p2), .val (.int p3), .val (.int p4), .val (.int p5), .val (.int (1 : Int32)), .val (.int (1 : Int32)), .val (.int d2), .val (.long xx), .second, .val (.ref ad), .val (.ref lg), .val (.int (1 : Int32))] at_231 rfl rfl ?_
  have fin : ∀ (dd : Int32) (T : State) (h : Heap), own_W p l e room_1 s m #[(.long q1), (.int p2), (.int p3), (.int p4), (.int p5)] below meth c Z x ret code maxLocals [] T h (0 + 1 + 0 + 1 + 1 + 1 + 1 + 0 + 2 + 0 + 1 + 0 + 1) (0 + 3 + 0 + 1 + 10 + 4 + 3 + 0 + 14 + 0 + 5 + 0 + 5) → own_xm Z h lg → own_ff Z h lg (.long dd.toInt64) → own_Go p e below C T (mkF m 241 #[.val (.long q1), .second, .val (.int p2), .val (.int p3), .val (.int p4), .val (.int p5), .val (.int (1 : Int32)), .val (.int (1 : Int32)), .val (.int dd), .val (.long xx), .second, .val (.ref ad), .val (.ref lg), .val (.int (1 : Int32))] []) := by
    intro dd T h W X_lg Ff_lg
    refine own_iload W 243 at_241 rfl rfl ?_
    refine own_ifN W 246 at_243 ((if0 _ _).trans (feq ((by decide) : ¬ ((1 : Int32) = (0 : Int32)))).1) rfl ?_
    refine own_aload W 248 at_246 rfl rfl rfl ?_
    refine own_lload W 250 at_248 rfl rfl ?_
    refine own_callV W (A := [(.long xx)]) (wt := 0) (pc' := 253) (st := []) at_250 (wd70 hw) (wd71 hw) (own_nf W (wd73 hw)) (wd73 hw) (wd72 hw) (wd61 hw) (wd74 hw) (by decide) X_lg (own_m11 l Z a0 hw [] h lg xx dd.toInt64 Ff_lg) all0 rfl pd_21 rfl (Nat.le_of_eq rfl) (by decide) (by decide) (by decide) (by decide) rfl ?_
    rintro T2019 h2019 _ W2019 K2019 P2019 rfl
    rw [P2019 rfl rfl] at W2019
    show own_Go p e below C T2019 (mkF m 253 #[.val (.long q1), .second, .val (.int p2), .val (.int p3), .val (.int p4), .val (.int p5), .val (.int (1 : Int32)), .val (.int (1 : Int32)), .val (.int dd), .val (.long xx), .second, .val (.ref ad), .val (.ref lg), .val (.int (1 : Int32))] [(.int (if dd.toInt64 < xx then (1 : Int32) else 0))])
    refine own_lload W2019 255 at_253 rfl rfl ?_
    refine own_iload W2019 257 at_255 rfl rfl ?_
    refine own_i2l W2019 258 at_257 rfl ?_
    refine own_lcmp W2019 259 at_258 rfl ?_
    suffices J2020 : own_Go p e below C T2019 (mkF m 267 #[.val (.long q1), .second, .val (.int p2), .val (.int p3), .val (.int p4), .val (.int p5), .val (.int (1 : Int32)), .val (.int (1 : Int32)), .val (.int dd), .val (.long xx), .second, .val (.ref ad), .val (.ref lg), .val (.int (1 : Int32))] [(.int (if dd.toInt64 < xx then (1 : Int32) else (0 : Int32))), (.int (if dd.toInt64 < xx then (1 : Int32) else 0))]) by
      by_cases c2021 : dd.toInt64 < xx
      · refine own_ifN W2019 262 at_259 ((if0 _ _).trans (tlt ((lw_gt xx dd.toInt64).mpr c2021)).2.2.2) rfl ?_
        refine own_iconst W2019 (1 : Int32) 263 at_262 rfl rfl ?_
        refine own_goto W2019 267 at_263 (by decide) (by decide) ?_
        first | (simp only [if_pos c2021] at J2020; exact J2020) | (simp only [if_pos c2021] at J2020 ⊢; exact J2020)
      · refine own_ifY W2019 266 at_259 ((if0 _ _).trans (flt (mt (lw_gt xx dd.toInt64).mp c2021)).2.2.2) (by decide) (by decide) ?_
        refine own_iconst W2019 (0 : Int32) 267 at_266 rfl rfl ?_
        first | (simp only [if_neg c2021] at J2020; exact J2020) | (simp only [if_neg c2021] at J2020 ⊢; exact J2020)
    refine own_icmpN W2019 270 at_267 ((teq (rfl : (if dd.toInt64 < xx then (1 : Int32) else 0) = (if dd.toInt64 < xx then (1 : Int32) else (0 : Int32)))).2) rfl ?_
    refine own_iconst W2019 (1 : Int32) 271 at_270 rfl rfl ?_
    refine own_goto W2019 275 at_271 (by decide) (by decide) ?_
    refine own_istore W2019 277 #[.val (.long q1), .second, .val (.int p2), .val (.int p3), .val (.int p4), .val (.int p5), .val (.int (1 : Int32)), .val (.int (1 : Int32)), .val (.int dd), .val (.long xx), .second, .val (.ref ad), .val (.ref lg), .val (.int (1 : Int32))] at_275 rfl rfl ?_
    refine own_iload W2019 279 at_277 rfl rfl ?_
    refine own_retZ (Q := fun v h => v = some (.int (1 : Int32))) W2019 hC (by decide) (by decide) at_279 ?_
    exact rfl
  rcases (by omega : d2n = 1) with rfl
  · obtain rfl : d2 = (1 : Int32) := own_lit32 hd2 _ rfl
    show own_Go p e below C T2016 (mkF m 233 #[.val (.long q1), .second, .val (.int p2), .val (.int p3), .val (.int p4), .val (.int p5), .val (.int (1 : Int32)), .val (.int (1 : Int32)), .val (.int (1 : Int32)), .val (.long xx), .second, .val (.ref ad), .val (.ref lg), .val (.int (1 : Int32))] [])
    refine own_aload W2016 235 at_233 rfl rfl rfl ?_
    refine own_iload W2016 237 at_235 rfl rfl ?_
    refine own_i2l W2016 238 at_237 rfl ?_
    refine own_callV W2016 (A := [(.long (1 : Int32).toInt64)]) (wt := 0) (pc' := 241) (st := []) at_238 (wd142 hw) (wd143 hw) (own_nf W2016 (wd145 hw)) (wd145 hw) (wd144 hw) (wd61 hw) (wd146 hw) (by decide) X_lg (own_m18_00 l Z a0 hw [] h2015 lg (1 : Int32).toInt64 ml em pl2 (1 : Int32).toInt64 mc2 vm2 10 1 X_lg Fg_lg Fp_lg Ff_lg Fl_lg X_ml Fe_ml Fs_ml Fm_ml V_em.A ne_lg_ml ne_lg_em ne_ml_em rfl rfl (by decide)) (allS (Or.inr os_lg) (allS (Or.inr os_ml) all0)) rfl pd_23 rfl (Nat.le_of_eq rfl) (by decide) (by decide) (by decide) (by decide) rfl ?_
    rintro T2022 h2022 _ W2022 K2022 P2022 ⟨rfl, ⟨pl3, mc3, Fg_lg, Fp_lg, Ff_lg, Fl_lg, Fe_ml, Fs_ml, Fm_ml⟩⟩
    have X_lg := X_lg.keep K2022
    have X_ml := X_ml.keep K2022
    have V_em := V_em.keep K2022 (ninS (Ne.symm ne_lg_em) (ninS (Ne.symm ne_ml_em) nin0))
    have E_m := E_m.keep K2022
    show own_Go p e below C T2022 (mkF m 241 #[.val (.long q1), .second, .val (.int p2), .val (.int p3), .val (.int p4), .val (.int p5), .val (.int (1 : Int32)), .val (.int (1 : Int32)), .val (.int (1 : Int32)), .val (.long xx), .second, .val (.ref ad), .val (.ref lg), .val (.int (1 : Int32))] [])
    exact fin (1 : Int32) _ _ W2022 X_lg Ff_lg
set_option maxRecDepth 65536 in
set_option maxHeartbeats 40000000 in
theorem own_k_1 (l : Launch) (Z : State) (a0 : Array Value) (hw : ∀ d ∈ tables_1, d.before a0 Z = true) (h0 : Heap) (q1 : Int64) (p2 : Int32) (p3 : Int32) (p4 : Int32) (p5 : Int32) (p : Program) (e : Env) (s : State) (m : MethodId) (below : List Frame) (meth : Method) (c : Code) (C : Outcome → State → Prop) (hC : ∀ v L u, own_Fw s [] L → (v = some (.int (1 : Int32))) → FrameEnd s (.returned v) u L room_1.cells room_1.slots → C (.returned v) u) (T : State) (h : Heap) (de : Addr) (df : Nat → Value) (xx : Int64) (d1 d2 : Int32) (d1n d2n : Nat) (W : own_W p l e room_1 s m #[(.long q1), (.int p2), (.int p3), (.int p4), (.int p5)] below meth c Z x ret code maxLocals [] T h (0) (0)) (S0 : Sta Z s.heap "java/util/ArrayList" "DEFAULTCAPACITY_EMPTY_ELEMENTDATA" "[Ljava/lang/Object;" (.ref de)) (V0 : own_A Z s.heap de (.object "java/lang/Object") 0 df) (hd1 : d1.toInt = (d1n : Int)) (hd2 : d2.toInt = (d2n : Int)) (h12 : d1n ≤ d2n ∧ d2n ≤ 1) :
    own_Go p e below C T (mkF m 56 #[.val (.long q1), .second, .val (.int p2), .val (.int p3), .val (.int p4), .val (.int p5), .val (.int (1 : Int32)), .val (.int d1), .val (.int d2), .val (.long xx), .second, .unset, .unset, .unset] []) := by
  have S_de := own_staK0 S0 (own_WK W)
  have V_de := V0.keep (own_WK W) nin0
  refine own_new W 59 at_56 (wd1 hw) (wd2 hw) (wd3 hw) (by decide) (by decide) rfl ?_
  intro T1002 h1002 ad W1002 E1002 g_ad o_ad X_ad D_ad
  have S_de := S_de.ext E1002
  have Fm_ad : own_fm Z h1002 ad (.int (0 : Int32)) := D_ad (Or.inl (wd23 hw)) (ty := .int) (by decide)
  have Fe_ad : own_fe Z h1002 ad .null := D_ad (Or.inl (wd26 hw)) (ty := (.array (.object "java/lang/Object"))) (by decide)
  have Fs_ad : own_fs Z h1002 ad (.int (0 : Int32)) := D_ad (Or.inl (wd36 hw)) (ty := .int) (by decide)
  have os_ad := o_ad
  have ne_ad_de := (Nat.ne_of_gt (Nat.lt_of_lt_of_le V0.lt os_ad))
  refine own_dup W1002 60 at_59 rfl rfl ?_
  refine own_callN W1002 (A := []) (wt := 1) (pc' := 63) (st := [(.ref ad)]) at_60 rfl (wd4 hw) (wd5 hw) (wd3 hw) (wd6 hw) (by decide) (own_m1 l Z a0 hw [] h1002 ad de S_de X_ad Fe_ad Fs_ad Fm_ad) (allS (Or.inr o_ad) all0) rfl pd_0 rfl (Nat.le_of_eq rfl) (by decide) (by decide) (by decide) (by decide) rfl ?_
  rintro T1003 h1003 _ W1003 K1003 P1003 ⟨rfl, ⟨Fe_ad, Fs_ad, Fm_ad⟩⟩
  have S_de := own_staK1 S_de K1003 X_ad
  have X_ad := X_ad.keep K1003
  show own_Go p e below C T1003 (mkF m 63 #[.val (.long q1), .second, .val (.int p2), .val (.int p3), .val (.int p4), .val (.int p5), .val (.int (1 : Int32)), .val (.int d1), .val (.int d2), .val (.long xx), .second, .unset, .unset, .unset] [(.ref ad)])
  refine own_astore W1003 65 #[.val (.long q1), .second, .val (.int p2), .val (.int p3), .val (.int p4), .val (.int p5), .val (.int (1 : Int32)), .val (.int d1), .val (.int d2), .val (.long xx), .second, .val (.ref ad), .unset, .unset] at_63 rfl rfl rfl ?_
  refine own_iload W1003 67 at_65 rfl rfl ?_
  refine own_ifN W1003 70 at_67 ((if0 _ _).trans (tlt ((by decide) : (0 : Int32) < (1 : Int32))).2.2.2) rfl ?_
  refine own_aload W1003 72 at_70 rfl rfl rfl ?_
  refine own_iconst W1003 (1 : Int32) 73 at_72 rfl rfl ?_
  refine own_newarrayE W1003 1 1 "[B" 75 at_73 (wd27 hw) rfl (Nat.le_refl _) (by decide) (by decide) (by decide) (by decide) rfl ?_
  intro T1004 h1004 b0 W1004 E1004 g_b0 o_b0 V_b0 Y_b0
  have ne_ad_b0 : ad ≠ b0 := by rw [g_b0]; exact Nat.ne_of_lt X_ad.lt
  have X_ad := X_ad.ext E1004
  have Fe_ad := Fe_ad.ext E1004
  have Fs_ad := Fs_ad.ext E1004
  have Fm_ad := Fm_ad.ext E1004
  have B_b0 := V_b0.ba
  have S_de := own_staK0 S0 (own_WK W1004)
  have V_de := V0.keep (own_WK W1004) nin0
  have hsH := own_le W1004
  have q_ad := X_ad.lt
  refine own_callV W1004 (A := [(.ref b0)]) (wt := 0) (pc' := 78) (st := []) at_75 (wd28 hw) (wd29 hw) (own_nf W1004 (wd31 hw)) (wd31 hw) (wd30 hw) (wd3 hw) (wd32 hw) (by decide) X_ad (own_m5a l Z a0 hw [] h1004 ad b0 de df (0 : Int32) Y_b0 S_de V_de X_ad Fe_ad Fs_ad Fm_ad ne_ad_de) (allS (Or.inr o_ad) all0) rfl pd_9 rfl (Nat.le_of_eq rfl) (by decide) (by decide) (by decide) (by decide) rfl ?_
  rintro T1005 h1005 _ W1005 K1005 P1005 ⟨rfl, ea, o_ea, Fe_ad, Fs_ad, Fm_ad, V_ea⟩
  have X_ad := X_ad.keep K1005
  have Y_b0 := Y_b0.keep K1005
  have B_b0 := B_b0.keep K1005
  show own_Go p e below C T1005 (mkF m 78 #[.val (.long q1), .second, .val (.int p2), .val (.int p3), .val (.int p4), .val (.int p5), .val (.int (1 : Int32)), .val (.int d1), .val (.int d2), .val (.long xx), .second, .val (.ref ad), .unset, .unset] [(.int ((1 : Int32) &&& 1))])
  have ne_ad_ea : ad ≠ ea := Nat.ne_of_lt (Nat.lt_of_lt_of_le q_ad o_ea)
  have os_ea : s.heap.size ≤ ea := Nat.le_trans hsH o_ea
  have Fs_ad : own_fs Z h1005 ad (.int (1 : Int32)) := Fs_ad
  refine own_pop W1005 79 at_78 rfl rfl ?_
  refine own_iload W1005 81 at_79 rfl rfl ?_
  refine own_iconst W1005 (1 : Int32) 82 at_81 rfl rfl ?_
  refine own_icmpY W1005 94 at_82 ((flt ((by decide) : ¬ ((1 : Int32) < (1 : Int32)))).2.2.2) (by decide) (by decide) ?_
  refine own_iload W1005 96 at_94 rfl rfl ?_
  refine own_iconst W1005 (2 : Int32) 97 at_96 rfl rfl ?_
  refine own_icmpY W1005 109 at_97 ((flt ((by decide) : ¬ ((2 : Int32) < (1 : Int32)))).2.2.2) (by decide) (by decide) ?_
  have E_a : own_El Z h1005 (own_upd (fun _ => .null) 0 (.ref b0)) 0 1 := (own_El.add own_El.none Y_b0 B_b0)
  have ne_ea_de := (Nat.ne_of_gt (Nat.lt_of_lt_of_le V0.lt os_ea))
  refine own_new W1005 112 at_109 (wd59 hw) (wd60 hw) (wd61 hw) (by decide) (by decide) rfl ?_
  intro T1006 h1006 lg W1006 E1006 g_lg o_lg X_lg D_lg
  have ne_ad_lg : ad ≠ lg := by rw [g_lg]; exact Nat.ne_of_lt X_ad.lt
  have ne_ea_lg : ea ≠ lg := by rw [g_lg]; exact Nat.ne_of_lt V_ea.lt
  have X_ad := X_ad.ext E1006
  have Fe_ad := Fe_ad.ext E1006
  have Fs_ad := Fs_ad.ext E1006
  have Fm_ad := Fm_ad.ext E1006
  have V_ea := V_ea.ext E1006
  have E_a := E_a.ext E1006
  have Fg_lg : own_fg Z h1006 lg .null := D_lg (Or.inr (wd69 hw)) (ty := (.object "java/util/List")) (by decide)
  have Ff_lg : own_ff Z h1006 lg (.long (0 : Int64)) := D_lg (Or.inl (wd76 hw)) (ty := .long) (by decide)
  have Fp_lg : own_fp Z h1006 lg (.long (0 : Int64)) := D_lg (Or.inl (wd141 hw)) (ty := .long) (by decide)
  have Fl_lg : own_fl Z h1006 lg (.long (0 : Int64)) := D_lg (Or.inl (wd152 hw)) (ty := .long) (by decide)
  have os_lg := o_lg
  have ne_lg_de := (Nat.ne_of_gt (Nat.lt_of_lt_of_le V0.lt os_lg))
  refine own_dup W1006 113 at_112 rfl rfl ?_
  have S_de := own_staK0 S0 (own_WK W1006)
  have V_de := V0.keep (own_WK W1006) nin0
  have hsH := own_le W1006
  have q_ad := X_ad.lt
  have q_lg := X_lg.lt
  have q_ea := V_ea.lt
  refine own_callN W1006 (A := []) (wt := 1) (pc' := 116) (st := [(.ref lg)]) at_113 rfl (wd62 hw) (wd63 hw) (wd61 hw) (wd64 hw) (by decide) (own_m10 l Z a0 hw [] h1006 lg de S_de X_lg Fg_lg Fp_lg Ff_lg Fl_lg) (allS (Or.inr o_lg) all0) rfl pd_0 rfl (Nat.le_of_eq rfl) (by decide) (by decide) (by decide) (by decide) rfl ?_
  rintro T1007 h1007 _ W1007 K1007 P1007 ⟨rfl, ⟨ml, o_ml, X_ml, Fg_lg, Fp_lg, Ff_lg, Fl_lg, Fe_ml, Fs_ml, Fm_ml⟩⟩
  have X_ad := X_ad.keep K1007
  have Fe_ad := Fe_ad.keep K1007 (ninS ne_ad_lg nin0)
  have Fs_ad := Fs_ad.keep K1007 (ninS ne_ad_lg nin0)
  have Fm_ad := Fm_ad.keep K1007 (ninS ne_ad_lg nin0)
  have V_ea := V_ea.keep K1007 (ninS ne_ea_lg nin0)
  have E_a := E_a.keep K1007
  have X_lg := X_lg.keep K1007
  show own_Go p e below C T1007 (mkF m 116 #[.val (.long q1), .second, .val (.int p2), .val (.int p3), .val (.int p4), .val (.int p5), .val (.int (1 : Int32)), .val (.int d1), .val (.int d2), .val (.long xx), .second, .val (.ref ad), .unset, .unset] [(.ref lg)])
  have ne_ad_ml : ad ≠ ml := Nat.ne_of_lt (Nat.lt_of_lt_of_le q_ad o_ml)
  have ne_lg_ml : lg ≠ ml := Nat.ne_of_lt (Nat.lt_of_lt_of_le q_lg o_ml)
  have ne_ea_ml : ea ≠ ml := Nat.ne_of_lt (Nat.lt_of_lt_of_le q_ea o_ml)
  have os_ml : s.heap.size ≤ ml := Nat.le_trans hsH o_ml
  have ne_ml_de := (Nat.ne_of_gt (Nat.lt_of_lt_of_le V0.lt os_ml))
  refine own_astore W1007 118 #[.val (.long q1), .second, .val (.int p2), .val (.int p3), .val (.int p4), .val (.int p5), .val (.int (1 : Int32)), .val (.int d1), .val (.int d2), .val (.long xx), .second, .val (.ref ad), .val (.ref lg), .unset] at_116 rfl rfl rfl ?_
  refine own_aload W1007 120 at_118 rfl rfl rfl ?_
  refine own_lload W1007 122 at_120 rfl rfl ?_
  refine own_callV W1007 (A := [(.long xx)]) (wt := 0) (pc' := 125) (st := []) at_122 (wd70 hw) (wd71 hw) (own_nf W1007 (wd73 hw)) (wd73 hw) (wd72 hw) (wd61 hw) (wd74 hw) (by decide) X_lg (own_m11 l Z a0 hw [] h1007 lg xx (0 : Int64) Ff_lg) all0 rfl pd_21 rfl (Nat.le_of_eq rfl) (by decide) (by decide) (by decide) (by decide) rfl ?_
  rintro T1008 h1008 _ W1008 K1008 P1008 rfl
  rw [P1008 rfl rfl] at W1008
  show own_Go p e below C T1008 (mkF m 125 #[.val (.long q1), .second, .val (.int p2), .val (.int p3), .val (.int p4), .val (.int p5), .val (.int (1 : Int32)), .val (.int d1), .val (.int d2), .val (.long xx), .second, .val (.ref ad), .val (.ref lg), .unset] [(.int (if (0 : Int64) < xx then (1 : Int32) else 0))])
  refine own_lload W1008 127 at_125 rfl rfl ?_
  refine own_lconst W1008 (0 : Int64) 128 at_127 rfl rfl ?_
  refine own_lcmp W1008 129 at_128 rfl ?_
  suffices J1009 : own_Go p e below C T1008 (mkF m 137 #[.val (.long q1), .second, .val (.int p2), .val (.int p3), .val (.int p4), .val (.int p5), .val (.int (1 : Int32)), .val (.int d1), .val (.int d2), .val (.long xx), .second, .val (.ref ad), .val (.ref lg), .unset] [(.int (if (0 : Int64) < xx then (1 : Int32) else (0 : Int32))), (.int (if (0 : Int64) < xx then (1 : Int32) else 0))]) by
    by_cases c1010 : (0 : Int64) < xx
    · refine own_ifN W1008 132 at_129 ((if0 _ _).trans (tlt ((lw_gt xx (0 : Int64)).mpr c1010)).2.2.2) rfl ?_
      refine own_iconst W1008 (1 : Int32) 133 at_132 rfl rfl ?_
      refine own_goto W1008 137 at_133 (by decide) (by decide) ?_
      first | (simp only [if_pos c1010] at J1009; exact J1009) | (simp only [if_pos c1010] at J1009 ⊢; exact J1009)
    · refine own_ifY W1008 136 at_129 ((if0 _ _).trans (flt (mt (lw_gt xx (0 : Int64)).mp c1010)).2.2.2) (by decide) (by decide) ?_
      refine own_iconst W1008 (0 : Int32) 137 at_136 rfl rfl ?_
      first | (simp only [if_neg c1010] at J1009; exact J1009) | (simp only [if_neg c1010] at J1009 ⊢; exact J1009)
  refine own_icmpN W1008 140 at_137 ((teq (rfl : (if (0 : Int64) < xx then (1 : Int32) else 0) = (if (0 : Int64) < xx then (1 : Int32) else (0 : Int32)))).2) rfl ?_
  refine own_iconst W1008 (1 : Int32) 141 at_140 rfl rfl ?_
  refine own_goto W1008 145 at_141 (by decide) (by decide) ?_
  refine own_istore W1008 147 #[.val (.long q1), .second, .val (.int p2), .val (.int p3), .val (.int p4), .val (.int p5), .val (.int (1 : Int32)), .val (.int d1), .val (.int d2), .val (.long xx), .second, .val (.ref ad), .val (.ref lg), .val (.int (1 : Int32))] at_145 rfl rfl ?_
  refine own_aload W1008 149 at_147 rfl rfl rfl ?_
  refine own_lconst W1008 (0 : Int64) 150 at_149 rfl rfl ?_
  refine own_aload W1008 152 at_150 rfl rfl rfl ?_
  have S_de := own_staK0 S0 (own_WK W1008)
  have V_de := V0.keep (own_WK W1008) nin0
  have hsH := own_le W1008
  have q_ad := X_ad.lt
  have q_lg := X_lg.lt
  have q_ml := X_ml.lt
  have q_ea := V_ea.lt
  refine own_callV W1008 (A := [(.long (0 : Int64)), (.ref ad)]) (wt := 0) (pc' := 155) (st := []) at_152 (wd77 hw) (wd78 hw) (own_nf W1008 (wd80 hw)) (wd80 hw) (wd79 hw) (wd61 hw) (wd81 hw) (by decide) X_lg (own_m12_1 l Z a0 hw [] h1007 lg (0 : Int64) ad de df ml (0 : Int64) ((0 : Int32) + (1 : Int32)) ea (own_upd (fun _ => .null) 0 (.ref b0)) S_de V_de X_lg Fg_lg Fp_lg Ff_lg Fl_lg X_ml Fe_ml Fs_ml Fm_ml X_ad Fe_ad Fs_ad Fm_ad V_ea E_a ne_lg_ml (Ne.symm ne_ad_lg) (Ne.symm ne_ad_ml) ne_ml_de ne_lg_de ne_ad_de (Ne.symm ne_ea_lg) (Ne.symm ne_ea_ml) ne_ad_ea ne_ea_de) (allS (Or.inr o_lg) (allS (Or.inr os_ml) all0)) rfl pd_22 rfl (Nat.le_of_eq rfl) (by decide) (by decide) (by decide) (by decide) rfl ?_
  rintro T1011 h1011 _ W1011 K1011 P1011 ⟨rfl, ⟨pl1, em, mc1, vm, o_em, Fg_lg, Fp_lg, Ff_lg, Fl_lg, Fe_ml, Fs_ml, Fm_ml, V_em, hrm, E_m⟩⟩
  have X_ad := X_ad.keep K1011
  have Fe_ad := Fe_ad.keep K1011 (ninS ne_ad_lg (ninS ne_ad_ml nin0))
  have Fs_ad := Fs_ad.keep K1011 (ninS ne_ad_lg (ninS ne_ad_ml nin0))
  have Fm_ad := Fm_ad.keep K1011 (ninS ne_ad_lg (ninS ne_ad_ml nin0))
  have V_ea := V_ea.keep K1011 (ninS ne_ea_lg (ninS ne_ea_ml nin0))
  have E_a := E_a.keep K1011
  have X_lg := X_lg.keep K1011
  have X_ml := X_ml.keep K1011
  show own_Go p e below C T1011 (mkF m 155 #[.val (.long q1), .second, .val (.int p2), .val (.int p3), .val (.int p4), .val (.int p5), .val (.int (1 : Int32)), .val (.int d1), .val (.int d2), .val (.long xx), .second, .val (.ref ad), .val (.ref lg), .val (.int (1 : Int32))] [])
  have ne_lg_em : lg ≠ em := Nat.ne_of_lt (Nat.lt_of_lt_of_le q_lg o_em)
  have ne_ml_em : ml ≠ em := Nat.ne_of_lt (Nat.lt_of_lt_of_le q_ml o_em)
  have os_em : s.heap.size ≤ em := Nat.le_trans hsH o_em
  refine own_iload W1011 157 at_155 rfl rfl ?_
  refine own_ifN W1011 160 at_157 ((if0 _ _).trans (feq ((by decide) : ¬ ((1 : Int32) = (0 : Int32)))).1) rfl ?_
  refine own_aload W1011 162 at_160 rfl rfl rfl ?_
  refine own_lload W1011 164 at_162 rfl rfl ?_
  refine own_callV W1011 (A := [(.long xx)]) (wt := 0) (pc' := 167) (st := []) at_164 (wd70 hw) (wd71 hw) (own_nf W1011 (wd73 hw)) (wd73 hw) (wd72 hw) (wd61 hw) (wd74 hw) (by decide) X_lg (own_m11 l Z a0 hw [] h1011 lg xx (0 : Int64) Ff_lg) all0 rfl pd_21 rfl (Nat.le_of_eq rfl) (by decide) (by decide) (by decide) (by decide) rfl ?_
  rintro T1012 h1012 _ W1012 K1012 P1012 rfl
  rw [P1012 rfl rfl] at W1012
  show own_Go p e below C T1012 (mkF m 167 #[.val (.long q1), .second, .val (.int p2), .val (.int p3), .val (.int p4), .val (.int p5), .val (.int (1 : Int32)), .val (.int d1), .val (.int d2), .val (.long xx), .second, .val (.ref ad), .val (.ref lg), .val (.int (1 : Int32))] [(.int (if (0 : Int64) < xx then (1 : Int32) else 0))])
  refine own_lload W1012 169 at_167 rfl rfl ?_
  refine own_lconst W1012 (0 : Int64) 170 at_169 rfl rfl ?_
  refine own_lcmp W1012 171 at_170 rfl ?_
  suffices J1013 : own_Go p e below C T1012 (mkF m 179 #[.val (.long q1), .second, .val (.int p2), .val (.int p3), .val (.int p4), .val (.int p5), .val (.int (1 : Int32)), .val (.int d1), .val (.int d2), .val (.long xx), .second, .val (.ref ad), .val (.ref lg), .val (.int (1 : Int32))] [(.int (if (0 : Int64) < xx then (1 : Int32) else (0 : Int32))), (.int (if (0 : Int64) < xx then (1 : Int32) else 0))]) by
    by_cases c1014 : (0 : Int64) < xx
    · refine own_ifN W1012 174 at_171 ((if0 _ _).trans (tlt ((lw_gt xx (0 : Int64)).mpr c1014)).2.2.2) rfl ?_
      refine own_iconst W1012 (1 : Int32) 175 at_174 rfl rfl ?_
      refine own_goto W1012 179 at_175 (by decide) (by decide) ?_
      first | (simp only [if_pos c1014] at J1013; exact J1013) | (simp only [if_pos c1014] at J1013 ⊢; exact J1013)
    · refine own_ifY W1012 178 at_171 ((if0 _ _).trans (flt (mt (lw_gt xx (0 : Int64)).mp c1014)).2.2.2) (by decide) (by decide) ?_
      refine own_iconst W1012 (0 : Int32) 179 at_178 rfl rfl ?_
      first | (simp only [if_neg c1014] at J1013; exact J1013) | (simp only [if_neg c1014] at J1013 ⊢; exact J1013)
  refine own_icmpN W1012 182 at_179 ((teq (rfl : (if (0 : Int64) < xx then (1 : Int32) else 0) = (if (0 : Int64) < xx then (1 : Int32) else (0 : Int32)))).2) rfl ?_
  refine own_iconst W1012 (1 : Int32) 183 at_182 rfl rfl ?_
  refine own_goto W1012 187 at_183 (by decide) (by decide) ?_
  refine own_istore W1012 189 #[.val (.long q1), .second, .val (.int p2), .val (.int p3), .val (.int p4), .val (.int p5), .val (.int (1 : Int32)), .val (.int d1), .val (.int d2), .val (.long xx), .second, .val (.ref ad), .val (.ref lg), .val (.int (1 : Int32))] at_187 rfl rfl ?_
  rcases (by omega : d1n = 0 ∨ d1n = 1) with rfl | rfl
  · obtain rfl : d1 = (0 : Int32) := own_lit32 hd1 _ rfl
    show own_Go p e below C T1012 (mkF m 189 #[.val (.long q1), .second, .val (.int p2), .val (.int p3), .val (.int p4), .val (.int p5), .val (.int (1 : Int32)), .val (.int (0 : Int32)), .val (.int d2), .val (.long xx), .second, .val (.ref ad), .val (.ref lg), .val (.int (1 : Int32))] [])
    exact own_kd_10 l Z a0 hw h0 q1 p2 p3 p4 p5 p e s m below meth c C hC T1012 h1011 de df xx d2 d2n ad lg ml pl1 em mc1 vm W1012 S0 V0 hd2 h12 os_lg os_ml os_em X_lg Fg_lg Fp_lg Ff_lg Fl_lg X_ml Fe_ml Fs_ml Fm_ml V_em hrm E_m ne_lg_ml ne_lg_em ne_ml_em
  · obtain rfl : d1 = (1 : Int32) := own_lit32 hd1 _ rfl
    show own_Go p e below C T1012 (mkF m 189 #[.val (.long q1), .second, .val (.int p2), .val (.int p3), .val (.int p4), .val (.int p5), .val (.int (1 : Int32)), .val (.int (1 : Int32)), .val (.int d2), .val (.long xx), .second, .val (.ref ad), .val (.ref lg), .val (.int (1 : Int32))] [])
    exact own_kd_11 l Z a0 hw h0 q1 p2 p3 p4 p5 p e s m below meth c C hC T1012 h1011 de df xx d2 d2n ad lg ml pl1 em mc1 vm W1012 S0 V0 hd2 h12 os_lg os_ml os_em X_lg Fg_lg Fp_lg Ff_lg Fl_lg X_ml Fe_ml Fs_ml Fm_ml V_em hrm E_m ne_lg_ml ne_lg_em ne_ml_em
set_option maxRecDepth 65536 in
set_option maxHeartbeats 40000000 in
theorem own_kd_20 (l : Launch) (Z : State) (a0 : Array Value) (hw : ∀ d ∈ tables_1, d.before a0 Z = true) (h0 : Heap) (q1 : Int64) (p2 : Int32) (p3 : Int32) (p4 : Int32) (p5 : Int32) (p : Program) (e : Env) (s : State) (m : MethodId) (below : List Frame) (meth : Method) (c : Code) (C : Outcome → State → Prop) (hC : ∀ v L u, own_Fw s [] L → (v = some (.int (1 : Int32))) → FrameEnd s (.returned v) u L room_1.cells room_1.slots → C (.returned v) u) (T : State) (h : Heap) (de : Addr) (df : Nat → Value) (xx : Int64) (d2 : Int32) (d2n : Nat) (ad lg ml : Addr) (pl1 : Int64) (em : Addr) (mc1 : Int32) (vm : Nat → Value) (W : own_W p l e room_1 s m #[(.long q1), (.int p2), (.int p3), (.int p4), (.int p5)] below meth c Z x ret code maxLocals [] T h (0 + 1 + 0 + 1 + 1 + 1 + 0 + 1 + 1 + 0 + 2 + 0) (0 + 3 + 0 + 1 + 10 + 2 + 0 + 4 + 3 + 0 + 14 + 0)) (S0 : Sta Z s.heap "java/util/ArrayList" "DEFAULTCAPACITY_EMPTY_ELEMENTDATA" "[Ljava/lang/Object;" (.ref de)) (V0 : own_A Z s.heap de (.object "java/lang/Object") 0 df) (hd2 : d2.toInt = (d2n : Int)) (h12 : 0 ≤ d2n ∧ d2n ≤ 2) (os_lg : s.heap.size ≤ lg) (os_ml : s.heap.size ≤ ml) (os_em : s.heap.size ≤ em) (X_lg : own_xm Z h lg) (Fg_lg : own_fg Z h lg (.ref ml)) (Fp_lg : own_fp Z h lg (.long pl1)) (Ff_lg : own_ff Z h lg (.long (0 : Int64))) (Fl_lg : own_fl Z h lg (.long (0 : Int64))) (X_ml : own_xl Z h ml) (Fe_ml : own_fe Z h ml (.ref em)) (Fs_ml : own_fs Z h ml (.int (2 : Int32))) (Fm_ml : own_fm Z h ml (.int mc1)) (V_em : own_R Z h em "java/lang/Object" 10 vm) (hrm : own_Rf vm) (E_m : own_El Z h vm 0 2) (ne_lg_ml : lg ≠ ml) (ne_lg_em : lg ≠ em) (ne_ml_em : ml ≠ em) :
    own_Go p e below C T (mkF m 189 #[.val (.long q1), .second, .val (.int p2), .val (.int p3), .val (.int p4), .val (.int p5), .val (.int (2 : Int32)), .val (.int (0 : Int32)), .val (.int d2), .val (.long xx), .second, .val (.ref ad), .val (.ref lg), .val (.int (1 : Int32))] []) := by
  refine own_aload W 191 at_189 rfl rfl rfl ?_
  refine own_iload W 193 at_191 rfl rfl ?_
  refine own_i2l W 194 at_193 rfl ?_
  refine own_callV W (A := [(.long (0 : Int32).toInt64)]) (wt := 0) (pc' := 197) (st := []) at_194 (wd142 hw) (wd143 hw) (own_nf W (wd145 hw)) (wd145 hw) (wd144 hw) (wd61 hw) (wd146 hw) (by decide) X_lg (own_m18_20 l Z a0 hw [] h lg (0 : Int32).toInt64 ml em pl1 (0 : Int64) mc1 vm 0 X_lg Fg_lg Fp_lg Ff_lg Fl_lg X_ml Fe_ml Fs_ml Fm_ml V_em E_m hrm ne_lg_ml ne_lg_em ne_ml_em rfl rfl (by decide)) (allS (Or.inr os_lg) (allS (Or.inr os_ml) (allS (Or.inr os_em) all0))) rfl pd_23 rfl (Nat.le_of_eq rfl) (by decide) (by decide) (by decide) (by decide) rfl ?_
  rintro T2017 h2017 _ W2017 K2017 P2017 ⟨rfl, ⟨pl2, mc2, vm2, Fg_lg, Fp_lg, Ff_lg, Fl_lg, Fe_ml, Fs_ml, Fm_ml, V_em, hrm, E_m⟩⟩
  have X_lg := X_lg.keep K2017
  have X_ml := X_ml.keep K2017
  show own_Go p e below C T2017 (mkF m 197 #[.val (.long q1), .second, .val (.int p2), .val (.int p3), .val (.int p4), .val (.int p5), .val (.int (2 : Int32)), .val (.int (0 : Int32)), .val (.int d2), .val (.long xx), .second, .val (.ref ad), .val (.ref lg), .val (.int (1 : Int32))] [])
  refine own_iload W2017 199 at_197 rfl rfl ?_
  refine own_ifN W2017 202 at_199 ((if0 _ _).trans (feq ((by decide) : ¬ ((1 : Int32) = (0 : Int32)))).1) rfl ?_
  refine own_aload W2017 204 at_202 rfl rfl rfl ?_
  refine own_lload W2017 206 at_204 rfl rfl ?_
  refine own_callV W2017 (A := [(.long xx)]) (wt := 0) (pc' := 209) (st := []) at_206 (wd70 hw) (wd71 hw) (own_nf W2017 (wd73 hw)) (wd73 hw) (wd72 hw) (wd61 hw) (wd74 hw) (by decide) X_lg (own_m11 l Z a0 hw [] h2017 lg xx (0 : Int32).toInt64 Ff_lg) all0 rfl pd_21 rfl (Nat.le_of_eq rfl) (by decide) (by decide) (by decide) (by decide) rfl ?_
  rintro T2018 h2018 _ W2018 K2018 P2018 rfl
  rw [P2018 rfl rfl] at W2018
  show own_Go p e below C T2018 (mkF m 209 #[.val (.long q1), .second, .val (.int p2), .val (.int p3), .val (.int p4), .val (.int p5), .val (.int (2 : Int32)), .val (.int (0 : Int32)), .val (.int d2), .val (.long xx), .second, .val (.ref ad), .val (.ref lg), .val (.int (1 : Int32))] [(.int (if (0 : Int32).toInt64 < xx then (1 : Int32) else 0))])
  refine own_lload W2018 211 at_209 rfl rfl ?_
  refine own_iload W2018 213 at_211 rfl rfl ?_
  refine own_i2l W2018 214 at_213 rfl ?_
  refine own_lcmp W2018 215 at_214 rfl ?_
  suffices J2019 : own_Go p e below C T2018 (mkF m 223 #[.val (.long q1), .second, .val (.int p2), .val (.int p3), .val (.int p4), .val (.int p5), .val (.int (2 : Int32)), .val (.int (0 : Int32)), .val (.int d2), .val (.long xx), .second, .val (.ref ad), .val (.ref lg), .val (.int (1 : Int32))] [(.int (if (0 : Int32).toInt64 < xx then (1 : Int32) else (0 : Int32))), (.int (if (0 : Int32).toInt64 < xx then (1 : Int32) else 0))]) by
    by_cases c2020 : (0 : Int32).toInt64 < xx
    · refine own_ifN W2018 218 at_215 ((if0 _ _).trans (tlt ((lw_gt xx (0 : Int32).toInt64).mpr c2020)).2.2.2) rfl ?_
      refine own_iconst W2018 (1 : Int32) 219 at_218 rfl rfl ?_
      refine own_goto W2018 223 at_219 (by decide) (by decide) ?_
      first | (simp only [if_pos c2020] at J2019; exact J2019) | (simp only [if_pos c2020] at J2019 ⊢; exact J2019)
    · refine own_ifY W2018 222 at_215 ((if0 _ _).trans (flt (mt (lw_gt xx (0 : Int32).toInt64).mp c2020)).2.2.2) (by decide) (by decide) ?_
      refine own_iconst W2018 (0 : Int32) 223 at_222 rfl rfl ?_
      first | (simp only [if_neg c2020] at J2019; exact J2019) | (simp only [if_neg c2020] at J2019 ⊢; exact J2019)
  refine own_icmpN W2018 226 at_223 ((teq (rfl : (if (0 : Int32).toInt64 < xx then (1 : Int32) else 0) = (if (0 : Int32).toInt64 < xx then (1 : Int32) else (0 : Int32)))).2) rfl ?_
  refine own_iconst W2018 (1 : Int32) 227 at_226 rfl rfl ?_
  refine own_goto W2018 231 at_227 (by decide) (by decide) ?_
  refine own_istore W2018 233 #[.val (.long q1), .second, .val (.int p2), .val (.int p3), .val (.int p4), .val (.int p5), .val (.int (2 : Int32)), .val (.int (0 : Int32)), .val (.int d2), .val (.long xx), .second, .val (.ref ad), .val (.ref lg), .val (.int (1 : Int32))] at_231 rfl rfl ?_
  have fin : ∀ (dd : Int32) (T : State) (h : Heap), own_W p l e room_1 s m #[(.long q1), (.int p2), (.int p3), (.int p4), (.int p5)] below meth c Z x ret code maxLocals [] T h (0 + 1 + 0 + 1 + 1 + 1 + 0 + 1 + 1 + 0 + 2 + 0 + 1 + 0 + 1) (0 + 3 + 0 + 1 + 10 + 2 + 0 + 4 + 3 + 0 + 14 + 0 + 5 + 0 + 5) → own_xm Z h lg → own_ff Z h lg (.long dd.toInt64) → own_Go p e below C T (mkF m 241 #[.val (.long q1), .second, .val (.int p2), .val (.int p3), .val (.int p4), .val (.int p5), .val (.int (2 : Int32)), .val (.int (0 : Int32)), .val (.int dd), .val (.long xx), .second, .val (.ref ad), .val (.ref lg), .val (.int (1 : Int32))] []) := by
    intro dd T h W X_lg Ff_lg
    refine own_iload W 243 at_241 rfl rfl ?_
    refine own_ifN W 246 at_243 ((if0 _ _).trans (feq ((by decide) : ¬ ((1 : Int32) = (0 : Int32)))).1) rfl ?_
    refine own_aload W 248 at_246 rfl rfl rfl ?_
    refine own_lload W 250 at_248 rfl rfl ?_
    refine own_callV W (A := [(.long xx)]) (wt := 0) (pc' := 253) (st := []) at_250 (wd70 hw) (wd71 hw) (own_nf W (wd73 hw)) (wd73 hw) (wd72 hw) (wd61 hw) (wd74 hw) (by decide) X_lg (own_m11 l Z a0 hw [] h lg xx dd.toInt64 Ff_lg) all0 rfl pd_21 rfl (Nat.le_of_eq rfl) (by decide) (by decide) (by decide) (by decide) rfl ?_
    rintro T2021 h2021 _ W2021 K2021 P2021 rfl
    rw [P2021 rfl rfl] at W2021
    show own_Go p e below C T2021 (mkF m 253 #[.val (.long q1), .second, .val (.int p2), .val (.int p3), .val (.int p4), .val (.int p5), .val (.int (2 : Int32)), .val (.int (0 : Int32)), .val (.int dd), .val (.long xx), .second, .val (.ref ad), .val (.ref lg), .val (.int (1 : Int32))] [(.int (if dd.toInt64 < xx then (1 : Int32) else 0))])
    refine own_lload W2021 255 at_253 rfl rfl ?_
    refine own_iload W2021 257 at_255 rfl rfl ?_
    refine own_i2l W2021 258 at_257 rfl ?_
    refine own_lcmp W2021 259 at_258 rfl ?_
    suffices J2022 : own_Go p e below C T2021 (mkF m 267 #[.val (.long q1), .second, .val (.int p2), .val (.int p3), .val (.int p4), .val (.int p5), .val (.int (2 : Int32)), .val (.int (0 : Int32)), .val (.int dd), .val (.long xx), .second, .val (.ref ad), .val (.ref lg), .val (.int (1 : Int32))] [(.int (if dd.toInt64 < xx then (1 : Int32) else (0 : Int32))), (.int (if dd.toInt64 < xx then (1 : Int32) else 0))]) by
      by_cases c2023 : dd.toInt64 < xx
      · refine own_ifN W2021 262 at_259 ((if0 _ _).trans (tlt ((lw_gt xx dd.toInt64).mpr c2023)).2.2.2) rfl ?_
        refine own_iconst W2021 (1 : Int32) 263 at_262 rfl rfl ?_
        refine own_goto W2021 267 at_263 (by decide) (by decide) ?_
        first | (simp only [if_pos c2023] at J2022; exact J2022) | (simp only [if_pos c2023] at J2022 ⊢; exact J2022)
      · refine own_ifY W2021 266 at_259 ((if0 _ _).trans (flt (mt (lw_gt xx dd.toInt64).mp c2023)).2.2.2) (by decide) (by decide) ?_
        refine own_iconst W2021 (0 : Int32) 267 at_266 rfl rfl ?_
        first | (simp only [if_neg c2023] at J2022; exact J2022) | (simp only [if_neg c2023] at J2022 ⊢; exact J2022)
    refine own_icmpN W2021 270 at_267 ((teq (rfl : (if dd.toInt64 < xx then (1 : Int32) else 0) = (if dd.toInt64 < xx then (1 : Int32) else (0 : Int32)))).2) rfl ?_
    refine own_iconst W2021 (1 : Int32) 271 at_270 rfl rfl ?_
    refine own_goto W2021 275 at_271 (by decide) (by decide) ?_
    refine own_istore W2021 277 #[.val (.long q1), .second, .val (.int p2), .val (.int p3), .val (.int p4), .val (.int p5), .val (.int (2 : Int32)), .val (.int (0 : Int32)), .val (.int dd), .val (.long xx), .second, .val (.ref ad), .val (.ref lg), .val (.int (1 : Int32))] at_275 rfl rfl ?_
    refine own_iload W2021 279 at_277 rfl rfl ?_
    refine own_retZ (Q := fun v h => v = some (.int (1 : Int32))) W2021 hC (by decide) (by decide) at_279 ?_
    exact rfl
  rcases (by omega : d2n = 0 ∨ d2n = 1 ∨ d2n = 2) with rfl | rfl | rfl
  · obtain rfl : d2 = (0 : Int32) := own_lit32 hd2 _ rfl
    show own_Go p e below C T2018 (mkF m 233 #[.val (.long q1), .second, .val (.int p2), .val (.int p3), .val (.int p4), .val (.int p5), .val (.int (2 : Int32)), .val (.int (0 : Int32)), .val (.int (0 : Int32)), .val (.long xx), .second, .val (.ref ad), .val (.ref lg), .val (.int (1 : Int32))] [])
    refine own_aload W2018 235 at_233 rfl rfl rfl ?_
    refine own_iload W2018 237 at_235 rfl rfl ?_
    refine own_i2l W2018 238 at_237 rfl ?_
    refine own_callV W2018 (A := [(.long (0 : Int32).toInt64)]) (wt := 0) (pc' := 241) (st := []) at_238 (wd142 hw) (wd143 hw) (own_nf W2018 (wd145 hw)) (wd145 hw) (wd144 hw) (wd61 hw) (wd146 hw) (by decide) X_lg (own_m18_20 l Z a0 hw [] h2017 lg (0 : Int32).toInt64 ml em pl2 (0 : Int32).toInt64 mc2 vm2 0 X_lg Fg_lg Fp_lg Ff_lg Fl_lg X_ml Fe_ml Fs_ml Fm_ml V_em E_m hrm ne_lg_ml ne_lg_em ne_ml_em rfl rfl (by decide)) (allS (Or.inr os_lg) (allS (Or.inr os_ml) (allS (Or.inr os_em) all0))) rfl pd_23 rfl (Nat.le_of_eq rfl) (by decide) (by decide) (by decide) (by decide) rfl ?_
    rintro T2024 h2024 _ W2024 K2024 P2024 ⟨rfl, ⟨pl3, mc3, vm3, Fg_lg, Fp_lg, Ff_lg, Fl_lg, Fe_ml, Fs_ml, Fm_ml, V_em, hrm, E_m⟩⟩
    have X_lg := X_lg.keep K2024
    have X_ml := X_ml.keep K2024
    show own_Go p e below C T2024 (mkF m 241 #[.val (.long q1), .second, .val (.int p2), .val (.int p3), .val (.int p4), .val (.int p5), .val (.int (2 : Int32)), .val (.int (0 : Int32)), .val (.int (0 : Int32)), .val (.long xx), .second, .val (.ref ad), .val (.ref lg), .val (.int (1 : Int32))] [])
    exact fin (0 : Int32) _ _ W2024 X_lg Ff_lg
  · obtain rfl : d2 = (1 : Int32) := own_lit32 hd2 _ rfl
    show own_Go p e below C T2018 (mkF m 233 #[.val (.long q1), .second, .val (.int p2), .val (.int p3), .val (.int p4), .val (.int p5), .val (.int (2 : Int32)), .val (.int (0 : Int32)), .val (.int (1 : Int32)), .val (.long xx), .second, .val (.ref ad), .val (.ref lg), .val (.int (1 : Int32))] [])
    refine own_aload W2018 235 at_233 rfl rfl rfl ?_
    refine own_iload W2018 237 at_235 rfl rfl ?_
    refine own_i2l W2018 238 at_237 rfl ?_
    refine own_callV W2018 (A := [(.long (1 : Int32).toInt64)]) (wt := 0) (pc' := 241) (st := []) at_238 (wd142 hw) (wd143 hw) (own_nf W2018 (wd145 hw)) (wd145 hw) (wd144 hw) (wd61 hw) (wd146 hw) (by decide) X_lg (own_m18_21 l Z a0 hw [] h2017 lg (1 : Int32).toInt64 ml em pl2 (0 : Int32).toInt64 mc2 vm2 0 X_lg Fg_lg Fp_lg Ff_lg Fl_lg X_ml Fe_ml Fs_ml Fm_ml V_em E_m hrm ne_lg_ml ne_lg_em ne_ml_em rfl rfl (by decide)) (allS (Or.inr os_lg) (allS (Or.inr os_ml) (allS (Or.inr os_em) all0))) rfl pd_23 rfl (Nat.le_of_eq rfl) (by decide) (by decide) (by decide) (by decide) rfl ?_
    rintro T2025 h2025 _ W2025 K2025 P2025 ⟨rfl, ⟨pl3, mc3, vm3, Fg_lg, Fp_lg, Ff_lg, Fl_lg, Fe_ml, Fs_ml, Fm_ml, V_em, hrm, E_m⟩⟩
    have X_lg := X_lg.keep K2025
    have X_ml := X_ml.keep K2025
    show own_Go p e below C T2025 (mkF m 241 #[.val (.long q1), .second, .val (.int p2), .val (.int p3), .val (.int p4), .val (.int p5), .val (.int (2 : Int32)), .val (.int (0 : Int32)), .val (.int (1 : Int32)), .val (.long xx), .second, .val (.ref ad), .val (.ref lg), .val (.int (1 : Int32))] [])
    exact fin (1 : Int32) _ _ W2025 X_lg Ff_lg
  · obtain rfl : d2 = (2 : Int32) := own_lit32 hd2 _ rfl
    show own_Go p e below C T2018 (mkF m 233 #[.val (.long q1), .second, .val (.int p2), .val (.int p3), .val (.int p4), .val (.int p5), .val (.int (2 : Int32)), .val (.int (0 : Int32)), .val (.int (2 : Int32)), .val (.long xx), .second, .val (.ref ad), .val (.ref lg), .val (.int (1 : Int32))] [])
    refine own_aload W2018 235 at_233 rfl rfl rfl ?_
    refine own_iload W2018 237 at_235 rfl rfl ?_
    refine own_i2l W2018 238 at_237 rfl ?_
    refine own_callV W2018 (A := [(.long (2 : Int32).toInt64)]) (wt := 0) (pc' := 241) (st := []) at_238 (wd142 hw) (wd143 hw) (own_nf W2018 (wd145 hw)) (wd145 hw) (wd144 hw) (wd61 hw) (wd146 hw) (by decide) X_lg (own_m18_22 l Z a0 hw [] h2017 lg (2 : Int32).toInt64 ml em pl2 (0 : Int32).toInt64 mc2 vm2 0 X_lg Fg_lg Fp_lg Ff_lg Fl_lg X_ml Fe_ml Fs_ml Fm_ml V_em E_m hrm ne_lg_ml ne_lg_em ne_ml_em rfl rfl (by decide)) (allS (Or.inr os_lg) (allS (Or.inr os_ml) (allS (Or.inr os_em) all0))) rfl pd_23 rfl (Nat.le_of_eq rfl) (by decide) (by decide) (by decide) (by decide) rfl ?_
    rintro T2026 h2026 _ W2026 K2026 P2026 ⟨rfl, ⟨pl3, mc3, vm3, Fg_lg, Fp_lg, Ff_lg, Fl_lg, Fe_ml, Fs_ml, Fm_ml, V_em, hrm, E_m⟩⟩
    have X_lg := X_lg.keep K2026
    have X_ml := X_ml.keep K2026
    show own_Go p e below C T2026 (mkF m 241 #[.val (.long q1), .second, .val (.int p2), .val (.int p3), .val (.int p4), .val (.int p5), .val (.int (2 : Int32)), .val (.int (0 : Int32)), .val (.int (2 : Int32)), .val (.long xx), .second, .val (.ref ad), .val (.ref lg), .val (.int (1 : Int32))] [])
    exact fin (2 : Int32) _ _ W2026 X_lg Ff_lg
set_option maxRecDepth 65536 in
set_option maxHeartbeats 40000000 in
theorem own_kd_21 (l : Launch) (Z : State) (a0 : Array Value) (hw : ∀ d ∈ tables_1, d.before a0 Z = true) (h0 : Heap) (q1 : Int64) (p2 : Int32) (p3 : Int32) (p4 : Int32) (p5 : Int32) (p : Program) (e : Env) (s : State) (m : MethodId) (below : List Frame) (meth : Method) (c : Code) (C : Outcome → State → Prop) (hC : ∀ v L u, own_Fw s [] L → (v = some (.int (1 : Int32))) → FrameEnd s (.returned v) u L room_1.cells room_1.slots → C (.returned v) u) (T : State) (h : Heap) (de : Addr) (df : Nat → Value) (xx : Int64) (d2 : Int32) (d2n : Nat) (ad lg ml : Addr) (pl1 : Int64) (em : Addr) (mc1 : Int32) (vm : Nat → Value) (W : own_W p l e room_1 s m #[(.long q1), (.int p2), (.int p3), (.int p4), (.int p5)] below meth c Z x ret code maxLocals [] T h (0 + 1 + 0 + 1 + 1 + 1 + 0 + 1 + 1 + 0 + 2 + 0) (0 + 3 + 0 + 1 + 10 + 2 + 0 + 4 + 3 + 0 + 14 + 0)) (S0 : Sta Z s.heap "java/util/ArrayList" "DEFAULTCAPACITY_EMPTY_ELEMENTDATA" "[Ljava/lang/Object;" (.ref de)) (V0 : own_A Z s.heap de (.object "java/lang/Object") 0 df) (hd2 : d2.toInt = (d2n : Int)) (h12 : 1 ≤ d2n ∧ d2n ≤ 2) (os_lg : s.heap.size ≤ lg) (os_ml : s.heap.size ≤ ml) (os_em : s.heap.size ≤ em) (X_lg : own_xm Z h lg) (Fg_lg : own_fg Z h lg (.ref ml)) (Fp_lg : own_fp Z h lg (.long pl1)) (Ff_lg : own_ff Z h lg (.long (0 : Int64))) (Fl_lg : own_fl Z h lg (.long (0 : Int64))) (X_ml : own_xl Z h ml) (Fe_ml : own_fe Z h ml (.ref em)) (Fs_ml : own_fs Z h ml (.int (2 : Int32))) (Fm_ml : own_fm Z h ml (.int mc1)) (V_em : own_R Z h em "java/lang/Object" 10 vm) (hrm : own_Rf vm) (E_m : own_El Z h vm 0 2) (ne_lg_ml : lg ≠ ml) (ne_lg_em : lg ≠ em) (ne_ml_em : ml ≠ em) :
    own_Go p e below C T (mkF m 189 #[.val (.long q1), .second, .val (.int p2), .val (.int p3), .val (.int p4), .val (.int p5), .val (.int (2 : Int32)), .val (.int (1 : Int32)), .val (.int d2), .val (.long xx), .second, .val (.ref ad), .val (.ref lg), .val (.int (1 : Int32))] []) := by
  refine own_aload W 191 at_189 rfl rfl rfl ?_
  refine own_iload W 193 at_191 rfl rfl ?_
  refine own_i2l W 194 at_193 rfl ?_
  refine own_callV W (A := [(.long (1 : Int32).toInt64)]) (wt := 0) (pc' := 197) (st := []) at_194 (wd142 hw) (wd143 hw) (own_nf W (wd145 hw)) (wd145 hw) (wd144 hw) (wd61 hw) (wd146 hw) (by decide) X_lg (own_m18_21 l Z a0 hw [] h lg (1 : Int32).toInt64 ml em pl1 (0 : Int64) mc1 vm 0 X_lg Fg_lg Fp_lg Ff_lg Fl_lg X_ml Fe_ml Fs_ml Fm_ml V_em E_m hrm ne_lg_ml ne_lg_em ne_ml_em rfl rfl (by decide)) (allS (Or.inr os_lg) (allS (Or.inr os_ml) (allS (Or.inr os_em) all0))) rfl pd_23 rfl (Nat.le_of_eq rfl) (by decide) (by decide) (by decide) (by decide) rfl ?_
  rintro T2017 h2017 _ W2017 K2017 P2017 ⟨rfl, ⟨pl2, mc2, vm2, Fg_lg, Fp_lg, Ff_lg, Fl_lg, Fe_ml, Fs_ml, Fm_ml, V_em, hrm, E_m⟩⟩
  have X_lg := X_lg.keep K2017
  have X_ml := X_ml.keep K2017
  show own_Go p e below C T2017 (mkF m 197 #[.val (.long q1), .second, .val (.int p2), .val (.int p3), .val (.int p4), .val (.int p5), .val (.int (2 : Int32)), .val (.int (1 : Int32)), .val (.int d2), .val (.long xx), .second, .val (.ref ad), .val (.ref lg), .val (.int (1 : Int32))] [])
  refine own_iload W2017 199 at_197 rfl rfl ?_
  refine own_ifN W2017 202 at_199 ((if0 _ _).trans (feq ((by decide) : ¬ ((1 : Int32) = (0 : Int32)))).1) rfl ?_
  refine own_aload W2017 204 at_202 rfl rfl rfl ?_
  refine own_lload W2017 206 at_204 rfl rfl ?_
  refine own_callV W2017 (A := [(.long xx)]) (wt := 0) (pc' := 209) (st := []) at_206 (wd70 hw) (wd71 hw) (own_nf W2017 (wd73 hw)) (wd73 hw) (wd72 hw) (wd61 hw) (wd74 hw) (by decide) X_lg (own_m11 l Z a0 hw [] h2017 lg xx (1 : Int32).toInt64 Ff_lg) all0 rfl pd_21 rfl (Nat.le_of_eq rfl) (by decide) (by decide) (by decide) (by decide) rfl ?_
  rintro T2018 h2018 _ W2018 K2018 P2018 rfl
  rw [P2018 rfl rfl] at W2018
  show own_Go p e below C T2018 (mkF m 209 #[.val (.long q1), .second, .val (.int p2), .val (.int p3), .val (.int p4), .val (.int p5), .val (.int (2 : Int32)), .val (.int (1 : Int32)), .val (.int d2), .val (.long xx), .second, .val (.ref ad), .val (.ref lg), .val (.int (1 : Int32))] [(.int (if (1 : Int32).toInt64 < xx then (1 : Int32) else 0))])
  refine own_lload W2018 211 at_209 rfl rfl ?_
  refine own_iload W2018 213 at_211 rfl rfl ?_
  refine own_i2l W2018 214 at_213 rfl ?_
  refine own_lcmp W2018 215 at_214 rfl ?_
  suffices J2019 : own_Go p e below C T2018 (mkF m 223 #[.val (.long q1), .second, .val (.int p2), .val (.int p3), .val (.int p4), .val (.int p5), .val (.int (2 : Int32)), .val (.int (1 : Int32)), .val (.int d2), .val (.long xx), .second, .val (.ref ad), .val (.ref lg), .val (.int (1 : Int32))] [(.int (if (1 : Int32).toInt64 < xx then (1 : Int32) else (0 : Int32))), (.int (if (1 : Int32).toInt64 < xx then (1 : Int32) else 0))]) by
    by_cases c2020 : (1 : Int32).toInt64 < xx
    · refine own_ifN W2018 218 at_215 ((if0 _ _).trans (tlt ((lw_gt xx (1 : Int32).toInt64).mpr c2020)).2.2.2) rfl ?_
      refine own_iconst W2018 (1 : Int32) 219 at_218 rfl rfl ?_
      refine own_goto W2018 223 at_219 (by decide) (by decide) ?_
      first | (simp only [if_pos c2020] at J2019; exact J2019) | (simp only [if_pos c2020] at J2019 ⊢; exact J2019)
    · refine own_ifY W2018 222 at_215 ((if0 _ _).trans (flt (mt (lw_gt xx (1 : Int32).toInt64).mp c2020)).2.2.2) (by decide) (by decide) ?_
      refine own_iconst W2018 (0 : Int32) 223 at_222 rfl rfl ?_
      first | (simp only [if_neg c2020] at J2019; exact J2019) | (simp only [if_neg c2020] at J2019 ⊢; exact J2019)
  refine own_icmpN W2018 226 at_223 ((teq (rfl : (if (1 : Int32).toInt64 < xx then (1 : Int32) else 0) = (if (1 : Int32).toInt64 < xx then (1 : Int32) else (0 : Int32)))).2) rfl ?_
  refine own_iconst W2018 (1 : Int32) 227 at_226 rfl rfl ?_
  refine own_goto W2018 231 at_227 (by decide) (by decide) ?_
  refine own_istore W2018 233 #[.val (.long q1), .second, .val (.int p2), .val (.int p3), .val (.int p4), .val (.int p5), .val (.int (2 : Int32)), .val (.int (1 : Int32)), .val (.int d2), .val (.long xx), .second, .val (.ref ad), .val (.ref lg), .val (.int (1 : Int32))] at_231 rfl rfl ?_
  have fin : ∀ (dd : Int32) (T : State) (h : Heap), own_W p l e room_1 s m #[(.long q1), (.int p2), (.int p3), (.int p4), (.int p5)] below meth c Z x ret code maxLocals [] T h (0 + 1 + 0 + 1 + 1 + 1 + 0 + 1 + 1 + 0 + 2 + 0 + 1 + 0 + 1) (0 + 3 + 0 + 1 + 10 + 2 + 0 + 4 + 3 + 0 + 14 + 0 + 5 + 0 + 5) → own_xm Z h lg → own_ff Z h lg (.long dd.toInt64) → own_Go p e below C T (mkF m 241 #[.val (.long q1), .second, .val (.int p2), .val (.int p3), .val (.int p4), .val (.int p5), .val (.int (2 : Int32)), .val (.int (1 : Int32)), .val (.int dd), .val (.long xx), .second, .val (.ref ad), .val (.ref lg), .val (.int (1 : Int32))] []) := by
    intro dd T h W X_lg Ff_lg
    refine own_iload W 243 at_241 rfl rfl ?_
    refine own_ifN W 246 at_243 ((if0 _ _).trans (feq ((by decide) : ¬ ((1 : Int32) = (0 : Int32)))).1) rfl ?_
    refine own_aload W 248 at_246 rfl rfl rfl ?_
    refine own_lload W 250 at_248 rfl rfl ?_
    refine own_callV W (A := [(.long xx)]) (wt := 0) (pc' := 253) (st := []) at_250 (wd70 hw) (wd71 hw) (own_nf W (wd73 hw)) (wd73 hw) (wd72 hw) (wd61 hw) (wd74 hw) (by decide) X_lg (own_m11 l Z a0 hw [] h lg xx dd.toInt64 Ff_lg) all0 rfl pd_21 rfl (Nat.le_of_eq rfl) (by decide) (by decide) (by decide) (by decide) rfl ?_
    rintro T2021 h2021 _ W2021 K2021 P2021 rfl
    rw [P2021 rfl rfl] at W2021
    show own_Go p e below C T2021 (mkF m 253 #[.val (.long q1), .second, .val (.int p2), .val (.int p3), .val (.int p4), .val (.int p5), .val (.int (2 : Int32)), .val (.int (1 : Int32)), .val (.int dd), .val (.long xx), .second, .val (.ref ad), .val (.ref lg), .val (.int (1 : Int32))] [(.int (if dd.toInt64 < xx then (1 : Int32) else 0))])
    refine own_lload W2021 255 at_253 rfl rfl ?_
    refine own_iload W2021 257 at_255 rfl rfl ?_
    refine own_i2l W2021 258 at_257 rfl ?_
    refine own_lcmp W2021 259 at_258 rfl ?_
    suffices J2022 : own_Go p e below C T2021 (mkF m 267 #[.val (.long q1), .second, .val (.int p2), .val (.int p3), .val (.int p4), .val (.int p5), .val (.int (2 : Int32)), .val (.int (1 : Int32)), .val (.int dd), .val (.long xx), .second, .val (.ref ad), .val (.ref lg), .val (.int (1 : Int32))] [(.int (if dd.toInt64 < xx then (1 : Int32) else (0 : Int32))), (.int (if dd.toInt64 < xx then (1 : Int32) else 0))]) by
      by_cases c2023 : dd.toInt64 < xx
      · refine own_ifN W2021 262 at_259 ((if0 _ _).trans (tlt ((lw_gt xx dd.toInt64).mpr c2023)).2.2.2) rfl ?_
        refine own_iconst W2021 (1 : Int32) 263 at_262 rfl rfl ?_
        refine own_goto W2021 267 at_263 (by decide) (by decide) ?_
        first | (simp only [if_pos c2023] at J2022; exact J2022) | (simp only [if_pos c2023] at J2022 ⊢; exact J2022)
      · refine own_ifY W2021 266 at_259 ((if0 _ _).trans (flt (mt (lw_gt xx dd.toInt64).mp c2023)).2.2.2) (by decide) (by decide) ?_
        refine own_iconst W2021 (0 : Int32) 267 at_266 rfl rfl ?_
        first | (simp only [if_neg c2023] at J2022; exact J2022) | (simp only [if_neg c2023] at J2022 ⊢; exact J2022)
    refine own_icmpN W2021 270 at_267 ((teq (rfl : (if dd.toInt64 < xx then (1 : Int32) else 0) = (if dd.toInt64 < xx then (1 : Int32) else (0 : Int32)))).2) rfl ?_
    refine own_iconst W2021 (1 : Int32) 271 at_270 rfl rfl ?_
    refine own_goto W2021 275 at_271 (by decide) (by decide) ?_
    refine own_istore W2021 277 #[.val (.long q1), .second, .val (.int p2), .val (.int p3), .val (.int p4), .val (.int p5), .val (.int (2 : Int32)), .val (.int (1 : Int32)), .val (.int dd), .val (.long xx), .second, .val (.ref ad), .val (.ref lg), .val (.int (1 : Int32))] at_275 rfl rfl ?_
    refine own_iload W2021 279 at_277 rfl rfl ?_
    refine own_retZ (Q := fun v h => v = some (.int (1 : Int32))) W2021 hC (by decide) (by decide) at_279 ?_
    exact rfl
  rcases (by omega : d2n = 1 ∨ d2n = 2) with rfl | rfl
  · obtain rfl : d2 = (1 : Int32) := own_lit32 hd2 _ rfl
    show own_Go p e below C T2018 (mkF m 233 #[.val (.long q1), .second, .val (.int p2), .val (.int p3), .val (.int p4), .val (.int p5), .val (.int (2 : Int32)), .val (.int (1 : Int32)), .val (.int (1 : Int32)), .val (.long xx), .second, .val (.ref ad), .val (.ref lg), .val (.int (1 : Int32))] [])
    refine own_aload W2018 235 at_233 rfl rfl rfl ?_
    refine own_iload W2018 237 at_235 rfl rfl ?_
    refine own_i2l W2018 238 at_237 rfl ?_
    refine own_callV W2018 (A := [(.long (1 : Int32).toInt64)]) (wt := 0) (pc' := 241) (st := []) at_238 (wd142 hw) (wd143 hw) (own_nf W2018 (wd145 hw)) (wd145 hw) (wd144 hw) (wd61 hw) (wd146 hw) (by decide) X_lg (own_m18_10 l Z a0 hw [] h2017 lg (1 : Int32).toInt64 ml em pl2 (1 : Int32).toInt64 mc2 vm2 1 X_lg Fg_lg Fp_lg Ff_lg Fl_lg X_ml Fe_ml Fs_ml Fm_ml V_em E_m hrm ne_lg_ml ne_lg_em ne_ml_em rfl rfl (by decide)) (allS (Or.inr os_lg) (allS (Or.inr os_ml) (allS (Or.inr os_em) all0))) rfl pd_23 rfl (Nat.le_of_eq rfl) (by decide) (by decide) (by decide) (by decide) rfl ?_
    rintro T2024 h2024 _ W2024 K2024 P2024 ⟨rfl, ⟨pl3, mc3, vm3, Fg_lg, Fp_lg, Ff_lg, Fl_lg, Fe_ml, Fs_ml, Fm_ml, V_em, hrm, E_m⟩⟩
    have X_lg := X_lg.keep K2024
    have X_ml := X_ml.keep K2024
    show own_Go p e below C T2024 (mkF m 241 #[.val (.long q1), .second, .val (.int p2), .val (.int p3), .val (.int p4), .val (.int p5), .val (.int (2 : Int32)), .val (.int (1 : Int32)), .val (.int (1 : Int32)), .val (.long xx), .second, .val (.ref ad), .val (.ref lg), .val (.int (1 : Int32))] [])
    exact fin (1 : Int32) _ _ W2024 X_lg Ff_lg
  · obtain rfl : d2 = (2 : Int32) := own_lit32 hd2 _ rfl
    show own_Go p e below C T2018 (mkF m 233 #[.val (.long q1), .second, .val (.int p2), .val (.int p3), .val (.int p4), .val (.int p5), .val (.int (2 : Int32)), .val (.int (1 : Int32)), .val (.int (2 : Int32)), .val (.long xx), .second, .val (.ref ad), .val (.ref lg), .val (.int (1 : Int32))] [])
    refine own_aload W2018 235 at_233 rfl rfl rfl ?_
    refine own_iload W2018 237 at_235 rfl rfl ?_
    refine own_i2l W2018 238 at_237 rfl ?_
    refine own_callV W2018 (A := [(.long (2 : Int32).toInt64)]) (wt := 0) (pc' := 241) (st := []) at_238 (wd142 hw) (wd143 hw) (own_nf W2018 (wd145 hw)) (wd145 hw) (wd144 hw) (wd61 hw) (wd146 hw) (by decide) X_lg (own_m18_11 l Z a0 hw [] h2017 lg (2 : Int32).toInt64 ml em pl2 (1 : Int32).toInt64 mc2 vm2 1 X_lg Fg_lg Fp_lg Ff_lg Fl_lg X_ml Fe_ml Fs_ml Fm_ml V_em E_m hrm ne_lg_ml ne_lg_em ne_ml_em rfl rfl (by decide)) (allS (Or.inr os_lg) (allS (Or.inr os_ml) (allS (Or.inr os_em) all0))) rfl pd_23 rfl (Nat.le_of_eq rfl) (by decide) (by decide) (by decide) (by decide) rfl ?_
    rintro T2025 h2025 _ W2025 K2025 P2025 ⟨rfl, ⟨pl3, mc3, vm3, Fg_lg, Fp_lg, Ff_lg, Fl_lg, Fe_ml, Fs_ml, Fm_ml, V_em, hrm, E_m⟩⟩
    have X_lg := X_lg.keep K2025
    have X_ml := X_ml.keep K2025
    show own_Go p e below C T2025 (mkF m 241 #[.val (.long q1), .second, .val (.int p2), .val (.int p3), .val (.int p4), .val (.int p5), .val (.int (2 : Int32)), .val (.int (1 : Int32)), .val (.int (2 : Int32)), .val (.long xx), .second, .val (.ref ad), .val (.ref lg), .val (.int (1 : Int32))] [])
    exact fin (2 : Int32) _ _ W2025 X_lg Ff_lg
set_option maxRecDepth 65536 in
set_option maxHeartbeats 40000000 in
theorem own_kd_22 (l : Launch) (Z : State) (a0 : Array Value) (hw : ∀ d ∈ tables_1, d.before a0 Z = true) (h0 : Heap) (q1 : Int64) (p2 : Int32) (p3 : Int32) (p4 : Int32) (p5 : Int32) (p : Program) (e : Env) (s : State) (m : MethodId) (below : List Frame) (meth : Method) (c : Code) (C : Outcome → State → Prop) (hC : ∀ v L u, own_Fw s [] L → (v = some (.int (1 : Int32))) → FrameEnd s (.returned v) u L room_1.cells room_1.slots → C (.returned v) u) (T : State) (h : Heap) (de : Addr) (df : Nat → Value) (xx : Int64) (d2 : Int32) (d2n : Nat) (ad lg ml : Addr) (pl1 : Int64) (em : Addr) (mc1 : Int32) (vm : Nat → Value) (W : own_W p l e room_1 s m #[(.long q1), (.int p2), (.int p3), (.int p4), (.int p5)] below meth c Z x ret code maxLocals [] T h (0 + 1 + 0 + 1 + 1 + 1 + 0 + 1 + 1 + 0 + 2 + 0) (0 + 3 + 0 + 1 + 10 + 2 + 0 + 4 + 3 + 0 + 14 + 0)) (S0 : Sta Z s.heap "java/util/ArrayList" "DEFAULTCAPACITY_EMPTY_ELEMENTDATA" "[Ljava/lang/Object;" (.ref de)) (V0 : own_A Z s.heap de (.object "java/lang/Object") 0 df) (hd2 : d2.toInt = (d2n : Int)) (h12 : 2 ≤ d2n ∧ d2n ≤ 2) (os_lg : s.heap.size ≤ lg) (os_ml : s.heap.size ≤ ml) (os_em : s.heap.size ≤ em) (X_lg : own_xm Z h lg) (Fg_lg : own_fg Z h lg (.ref ml)) (Fp_lg : own_fp Z h lg (.long pl1)) (Ff_lg : own_ff Z h lg (.long (0 : Int64))) (Fl_lg : own_fl Z h lg (.long (0 : Int64))) (X_ml : own_xl Z h ml) (Fe_ml : own_fe Z h ml (.ref em)) (Fs_ml : own_fs Z h ml (.int (2 : Int32))) (Fm_ml : own_fm Z h ml (.int mc1)) (V_em : own_R Z h em "java/lang/Object" 10 vm) (hrm : own_Rf vm) (E_m : own_El Z h vm 0 2) (ne_lg_ml : lg ≠ ml) (ne_lg_em : lg ≠ em) (ne_ml_em : ml ≠ em) :
    own_Go p e below C T (mkF m 189 #[.val (.long q1), .second, .val (.int p2), .val (.int p3), .val (.int p4), .val (.int p5), .val (.int (2 : Int32)), .val (.int (2 : Int32)), .val (.int d2), .val (.long xx), .second, .val (.ref ad), .val (.ref lg), .val (.int (1 : Int32))] []) := by
  refine own_aload W 191 at_189 rfl rfl rfl ?_
  refine own_iload W 193 at_191 rfl rfl ?_
  refine own_i2l W 194 at_193 rfl ?_
  refine own_callV W (A := [(.long (2 : Int32).toInt64)]) (wt := 0) (pc' := 197) (st := []) at_194 (wd142 hw) (wd143 hw) (own_nf W (wd145 hw)) (wd145 hw) (wd144 hw) (wd61 hw) (wd146 hw) (by decide) X_lg (own_m18_22 l Z a0 hw [] h lg (2 : Int32).toInt64 ml em pl1 (0 : Int64) mc1 vm 0 X_lg Fg_lg Fp_lg Ff_lg Fl_lg X_ml Fe_ml Fs_ml Fm_ml V_em E_m hrm ne_lg_ml ne_lg_em ne_ml_em rfl rfl (by decide)) (allS (Or.inr os_lg) (allS (Or.inr os_ml) (allS (Or.inr os_em) all0))) rfl pd_23 rfl (Nat.le_of_eq rfl) (by decide) (by decide) (by decide) (by decide) rfl ?_
  rintro T2017 h2017 _ W2017 K2017 P2017 ⟨rfl, ⟨pl2, mc2, vm2, Fg_lg, Fp_lg, Ff_lg, Fl_lg, Fe_ml, Fs_ml, Fm_ml, V_em, hrm, E_m⟩⟩
  have X_lg := X_lg.keep K2017
  have X_ml := X_ml.keep K2017
  show own_Go p e below C T2017 (mkF m 197 #[.val (.long q1), .second, .val (.int p2), .val (.int p3), .val (.int p4), .val (.int p5), .val (.int (2 : Int32)), .val (.int (2 : Int32)), .val (.int d2), .val (.long xx), .second, .val (.ref ad), .val (.ref lg), .val (.int (1 : Int32))] [])
  refine own_iload W2017 199 at_197 rfl rfl ?_
  refine own_ifN W2017 202 at_199 ((if0 _ _).trans (feq ((by decide) : ¬ ((1 : Int32) = (0 : Int32)))).1) rfl ?_
  refine own_aload W2017 204 at_202 rfl rfl rfl ?_
  refine own_lload W2017 206 at_204 rfl rfl ?_
  refine own_callV W2017 (A := [(.long xx)]) (wt := 0) (pc' := 209) (st := []) at_206 (wd70 hw) (wd71 hw) (own_nf W2017 (wd73 hw)) (wd73 hw) (wd72 hw) (wd61 hw) (wd74 hw) (by decide) X_lg (own_m11 l Z a0 hw [] h2017 lg xx (2 : Int32).toInt64 Ff_lg) all0 rfl pd_21 rfl (Nat.le_of_eq rfl) (by decide) (by decide) (by decide) (by decide) rfl ?_
  rintro T2018 h2018 _ W2018 K2018 P2018 rfl
  rw [P2018 rfl rfl] at W2018
  show own_Go p e below C T2018 (mkF m 209 #[.val (.long q1), .second, .val (.int p2), .val (.int p3), .val (.int p4), .val (.int p5), .val (.int (2 : Int32)), .val (.int (2 : Int32)), .val (.int d2), .val (.long xx), .second, .val (.ref ad), .val (.ref lg), .val (.int (1 : Int32))] [(.int (if (2 : Int32).toInt64 < xx then (1 : Int32) else 0))])
  refine own_lload W2018 211 at_209 rfl rfl ?_
  refine own_iload W2018 213 at_211 rfl rfl ?_
  refine own_i2l W2018 214 at_213 rfl ?_
  refine own_lcmp W2018 215 at_214 rfl ?_
  suffices J2019 : own_Go p e below C T2018 (mkF m 223 #[.val (.long q1), .second, .val (.int p2), .val (.int p3), .val (.int p4), .val (.int p5), .val (.int (2 : Int32)), .val (.int (2 : Int32)), .val (.int d2), .val (.long xx), .second, .val (.ref ad), .val (.ref lg), .val (.int (1 : Int32))] [(.int (if (2 : Int32).toInt64 < xx then (1 : Int32) else (0 : Int32))), (.int (if (2 : Int32).toInt64 < xx then (1 : Int32) else 0))]) by
    by_cases c2020 : (2 : Int32).toInt64 < xx
    · refine own_ifN W2018 218 at_215 ((if0 _ _).trans (tlt ((lw_gt xx (2 : Int32).toInt64).mpr c2020)).2.2.2) rfl ?_
      refine own_iconst W2018 (1 : Int32) 219 at_218 rfl rfl ?_
      refine own_goto W2018 223 at_219 (by decide) (by decide) ?_
      first | (simp only [if_pos c2020] at J2019; exact J2019) | (simp only [if_pos c2020] at J2019 ⊢; exact J2019)
    · refine own_ifY W2018 222 at_215 ((if0 _ _).trans (flt (mt (lw_gt xx (2 : Int32).toInt64).mp c2020)).2.2.2) (by decide) (by decide) ?_
      refine own_iconst W2018 (0 : Int32) 223 at_222 rfl rfl ?_
      first | (simp only [if_neg c2020] at J2019; exact J2019) | (simp only [if_neg c2020] at J2019 ⊢; exact J2019)
  refine own_icmpN W2018 226 at_223 ((teq (rfl : (if (2 : Int32).toInt64 < xx then (1 : Int32) else 0) = (if (2 : Int32).toInt64 < xx then (1 : Int32) else (0 : Int32)))).2) rfl ?_
  refine own_iconst W2018 (1 : Int32) 227 at_226 rfl rfl ?_
  refine own_goto W2018 231 at_227 (by decide) (by decide) ?_
  refine own_istore W2018 233 #[.val (.long q1), .second, .val (.int p2), .val (.int p3), .val (.int p4), .val (.int p5), .val (.int (2 : Int32)), .val (.int (2 : Int32)), .val (.int d2), .val (.long xx), .second, .val (.ref ad), .val (.ref lg), .val (.int (1 : Int32))] at_231 rfl rfl ?_
  have fin : ∀ (dd : Int32) (T : State) (h : Heap), own_W p l e room_1 s m #[(.long q1), (.int p2), (.int p3), (.int p4), (.int p5)] below meth c Z x ret code maxLocals [] T h (0 + 1 + 0 + 1 + 1 + 1 + 0 + 1 + 1 + 0 + 2 + 0 + 1 + 0 + 1) (0 + 3 + 0 + 1 + 10 + 2 + 0 + 4 + 3 + 0 + 14 + 0 + 5 + 0 + 5) → own_xm Z h lg → own_ff Z h lg (.long dd.toInt64) → own_Go p e below C T (mkF m 241 #[.val (.long q1), .second, .val (.int p2), .val (.int p3), .val (.int p4), .val (.int p5), .val (.int (2 : Int32)), .val (.int (2 : Int32)), .val (.int dd), .val (.long xx), .second, .val (.ref ad), .val (.ref lg), .val (.int (1 : Int32))] []) := by
    intro dd T h W X_lg Ff_lg
    refine own_iload W 243 at_241 rfl rfl ?_
    refine own_ifN W 246 at_243 ((if0 _ _).trans (feq ((by decide) : ¬ ((1 : Int32) = (0 : Int32)))).1) rfl ?_
    refine own_aload W 248 at_246 rfl rfl rfl ?_
    refine own_lload W 250 at_248 rfl rfl ?_
    refine own_callV W (A := [(.long xx)]) (wt := 0) (pc' := 253) (st := []) at_250 (wd70 hw) (wd71 hw) (own_nf W (wd73 hw)) (wd73 hw) (wd72 hw) (wd61 hw) (wd74 hw) (by decide) X_lg (own_m11 l Z a0 hw [] h lg xx dd.toInt64 Ff_lg) all0 rfl pd_21 rfl (Nat.le_of_eq rfl) (by decide) (by decide) (by decide) (by decide) rfl ?_
    rintro T2021 h2021 _ W2021 K2021 P2021 rfl
    rw [P2021 rfl rfl] at W2021
    show own_Go p e below C T2021 (mkF m 253 #[.val (.long q1), .second, .val (.int p2), .val (.int p3), .val (.int p4), .val (.int p5), .val (.int (2 : Int32)), .val (.int (2 : Int32)), .val (.int dd), .val (.long xx), .second, .val (.ref ad), .val (.ref lg), .val (.int (1 : Int32))] [(.int (if dd.toInt64 < xx then (1 : Int32) else 0))])
    refine own_lload W2021 255 at_253 rfl rfl ?_
    refine own_iload W2021 257 at_255 rfl rfl ?_
    refine own_i2l W2021 258 at_257 rfl ?_
    refine own_lcmp W2021 259 at_258 rfl ?_
    suffices J2022 : own_Go p e below C T2021 (mkF m 267 #[.val (.long q1), .second, .val (.int p2), .val (.int p3), .val (.int p4), .val (.int p5), .val (.int (2 : Int32)), .val (.int (2 : Int32)), .val (.int dd), .val (.long xx), .second, .val (.ref ad), .val (.ref lg), .val (.int (1 : Int32))] [(.int (if dd.toInt64 < xx then (1 : Int32) else (0 : Int32))), (.int (if dd.toInt64 < xx then (1 : Int32) else 0))]) by
      by_cases c2023 : dd.toInt64 < xx
      · refine own_ifN W2021 262 at_259 ((if0 _ _).trans (tlt ((lw_gt xx dd.toInt64).mpr c2023)).2.2.2) rfl ?_
        refine own_iconst W2021 (1 : Int32) 263 at_262 rfl rfl ?_
        refine own_goto W2021 267 at_263 (by decide) (by decide) ?_
        first | (simp only [if_pos c2023] at J2022; exact J2022) | (simp only [if_pos c2023] at J2022 ⊢; exact J2022)
      · refine own_ifY W2021 266 at_259 ((if0 _ _).trans (flt (mt (lw_gt xx dd.toInt64).mp c2023)).2.2.2) (by decide) (by decide) ?_
        refine own_iconst W2021 (0 : Int32) 267 at_266 rfl rfl ?_
        first | (simp only [if_neg c2023] at J2022; exact J2022) | (simp only [if_neg c2023] at J2022 ⊢; exact J2022)
    refine own_icmpN W2021 270 at_267 ((teq (rfl : (if dd.toInt64 < xx then (1 : Int32) else 0) = (if dd.toInt64 < xx then (1 : Int32) else (0 : Int32)))).2) rfl ?_
    refine own_iconst W2021 (1 : Int32) 271 at_270 rfl rfl ?_
    refine own_goto W2021 275 at_271 (by decide) (by decide) ?_
    refine own_istore W2021 277 #[.val (.long q1), .second, .val (.int p2), .val (.int p3), .val (.int p4), .val (.int p5), .val (.int (2 : Int32)), .val (.int (2 : Int32)), .val (.int dd), .val (.long xx), .second, .val (.ref ad), .val (.ref lg), .val (.int (1 : Int32))] at_275 rfl rfl ?_
    refine own_iload W2021 279 at_277 rfl rfl ?_
    refine own_retZ (Q := fun v h => v = some (.int (1 : Int32))) W2021 hC (by decide) (by decide) at_279 ?_
    exact rfl
  rcases (by omega : d2n = 2) with rfl
  · obtain rfl : d2 = (2 : Int32) := own_lit32 hd2 _ rfl
    show own_Go p e below C T2018 (mkF m 233 #[.val (.long q1), .second, .val (.int p2), .val (.int p3), .val (.int p4), .val (.int p5), .val (.int (2 : Int32)), .val (.int (2 : Int32)), .val (.int (2 : Int32)), .val (.long xx), .second, .val (.ref ad), .val (.ref lg), .val (.int (1 : Int32))] [])
    refine own_aload W2018 235 at_233 rfl rfl rfl ?_
    refine own_iload W2018 237 at_235 rfl rfl ?_
    refine own_i2l W2018 238 at_237 rfl ?_
    refine own_callV W2018 (A := [(.long (2 : Int32).toInt64)]) (wt := 0) (pc' := 241) (st := []) at_238 (wd142 hw) (wd143 hw) (own_nf W2018 (wd145 hw)) (wd145 hw) (wd144 hw) (wd61 hw) (wd146 hw) (by decide) X_lg (own_m18_00 l Z a0 hw [] h2017 lg (2 : Int32).toInt64 ml em pl2 (2 : Int32).toInt64 mc2 vm2 10 2 X_lg Fg_lg Fp_lg Ff_lg Fl_lg X_ml Fe_ml Fs_ml Fm_ml V_em.A ne_lg_ml ne_lg_em ne_ml_em rfl rfl (by decide)) (allS (Or.inr os_lg) (allS (Or.inr os_ml) all0)) rfl pd_23 rfl (Nat.le_of_eq rfl) (by decide) (by decide) (by decide) (by decide) rfl ?_
    rintro T2024 h2024 _ W2024 K2024 P2024 ⟨rfl, ⟨pl3, mc3, Fg_lg, Fp_lg, Ff_lg, Fl_lg, Fe_ml, Fs_ml, Fm_ml⟩⟩
    have X_lg := X_lg.keep K2024
    have X_ml := X_ml.keep K2024
    have V_em := V_em.keep K2024 (ninS (Ne.symm ne_lg_em) (ninS (Ne.symm ne_ml_em) nin0))
    have E_m := E_m.keep K2024
    show own_Go p e below C T2024 (mkF m 241 #[.val (.long q1), .second, .val (.int p2), .val (.int p3), .val (.int p4), .val (.int p5), .val (.int (2 : Int32)), .val (.int (2 : Int32)), .val (.int (2 : Int32)), .val (.long xx), .second, .val (.ref ad), .val (.ref lg), .val (.int (1 : Int32))] [])
    exact fin (2 : Int32) _ _ W2024 X_lg Ff_lg
set_option maxRecDepth 65536 in
set_option maxHeartbeats 40000000 in
theorem own_k_2 (l : Launch) (Z : State) (a0 : Array Value) (hw : ∀ d ∈ tables_1, d.before a0 Z = true) (h0 : Heap) (q1 : Int64) (p2 : Int32) (p3 : Int32) (p4 : Int32) (p5 : Int32) (p : Program) (e : Env) (s : State) (m : MethodId) (below : List Frame) (meth : Method) (c : Code) (C : Outcome → State → Prop) (hC : ∀ v L u, own_Fw s [] L → (v = some (.int (1 : Int32))) → FrameEnd s (.returned v) u L room_1.cells room_1.slots → C (.returned v) u) (T : State) (h : Heap) (de : Addr) (df : Nat → Value) (xx : Int64) (d1 d2 : Int32) (d1n d2n : Nat) (W : own_W p l e room_1 s m #[(.long q1), (.int p2), (.int p3), (.int p4), (.int p5)] below meth c Z x ret code maxLocals [] T h (0) (0)) (S0 : Sta Z s.heap "java/util/ArrayList" "DEFAULTCAPACITY_EMPTY_ELEMENTDATA" "[Ljava/lang/Object;" (.ref de)) (V0 : own_A Z s.heap de (.object "java/lang/Object") 0 df) (hd1 : d1.toInt = (d1n : Int)) (hd2 : d2.toInt = (d2n : Int)) (h12 : d1n ≤ d2n ∧ d2n ≤ 2) :
    own_Go p e below C T (mkF m 56 #[.val (.long q1), .second, .val (.int p2), .val (.int p3), .val (.int p4), .val (.int p5), .val (.int (2 : Int32)), .val (.int d1), .val (.int d2), .val (.long xx), .second, .unset, .unset, .unset] []) := by
  have S_de := own_staK0 S0 (own_WK W)
  have V_de := V0.keep (own_WK W) nin0
  refine own_new W 59 at_56 (wd1 hw) (wd2 hw) (wd3 hw) (by decide) (by decide) rfl ?_
  intro T1002 h1002 ad W1002 E1002 g_ad o_ad X_ad D_ad
  have S_de := S_de.ext E1002
  have Fm_ad : own_fm Z h1002 ad (.int (0 : Int32)) := D_ad (Or.inl (wd23 hw)) (ty := .int) (by decide)
  have Fe_ad : own_fe Z h1002 ad .null := D_ad (Or.inl (wd26 hw)) (ty := (.array (.object "java/lang/Object"))) (by decide)
  have Fs_ad : own_fs Z h1002 ad (.int (0 : Int32)) := D_ad (Or.inl (wd36 hw)) (ty := .int) (by decide)
  have os_ad := o_ad
  have ne_ad_de := (Nat.ne_of_gt (Nat.lt_of_lt_of_le V0.lt os_ad))
  refine own_dup W1002 60 at_59 rfl rfl ?_
  refine own_callN W1002 (A := []) (wt := 1) (pc' := 63) (st := [(.ref ad)]) at_60 rfl (wd4 hw) (wd5 hw) (wd3 hw) (wd6 hw) (by decide) (own_m1 l Z a0 hw [] h1002 ad de S_de X_ad Fe_ad Fs_ad Fm_ad) (allS (Or.inr o_ad) all0) rfl pd_0 rfl (Nat.le_of_eq rfl) (by decide) (by decide) (by decide) (by decide) rfl ?_
  rintro T1003 h1003 _ W1003 K1003 P1003 ⟨rfl, ⟨Fe_ad, Fs_ad, Fm_ad⟩⟩
  have S_de := own_staK1 S_de K1003 X_ad
  have X_ad := X_ad.keep K1003
  show own_Go p e below C T1003 (mkF m 63 #[.val (.long q1), .second, .val (.int p2), .val (.int p3), .val (.int p4), .val (.int p5), .val (.int (2 : Int32)), .val (.int d1), .val (.int d2), .val (.long xx), .second, .unset, .unset, .unset] [(.ref ad)])
  refine own_astore W1003 65 #[.val (.long q1), .second, .val (.int p2), .val (.int p3), .val (.int p4), .val (.int p5), .val (.int (2 : Int32)), .val (.int d1), .val (.int d2), .val (.long xx), .second, .val (.ref ad), .unset, .unset] at_63 rfl rfl rfl ?_
  refine own_iload W1003 67 at_65 rfl rfl ?_
  refine own_ifN W1003 70 at_67 ((if0 _ _).trans (tlt ((by decide) : (0 : Int32) < (2 : Int32))).2.2.2) rfl ?_
  refine own_aload W1003 72 at_70 rfl rfl rfl ?_
  refine own_iconst W1003 (1 : Int32) 73 at_72 rfl rfl ?_
  refine own_newarrayE W1003 1 1 "[B" 75 at_73 (wd27 hw) rfl (Nat.le_refl _) (by decide) (by decide) (by decide) (by decide) rfl ?_
  intro T1004 h1004 b0 W1004 E1004 g_b0 o_b0 V_b0 Y_b0
  have ne_ad_b0 : ad ≠ b0 := by rw [g_b0]; exact Nat.ne_of_lt X_ad.lt
  have X_ad := X_ad.ext E1004
  have Fe_ad := Fe_ad.ext E1004
  have Fs_ad := Fs_ad.ext E1004
  have Fm_ad := Fm_ad.ext E1004
  have B_b0 := V_b0.ba
  have S_de := own_staK0 S0 (own_WK W1004)
  have V_de := V0.keep (own_WK W1004) nin0
  have hsH := own_le W1004
  have q_ad := X_ad.lt
  refine own_callV W1004 (A := [(.ref b0)]) (wt := 0) (pc' := 78) (st := []) at_75 (wd28 hw) (wd29 hw) (own_nf W1004 (wd31 hw)) (wd31 hw) (wd30 hw) (wd3 hw) (wd32 hw) (by decide) X_ad (own_m5a l Z a0 hw [] h1004 ad b0 de df (0 : Int32) Y_b0 S_de V_de X_ad Fe_ad Fs_ad Fm_ad ne_ad_de) (allS (Or.inr o_ad) all0) rfl pd_9 rfl (Nat.le_of_eq rfl) (by decide) (by decide) (by decide) (by decide) rfl ?_
  rintro T1005 h1005 _ W1005 K1005 P1005 ⟨rfl, ea, o_ea, Fe_ad, Fs_ad, Fm_ad, V_ea⟩
  have X_ad := X_ad.keep K1005
  have Y_b0 := Y_b0.keep K1005
  have B_b0 := B_b0.keep K1005
  show own_Go p e below C T1005 (mkF m 78 #[.val (.long q1), .second, .val (.int p2), .val (.int p3), .val (.int p4), .val (.int p5), .val (.int (2 : Int32)), .val (.int d1), .val (.int d2), .val (.long xx), .second, .val (.ref ad), .unset, .unset] [(.int ((1 : Int32) &&& 1))])
  have ne_ad_ea : ad ≠ ea := Nat.ne_of_lt (Nat.lt_of_lt_of_le q_ad o_ea)
  have os_ea : s.heap.size ≤ ea := Nat.le_trans hsH o_ea
  have Fs_ad : own_fs Z h1005 ad (.int (1 : Int32)) := Fs_ad
  refine own_pop W1005 79 at_78 rfl rfl ?_
  refine own_iload W1005 81 at_79 rfl rfl ?_
  refine own_iconst W1005 (1 : Int32) 82 at_81 rfl rfl ?_
  refine own_icmpN W1005 85 at_82 ((tlt ((by decide) : (1 : Int32) < (2 : Int32))).2.2.2) rfl ?_
  refine own_aload W1005 87 at_85 rfl rfl rfl ?_
  refine own_iconst W1005 (2 : Int32) 88 at_87 rfl rfl ?_
  refine own_newarrayE W1005 2 2 "[B" 90 at_88 (wd27 hw) rfl (Nat.le_refl _) (by decide) (by decide) (by decide) (by decide) rfl ?_
  intro T1006 h1006 b1 W1006 E1006 g_b1 o_b1 V_b1 Y_b1
  have ne_ad_b1 : ad ≠ b1 := by rw [g_b1]; exact Nat.ne_of_lt X_ad.lt
  have ne_b0_b1 : b0 ≠ b1 := by rw [g_b1]; exact Nat.ne_of_lt Y_b0.lt
  have ne_ea_b1 : ea ≠ b1 := by rw [g_b1]; exact Nat.ne_of_lt V_ea.lt
  have X_ad := X_ad.ext E1006
  have Y_b0 := Y_b0.ext E1006
  have B_b0 := B_b0.ext E1006
  have Fe_ad := Fe_ad.ext E1006
  have Fs_ad := Fs_ad.ext E1006
  have Fm_ad := Fm_ad.ext E1006
  have V_ea := V_ea.ext E1006
  have B_b1 := V_b1.ba
  refine own_callV W1006 (A := [(.ref b1)]) (wt := 0) (pc' := 93) (st := []) at_90 (wd28 hw) (wd29 hw) (own_nf W1006 (wd31 hw)) (wd31 hw) (wd30 hw) (wd3 hw) (wd32 hw) (by decide) X_ad (own_m5b l Z a0 hw [] h1006 ad b1 ea (1 : Int32) ((0 : Int32) + (1 : Int32)) (own_upd (fun _ => .null) 0 (.ref b0)) 1 Y_b1 X_ad Fe_ad Fs_ad Fm_ad V_ea ne_ad_ea rfl (by omega)) (allS (Or.inr o_ad) (allS (Or.inr os_ea) all0)) rfl pd_9 rfl (Nat.le_of_eq rfl) (by decide) (by decide) (by decide) (by decide) rfl ?_
  rintro T1007 h1007 _ W1007 K1007 P1007 ⟨rfl, Fe_ad, Fs_ad, Fm_ad, V_ea⟩
  have X_ad := X_ad.keep K1007
  have Y_b0 := Y_b0.keep K1007
  have B_b0 := B_b0.keep K1007
  have Y_b1 := Y_b1.keep K1007
  have B_b1 := B_b1.keep K1007
  show own_Go p e below C T1007 (mkF m 93 #[.val (.long q1), .second, .val (.int p2), .val (.int p3), .val (.int p4), .val (.int p5), .val (.int (2 : Int32)), .val (.int d1), .val (.int d2), .val (.long xx), .second, .val (.ref ad), .unset, .unset] [(.int ((1 : Int32) &&& 1))])
  have Fs_ad : own_fs Z h1007 ad (.int (2 : Int32)) := Fs_ad
  refine own_pop W1007 94 at_93 rfl rfl ?_
  refine own_iload W1007 96 at_94 rfl rfl ?_
  refine own_iconst W1007 (2 : Int32) 97 at_96 rfl rfl ?_
  refine own_icmpY W1007 109 at_97 ((flt ((by decide) : ¬ ((2 : Int32) < (2 : Int32)))).2.2.2) (by decide) (by decide) ?_
  have E_a : own_El Z h1007 (own_upd (own_upd (fun _ => .null) 0 (.ref b0)) 1 (.ref b1)) 0 2 := (own_El.add (own_El.add own_El.none Y_b0 B_b0) Y_b1 B_b1)
  have ne_ea_de := (Nat.ne_of_gt (Nat.lt_of_lt_of_le V0.lt os_ea))
  refine own_new W1007 112 at_109 (wd59 hw) (wd60 hw) (wd61 hw) (by decide) (by decide) rfl ?_
  intro T1008 h1008 lg W1008 E1008 g_lg o_lg X_lg D_lg
  have ne_ad_lg : ad ≠ lg := by rw [g_lg]; exact Nat.ne_of_lt X_ad.lt
  have ne_ea_lg : ea ≠ lg := by rw [g_lg]; exact Nat.ne_of_lt V_ea.lt
  have X_ad := X_ad.ext E1008
  have Fe_ad := Fe_ad.ext E1008
  have Fs_ad := Fs_ad.ext E1008
  have Fm_ad := Fm_ad.ext E1008
  have V_ea := V_ea.ext E1008
  have E_a := E_a.ext E1008
  have Fg_lg : own_fg Z h1008 lg .null := D_lg (Or.inr (wd69 hw)) (ty := (.object "java/util/List")) (by decide)
  have Ff_lg : own_ff Z h1008 lg (.long (0 : Int64)) := D_lg (Or.inl (wd76 hw)) (ty := .long) (by decide)
  have Fp_lg : own_fp Z h1008 lg (.long (0 : Int64)) := D_lg (Or.inl (wd141 hw)) (ty := .long) (by decide)
  have Fl_lg : own_fl Z h1008 lg (.long (0 : Int64)) := D_lg (Or.inl (wd152 hw)) (ty := .long) (by decide)
  have os_lg := o_lg
  have ne_lg_de := (Nat.ne_of_gt (Nat.lt_of_lt_of_le V0.lt os_lg))
  refine own_dup W1008 113 at_112 rfl rfl ?_
  have S_de := own_staK0 S0 (own_WK W1008)
  have V_de := V0.keep (own_WK W1008) nin0
  have hsH := own_le W1008
  have q_ad := X_ad.lt
  have q_lg := X_lg.lt
  have q_ea := V_ea.lt
  refine own_callN W1008 (A := []) (wt := 1) (pc' := 116) (st := [(.ref lg)]) at_113 rfl (wd62 hw) (wd63 hw) (wd61 hw) (wd64 hw) (by decide) (own_m10 l Z a0 hw [] h1008 lg de S_de X_lg Fg_lg Fp_lg Ff_lg Fl_lg) (allS (Or.inr o_lg) all0) rfl pd_0 rfl (Nat.le_of_eq rfl) (by decide) (by decide) (by decide) (by decide) rfl ?_
  rintro T1009 h1009 _ W1009 K1009 P1009 ⟨rfl, ⟨ml, o_ml, X_ml, Fg_lg, Fp_lg, Ff_lg, Fl_lg, Fe_ml, Fs_ml, Fm_ml⟩⟩
  have X_ad := X_ad.keep K1009
  have Fe_ad := Fe_ad.keep K1009 (ninS ne_ad_lg nin0)
  have Fs_ad := Fs_ad.keep K1009 (ninS ne_ad_lg nin0)
  have Fm_ad := Fm_ad.keep K1009 (ninS ne_ad_lg nin0)
  have V_ea := V_ea.keep K1009 (ninS ne_ea_lg nin0)
  have E_a := E_a.keep K1009
  have X_lg := X_lg.keep K1009
  show own_Go p e below C T1009 (mkF m 116 #[.val (.long q1), .second, .val (.int p2), .val (.int p3), .val (.int p4), .val (.int p5), .val (.int (2 : Int32)), .val (.int d1), .val (.int d2), .val (.long xx), .second, .val (.ref ad), .unset, .unset] [(.ref lg)])
  have ne_ad_ml : ad ≠ ml := Nat.ne_of_lt (Nat.lt_of_lt_of_le q_ad o_ml)
  have ne_lg_ml : lg ≠ ml := Nat.ne_of_lt (Nat.lt_of_lt_of_le q_lg o_ml)
  have ne_ea_ml : ea ≠ ml := Nat.ne_of_lt (Nat.lt_of_lt_of_le q_ea o_ml)
  have os_ml : s.heap.size ≤ ml := Nat.le_trans hsH o_ml
  have ne_ml_de := (Nat.ne_of_gt (Nat.lt_of_lt_of_le V0.lt os_ml))
  refine own_astore W1009 118 #[.val (.long q1), .second, .val (.int p2), .val (.int p3), .val (.int p4), .val (.int p5), .val (.int (2 : Int32)), .val (.int d1), .val (.int d2), .val (.long xx), .second, .val (.ref ad), .val (.ref lg), .unset] at_116 rfl rfl rfl ?_
  refine own_aload W1009 120 at_118 rfl rfl rfl ?_
  refine own_lload W1009 122 at_120 rfl rfl ?_
  refine own_callV W1009 (A := [(.long xx)]) (wt := 0) (pc' := 125) (st := []) at_122 (wd70 hw) (wd71 hw) (own_nf W1009 (wd73 hw)) (wd73 hw) (wd72 hw) (wd61 hw) (wd74 hw) (by decide) X_lg (own_m11 l Z a0 hw [] h1009 lg xx (0 : Int64) Ff_lg) all0 rfl pd_21 rfl (Nat.le_of_eq rfl) (by decide) (by decide) (by decide) (by decide) rfl ?_
  rintro T1010 h1010 _ W1010 K1010 P1010 rfl
  rw [P1010 rfl rfl] at W1010
  show own_Go p e below C T1010 (mkF m 125 #[.val (.long q1), .second, .val (.int p2), .val (.int p3), .val (.int p4), .val (.int p5), .val (.int (2 : Int32)), .val (.int d1), .val (.int d2), .val (.long xx), .second, .val (.ref ad), .val (.ref lg), .unset] [(.int (if (0 : Int64) < xx then (1 : Int32) else 0))])
  refine own_lload W1010 127 at_125 rfl rfl ?_
  refine own_lconst W1010 (0 : Int64) 128 at_127 rfl rfl ?_
  refine own_lcmp W1010 129 at_128 rfl ?_
  suffices J1011 : own_Go p e below C T1010 (mkF m 137 #[.val (.long q1), .second, .val (.int p2), .val (.int p3), .val (.int p4), .val (.int p5), .val (.int (2 : Int32)), .val (.int d1), .val (.int d2), .val (.long xx), .second, .val (.ref ad), .val (.ref lg), .unset] [(.int (if (0 : Int64) < xx then (1 : Int32) else (0 : Int32))), (.int (if (0 : Int64) < xx then (1 : Int32) else 0))]) by
    by_cases c1012 : (0 : Int64) < xx
    · refine own_ifN W1010 132 at_129 ((if0 _ _).trans (tlt ((lw_gt xx (0 : Int64)).mpr c1012)).2.2.2) rfl ?_
      refine own_iconst W1010 (1 : Int32) 133 at_132 rfl rfl ?_
      refine own_goto W1010 137 at_133 (by decide) (by decide) ?_
      first | (simp only [if_pos c1012] at J1011; exact J1011) | (simp only [if_pos c1012] at J1011 ⊢; exact J1011)
    · refine own_ifY W1010 136 at_129 ((if0 _ _).trans (flt (mt (lw_gt xx (0 : Int64)).mp c1012)).2.2.2) (by decide) (by decide) ?_
      refine own_iconst W1010 (0 : Int32) 137 at_136 rfl rfl ?_
      first | (simp only [if_neg c1012] at J1011; exact J1011) | (simp only [if_neg c1012] at J1011 ⊢; exact J1011)
  refine own_icmpN W1010 140 at_137 ((teq (rfl : (if (0 : Int64) < xx then (1 : Int32) else 0) = (if (0 : Int64) < xx then (1 : Int32) else (0 : Int32)))).2) rfl ?_
  refine own_iconst W1010 (1 : Int32) 141 at_140 rfl rfl ?_
  refine own_goto W1010 145 at_141 (by decide) (by decide) ?_
  refine own_istore W1010 147 #[.val (.long q1), .second, .val (.int p2), .val (.int p3), .val (.int p4), .val (.int p5), .val (.int (2 : Int32)), .val (.int d1), .val (.int d2), .val (.long xx), .second, .val (.ref ad), .val (.ref lg), .val (.int (1 : Int32))] at_145 rfl rfl ?_
  refine own_aload W1010 149 at_147 rfl rfl rfl ?_
  refine own_lconst W1010 (0 : Int64) 150 at_149 rfl rfl ?_
  refine own_aload W1010 152 at_150 rfl rfl rfl ?_
  have S_de := own_staK0 S0 (own_WK W1010)
  have V_de := V0.keep (own_WK W1010) nin0
  have hsH := own_le W1010
  have q_ad := X_ad.lt
  have q_lg := X_lg.lt
  have q_ml := X_ml.lt
  have q_ea := V_ea.lt
  refine own_callV W1010 (A := [(.long (0 : Int64)), (.ref ad)]) (wt := 0) (pc' := 155) (st := []) at_152 (wd77 hw) (wd78 hw) (own_nf W1010 (wd80 hw)) (wd80 hw) (wd79 hw) (wd61 hw) (wd81 hw) (by decide) X_lg (own_m12_2 l Z a0 hw [] h1009 lg (0 : Int64) ad de df ml (0 : Int64) (((0 : Int32) + (1 : Int32)) + (1 : Int32)) ea (own_upd (own_upd (fun _ => .null) 0 (.ref b0)) 1 (.ref b1)) S_de V_de X_lg Fg_lg Fp_lg Ff_lg Fl_lg X_ml Fe_ml Fs_ml Fm_ml X_ad Fe_ad Fs_ad Fm_ad V_ea E_a ne_lg_ml (Ne.symm ne_ad_lg) (Ne.symm ne_ad_ml) ne_ml_de ne_lg_de ne_ad_de (Ne.symm ne_ea_lg) (Ne.symm ne_ea_ml) ne_ad_ea ne_ea_de) (allS (Or.inr o_lg) (allS (Or.inr os_ml) all0)) rfl pd_22 rfl (Nat.le_of_eq rfl) (by decide) (by decide) (by decide) (by decide) rfl ?_
  rintro T1013 h1013 _ W1013 K1013 P1013 ⟨rfl, ⟨pl1, em, mc1, vm, o_em, Fg_lg, Fp_lg, Ff_lg, Fl_lg, Fe_ml, Fs_ml, Fm_ml, V_em, hrm, E_m⟩⟩
  have X_ad := X_ad.keep K1013
  have Fe_ad := Fe_ad.keep K1013 (ninS ne_ad_lg (ninS ne_ad_ml nin0))
  have Fs_ad := Fs_ad.keep K1013 (ninS ne_ad_lg (ninS ne_ad_ml nin0))
  have Fm_ad := Fm_ad.keep K1013 (ninS ne_ad_lg (ninS ne_ad_ml nin0))
  have V_ea := V_ea.keep K1013 (ninS ne_ea_lg (ninS ne_ea_ml nin0))
  have E_a := E_a.keep K1013
  have X_lg := X_lg.keep K1013
  have X_ml := X_ml.keep K1013
  show own_Go p e below C T1013 (mkF m 155 #[.val (.long q1), .second, .val (.int p2), .val (.int p3), .val (.int p4), .val (.int p5), .val (.int (2 : Int32)), .val (.int d1), .val (.int d2), .val (.long xx), .second, .val (.ref ad), .val (.ref lg), .val (.int (1 : Int32))] [])
  have ne_lg_em : lg ≠ em := Nat.ne_of_lt (Nat.lt_of_lt_of_le q_lg o_em)
  have ne_ml_em : ml ≠ em := Nat.ne_of_lt (Nat.lt_of_lt_of_le q_ml o_em)
  have os_em : s.heap.size ≤ em := Nat.le_trans hsH o_em
  refine own_iload W1013 157 at_155 rfl rfl ?_
  refine own_ifN W1013 160 at_157 ((if0 _ _).trans (feq ((by decide) : ¬ ((1 : Int32) = (0 : Int32)))).1) rfl ?_
  refine own_aload W1013 162 at_160 rfl rfl rfl ?_
  refine own_lload W1013 164 at_162 rfl rfl ?_
  refine own_callV W1013 (A := [(.long xx)]) (wt := 0) (pc' := 167) (st := []) at_164 (wd70 hw) (wd71 hw) (own_nf W1013 (wd73 hw)) (wd73 hw) (wd72 hw) (wd61 hw) (wd74 hw) (by decide) X_lg (own_m11 l Z a0 hw [] h1013 lg xx (0 : Int64) Ff_lg) all0 rfl pd_21 rfl (Nat.le_of_eq rfl) (by decide) (by decide) (by decide) (by decide) rfl ?_
  rintro T1014 h1014 _ W1014 K1014 P1014 rfl
  rw [P1014 rfl rfl] at W1014
  show own_Go p e below C T1014 (mkF m 167 #[.val (.long q1), .second, .val (.int p2), .val (.int p3), .val (.int p4), .val (.int p5), .val (.int (2 : Int32)), .val (.int d1), .val (.int d2), .val (.long xx), .second, .val (.ref ad), .val (.ref lg), .val (.int (1 : Int32))] [(.int (if (0 : Int64) < xx then (1 : Int32) else 0))])
  refine own_lload W1014 169 at_167 rfl rfl ?_
  refine own_lconst W1014 (0 : Int64) 170 at_169 rfl rfl ?_
  refine own_lcmp W1014 171 at_170 rfl ?_
  suffices J1015 : own_Go p e below C T1014 (mkF m 179 #[.val (.long q1), .second, .val (.int p2), .val (.int p3), .val (.int p4), .val (.int p5), .val (.int (2 : Int32)), .val (.int d1), .val (.int d2), .val (.long xx), .second, .val (.ref ad), .val (.ref lg), .val (.int (1 : Int32))] [(.int (if (0 : Int64) < xx then (1 : Int32) else (0 : Int32))), (.int (if (0 : Int64) < xx then (1 : Int32) else 0))]) by
    by_cases c1016 : (0 : Int64) < xx
    · refine own_ifN W1014 174 at_171 ((if0 _ _).trans (tlt ((lw_gt xx (0 : Int64)).mpr c1016)).2.2.2) rfl ?_
      refine own_iconst W1014 (1 : Int32) 175 at_174 rfl rfl ?_
      refine own_goto W1014 179 at_175 (by decide) (by decide) ?_
      first | (simp only [if_pos c1016] at J1015; exact J1015) | (simp only [if_pos c1016] at J1015 ⊢; exact J1015)
    · refine own_ifY W1014 178 at_171 ((if0 _ _).trans (flt (mt (lw_gt xx (0 : Int64)).mp c1016)).2.2.2) (by decide) (by decide) ?_
      refine own_iconst W1014 (0 : Int32) 179 at_178 rfl rfl ?_
      first | (simp only [if_neg c1016] at J1015; exact J1015) | (simp only [if_neg c1016] at J1015 ⊢; exact J1015)
  refine own_icmpN W1014 182 at_179 ((teq (rfl : (if (0 : Int64) < xx then (1 : Int32) else 0) = (if (0 : Int64) < xx then (1 : Int32) else (0 : Int32)))).2) rfl ?_
  refine own_iconst W1014 (1 : Int32) 183 at_182 rfl rfl ?_
  refine own_goto W1014 187 at_183 (by decide) (by decide) ?_
  refine own_istore W1014 189 #[.val (.long q1), .second, .val (.int p2), .val (.int p3), .val (.int p4), .val (.int p5), .val (.int (2 : Int32)), .val (.int d1), .val (.int d2), .val (.long xx), .second, .val (.ref ad), .val (.ref lg), .val (.int (1 : Int32))] at_187 rfl rfl ?_
  rcases (by omega : d1n = 0 ∨ d1n = 1 ∨ d1n = 2) with rfl | rfl | rfl
  · obtain rfl : d1 = (0 : Int32) := own_lit32 hd1 _ rfl
    show own_Go p e below C T1014 (mkF m 189 #[.val (.long q1), .second, .val (.int p2), .val (.int p3), .val (.int p4), .val (.int p5), .val (.int (2 : Int32)), .val (.int (0 : Int32)), .val (.int d2), .val (.long xx), .second, .val (.ref ad), .val (.ref lg), .val (.int (1 : Int32))] [])
    exact own_kd_20 l Z a0 hw h0 q1 p2 p3 p4 p5 p e s m below meth c C hC T1014 h1013 de df xx d2 d2n ad lg ml pl1 em mc1 vm W1014 S0 V0 hd2 h12 os_lg os_ml os_em X_lg Fg_lg Fp_lg Ff_lg Fl_lg X_ml Fe_ml Fs_ml Fm_ml V_em hrm E_m ne_lg_ml ne_lg_em ne_ml_em
  · obtain rfl : d1 = (1 : Int32) := own_lit32 hd1 _ rfl
    show own_Go p e below C T1014 (mkF m 189 #[.val (.long q1), .second, .val (.int p2), .val (.int p3), .val (.int p4), .val (.int p5), .val (.int (2 : Int32)), .val (.int (1 : Int32)), .val (.int d2), .val (.long xx), .second, .val (.ref ad), .val (.ref lg), .val (.int (1 : Int32))] [])
    exact own_kd_21 l Z a0 hw h0 q1 p2 p3 p4 p5 p e s m below meth c C hC T1014 h1013 de df xx d2 d2n ad lg ml pl1 em mc1 vm W1014 S0 V0 hd2 h12 os_lg os_ml os_em X_lg Fg_lg Fp_lg Ff_lg Fl_lg X_ml Fe_ml Fs_ml Fm_ml V_em hrm E_m ne_lg_ml ne_lg_em ne_ml_em
  · obtain rfl : d1 = (2 : Int32) := own_lit32 hd1 _ rfl
    show own_Go p e below C T1014 (mkF m 189 #[.val (.long q1), .second, .val (.int p2), .val (.int p3), .val (.int p4), .val (.int p5), .val (.int (2 : Int32)), .val (.int (2 : Int32)), .val (.int d2), .val (.long xx), .second, .val (.ref ad), .val (.ref lg), .val (.int (1 : Int32))] [])
    exact own_kd_22 l Z a0 hw h0 q1 p2 p3 p4 p5 p e s m below meth c C hC T1014 h1013 de df xx d2 d2n ad lg ml pl1 em mc1 vm W1014 S0 V0 hd2 h12 os_lg os_ml os_em X_lg Fg_lg Fp_lg Ff_lg Fl_lg X_ml Fe_ml Fs_ml Fm_ml V_em hrm E_m ne_lg_ml ne_lg_em ne_ml_em
set_option maxRecDepth 65536 in
set_option maxHeartbeats 40000000 in
theorem own_kd_30 (l : Launch) (Z : State) (a0 : Array Value) (hw : ∀ d ∈ tables_1, d.before a0 Z = true) (h0 : Heap) (q1 : Int64) (p2 : Int32) (p3 : Int32) (p4 : Int32) (p5 : Int32) (p : Program) (e : Env) (s : State) (m : MethodId) (below : List Frame) (meth : Method) (c : Code) (C : Outcome → State → Prop) (hC : ∀ v L u, own_Fw s [] L → (v = some (.int (1 : Int32))) → FrameEnd s (.returned v) u L room_1.cells room_1.slots → C (.returned v) u) (T : State) (h : Heap) (de : Addr) (df : Nat → Value) (xx : Int64) (d2 : Int32) (d2n : Nat) (ad lg ml : Addr) (pl1 : Int64) (em : Addr) (mc1 : Int32) (vm : Nat → Value) (W : own_W p l e room_1 s m #[(.long q1), (.int p2), (.int p3), (.int p4), (.int p5)] below meth c Z x ret code maxLocals [] T h (0 + 1 + 0 + 1 + 1 + 1 + 0 + 1 + 0 + 1 + 1 + 0 + 2 + 0) (0 + 3 + 0 + 1 + 10 + 2 + 0 + 0 + 0 + 4 + 3 + 0 + 14 + 0)) (S0 : Sta Z s.heap "java/util/ArrayList" "DEFAULTCAPACITY_EMPTY_ELEMENTDATA" "[Ljava/lang/Object;" (.ref de)) (V0 : own_A Z s.heap de (.object "java/lang/Object") 0 df) (hd2 : d2.toInt = (d2n : Int)) (h12 : 0 ≤ d2n ∧ d2n ≤ 3) (os_lg : s.heap.size ≤ lg) (os_ml : s.heap.size ≤ ml) (os_em : s.heap.size ≤ em) (X_lg : own_xm Z h lg) (Fg_lg : own_fg Z h lg (.ref ml)) (Fp_lg : own_fp Z h lg (.long pl1)) (Ff_lg : own_ff Z h lg (.long (0 : Int64))) (Fl_lg : own_fl Z h lg (.long (0 : Int64))) (X_ml : own_xl Z h ml) (Fe_ml : own_fe Z h ml (.ref em)) (Fs_ml : own_fs Z h ml (.int (3 : Int32))) (Fm_ml : own_fm Z h ml (.int mc1)) (V_em : own_R Z h em "java/lang/Object" 10 vm) (hrm : own_Rf vm) (E_m : own_El Z h vm 0 3) (ne_lg_ml : lg ≠ ml) (ne_lg_em : lg ≠ em) (ne_ml_em : ml ≠ em) :
    own_Go p e below C T (mkF m 189 #[.val (.long q1), .second, .val (.int p2), .val (.int p3), .val (.int p4), .val (.int p5), .val (.int (3 : Int32)), .val (.int (0 : Int32)), .val (.int d2), .val (.long xx), .second, .val (.ref ad), .val (.ref lg), .val (.int (1 : Int32))] []) := by
  refine own_aload W 191 at_189 rfl rfl rfl ?_
  refine own_iload W 193 at_191 rfl rfl ?_
  refine own_i2l W 194 at_193 rfl ?_
  refine own_callV W (A := [(.long (0 : Int32).toInt64)]) (wt := 0) (pc' := 197) (st := []) at_194 (wd142 hw) (wd143 hw) (own_nf W (wd145 hw)) (wd145 hw) (wd144 hw) (wd61 hw) (wd146 hw) (by decide) X_lg (own_m18_30 l Z a0 hw [] h lg (0 : Int32).toInt64 ml em pl1 (0 : Int64) mc1 vm 0 X_lg Fg_lg Fp_lg Ff_lg Fl_lg X_ml Fe_ml Fs_ml Fm_ml V_em E_m hrm ne_lg_ml ne_lg_em ne_ml_em rfl rfl (by decide)) (allS (Or.inr os_lg) (allS (Or.inr os_ml) (allS (Or.inr os_em) all0))) rfl pd_23 rfl (Nat.le_of_eq rfl) (by decide) (by decide) (by decide) (by decide) rfl ?_
  rintro T2019 h2019 _ W2019 K2019 P2019 ⟨rfl, ⟨pl2, mc2, vm2, Fg_lg, Fp_lg, Ff_lg, Fl_lg, Fe_ml, Fs_ml, Fm_ml, V_em, hrm, E_m⟩⟩
  have X_lg := X_lg.keep K2019
  have X_ml := X_ml.keep K2019
  show own_Go p e below C T2019 (mkF m 197 #[.val (.long q1), .second, .val (.int p2), .val (.int p3), .val (.int p4), .val (.int p5), .val (.int (3 : Int32)), .val (.int (0 : Int32)), .val (.int d2), .val (.long xx), .second, .val (.ref ad), .val (.ref lg), .val (.int (1 : Int32))] [])
  refine own_iload W2019 199 at_197 rfl rfl ?_
  refine own_ifN W2019 202 at_199 ((if0 _ _).trans (feq ((by decide) : ¬ ((1 : Int32) = (0 : Int32)))).1) rfl ?_
  refine own_aload W2019 204 at_202 rfl rfl rfl ?_
  refine own_lload W2019 206 at_204 rfl rfl ?_
  refine own_callV W2019 (A := [(.long xx)]) (wt := 0) (pc' := 209) (st := []) at_206 (wd70 hw) (wd71 hw) (own_nf W2019 (wd73 hw)) (wd73 hw) (wd72 hw) (wd61 hw) (wd74 hw) (by decide) X_lg (own_m11 l Z a0 hw [] h2019 lg xx (0 : Int32).toInt64 Ff_lg) all0 rfl pd_21 rfl (Nat.le_of_eq rfl) (by decide) (by decide) (by decide) (by decide) rfl ?_
  rintro T2020 h2020 _ W2020 K2020 P2020 rfl
  rw [P2020 rfl rfl] at W2020
  show own_Go p e below C T2020 (mkF m 209 #[.val (.long q1), .second, .val (.int p2), .val (.int p3), .val (.int p4), .val (.int p5), .val (.int (3 : Int32)), .val (.int (0 : Int32)), .val (.int d2), .val (.long xx), .second, .val (.ref ad), .val (.ref lg), .val (.int (1 : Int32))] [(.int (if (0 : Int32).toInt64 < xx then (1 : Int32) else 0))])
  refine own_lload W2020 211 at_209 rfl rfl ?_
  refine own_iload W2020 213 at_211 rfl rfl ?_
  refine own_i2l W2020 214 at_213 rfl ?_
  refine own_lcmp W2020 215 at_214 rfl ?_
  suffices J2021 : own_Go p e below C T2020 (mkF m 223 #[.val (.long q1), .second, .val (.int p2), .val (.int p3), .val (.int p4), .val (.int p5), .val (.int (3 : Int32)), .val (.int (0 : Int32)), .val (.int d2), .val (.long xx), .second, .val (.ref ad), .val (.ref lg), .val (.int (1 : Int32))] [(.int (if (0 : Int32).toInt64 < xx then (1 : Int32) else (0 : Int32))), (.int (if (0 : Int32).toInt64 < xx then (1 : Int32) else 0))]) by
    by_cases c2022 : (0 : Int32).toInt64 < xx
    · refine own_ifN W2020 218 at_215 ((if0 _ _).trans (tlt ((lw_gt xx (0 : Int32).toInt64).mpr c2022)).2.2.2) rfl ?_
      refine own_iconst W2020 (1 : Int32) 219 at_218 rfl rfl ?_
      refine own_goto W2020 223 at_219 (by decide) (by decide) ?_
      first | (simp only [if_pos c2022] at J2021; exact J2021) | (simp only [if_pos c2022] at J2021 ⊢; exact J2021)
    · refine own_ifY W2020 222 at_215 ((if0 _ _).trans (flt (mt (lw_gt xx (0 : Int32).toInt64).mp c2022)).2.2.2) (by decide) (by decide) ?_
      refine own_iconst W2020 (0 : Int32) 223 at_222 rfl rfl ?_
      first | (simp only [if_neg c2022] at J2021; exact J2021) | (simp only [if_neg c2022] at J2021 ⊢; exact J2021)
  refine own_icmpN W2020 226 at_223 ((teq (rfl : (if (0 : Int32).toInt64 < xx then (1 : Int32) else 0) = (if (0 : Int32).toInt64 < xx then (1 : Int32) else (0 : Int32)))).2) rfl ?_
  refine own_iconst W2020 (1 : Int32) 227 at_226 rfl rfl ?_
  refine own_goto W2020 231 at_227 (by decide) (by decide) ?_
  refine own_istore W2020 233 #[.val (.long q1), .second, .val (.int p2), .val (.int p3), .val (.int p4), .val (.int p5), .val (.int (3 : Int32)), .val (.int (0 : Int32)), .val (.int d2), .val (.long xx), .second, .val (.ref ad), .val (.ref lg), .val (.int (1 : Int32))] at_231 rfl rfl ?_
  have fin : ∀ (dd : Int32) (T : State) (h : Heap), own_W p l e room_1 s m #[(.long q1), (.int p2), (.int p3), (.int p4), (.int p5)] below meth c Z x ret code maxLocals [] T h (0 + 1 + 0 + 1 + 1 + 1 + 0 + 1 + 0 + 1 + 1 + 0 + 2 + 0 + 1 + 0 + 1) (0 + 3 + 0 + 1 + 10 + 2 + 0 + 0 + 0 + 4 + 3 + 0 + 14 + 0 + 5 + 0 + 5) → own_xm Z h lg → own_ff Z h lg (.long dd.toInt64) → own_Go p e below C T (mkF m 241 #[.val (.long q1), .second, .val (.int p2), .val (.int p3), .val (.int p4), .val (.int p5), .val (.int (3 : Int32)), .val (.int (0 : Int32)), .val (.int dd), .val (.long xx), .second, .val (.ref ad), .val (.ref lg), .val (.int (1 : Int32))] []) := by
    intro dd T h W X_lg Ff_lg
    refine own_iload W 243 at_241 rfl rfl ?_
    refine own_ifN W 246 at_243 ((if0 _ _).trans (feq ((by decide) : ¬ ((1 : Int32) = (0 : Int32)))).1) rfl ?_
    refine own_aload W 248 at_246 rfl rfl rfl ?_
    refine own_lload W 250 at_248 rfl rfl ?_
    refine own_callV W (A := [(.long xx)]) (wt := 0) (pc' := 253) (st := []) at_250 (wd70 hw) (wd71 hw) (own_nf W (wd73 hw)) (wd73 hw) (wd72 hw) (wd61 hw) (wd74 hw) (by decide) X_lg (own_m11 l Z a0 hw [] h lg xx dd.toInt64 Ff_lg) all0 rfl pd_21 rfl (Nat.le_of_eq rfl) (by decide) (by decide) (by decide) (by decide) rfl ?_
    rintro T2023 h2023 _ W2023 K2023 P2023 rfl
    rw [P2023 rfl rfl] at W2023
    show own_Go p e below C T2023 (mkF m 253 #[.val (.long q1), .second, .val (.int p2), .val (.int p3), .val (.int p4), .val (.int p5), .val (.int (3 : Int32)), .val (.int (0 : Int32)), .val (.int dd), .val (.long xx), .second, .val (.ref ad), .val (.ref lg), .val (.int (1 : Int32))] [(.int (if dd.toInt64 < xx then (1 : Int32) else 0))])
    refine own_lload W2023 255 at_253 rfl rfl ?_
    refine own_iload W2023 257 at_255 rfl rfl ?_
    refine own_i2l W2023 258 at_257 rfl ?_
    refine own_lcmp W2023 259 at_258 rfl ?_
    suffices J2024 : own_Go p e below C T2023 (mkF m 267 #[.val (.long q1), .second, .val (.int p2), .val (.int p3), .val (.int p4), .val (.int p5), .val (.int (3 : Int32)), .val (.int (0 : Int32)), .val (.int dd), .val (.long xx), .second, .val (.ref ad), .val (.ref lg), .val (.int (1 : Int32))] [(.int (if dd.toInt64 < xx then (1 : Int32) else (0 : Int32))), (.int (if dd.toInt64 < xx then (1 : Int32) else 0))]) by
      by_cases c2025 : dd.toInt64 < xx
      · refine own_ifN W2023 262 at_259 ((if0 _ _).trans (tlt ((lw_gt xx dd.toInt64).mpr c2025)).2.2.2) rfl ?_
        refine own_iconst W2023 (1 : Int32) 263 at_262 rfl rfl ?_
        refine own_goto W2023 267 at_263 (by decide) (by decide) ?_
        first | (simp only [if_pos c2025] at J2024; exact J2024) | (simp only [if_pos c2025] at J2024 ⊢; exact J2024)
      · refine own_ifY W2023 266 at_259 ((if0 _ _).trans (flt (mt (lw_gt xx dd.toInt64).mp c2025)).2.2.2) (by decide) (by decide) ?_
        refine own_iconst W2023 (0 : Int32) 267 at_266 rfl rfl ?_
        first | (simp only [if_neg c2025] at J2024; exact J2024) | (simp only [if_neg c2025] at J2024 ⊢; exact J2024)
    refine own_icmpN W2023 270 at_267 ((teq (rfl : (if dd.toInt64 < xx then (1 : Int32) else 0) = (if dd.toInt64 < xx then (1 : Int32) else (0 : Int32)))).2) rfl ?_
    refine own_iconst W2023 (1 : Int32) 271 at_270 rfl rfl ?_
    refine own_goto W2023 275 at_271 (by decide) (by decide) ?_
    refine own_istore W2023 277 #[.val (.long q1), .second, .val (.int p2), .val (.int p3), .val (.int p4), .val (.int p5), .val (.int (3 : Int32)), .val (.int (0 : Int32)), .val (.int dd), .val (.long xx), .second, .val (.ref ad), .val (.ref lg), .val (.int (1 : Int32))] at_275 rfl rfl ?_
    refine own_iload W2023 279 at_277 rfl rfl ?_
    refine own_retZ (Q := fun v h => v = some (.int (1 : Int32))) W2023 hC (by decide) (by decide) at_279 ?_
    exact rfl
  rcases (by omega : d2n = 0 ∨ d2n = 1 ∨ d2n = 2 ∨ d2n = 3) with rfl | rfl | rfl | rfl
  · obtain rfl : d2 = (0 : Int32) := own_lit32 hd2 _ rfl
    show own_Go p e below C T2020 (mkF m 233 #[.val (.long q1), .second, .val (.int p2), .val (.int p3), .val (.int p4), .val (.int p5), .val (.int (3 : Int32)), .val (.int (0 : Int32)), .val (.int (0 : Int32)), .val (.long xx), .second, .val (.ref ad), .val (.ref lg), .val (.int (1 : Int32))] [])
    refine own_aload W2020 235 at_233 rfl rfl rfl ?_
    refine own_iload W2020 237 at_235 rfl rfl ?_
    refine own_i2l W2020 238 at_237 rfl ?_
    refine own_callV W2020 (A := [(.long (0 : Int32).toInt64)]) (wt := 0) (pc' := 241) (st := []) at_238 (wd142 hw) (wd143 hw) (own_nf W2020 (wd145 hw)) (wd145 hw) (wd144 hw) (wd61 hw) (wd146 hw) (by decide) X_lg (own_m18_30 l Z a0 hw [] h2019 lg (0 : Int32).toInt64 ml em pl2 (0 : Int32).toInt64 mc2 vm2 0 X_lg Fg_lg Fp_lg Ff_lg Fl_lg X_ml Fe_ml Fs_ml Fm_ml V_em E_m hrm ne_lg_ml ne_lg_em ne_ml_em rfl rfl (by decide)) (allS (Or.inr os_lg) (allS (Or.inr os_ml) (allS (Or.inr os_em) all0))) rfl pd_23 rfl (Nat.le_of_eq rfl) (by decide) (by decide) (by decide) (by decide) rfl ?_
    rintro T2026 h2026 _ W2026 K2026 P2026 ⟨rfl, ⟨pl3, mc3, vm3, Fg_lg, Fp_lg, Ff_lg, Fl_lg, Fe_ml, Fs_ml, Fm_ml, V_em, hrm, E_m⟩⟩
    have X_lg := X_lg.keep K2026
    have X_ml := X_ml.keep K2026
    show own_Go p e below C T2026 (mkF m 241 #[.val (.long q1), .second, .val (.int p2), .val (.int p3), .val (.int p4), .val (.int p5), .val (.int (3 : Int32)), .val (.int (0 : Int32)), .val (.int (0 : Int32)), .val (.long xx), .second, .val (.ref ad), .val (.ref lg), .val (.int (1 : Int32))] [])
    exact fin (0 : Int32) _ _ W2026 X_lg Ff_lg
  · obtain rfl : d2 = (1 : Int32) := own_lit32 hd2 _ rfl
    show own_Go p e below C T2020 (mkF m 233 #[.val (.long q1), .second, .val (.int p2), .val (.int p3), .val (.int p4), .val (.int p5), .val (.int (3 : Int32)), .val (.int (0 : Int32)), .val (.int (1 : Int32)), .val (.long xx), .second, .val (.ref ad), .val (.ref lg), .val (.int (1 : Int32))] [])
    refine own_aload W2020 235 at_233 rfl rfl rfl ?_
    refine own_iload W2020 237 at_235 rfl rfl ?_
    refine own_i2l W2020 238 at_237 rfl ?_
    refine own_callV W2020 (A := [(.long (1 : Int32).toInt64)]) (wt := 0) (pc' := 241) (st := []) at_238 (wd142 hw) (wd143 hw) (own_nf W2020 (wd145 hw)) (wd145 hw) (wd144 hw) (wd61 hw) (wd146 hw) (by decide) X_lg (own_m18_31 l Z a0 hw [] h2019 lg (1 : Int32).toInt64 ml em pl2 (0 : Int32).toInt64 mc2 vm2 0 X_lg Fg_lg Fp_lg Ff_lg Fl_lg X_ml Fe_ml Fs_ml Fm_ml V_em E_m hrm ne_lg_ml ne_lg_em ne_ml_em rfl rfl (by decide)) (allS (Or.inr os_lg) (allS (Or.inr os_ml) (allS (Or.inr os_em) all0))) rfl pd_23 rfl (Nat.le_of_eq rfl) (by decide) (by decide) (by decide) (by decide) rfl ?_
    rintro T2027 h2027 _ W2027 K2027 P2027 ⟨rfl, ⟨pl3, mc3, vm3, Fg_lg, Fp_lg, Ff_lg, Fl_lg, Fe_ml, Fs_ml, Fm_ml, V_em, hrm, E_m⟩⟩
    have X_lg := X_lg.keep K2027
    have X_ml := X_ml.keep K2027
    show own_Go p e below C T2027 (mkF m 241 #[.val (.long q1), .second, .val (.int p2), .val (.int p3), .val (.int p4), .val (.int p5), .val (.int (3 : Int32)), .val (.int (0 : Int32)), .val (.int (1 : Int32)), .val (.long xx), .second, .val (.ref ad), .val (.ref lg), .val (.int (1 : Int32))] [])
    exact fin (1 : Int32) _ _ W2027 X_lg Ff_lg
  · obtain rfl : d2 = (2 : Int32) := own_lit32 hd2 _ rfl
    show own_Go p e below C T2020 (mkF m 233 #[.val (.long q1), .second, .val (.int p2), .val (.int p3), .val (.int p4), .val (.int p5), .val (.int (3 : Int32)), .val (.int (0 : Int32)), .val (.int (2 : Int32)), .val (.long xx), .second, .val (.ref ad), .val (.ref lg), .val (.int (1 : Int32))] [])
    refine own_aload W2020 235 at_233 rfl rfl rfl ?_
    refine own_iload W2020 237 at_235 rfl rfl ?_
    refine own_i2l W2020 238 at_237 rfl ?_
    refine own_callV W2020 (A := [(.long (2 : Int32).toInt64)]) (wt := 0) (pc' := 241) (st := []) at_238 (wd142 hw) (wd143 hw) (own_nf W2020 (wd145 hw)) (wd145 hw) (wd144 hw) (wd61 hw) (wd146 hw) (by decide) X_lg (own_m18_32 l Z a0 hw [] h2019 lg (2 : Int32).toInt64 ml em pl2 (0 : Int32).toInt64 mc2 vm2 0 X_lg Fg_lg Fp_lg Ff_lg Fl_lg X_ml Fe_ml Fs_ml Fm_ml V_em E_m hrm ne_lg_ml ne_lg_em ne_ml_em rfl rfl (by decide)) (allS (Or.inr os_lg) (allS (Or.inr os_ml) (allS (Or.inr os_em) all0))) rfl pd_23 rfl (Nat.le_of_eq rfl) (by decide) (by decide) (by decide) (by decide) rfl ?_
    rintro T2028 h2028 _ W2028 K2028 P2028 ⟨rfl, ⟨pl3, mc3, vm3, Fg_lg, Fp_lg, Ff_lg, Fl_lg, Fe_ml, Fs_ml, Fm_ml, V_em, hrm, E_m⟩⟩
    have X_lg := X_lg.keep K2028
    have X_ml := X_ml.keep K2028
    show own_Go p e below C T2028 (mkF m 241 #[.val (.long q1), .second, .val (.int p2), .val (.int p3), .val (.int p4), .val (.int p5), .val (.int (3 : Int32)), .val (.int (0 : Int32)), .val (.int (2 : Int32)), .val (.long xx), .second, .val (.ref ad), .val (.ref lg), .val (.int (1 : Int32))] [])
    exact fin (2 : Int32) _ _ W2028 X_lg Ff_lg
  · obtain rfl : d2 = (3 : Int32) := own_lit32 hd2 _ rfl
    show own_Go p e below C T2020 (mkF m 233 #[.val (.long q1), .second, .val (.int p2), .val (.int p3), .val (.int p4), .val (.int p5), .val (.int (3 : Int32)), .val (.int (0 : Int32)), .val (.int (3 : Int32)), .val (.long xx), .second, .val (.ref ad), .val (.ref lg), .val (.int (1 : Int32))] [])
    refine own_aload W2020 235 at_233 rfl rfl rfl ?_
    refine own_iload W2020 237 at_235 rfl rfl ?_
    refine own_i2l W2020 238 at_237 rfl ?_
    refine own_callV W2020 (A := [(.long (3 : Int32).toInt64)]) (wt := 0) (pc' := 241) (st := []) at_238 (wd142 hw) (wd143 hw) (own_nf W2020 (wd145 hw)) (wd145 hw) (wd144 hw) (wd61 hw) (wd146 hw) (by decide) X_lg (own_m18_33 l Z a0 hw [] h2019 lg (3 : Int32).toInt64 ml em pl2 (0 : Int32).toInt64 mc2 vm2 0 X_lg Fg_lg Fp_lg Ff_lg Fl_lg X_ml Fe_ml Fs_ml Fm_ml V_em E_m hrm ne_lg_ml ne_lg_em ne_ml_em rfl rfl (by decide)) (allS (Or.inr os_lg) (allS (Or.inr os_ml) (allS (Or.inr os_em) all0))) rfl pd_23 rfl (Nat.le_of_eq rfl) (by decide) (by decide) (by decide) (by decide) rfl ?_
    rintro T2029 h2029 _ W2029 K2029 P2029 ⟨rfl, ⟨pl3, mc3, vm3, Fg_lg, Fp_lg, Ff_lg, Fl_lg, Fe_ml, Fs_ml, Fm_ml, V_em, hrm, E_m⟩⟩
    have X_lg := X_lg.keep K2029
    have X_ml := X_ml.keep K2029
    show own_Go p e below C T2029 (mkF m 241 #[.val (.long q1), .second, .val (.int p2), .val (.int p3), .val (.int p4), .val (.int p5), .val (.int (3 : Int32)), .val (.int (0 : Int32)), .val (.int (3 : Int32)), .val (.long xx), .second, .val (.ref ad), .val (.ref lg), .val (.int (1 : Int32))] [])
    exact fin (3 : Int32) _ _ W2029 X_lg Ff_lg
set_option maxRecDepth 65536 in
set_option maxHeartbeats 40000000 in
theorem own_kd_31 (l : Launch) (Z : State) (a0 : Array Value) (hw : ∀ d ∈ tables_1, d.before a0 Z = true) (h0 : Heap) (q1 : Int64) (p2 : Int32) (p3 : Int32) (p4 : Int32) (p5 : Int32) (p : Program) (e : Env) (s : State) (m : MethodId) (below : List Frame) (meth : Method) (c : Code) (C : Outcome → State → Prop) (hC : ∀ v L u, own_Fw s [] L → (v = some (.int (1 : Int32))) → FrameEnd s (.returned v) u L room_1.cells room_1.slots → C (.returned v) u) (T : State) (h : Heap) (de : Addr) (df : Nat → Value) (xx : Int64) (d2 : Int32) (d2n : Nat) (ad lg ml : Addr) (pl1 : Int64) (em : Addr) (mc1 : Int32) (vm : Nat → Value) (W : own_W p l e room_1 s m #[(.long q1), (.int p2), (.int p3), (.int p4), (.int p5)] below meth c Z x ret code maxLocals [] T h (0 + 1 + 0 + 1 + 1 + 1 + 0 + 1 + 0 + 1 + 1 + 0 + 2 + 0) (0 + 3 + 0 + 1 + 10 + 2 + 0 + 0 + 0 + 4 + 3 + 0 + 14 + 0)) (S0 : Sta Z s.heap "java/util/ArrayList" "DEFAULTCAPACITY_EMPTY_ELEMENTDATA" "[Ljava/lang/Object;" (.ref de)) (V0 : own_A Z s.heap de (.object "java/lang/Object") 0 df) (hd2 : d2.toInt = (d2n : Int)) (h12 : 1 ≤ d2n ∧ d2n ≤ 3) (os_lg : s.heap.size ≤ lg) (os_ml : s.heap.size ≤ ml) (os_em : s.heap.size ≤ em) (X_lg : own_xm Z h lg) (Fg_lg : own_fg Z h lg (.ref ml)) (Fp_lg : own_fp Z h lg (.long pl1)) (Ff_lg : own_ff Z h lg (.long (0 : Int64))) (Fl_lg : own_fl Z h lg (.long (0 : Int64))) (X_ml : own_xl Z h ml) (Fe_ml : own_fe Z h ml (.ref em)) (Fs_ml : own_fs Z h ml (.int (3 : Int32))) (Fm_ml : own_fm Z h ml (.int mc1)) (V_em : own_R Z h em "java/lang/Object" 10 vm) (hrm : own_Rf vm) (E_m : own_El Z h vm 0 3) (ne_lg_ml : lg ≠ ml) (ne_lg_em : lg ≠ em) (ne_ml_em : ml ≠ em) :
    own_Go p e below C T (mkF m 189 #[.val (.long q1), .second, .val (.int p2), .val (.int p3), .val (.int p4), .val (.int p5), .val (.int (3 : Int32)), .val (.int (1 : Int32)), .val (.int d2), .val (.long xx), .second, .val (.ref ad), .val (.ref lg), .val (.int (1 : Int32))] []) := by
  refine own_aload W 191 at_189 rfl rfl rfl ?_
  refine own_iload W 193 at_191 rfl rfl ?_
  refine own_i2l W 194 at_193 rfl ?_
  refine own_callV W (A := [(.long (1 : Int32).toInt64)]) (wt := 0) (pc' := 197) (st := []) at_194 (wd142 hw) (wd143 hw) (own_nf W (wd145 hw)) (wd145 hw) (wd144 hw) (wd61 hw) (wd146 hw) (by decide) X_lg (own_m18_31 l Z a0 hw [] h lg (1 : Int32).toInt64 ml em pl1 (0 : Int64) mc1 vm 0 X_lg Fg_lg Fp_lg Ff_lg Fl_lg X_ml Fe_ml Fs_ml Fm_ml V_em E_m hrm ne_lg_ml ne_lg_em ne_ml_em rfl rfl (by decide)) (allS (Or.inr os_lg) (allS (Or.inr os_ml) (allS (Or.inr os_em) all0))) rfl pd_23 rfl (Nat.le_of_eq rfl) (by decide) (by decide) (by decide) (by decide) rfl ?_
  rintro T2019 h2019 _ W2019 K2019 P2019 ⟨rfl, ⟨pl2, mc2, vm2, Fg_lg, Fp_lg, Ff_lg, Fl_lg, Fe_ml, Fs_ml, Fm_ml, V_em, hrm, E_m⟩⟩
  have X_lg := X_lg.keep K2019
  have X_ml := X_ml.keep K2019
  show own_Go p e below C T2019 (mkF m 197 #[.val (.long q1), .second, .val (.int p2), .val (.int p3), .val (.int p4), .val (.int p5), .val (.int (3 : Int32)), .val (.int (1 : Int32)), .val (.int d2), .val (.long xx), .second, .val (.ref ad), .val (.ref lg), .val (.int (1 : Int32))] [])
  refine own_iload W2019 199 at_197 rfl rfl ?_
  refine own_ifN W2019 202 at_199 ((if0 _ _).trans (feq ((by decide) : ¬ ((1 : Int32) = (0 : Int32)))).1) rfl ?_
  refine own_aload W2019 204 at_202 rfl rfl rfl ?_
  refine own_lload W2019 206 at_204 rfl rfl ?_
  refine own_callV W2019 (A := [(.long xx)]) (wt := 0) (pc' := 209) (st := []) at_206 (wd70 hw) (wd71 hw) (own_nf W2019 (wd73 hw)) (wd73 hw) (wd72 hw) (wd61 hw) (wd74 hw) (by decide) X_lg (own_m11 l Z a0 hw [] h2019 lg xx (1 : Int32).toInt64 Ff_lg) all0 rfl pd_21 rfl (Nat.le_of_eq rfl) (by decide) (by decide) (by decide) (by decide) rfl ?_
  rintro T2020 h2020 _ W2020 K2020 P2020 rfl
  rw [P2020 rfl rfl] at W2020
  show own_Go p e below C T2020 (mkF m 209 #[.val (.long q1), .second, .val (.int p2), .val (.int p3), .val (.int p4), .val (.int p5), .val (.int (3 : Int32)), .val (.int (1 : Int32)), .val (.int d2), .val (.long xx), .second, .val (.ref ad), .val (.ref lg), .val (.int (1 : Int32))] [(.int (if (1 : Int32).toInt64 < xx then (1 : Int32) else 0))])
  refine own_lload W2020 211 at_209 rfl rfl ?_
  refine own_iload W2020 213 at_211 rfl rfl ?_
  refine own_i2l W2020 214 at_213 rfl ?_
  refine own_lcmp W2020 215 at_214 rfl ?_
  suffices J2021 : own_Go p e below C T2020 (mkF m 223 #[.val (.long q1), .second, .val (.int p2), .val (.int p3), .val (.int p4), .val (.int p5), .val (.int (3 : Int32)), .val (.int (1 : Int32)), .val (.int d2), .val (.long xx), .second, .val (.ref ad), .val (.ref lg), .val (.int (1 : Int32))] [(.int (if (1 : Int32).toInt64 < xx then (1 : Int32) else (0 : Int32))), (.int (if (1 : Int32).toInt64 < xx then (1 : Int32) else 0))]) by
    by_cases c2022 : (1 : Int32).toInt64 < xx
    · refine own_ifN W2020 218 at_215 ((if0 _ _).trans (tlt ((lw_gt xx (1 : Int32).toInt64).mpr c2022)).2.2.2) rfl ?_
      refine own_iconst W2020 (1 : Int32) 219 at_218 rfl rfl ?_
      refine own_goto W2020 223 at_219 (by decide) (by decide) ?_
      first | (simp only [if_pos c2022] at J2021; exact J2021) | (simp only [if_pos c2022] at J2021 ⊢; exact J2021)
    · refine own_ifY W2020 222 at_215 ((if0 _ _).trans (flt (mt (lw_gt xx (1 : Int32).toInt64).mp c2022)).2.2.2) (by decide) (by decide) ?_
      refine own_iconst W2020 (0 : Int32) 223 at_222 rfl rfl ?_
      first | (simp only [if_neg c2022] at J2021; exact J2021) | (simp only [if_neg c2022] at J2021 ⊢; exact J2021)
  refine own_icmpN W2020 226 at_223 ((teq (rfl : (if (1 : Int32).toInt64 < xx then (1 : Int32) else 0) = (if (1 : Int32).toInt64 < xx then (1 : Int32) else (0 : Int32)))).2) rfl ?_
  refine own_iconst W2020 (1 : Int32) 227 at_226 rfl rfl ?_
  refine own_goto W2020 231 at_227 (by decide) (by decide) ?_
  refine own_istore W2020 233 #[.val (.long q1), .second, .val (.int p2), .val (.int p3), .val (.int p4), .val (.int p5), .val (.int (3 : Int32)), .val (.int (1 : Int32)), .val (.int d2), .val (.long xx), .second, .val (.ref ad), .val (.ref lg), .val (.int (1 : Int32))] at_231 rfl rfl ?_
  have fin : ∀ (dd : Int32) (T : State) (h : Heap), own_W p l e room_1 s m #[(.long q1), (.int p2), (.int p3), (.int p4), (.int p5)] below meth c Z x ret code maxLocals [] T h (0 + 1 + 0 + 1 + 1 + 1 + 0 + 1 + 0 + 1 + 1 + 0 + 2 + 0 + 1 + 0 + 1) (0 + 3 + 0 + 1 + 10 + 2 + 0 + 0 + 0 + 4 + 3 + 0 + 14 + 0 + 5 + 0 + 5) → own_xm Z h lg → own_ff Z h lg (.long dd.toInt64) → own_Go p e below C T (mkF m 241 #[.val (.long q1), .second, .val (.int p2), .val (.int p3), .val (.int p4), .val (.int p5), .val (.int (3 : Int32)), .val (.int (1 : Int32)), .val (.int dd), .val (.long xx), .second, .val (.ref ad), .val (.ref lg), .val (.int (1 : Int32))] []) := by
    intro dd T h W X_lg Ff_lg
    refine own_iload W 243 at_241 rfl rfl ?_
    refine own_ifN W 246 at_243 ((if0 _ _).trans (feq ((by decide) : ¬ ((1 : Int32) = (0 : Int32)))).1) rfl ?_
    refine own_aload W 248 at_246 rfl rfl rfl ?_
    refine own_lload W 250 at_248 rfl rfl ?_
    refine own_callV W (A := [(.long xx)]) (wt := 0) (pc' := 253) (st := []) at_250 (wd70 hw) (wd71 hw) (own_nf W (wd73 hw)) (wd73 hw) (wd72 hw) (wd61 hw) (wd74 hw) (by decide) X_lg (own_m11 l Z a0 hw [] h lg xx dd.toInt64 Ff_lg) all0 rfl pd_21 rfl (Nat.le_of_eq rfl) (by decide) (by decide) (by decide) (by decide) rfl ?_
    rintro T2023 h2023 _ W2023 K2023 P2023 rfl
    rw [P2023 rfl rfl] at W2023
    show own_Go p e below C T2023 (mkF m 253 #[.val (.long q1), .second, .val (.int p2), .val (.int p3), .val (.int p4), .val (.int p5), .val (.int (3 : Int32)), .val (.int (1 : Int32)), .val (.int dd), .val (.long xx), .second, .val (.ref ad), .val (.ref lg), .val (.int (1 : Int32))] [(.int (if dd.toInt64 < xx then (1 : Int32) else 0))])
    refine own_lload W2023 255 at_253 rfl rfl ?_
    refine own_iload W2023 257 at_255 rfl rfl ?_
    refine own_i2l W2023 258 at_257 rfl ?_
    refine own_lcmp W2023 259 at_258 rfl ?_
    suffices J2024 : own_Go p e below C T2023 (mkF m 267 #[.val (.long q1), .second, .val (.int p2), .val (.int p3), .val (.int p4), .val (.int p5), .val (.int (3 : Int32)), .val (.int (1 : Int32)), .val (.int dd), .val (.long xx), .second, .val (.ref ad), .val (.ref lg), .val (.int (1 : Int32))] [(.int (if dd.toInt64 < xx then (1 : Int32) else (0 : Int32))), (.int (if dd.toInt64 < xx then (1 : Int32) else 0))]) by
      by_cases c2025 : dd.toInt64 < xx
      · refine own_ifN W2023 262 at_259 ((if0 _ _).trans (tlt ((lw_gt xx dd.toInt64).mpr c2025)).2.2.2) rfl ?_
        refine own_iconst W2023 (1 : Int32) 263 at_262 rfl rfl ?_
        refine own_goto W2023 267 at_263 (by decide) (by decide) ?_
        first | (simp only [if_pos c2025] at J2024; exact J2024) | (simp only [if_pos c2025] at J2024 ⊢; exact J2024)
      · refine own_ifY W2023 266 at_259 ((if0 _ _).trans (flt (mt (lw_gt xx dd.toInt64).mp c2025)).2.2.2) (by decide) (by decide) ?_
        refine own_iconst W2023 (0 : Int32) 267 at_266 rfl rfl ?_
        first | (simp only [if_neg c2025] at J2024; exact J2024) | (simp only [if_neg c2025] at J2024 ⊢; exact J2024)
    refine own_icmpN W2023 270 at_267 ((teq (rfl : (if dd.toInt64 < xx then (1 : Int32) else 0) = (if dd.toInt64 < xx then (1 : Int32) else (0 : Int32)))).2) rfl ?_
    refine own_iconst W2023 (1 : Int32) 271 at_270 rfl rfl ?_
    refine own_goto W2023 275 at_271 (by decide) (by decide) ?_
    refine own_istore W2023 277 #[.val (.long q1), .second, .val (.int p2), .val (.int p3), .val (.int p4), .val (.int p5), .val (.int (3 : Int32)), .val (.int (1 : Int32)), .val (.int dd), .val (.long xx), .second, .val (.ref ad), .val (.ref lg), .val (.int (1 : Int32))] at_275 rfl rfl ?_
    refine own_iload W2023 279 at_277 rfl rfl ?_
    refine own_retZ (Q := fun v h => v = some (.int (1 : Int32))) W2023 hC (by decide) (by decide) at_279 ?_
    exact rfl
  rcases (by omega : d2n = 1 ∨ d2n = 2 ∨ d2n = 3) with rfl | rfl | rfl
  · obtain rfl : d2 = (1 : Int32) := own_lit32 hd2 _ rfl
    show own_Go p e below C T2020 (mkF m 233 #[.val (.long q1), .second, .val (.int p2), .val (.int p3), .val (.int p4), .val (.int p5), .val (.int (3 : Int32)), .val (.int (1 : Int32)), .val (.int (1 : Int32)), .val (.long xx), .second, .val (.ref ad), .val (.ref lg), .val (.int (1 : Int32))] [])
    refine own_aload W2020 235 at_233 rfl rfl rfl ?_
    refine own_iload W2020 237 at_235 rfl rfl ?_
    refine own_i2l W2020 238 at_237 rfl ?_
    refine own_callV W2020 (A := [(.long (1 : Int32).toInt64)]) (wt := 0) (pc' := 241) (st := []) at_238 (wd142 hw) (wd143 hw) (own_nf W2020 (wd145 hw)) (wd145 hw) (wd144 hw) (wd61 hw) (wd146 hw) (by decide) X_lg (own_m18_20 l Z a0 hw [] h2019 lg (1 : Int32).toInt64 ml em pl2 (1 : Int32).toInt64 mc2 vm2 1 X_lg Fg_lg Fp_lg Ff_lg Fl_lg X_ml Fe_ml Fs_ml Fm_ml V_em E_m hrm ne_lg_ml ne_lg_em ne_ml_em rfl rfl (by decide)) (allS (Or.inr os_lg) (allS (Or.inr os_ml) (allS (Or.inr os_em) all0))) rfl pd_23 rfl (Nat.le_of_eq rfl) (by decide) (by decide) (by decide) (by decide) rfl ?_
    rintro T2026 h2026 _ W2026 K2026 P2026 ⟨rfl, ⟨pl3, mc3, vm3, Fg_lg, Fp_lg, Ff_lg, Fl_lg, Fe_ml, Fs_ml, Fm_ml, V_em, hrm, E_m⟩⟩
    have X_lg := X_lg.keep K2026
    have X_ml := X_ml.keep K2026
    show own_Go p e below C T2026 (mkF m 241 #[.val (.long q1), .second, .val (.int p2), .val (.int p3), .val (.int p4), .val (.int p5), .val (.int (3 : Int32)), .val (.int (1 : Int32)), .val (.int (1 : Int32)), .val (.long xx), .second, .val (.ref ad), .val (.ref lg), .val (.int (1 : Int32))] [])
    exact fin (1 : Int32) _ _ W2026 X_lg Ff_lg
  · obtain rfl : d2 = (2 : Int32) := own_lit32 hd2 _ rfl
    show own_Go p e below C T2020 (mkF m 233 #[.val (.long q1), .second, .val (.int p2), .val (.int p3), .val (.int p4), .val (.int p5), .val (.int (3 : Int32)), .val (.int (1 : Int32)), .val (.int (2 : Int32)), .val (.long xx), .second, .val (.ref ad), .val (.ref lg), .val (.int (1 : Int32))] [])
    refine own_aload W2020 235 at_233 rfl rfl rfl ?_
    refine own_iload W2020 237 at_235 rfl rfl ?_
    refine own_i2l W2020 238 at_237 rfl ?_
    refine own_callV W2020 (A := [(.long (2 : Int32).toInt64)]) (wt := 0) (pc' := 241) (st := []) at_238 (wd142 hw) (wd143 hw) (own_nf W2020 (wd145 hw)) (wd145 hw) (wd144 hw) (wd61 hw) (wd146 hw) (by decide) X_lg (own_m18_21 l Z a0 hw [] h2019 lg (2 : Int32).toInt64 ml em pl2 (1 : Int32).toInt64 mc2 vm2 1 X_lg Fg_lg Fp_lg Ff_lg Fl_lg X_ml Fe_ml Fs_ml Fm_ml V_em E_m hrm ne_lg_ml ne_lg_em ne_ml_em rfl rfl (by decide)) (allS (Or.inr os_lg) (allS (Or.inr os_ml) (allS (Or.inr os_em) all0))) rfl pd_23 rfl (Nat.le_of_eq rfl) (by decide) (by decide) (by decide) (by decide) rfl ?_
    rintro T2027 h2027 _ W2027 K2027 P2027 ⟨rfl, ⟨pl3, mc3, vm3, Fg_lg, Fp_lg, Ff_lg, Fl_lg, Fe_ml, Fs_ml, Fm_ml, V_em, hrm, E_m⟩⟩
    have X_lg := X_lg.keep K2027
    have X_ml := X_ml.keep K2027
    show own_Go p e below C T2027 (mkF m 241 #[.val (.long q1), .second, .val (.int p2), .val (.int p3), .val (.int p4), .val (.int p5), .val (.int (3 : Int32)), .val (.int (1 : Int32)), .val (.int (2 : Int32)), .val (.long xx), .second, .val (.ref ad), .val (.ref lg), .val (.int (1 : Int32))] [])
    exact fin (2 : Int32) _ _ W2027 X_lg Ff_lg
  · obtain rfl : d2 = (3 : Int32) := own_lit32 hd2 _ rfl
    show own_Go p e below C T2020 (mkF m 233 #[.val (.long q1), .second, .val (.int p2), .val (.int p3), .val (.int p4), .val (.int p5), .val (.int (3 : Int32)), .val (.int (1 : Int32)), .val (.int (3 : Int32)), .val (.long xx), .second, .val (.ref ad), .val (.ref lg), .val (.int (1 : Int32))] [])
    refine own_aload W2020 235 at_233 rfl rfl rfl ?_
    refine own_iload W2020 237 at_235 rfl rfl ?_
    refine own_i2l W2020 238 at_237 rfl ?_
    refine own_callV W2020 (A := [(.long (3 : Int32).toInt64)]) (wt := 0) (pc' := 241) (st := []) at_238 (wd142 hw) (wd143 hw) (own_nf W2020 (wd145 hw)) (wd145 hw) (wd144 hw) (wd61 hw) (wd146 hw) (by decide) X_lg (own_m18_22 l Z a0 hw [] h2019 lg (3 : Int32).toInt64 ml em pl2 (1 : Int32).toInt64 mc2 vm2 1 X_lg Fg_lg Fp_lg Ff_lg Fl_lg X_ml Fe_ml Fs_ml Fm_ml V_em E_m hrm ne_lg_ml ne_lg_em ne_ml_em rfl rfl (by decide)) (allS (Or.inr os_lg) (allS (Or.inr os_ml) (allS (Or.inr os_em) all0))) rfl pd_23 rfl (Nat.le_of_eq rfl) (by decide) (by decide) (by decide) (by decide) rfl ?_
    rintro T2028 h2028 _ W2028 K2028 P2028 ⟨rfl, ⟨pl3, mc3, vm3, Fg_lg, Fp_lg, Ff_lg, Fl_lg, Fe_ml, Fs_ml, Fm_ml, V_em, hrm, E_m⟩⟩
    have X_lg := X_lg.keep K2028
    have X_ml := X_ml.keep K2028
    show own_Go p e below C T2028 (mkF m 241 #[.val (.long q1), .second, .val (.int p2), .val (.int p3), .val (.int p4), .val (.int p5), .val (.int (3 : Int32)), .val (.int (1 : Int32)), .val (.int (3 : Int32)), .val (.long xx), .second, .val (.ref ad), .val (.ref lg), .val (.int (1 : Int32))] [])
    exact fin (3 : Int32) _ _ W2028 X_lg Ff_lg
set_option maxRecDepth 65536 in
set_option maxHeartbeats 40000000 in
theorem own_kd_32 (l : Launch) (Z : State) (a0 : Array Value) (hw : ∀ d ∈ tables_1, d.before a0 Z = true) (h0 : Heap) (q1 : Int64) (p2 : Int32) (p3 : Int32) (p4 : Int32) (p5 : Int32) (p : Program) (e : Env) (s : State) (m : MethodId) (below : List Frame) (meth : Method) (c : Code) (C : Outcome → State → Prop) (hC : ∀ v L u, own_Fw s [] L → (v = some (.int (1 : Int32))) → FrameEnd s (.returned v) u L room_1.cells room_1.slots → C (.returned v) u) (T : State) (h : Heap) (de : Addr) (df : Nat → Value) (xx : Int64) (d2 : Int32) (d2n : Nat) (ad lg ml : Addr) (pl1 : Int64) (em : Addr) (mc1 : Int32) (vm : Nat → Value) (W : own_W p l e room_1 s m #[(.long q1), (.int p2), (.int p3), (.int p4), (.int p5)] below meth c Z x ret code maxLocals [] T h (0 + 1 + 0 + 1 + 1 + 1 + 0 + 1 + 0 + 1 + 1 + 0 + 2 + 0) (0 + 3 + 0 + 1 + 10 + 2 + 0 + 0 + 0 + 4 + 3 + 0 + 14 + 0)) (S0 : Sta Z s.heap "java/util/ArrayList" "DEFAULTCAPACITY_EMPTY_ELEMENTDATA" "[Ljava/lang/Object;" (.ref de)) (V0 : own_A Z s.heap de (.object "java/lang/Object") 0 df) (hd2 : d2.toInt = (d2n : Int)) (h12 : 2 ≤ d2n ∧ d2n ≤ 3) (os_lg : s.heap.size ≤ lg) (os_ml : s.heap.size ≤ ml) (os_em : s.heap.size ≤ em) (X_lg : own_xm Z h lg) (Fg_lg : own_fg Z h lg (.ref ml)) (Fp_lg : own_fp Z h lg (.long pl1)) (Ff_lg : own_ff Z h lg (.long (0 : Int64))) (Fl_lg : own_fl Z h lg (.long (0 : Int64))) (X_ml : own_xl Z h ml) (Fe_ml : own_fe Z h ml (.ref em)) (Fs_ml : own_fs Z h ml (.int (3 : Int32))) (Fm_ml : own_fm Z h ml (.int mc1)) (V_em : own_R Z h em "java/lang/Object" 10 vm) (hrm : own_Rf vm) (E_m : own_El Z h vm 0 3) (ne_lg_ml : lg ≠ ml) (ne_lg_em : lg ≠ em) (ne_ml_em : ml ≠ em) :
    own_Go p e below C T (mkF m 189 #[.val (.long q1), .second, .val (.int p2), .val (.int p3), .val (.int p4), .val (.int p5), .val (.int (3 : Int32)), .val (.int (2 : Int32)), .val (.int d2), .val (.long xx), .second, .val (.ref ad), .val (.ref lg), .val (.int (1 : Int32))] []) := by
  refine own_aload W 191 at_189 rfl rfl rfl ?_
  refine own_iload W 193 at_191 rfl rfl ?_
  refine own_i2l W 194 at_193 rfl ?_
  refine own_callV W (A := [(.long (2 : Int32).toInt64)]) (wt := 0) (pc' := 197) (st := []) at_194 (wd142 hw) (wd143 hw) (own_nf W (wd145 hw)) (wd145 hw) (wd144 hw) (wd61 hw) (wd146 hw) (by decide) X_lg (own_m18_32 l Z a0 hw [] h lg (2 : Int32).toInt64 ml em pl1 (0 : Int64) mc1 vm 0 X_lg Fg_lg Fp_lg Ff_lg Fl_lg X_ml Fe_ml Fs_ml Fm_ml V_em E_m hrm ne_lg_ml ne_lg_em ne_ml_em rfl rfl (by decide)) (allS (Or.inr os_lg) (allS (Or.inr os_ml) (allS (Or.inr os_em) all0))) rfl pd_23 rfl (Nat.le_of_eq rfl) (by decide) (by decide) (by decide) (by decide) rfl ?_
  rintro T2019 h2019 _ W2019 K2019 P2019 ⟨rfl, ⟨pl2, mc2, vm2, Fg_lg, Fp_lg, Ff_lg, Fl_lg, Fe_ml, Fs_ml, Fm_ml, V_em, hrm, E_m⟩⟩
  have X_lg := X_lg.keep K2019
  have X_ml := X_ml.keep K2019
  show own_Go p e below C T2019 (mkF m 197 #[.val (.long q1), .second, .val (.int p2), .val (.int p3), .val (.int p4), .val (.int p5), .val (.int (3 : Int32)), .val (.int (2 : Int32)), .val (.int d2), .val (.long xx), .second, .val (.ref ad), .val (.ref lg), .val (.int (1 : Int32))] [])
  refine own_iload W2019 199 at_197 rfl rfl ?_
  refine own_ifN W2019 202 at_199 ((if0 _ _).trans (feq ((by decide) : ¬ ((1 : Int32) = (0 : Int32)))).1) rfl ?_
  refine own_aload W2019 204 at_202 rfl rfl rfl ?_
  refine own_lload W2019 206 at_204 rfl rfl ?_
  refine own_callV W2019 (A := [(.long xx)]) (wt := 0) (pc' := 209) (st := []) at_206 (wd70 hw) (wd71 hw) (own_nf W2019 (wd73 hw)) (wd73 hw) (wd72 hw) (wd61 hw) (wd74 hw) (by decide) X_lg (own_m11 l Z a0 hw [] h2019 lg xx (2 : Int32).toInt64 Ff_lg) all0 rfl pd_21 rfl (Nat.le_of_eq rfl) (by decide) (by decide) (by decide) (by decide) rfl ?_
  rintro T2020 h2020 _ W2020 K2020 P2020 rfl
  rw [P2020 rfl rfl] at W2020
  show own_Go p e below C T2020 (mkF m 209 #[.val (.long q1), .second, .val (.int p2), .val (.int p3), .val (.int p4), .val (.int p5), .val (.int (3 : Int32)), .val (.int (2 : Int32)), .val (.int d2), .val (.long xx), .second, .val (.ref ad), .val (.ref lg), .val (.int (1 : Int32))] [(.int (if (2 : Int32).toInt64 < xx then (1 : Int32) else 0))])
  refine own_lload W2020 211 at_209 rfl rfl ?_
  refine own_iload W2020 213 at_211 rfl rfl ?_
  refine own_i2l W2020 214 at_213 rfl ?_
  refine own_lcmp W2020 215 at_214 rfl ?_
  suffices J2021 : own_Go p e below C T2020 (mkF m 223 #[.val (.long q1), .second, .val (.int p2), .val (.int p3), .val (.int p4), .val (.int p5), .val (.int (3 : Int32)), .val (.int (2 : Int32)), .val (.int d2), .val (.long xx), .second, .val (.ref ad), .val (.ref lg), .val (.int (1 : Int32))] [(.int (if (2 : Int32).toInt64 < xx then (1 : Int32) else (0 : Int32))), (.int (if (2 : Int32).toInt64 < xx then (1 : Int32) else 0))]) by
    by_cases c2022 : (2 : Int32).toInt64 < xx
    · refine own_ifN W2020 218 at_215 ((if0 _ _).trans (tlt ((lw_gt xx (2 : Int32).toInt64).mpr c2022)).2.2.2) rfl ?_
      refine own_iconst W2020 (1 : Int32) 219 at_218 rfl rfl ?_
      refine own_goto W2020 223 at_219 (by decide) (by decide) ?_
      first | (simp only [if_pos c2022] at J2021; exact J2021) | (simp only [if_pos c2022] at J2021 ⊢; exact J2021)
    · refine own_ifY W2020 222 at_215 ((if0 _ _).trans (flt (mt (lw_gt xx (2 : Int32).toInt64).mp c2022)).2.2.2) (by decide) (by decide) ?_
      refine own_iconst W2020 (0 : Int32) 223 at_222 rfl rfl ?_
      first | (simp only [if_neg c2022] at J2021; exact J2021) | (simp only [if_neg c2022] at J2021 ⊢; exact J2021)
  refine own_icmpN W2020 226 at_223 ((teq (rfl : (if (2 : Int32).toInt64 < xx then (1 : Int32) else 0) = (if (2 : Int32).toInt64 < xx then (1 : Int32) else (0 : Int32)))).2) rfl ?_
  refine own_iconst W2020 (1 : Int32) 227 at_226 rfl rfl ?_
  refine own_goto W2020 231 at_227 (by decide) (by decide) ?_
  refine own_istore W2020 233 #[.val (.long q1), .second, .val (.int p2), .val (.int p3), .val (.int p4), .val (.int p5), .val (.int (3 : Int32)), .val (.int (2 : Int32)), .val (.int d2), .val (.long xx), .second, .val (.ref ad), .val (.ref lg), .val (.int (1 : Int32))] at_231 rfl rfl ?_
  have fin : ∀ (dd : Int32) (T : State) (h : Heap), own_W p l e room_1 s m #[(.long q1), (.int p2), (.int p3), (.int p4), (.int p5)] below meth c Z x ret code maxLocals [] T h (0 + 1 + 0 + 1 + 1 + 1 + 0 + 1 + 0 + 1 + 1 + 0 + 2 + 0 + 1 + 0 + 1) (0 + 3 + 0 + 1 + 10 + 2 + 0 + 0 + 0 + 4 + 3 + 0 + 14 + 0 + 5 + 0 + 5) → own_xm Z h lg → own_ff Z h lg (.long dd.toInt64) → own_Go p e below C T (mkF m 241 #[.val (.long q1), .second, .val (.int p2), .val (.int p3), .val (.int p4), .val (.int p5), .val (.int (3 : Int32)), .val (.int (2 : Int32)), .val (.int dd), .val (.long xx), .second, .val (.ref ad), .val (.ref lg), .val (.int (1 : Int32))] []) := by
    intro dd T h W X_lg Ff_lg
    refine own_iload W 243 at_241 rfl rfl ?_
    refine own_ifN W 246 at_243 ((if0 _ _).trans (feq ((by decide) : ¬ ((1 : Int32) = (0 : Int32)))).1) rfl ?_
    refine own_aload W 248 at_246 rfl rfl rfl ?_
    refine own_lload W 250 at_248 rfl rfl ?_
    refine own_callV W (A := [(.long xx)]) (wt := 0) (pc' := 253) (st := []) at_250 (wd70 hw) (wd71 hw) (own_nf W (wd73 hw)) (wd73 hw) (wd72 hw) (wd61 hw) (wd74 hw) (by decide) X_lg (own_m11 l Z a0 hw [] h lg xx dd.toInt64 Ff_lg) all0 rfl pd_21 rfl (Nat.le_of_eq rfl) (by decide) (by decide) (by decide) (by decide) rfl ?_
    rintro T2023 h2023 _ W2023 K2023 P2023 rfl
    rw [P2023 rfl rfl] at W2023
    show own_Go p e below C T2023 (mkF m 253 #[.val (.long q1), .second, .val (.int p2), .val (.int p3), .val (.int p4), .val (.int p5), .val (.int (3 : Int32)), .val (.int (2 : Int32)), .val (.int dd), .val (.long xx), .second, .val (.ref ad), .val (.ref lg), .val (.int (1 : Int32))] [(.int (if dd.toInt64 < xx then (1 : Int32) else 0))])
    refine own_lload W2023 255 at_253 rfl rfl ?_
    refine own_iload W2023 257 at_255 rfl rfl ?_
    refine own_i2l W2023 258 at_257 rfl ?_
    refine own_lcmp W2023 259 at_258 rfl ?_
    suffices J2024 : own_Go p e below C T2023 (mkF m 267 #[.val (.long q1), .second, .val (.int p2), .val (.int p3), .val (.int p4), .val (.int p5), .val (.int (3 : Int32)), .val (.int (2 : Int32)), .val (.int dd), .val (.long xx), .second, .val (.ref ad), .val (.ref lg), .val (.int (1 : Int32))] [(.int (if dd.toInt64 < xx then (1 : Int32) else (0 : Int32))), (.int (if dd.toInt64 < xx then (1 : Int32) else 0))]) by
      by_cases c2025 : dd.toInt64 < xx
      · refine own_ifN W2023 262 at_259 ((if0 _ _).trans (tlt ((lw_gt xx dd.toInt64).mpr c2025)).2.2.2) rfl ?_
        refine own_iconst W2023 (1 : Int32) 263 at_262 rfl rfl ?_
        refine own_goto W2023 267 at_263 (by decide) (by decide) ?_
        first | (simp only [if_pos c2025] at J2024; exact J2024) | (simp only [if_pos c2025] at J2024 ⊢; exact J2024)
      · refine own_ifY W2023 266 at_259 ((if0 _ _).trans (flt (mt (lw_gt xx dd.toInt64).mp c2025)).2.2.2) (by decide) (by decide) ?_
        refine own_iconst W2023 (0 : Int32) 267 at_266 rfl rfl ?_
        first | (simp only [if_neg c2025] at J2024; exact J2024) | (simp only [if_neg c2025] at J2024 ⊢; exact J2024)
    refine own_icmpN W2023 270 at_267 ((teq (rfl : (if dd.toInt64 < xx then (1 : Int32) else 0) = (if dd.toInt64 < xx then (1 : Int32) else (0 : Int32)))).2) rfl ?_
    refine own_iconst W2023 (1 : Int32) 271 at_270 rfl rfl ?_
    refine own_goto W2023 275 at_271 (by decide) (by decide) ?_
    refine own_istore W2023 277 #[.val (.long q1), .second, .val (.int p2), .val (.int p3), .val (.int p4), .val (.int p5), .val (.int (3 : Int32)), .val (.int (2 : Int32)), .val (.int dd), .val (.long xx), .second, .val (.ref ad), .val (.ref lg), .val (.int (1 : Int32))] at_275 rfl rfl ?_
    refine own_iload W2023 279 at_277 rfl rfl ?_
    refine own_retZ (Q := fun v h => v = some (.int (1 : Int32))) W2023 hC (by decide) (by decide) at_279 ?_
    exact rfl
  rcases (by omega : d2n = 2 ∨ d2n = 3) with rfl | rfl
  · obtain rfl : d2 = (2 : Int32) := own_lit32 hd2 _ rfl
    show own_Go p e below C T2020 (mkF m 233 #[.val (.long q1), .second, .val (.int p2), .val (.int p3), .val (.int p4), .val (.int p5), .val (.int (3 : Int32)), .val (.int (2 : Int32)), .val (.int (2 : Int32)), .val (.long xx), .second, .val (.ref ad), .val (.ref lg), .val (.int (1 : Int32))] [])
    refine own_aload W2020 235 at_233 rfl rfl rfl ?_
    refine own_iload W2020 237 at_235 rfl rfl ?_
    refine own_i2l W2020 238 at_237 rfl ?_
    refine own_callV W2020 (A := [(.long (2 : Int32).toInt64)]) (wt := 0) (pc' := 241) (st := []) at_238 (wd142 hw) (wd143 hw) (own_nf W2020 (wd145 hw)) (wd145 hw) (wd144 hw) (wd61 hw) (wd146 hw) (by decide) X_lg (own_m18_10 l Z a0 hw [] h2019 lg (2 : Int32).toInt64 ml em pl2 (2 : Int32).toInt64 mc2 vm2 2 X_lg Fg_lg Fp_lg Ff_lg Fl_lg X_ml Fe_ml Fs_ml Fm_ml V_em E_m hrm ne_lg_ml ne_lg_em ne_ml_em rfl rfl (by decide)) (allS (Or.inr os_lg) (allS (Or.inr os_ml) (allS (Or.inr os_em) all0))) rfl pd_23 rfl (Nat.le_of_eq rfl) (by decide) (by decide) (by decide) (by decide) rfl ?_
    rintro T2026 h2026 _ W2026 K2026 P2026 ⟨rfl, ⟨pl3, mc3, vm3, Fg_lg, Fp_lg, Ff_lg, Fl_lg, Fe_ml, Fs_ml, Fm_ml, V_em, hrm, E_m⟩⟩
    have X_lg := X_lg.keep K2026
    have X_ml := X_ml.keep K2026
    show own_Go p e below C T2026 (mkF m 241 #[.val (.long q1), .second, .val (.int p2), .val (.int p3), .val (.int p4), .val (.int p5), .val (.int (3 : Int32)), .val (.int (2 : Int32)), .val (.int (2 : Int32)), .val (.long xx), .second, .val (.ref ad), .val (.ref lg), .val (.int (1 : Int32))] [])
    exact fin (2 : Int32) _ _ W2026 X_lg Ff_lg
  · obtain rfl : d2 = (3 : Int32) := own_lit32 hd2 _ rfl
    show own_Go p e below C T2020 (mkF m 233 #[.val (.long q1), .second, .val (.int p2), .val (.int p3), .val (.int p4), .val (.int p5), .val (.int (3 : Int32)), .val (.int (2 : Int32)), .val (.int (3 : Int32)), .val (.long xx), .second, .val (.ref ad), .val (.ref lg), .val (.int (1 : Int32))] [])
    refine own_aload W2020 235 at_233 rfl rfl rfl ?_
    refine own_iload W2020 237 at_235 rfl rfl ?_
    refine own_i2l W2020 238 at_237 rfl ?_
    refine own_callV W2020 (A := [(.long (3 : Int32).toInt64)]) (wt := 0) (pc' := 241) (st := []) at_238 (wd142 hw) (wd143 hw) (own_nf W2020 (wd145 hw)) (wd145 hw) (wd144 hw) (wd61 hw) (wd146 hw) (by decide) X_lg (own_m18_11 l Z a0 hw [] h2019 lg (3 : Int32).toInt64 ml em pl2 (2 : Int32).toInt64 mc2 vm2 2 X_lg Fg_lg Fp_lg Ff_lg Fl_lg X_ml Fe_ml Fs_ml Fm_ml V_em E_m hrm ne_lg_ml ne_lg_em ne_ml_em rfl rfl (by decide)) (allS (Or.inr os_lg) (allS (Or.inr os_ml) (allS (Or.inr os_em) all0))) rfl pd_23 rfl (Nat.le_of_eq rfl) (by decide) (by decide) (by decide) (by decide) rfl ?_
    rintro T2027 h2027 _ W2027 K2027 P2027 ⟨rfl, ⟨pl3, mc3, vm3, Fg_lg, Fp_lg, Ff_lg, Fl_lg, Fe_ml, Fs_ml, Fm_ml, V_em, hrm, E_m⟩⟩
    have X_lg := X_lg.keep K2027
    have X_ml := X_ml.keep K2027
    show own_Go p e below C T2027 (mkF m 241 #[.val (.long q1), .second, .val (.int p2), .val (.int p3), .val (.int p4), .val (.int p5), .val (.int (3 : Int32)), .val (.int (2 : Int32)), .val (.int (3 : Int32)), .val (.long xx), .second, .val (.ref ad), .val (.ref lg), .val (.int (1 : Int32))] [])
    exact fin (3 : Int32) _ _ W2027 X_lg Ff_lg
set_option maxRecDepth 65536 in
set_option maxHeartbeats 40000000 in
theorem own_kd_33 (l : Launch) (Z : State) (a0 : Array Value) (hw : ∀ d ∈ tables_1, d.before a0 Z = true) (h0 : Heap) (q1 : Int64) (p2 : Int32) (p3 : Int32) (p4 : Int32) (p5 : Int32) (p : Program) (e : Env) (s : State) (m : MethodId) (below : List Frame) (meth : Method) (c : Code) (C : Outcome → State → Prop) (hC : ∀ v L u, own_Fw s [] L → (v = some (.int (1 : Int32))) → FrameEnd s (.returned v) u L room_1.cells room_1.slots → C (.returned v) u) (T : State) (h : Heap) (de : Addr) (df : Nat → Value) (xx : Int64) (d2 : Int32) (d2n : Nat) (ad lg ml : Addr) (pl1 : Int64) (em : Addr) (mc1 : Int32) (vm : Nat → Value) (W : own_W p l e room_1 s m #[(.long q1), (.int p2), (.int p3), (.int p4), (.int p5)] below meth c Z x ret code maxLocals [] T h (0 + 1 + 0 + 1 + 1 + 1 + 0 + 1 + 0 + 1 + 1 + 0 + 2 + 0) (0 + 3 + 0 + 1 + 10 + 2 + 0 + 0 + 0 + 4 + 3 + 0 + 14 + 0)) (S0 : Sta Z s.heap "java/util/ArrayList" "DEFAULTCAPACITY_EMPTY_ELEMENTDATA" "[Ljava/lang/Object;" (.ref de)) (V0 : own_A Z s.heap de (.object "java/lang/Object") 0 df) (hd2 : d2.toInt = (d2n : Int)) (h12 : 3 ≤ d2n ∧ d2n ≤ 3) (os_lg : s.heap.size ≤ lg) (os_ml : s.heap.size ≤ ml) (os_em : s.heap.size ≤ em) (X_lg : own_xm Z h lg) (Fg_lg : own_fg Z h lg (.ref ml)) (Fp_lg : own_fp Z h lg (.long pl1)) (Ff_lg : own_ff Z h lg (.long (0 : Int64))) (Fl_lg : own_fl Z h lg (.long (0 : Int64))) (X_ml : own_xl Z h ml) (Fe_ml : own_fe Z h ml (.ref em)) (Fs_ml : own_fs Z h ml (.int (3 : Int32))) (Fm_ml : own_fm Z h ml (.int mc1)) (V_em : own_R Z h em "java/lang/Object" 10 vm) (hrm : own_Rf vm) (E_m : own_El Z h vm 0 3) (ne_lg_ml : lg ≠ ml) (ne_lg_em : lg ≠ em) (ne_ml_em : ml ≠ em) :
    own_Go p e below C T (mkF m 189 #[.val (.long q1), .second, .val (.int p2), .val (.int p3), .val (.int p4), .val (.int p5), .val (.int (3 : Int32)), .val (.int (3 : Int32)), .val (.int d2), .val (.long xx), .second, .val (.ref ad), .val (.ref lg), .val (.int (1 : Int32))] []) := by
  refine own_aload W 191 at_189 rfl rfl rfl ?_
  refine own_iload W 193 at_191 rfl rfl ?_
  refine own_i2l W 194 at_193 rfl ?_
  refine own_callV W (A := [(.long (3 : Int32).toInt64)]) (wt := 0) (pc' := 197) (st := []) at_194 (wd142 hw) (wd143 hw) (own_nf W (wd145 hw)) (wd145 hw) (wd144 hw) (wd61 hw) (wd146 hw) (by decide) X_lg (own_m18_33 l Z a0 hw [] h lg (3 : Int32).toInt64 ml em pl1 (0 : Int64) mc1 vm 0 X_lg Fg_lg Fp_lg Ff_lg Fl_lg X_ml Fe_ml Fs_ml Fm_ml V_em E_m hrm ne_lg_ml ne_lg_em ne_ml_em rfl rfl (by decide)) (allS (Or.inr os_lg) (allS (Or.inr os_ml) (allS (Or.inr os_em) all0))) rfl pd_23 rfl (Nat.le_of_eq rfl) (by decide) (by decide) (by decide) (by decide) rfl ?_
  rintro T2019 h2019 _ W2019 K2019 P2019 ⟨rfl, ⟨pl2, mc2, vm2, Fg_lg, Fp_lg, Ff_lg, Fl_lg, Fe_ml, Fs_ml, Fm_ml, V_em, hrm, E_m⟩⟩
  have X_lg := X_lg.keep K2019
  have X_ml := X_ml.keep K2019
  show own_Go p e below C T2019 (mkF m 197 #[.val (.long q1), .second, .val (.int p2), .val (.int p3), .val (.int p4), .val (.int p5), .val (.int (3 : Int32)), .val (.int (3 : Int32)), .val (.int d2), .val (.long xx), .second, .val (.ref ad), .val (.ref lg), .val (.int (1 : Int32))] [])
  refine own_iload W2019 199 at_197 rfl rfl ?_
  refine own_ifN W2019 202 at_199 ((if0 _ _).trans (feq ((by decide) : ¬ ((1 : Int32) = (0 : Int32)))).1) rfl ?_
  refine own_aload W2019 204 at_202 rfl rfl rfl ?_
  refine own_lload W2019 206 at_204 rfl rfl ?_
  refine own_callV W2019 (A := [(.long xx)]) (wt := 0) (pc' := 209) (st := []) at_206 (wd70 hw) (wd71 hw) (own_nf W2019 (wd73 hw)) (wd73 hw) (wd72 hw) (wd61 hw) (wd74 hw) (by decide) X_lg (own_m11 l Z a0 hw [] h2019 lg xx (3 : Int32).toInt64 Ff_lg) all0 rfl pd_21 rfl (Nat.le_of_eq rfl) (by decide) (by decide) (by decide) (by decide) rfl ?_
  rintro T2020 h2020 _ W2020 K2020 P2020 rfl
  rw [P2020 rfl rfl] at W2020
  show own_Go p e below C T2020 (mkF m 209 #[.val (.long q1), .second, .val (.int p2), .val (.int p3), .val (.int p4), .val (.int p5), .val (.int (3 : Int32)), .val (.int (3 : Int32)), .val (.int d2), .val (.long xx), .second, .val (.ref ad), .val (.ref lg), .val (.int (1 : Int32))] [(.int (if (3 : Int32).toInt64 < xx then (1 : Int32) else 0))])
  refine own_lload W2020 211 at_209 rfl rfl ?_
  refine own_iload W2020 213 at_211 rfl rfl ?_
  refine own_i2l W2020 214 at_213 rfl ?_
  refine own_lcmp W2020 215 at_214 rfl ?_
  suffices J2021 : own_Go p e below C T2020 (mkF m 223 #[.val (.long q1), .second, .val (.int p2), .val (.int p3), .val (.int p4), .val (.int p5), .val (.int (3 : Int32)), .val (.int (3 : Int32)), .val (.int d2), .val (.long xx), .second, .val (.ref ad), .val (.ref lg), .val (.int (1 : Int32))] [(.int (if (3 : Int32).toInt64 < xx then (1 : Int32) else (0 : Int32))), (.int (if (3 : Int32).toInt64 < xx then (1 : Int32) else 0))]) by
    by_cases c2022 : (3 : Int32).toInt64 < xx
    · refine own_ifN W2020 218 at_215 ((if0 _ _).trans (tlt ((lw_gt xx (3 : Int32).toInt64).mpr c2022)).2.2.2) rfl ?_
      refine own_iconst W2020 (1 : Int32) 219 at_218 rfl rfl ?_
      refine own_goto W2020 223 at_219 (by decide) (by decide) ?_
      first | (simp only [if_pos c2022] at J2021; exact J2021) | (simp only [if_pos c2022] at J2021 ⊢; exact J2021)
    · refine own_ifY W2020 222 at_215 ((if0 _ _).trans (flt (mt (lw_gt xx (3 : Int32).toInt64).mp c2022)).2.2.2) (by decide) (by decide) ?_
      refine own_iconst W2020 (0 : Int32) 223 at_222 rfl rfl ?_
      first | (simp only [if_neg c2022] at J2021; exact J2021) | (simp only [if_neg c2022] at J2021 ⊢; exact J2021)
  refine own_icmpN W2020 226 at_223 ((teq (rfl : (if (3 : Int32).toInt64 < xx then (1 : Int32) else 0) = (if (3 : Int32).toInt64 < xx then (1 : Int32) else (0 : Int32)))).2) rfl ?_
  refine own_iconst W2020 (1 : Int32) 227 at_226 rfl rfl ?_
  refine own_goto W2020 231 at_227 (by decide) (by decide) ?_
  refine own_istore W2020 233 #[.val (.long q1), .second, .val (.int p2), .val (.int p3), .val (.int p4), .val (.int p5), .val (.int (3 : Int32)), .val (.int (3 : Int32)), .val (.int d2), .val (.long xx), .second, .val (.ref ad), .val (.ref lg), .val (.int (1 : Int32))] at_231 rfl rfl ?_
  have fin : ∀ (dd : Int32) (T : State) (h : Heap), own_W p l e room_1 s m #[(.long q1), (.int p2), (.int p3), (.int p4), (.int p5)] below meth c Z x ret code maxLocals [] T h (0 + 1 + 0 + 1 + 1 + 1 + 0 + 1 + 0 + 1 + 1 + 0 + 2 + 0 + 1 + 0 + 1) (0 + 3 + 0 + 1 + 10 + 2 + 0 + 0 + 0 + 4 + 3 + 0 + 14 + 0 + 5 + 0 + 5) → own_xm Z h lg → own_ff Z h lg (.long dd.toInt64) → own_Go p e below C T (mkF m 241 #[.val (.long q1), .second, .val (.int p2), .val (.int p3), .val (.int p4), .val (.int p5), .val (.int (3 : Int32)), .val (.int (3 : Int32)), .val (.int dd), .val (.long xx), .second, .val (.ref ad), .val (.ref lg), .val (.int (1 : Int32))] []) := by
    intro dd T h W X_lg Ff_lg
    refine own_iload W 243 at_241 rfl rfl ?_
    refine own_ifN W 246 at_243 ((if0 _ _).trans (feq ((by decide) : ¬ ((1 : Int32) = (0 : Int32)))).1) rfl ?_
    refine own_aload W 248 at_246 rfl rfl rfl ?_
    refine own_lload W 250 at_248 rfl rfl ?_
    refine own_callV W (A := [(.long xx)]) (wt := 0) (pc' := 253) (st := []) at_250 (wd70 hw) (wd71 hw) (own_nf W (wd73 hw)) (wd73 hw) (wd72 hw) (wd61 hw) (wd74 hw) (by decide) X_lg (own_m11 l Z a0 hw [] h lg xx dd.toInt64 Ff_lg) all0 rfl pd_21 rfl (Nat.le_of_eq rfl) (by decide) (by decide) (by decide) (by decide) rfl ?_
    rintro T2023 h2023 _ W2023 K2023 P2023 rfl
    rw [P2023 rfl rfl] at W2023
    show own_Go p e below C T2023 (mkF m 253 #[.val (.long q1), .second, .val (.int p2), .val (.int p3), .val (.int p4), .val (.int p5), .val (.int (3 : Int32)), .val (.int (3 : Int32)), .val (.int dd), .val (.long xx), .second, .val (.ref ad), .val (.ref lg), .val (.int (1 : Int32))] [(.int (if dd.toInt64 < xx then (1 : Int32) else 0))])
    refine own_lload W2023 255 at_253 rfl rfl ?_
    refine own_iload W2023 257 at_255 rfl rfl ?_
    refine own_i2l W2023 258 at_257 rfl ?_
    refine own_lcmp W2023 259 at_258 rfl ?_
    suffices J2024 : own_Go p e below C T2023 (mkF m 267 #[.val (.long q1), .second, .val (.int p2), .val (.int p3), .val (.int p4), .val (.int p5), .val (.int (3 : Int32)), .val (.int (3 : Int32)), .val (.int dd), .val (.long xx), .second, .val (.ref ad), .val (.ref lg), .val (.int (1 : Int32))] [(.int (if dd.toInt64 < xx then (1 : Int32) else (0 : Int32))), (.int (if dd.toInt64 < xx then (1 : Int32) else 0))]) by
      by_cases c2025 : dd.toInt64 < xx
      · refine own_ifN W2023 262 at_259 ((if0 _ _).trans (tlt ((lw_gt xx dd.toInt64).mpr c2025)).2.2.2) rfl ?_
        refine own_iconst W2023 (1 : Int32) 263 at_262 rfl rfl ?_
        refine own_goto W2023 267 at_263 (by decide) (by decide) ?_
        first | (simp only [if_pos c2025] at J2024; exact J2024) | (simp only [if_pos c2025] at J2024 ⊢; exact J2024)
      · refine own_ifY W2023 266 at_259 ((if0 _ _).trans (flt (mt (lw_gt xx dd.toInt64).mp c2025)).2.2.2) (by decide) (by decide) ?_
        refine own_iconst W2023 (0 : Int32) 267 at_266 rfl rfl ?_
        first | (simp only [if_neg c2025] at J2024; exact J2024) | (simp only [if_neg c2025] at J2024 ⊢; exact J2024)
    refine own_icmpN W2023 270 at_267 ((teq (rfl : (if dd.toInt64 < xx then (1 : Int32) else 0) = (if dd.toInt64 < xx then (1 : Int32) else (0 : Int32)))).2) rfl ?_
    refine own_iconst W2023 (1 : Int32) 271 at_270 rfl rfl ?_
    refine own_goto W2023 275 at_271 (by decide) (by decide) ?_
    refine own_istore W2023 277 #[.val (.long q1), .second, .val (.int p2), .val (.int p3), .val (.int p4), .val (.int p5), .val (.int (3 : Int32)), .val (.int (3 : Int32)), .val (.int dd), .val (.long xx), .second, .val (.ref ad), .val (.ref lg), .val (.int (1 : Int32))] at_275 rfl rfl ?_
    refine own_iload W2023 279 at_277 rfl rfl ?_
    refine own_retZ (Q := fun v h => v = some (.int (1 : Int32))) W2023 hC (by decide) (by decide) at_279 ?_
    exact rfl
  rcases (by omega : d2n = 3) with rfl
  · obtain rfl : d2 = (3 : Int32) := own_lit32 hd2 _ rfl
    show own_Go p e below C T2020 (mkF m 233 #[.val (.long q1), .second, .val (.int p2), .val (.int p3), .val (.int p4), .val (.int p5), .val (.int (3 : Int32)), .val (.int (3 : Int32)), .val (.int (3 : Int32)), .val (.long xx), .second, .val (.ref ad), .val (.ref lg), .val (.int (1 : Int32))] [])
    refine own_aload W2020 235 at_233 rfl rfl rfl ?_
    refine own_iload W2020 237 at_235 rfl rfl ?_
    refine own_i2l W2020 238 at_237 rfl ?_
    refine own_callV W2020 (A := [(.long (3 : Int32).toInt64)]) (wt := 0) (pc' := 241) (st := []) at_238 (wd142 hw) (wd143 hw) (own_nf W2020 (wd145 hw)) (wd145 hw) (wd144 hw) (wd61 hw) (wd146 hw) (by decide) X_lg (own_m18_00 l Z a0 hw [] h2019 lg (3 : Int32).toInt64 ml em pl2 (3 : Int32).toInt64 mc2 vm2 10 3 X_lg Fg_lg Fp_lg Ff_lg Fl_lg X_ml Fe_ml Fs_ml Fm_ml V_em.A ne_lg_ml ne_lg_em ne_ml_em rfl rfl (by decide)) (allS (Or.inr os_lg) (allS (Or.inr os_ml) all0)) rfl pd_23 rfl (Nat.le_of_eq rfl) (by decide) (by decide) (by decide) (by decide) rfl ?_
    rintro T2026 h2026 _ W2026 K2026 P2026 ⟨rfl, ⟨pl3, mc3, Fg_lg, Fp_lg, Ff_lg, Fl_lg, Fe_ml, Fs_ml, Fm_ml⟩⟩
    have X_lg := X_lg.keep K2026
    have X_ml := X_ml.keep K2026
    have V_em := V_em.keep K2026 (ninS (Ne.symm ne_lg_em) (ninS (Ne.symm ne_ml_em) nin0))
    have E_m := E_m.keep K2026
    show own_Go p e below C T2026 (mkF m 241 #[.val (.long q1), .second, .val (.int p2), .val (.int p3), .val (.int p4), .val (.int p5), .val (.int (3 : Int32)), .val (.int (3 : Int32)), .val (.int (3 : Int32)), .val (.long xx), .second, .val (.ref ad), .val (.ref lg), .val (.int (1 : Int32))] [])
    exact fin (3 : Int32) _ _ W2026 X_lg Ff_lg
set_option maxRecDepth 65536 in
set_option maxHeartbeats 40000000 in
theorem own_k_3 (l : Launch) (Z : State) (a0 : Array Value) (hw : ∀ d ∈ tables_1, d.before a0 Z = true) (h0 : Heap) (q1 : Int64) (p2 : Int32) (p3 : Int32) (p4 : Int32) (p5 : Int32) (p : Program) (e : Env) (s : State) (m : MethodId) (below : List Frame) (meth : Method) (c : Code) (C : Outcome → State → Prop) (hC : ∀ v L u, own_Fw s [] L → (v = some (.int (1 : Int32))) → FrameEnd s (.returned v) u L room_1.cells room_1.slots → C (.returned v) u) (T : State) (h : Heap) (de : Addr) (df : Nat → Value) (xx : Int64) (d1 d2 : Int32) (d1n d2n : Nat) (W : own_W p l e room_1 s m #[(.long q1), (.int p2), (.int p3), (.int p4), (.int p5)] below meth c Z x ret code maxLocals [] T h (0) (0)) (S0 : Sta Z s.heap "java/util/ArrayList" "DEFAULTCAPACITY_EMPTY_ELEMENTDATA" "[Ljava/lang/Object;" (.ref de)) (V0 : own_A Z s.heap de (.object "java/lang/Object") 0 df) (hd1 : d1.toInt = (d1n : Int)) (hd2 : d2.toInt = (d2n : Int)) (h12 : d1n ≤ d2n ∧ d2n ≤ 3) :
    own_Go p e below C T (mkF m 56 #[.val (.long q1), .second, .val (.int p2), .val (.int p3), .val (.int p4), .val (.int p5), .val (.int (3 : Int32)), .val (.int d1), .val (.int d2), .val (.long xx), .second, .unset, .unset, .unset] []) := by
  have S_de := own_staK0 S0 (own_WK W)
  have V_de := V0.keep (own_WK W) nin0
  refine own_new W 59 at_56 (wd1 hw) (wd2 hw) (wd3 hw) (by decide) (by decide) rfl ?_
  intro T1002 h1002 ad W1002 E1002 g_ad o_ad X_ad D_ad
  have S_de := S_de.ext E1002
  have Fm_ad : own_fm Z h1002 ad (.int (0 : Int32)) := D_ad (Or.inl (wd23 hw)) (ty := .int) (by decide)
  have Fe_ad : own_fe Z h1002 ad .null := D_ad (Or.inl (wd26 hw)) (ty := (.array (.object "java/lang/Object"))) (by decide)
  have Fs_ad : own_fs Z h1002 ad (.int (0 : Int32)) := D_ad (Or.inl (wd36 hw)) (ty := .int) (by decide)
  have os_ad := o_ad
  have ne_ad_de := (Nat.ne_of_gt (Nat.lt_of_lt_of_le V0.lt os_ad))
  refine own_dup W1002 60 at_59 rfl rfl ?_
  refine own_callN W1002 (A := []) (wt := 1) (pc' := 63) (st := [(.ref ad)]) at_60 rfl (wd4 hw) (wd5 hw) (wd3 hw) (wd6 hw) (by decide) (own_m1 l Z a0 hw [] h1002 ad de S_de X_ad Fe_ad Fs_ad Fm_ad) (allS (Or.inr o_ad) all0) rfl pd_0 rfl (Nat.le_of_eq rfl) (by decide) (by decide) (by decide) (by decide) rfl ?_
  rintro T1003 h1003 _ W1003 K1003 P1003 ⟨rfl, ⟨Fe_ad, Fs_ad, Fm_ad⟩⟩
  have S_de := own_staK1 S_de K1003 X_ad
  have X_ad := X_ad.keep K1003
  show own_Go p e below C T1003 (mkF m 63 #[.val (.long q1), .second, .val (.int p2), .val (.int p3), .val (.int p4), .val (.int p5), .val (.int (3 : Int32)), .val (.int d1), .val (.int d2), .val (.long xx), .second, .unset, .unset, .unset] [(.ref ad)])
  refine own_astore W1003 65 #[.val (.long q1), .second, .val (.int p2), .val (.int p3), .val (.int p4), .val (.int p5), .val (.int (3 : Int32)), .val (.int d1), .val (.int d2), .val (.long xx), .second, .val (.ref ad), .unset, .unset] at_63 rfl rfl rfl ?_
  refine own_iload W1003 67 at_65 rfl rfl ?_
  refine own_ifN W1003 70 at_67 ((if0 _ _).trans (tlt ((by decide) : (0 : Int32) < (3 : Int32))).2.2.2) rfl ?_
  refine own_aload W1003 72 at_70 rfl rfl rfl ?_
  refine own_iconst W1003 (1 : Int32) 73 at_72 rfl rfl ?_
  refine own_newarrayE W1003 1 1 "[B" 75 at_73 (wd27 hw) rfl (Nat.le_refl _) (by decide) (by decide) (by decide) (by decide) rfl ?_
  intro T1004 h1004 b0 W1004 E1004 g_b0 o_b0 V_b0 Y_b0
  have ne_ad_b0 : ad ≠ b0 := by rw [g_b0]; exact Nat.ne_of_lt X_ad.lt
  have X_ad := X_ad.ext E1004
  have Fe_ad := Fe_ad.ext E1004
  have Fs_ad := Fs_ad.ext E1004
  have Fm_ad := Fm_ad.ext E1004
  have B_b0 := V_b0.ba
  have S_de := own_staK0 S0 (own_WK W1004)
  have V_de := V0.keep (own_WK W1004) nin0
  have hsH := own_le W1004
  have q_ad := X_ad.lt
  refine own_callV W1004 (A := [(.ref b0)]) (wt := 0) (pc' := 78) (st := []) at_75 (wd28 hw) (wd29 hw) (own_nf W1004 (wd31 hw)) (wd31 hw) (wd30 hw) (wd3 hw) (wd32 hw) (by decide) X_ad (own_m5a l Z a0 hw [] h1004 ad b0 de df (0 : Int32) Y_b0 S_de V_de X_ad Fe_ad Fs_ad Fm_ad ne_ad_de) (allS (Or.inr o_ad) all0) rfl pd_9 rfl (Nat.le_of_eq rfl) (by decide) (by decide) (by decide) (by decide) rfl ?_
  rintro T1005 h1005 _ W1005 K1005 P1005 ⟨rfl, ea, o_ea, Fe_ad, Fs_ad, Fm_ad, V_ea⟩
  have X_ad := X_ad.keep K1005
  have Y_b0 := Y_b0.keep K1005
  have B_b0 := B_b0.keep K1005
  show own_Go p e below C T1005 (mkF m 78 #[.val (.long q1), .second, .val (.int p2), .val (.int p3), .val (.int p4), .val (.int p5), .val (.int (3 : Int32)), .val (.int d1), .val (.int d2), .val (.long xx), .second, .val (.ref ad), .unset, .unset] [(.int ((1 : Int32) &&& 1))])
  have ne_ad_ea : ad ≠ ea := Nat.ne_of_lt (Nat.lt_of_lt_of_le q_ad o_ea)
  have os_ea : s.heap.size ≤ ea := Nat.le_trans hsH o_ea
  have Fs_ad : own_fs Z h1005 ad (.int (1 : Int32)) := Fs_ad
  refine own_pop W1005 79 at_78 rfl rfl ?_
  refine own_iload W1005 81 at_79 rfl rfl ?_
  refine own_iconst W1005 (1 : Int32) 82 at_81 rfl rfl ?_
  refine own_icmpN W1005 85 at_82 ((tlt ((by decide) : (1 : Int32) < (3 : Int32))).2.2.2) rfl ?_
  refine own_aload W1005 87 at_85 rfl rfl rfl ?_
  refine own_iconst W1005 (2 : Int32) 88 at_87 rfl rfl ?_
  refine own_newarrayE W1005 2 2 "[B" 90 at_88 (wd27 hw) rfl (Nat.le_refl _) (by decide) (by decide) (by decide) (by decide) rfl ?_
  intro T1006 h1006 b1 W1006 E1006 g_b1 o_b1 V_b1 Y_b1
  have ne_ad_b1 : ad ≠ b1 := by rw [g_b1]; exact Nat.ne_of_lt X_ad.lt
  have ne_b0_b1 : b0 ≠ b1 := by rw [g_b1]; exact Nat.ne_of_lt Y_b0.lt
  have ne_ea_b1 : ea ≠ b1 := by rw [g_b1]; exact Nat.ne_of_lt V_ea.lt
  have X_ad := X_ad.ext E1006
  have Y_b0 := Y_b0.ext E1006
  have B_b0 := B_b0.ext E1006
  have Fe_ad := Fe_ad.ext E1006
  have Fs_ad := Fs_ad.ext E1006
  have Fm_ad := Fm_ad.ext E1006
  have V_ea := V_ea.ext E1006
  have B_b1 := V_b1.ba
  refine own_callV W1006 (A := [(.ref b1)]) (wt := 0) (pc' := 93) (st := []) at_90 (wd28 hw) (wd29 hw) (own_nf W1006 (wd31 hw)) (wd31 hw) (wd30 hw) (wd3 hw) (wd32 hw) (by decide) X_ad (own_m5b l Z a0 hw [] h1006 ad b1 ea (1 : Int32) ((0 : Int32) + (1 : Int32)) (own_upd (fun _ => .null) 0 (.ref b0)) 1 Y_b1 X_ad Fe_ad Fs_ad Fm_ad V_ea ne_ad_ea rfl (by omega)) (allS (Or.inr o_ad) (allS (Or.inr os_ea) all0)) rfl pd_9 rfl (Nat.le_of_eq rfl) (by decide) (by decide) (by decide) (by decide) rfl ?_
  rintro T1007 h1007 _ W1007 K1007 P1007 ⟨rfl, Fe_ad, Fs_ad, Fm_ad, V_ea⟩
  have X_ad := X_ad.keep K1007
  have Y_b0 := Y_b0.keep K1007
  have B_b0 := B_b0.keep K1007
  have Y_b1 := Y_b1.keep K1007
  have B_b1 := B_b1.keep K1007
  show own_Go p e below C T1007 (mkF m 93 #[.val (.long q1), .second, .val (.int p2), .val (.int p3), .val (.int p4), .val (.int p5), .val (.int (3 : Int32)), .val (.int d1), .val (.int d2), .val (.long xx), .second, .val (.ref ad), .unset, .unset] [(.int ((1 : Int32) &&& 1))])
  have Fs_ad : own_fs Z h1007 ad (.int (2 : Int32)) := Fs_ad
  refine own_pop W1007 94 at_93 rfl rfl ?_
  refine own_iload W1007 96 at_94 rfl rfl ?_
  refine own_iconst W1007 (2 : Int32) 97 at_96 rfl rfl ?_
  refine own_icmpN W1007 100 at_97 ((tlt ((by decide) : (2 : Int32) < (3 : Int32))).2.2.2) rfl ?_
  refine own_aload W1007 102 at_100 rfl rfl rfl ?_
  refine own_iconst W1007 (0 : Int32) 103 at_102 rfl rfl ?_
  refine own_newarrayE W1007 0 0 "[B" 105 at_103 (wd27 hw) rfl (Nat.le_refl _) (by decide) (by decide) (by decide) (by decide) rfl ?_
  intro T1008 h1008 b2 W1008 E1008 g_b2 o_b2 V_b2 Y_b2
  have ne_ad_b2 : ad ≠ b2 := by rw [g_b2]; exact Nat.ne_of_lt X_ad.lt
  have ne_b0_b2 : b0 ≠ b2 := by rw [g_b2]; exact Nat.ne_of_lt Y_b0.lt
  have ne_b1_b2 : b1 ≠ b2 := by rw [g_b2]; exact Nat.ne_of_lt Y_b1.lt
  have ne_ea_b2 : ea ≠ b2 := by rw [g_b2]; exact Nat.ne_of_lt V_ea.lt
  have X_ad := X_ad.ext E1008
  have Y_b0 := Y_b0.ext E1008
  have B_b0 := B_b0.ext E1008
  have Y_b1 := Y_b1.ext E1008
  have B_b1 := B_b1.ext E1008
  have Fe_ad := Fe_ad.ext E1008
  have Fs_ad := Fs_ad.ext E1008
  have Fm_ad := Fm_ad.ext E1008
  have V_ea := V_ea.ext E1008
  have B_b2 := V_b2.ba
  refine own_callV W1008 (A := [(.ref b2)]) (wt := 0) (pc' := 108) (st := []) at_105 (wd28 hw) (wd29 hw) (own_nf W1008 (wd31 hw)) (wd31 hw) (wd30 hw) (wd3 hw) (wd32 hw) (by decide) X_ad (own_m5b l Z a0 hw [] h1008 ad b2 ea (2 : Int32) (((0 : Int32) + (1 : Int32)) + (1 : Int32)) (own_upd (own_upd (fun _ => .null) 0 (.ref b0)) 1 (.ref b1)) 2 Y_b2 X_ad Fe_ad Fs_ad Fm_ad V_ea ne_ad_ea rfl (by omega)) (allS (Or.inr o_ad) (allS (Or.inr os_ea) all0)) rfl pd_9 rfl (Nat.le_of_eq rfl) (by decide) (by decide) (by decide) (by decide) rfl ?_
  rintro T1009 h1009 _ W1009 K1009 P1009 ⟨rfl, Fe_ad, Fs_ad, Fm_ad, V_ea⟩
  have X_ad := X_ad.keep K1009
  have Y_b0 := Y_b0.keep K1009
  have B_b0 := B_b0.keep K1009
  have Y_b1 := Y_b1.keep K1009
  have B_b1 := B_b1.keep K1009
  have Y_b2 := Y_b2.keep K1009
  have B_b2 := B_b2.keep K1009
  show own_Go p e below C T1009 (mkF m 108 #[.val (.long q1), .second, .val (.int p2), .val (.int p3), .val (.int p4), .val (.int p5), .val (.int (3 : Int32)), .val (.int d1), .val (.int d2), .val (.long xx), .second, .val (.ref ad), .unset, .unset] [(.int ((1 : Int32) &&& 1))])
  have Fs_ad : own_fs Z h1009 ad (.int (3 : Int32)) := Fs_ad
  refine own_pop W1009 109 at_108 rfl rfl ?_
  have E_a : own_El Z h1009 (own_upd (own_upd (own_upd (fun _ => .null) 0 (.ref b0)) 1 (.ref b1)) 2 (.ref b2)) 0 3 := (own_El.add (own_El.add (own_El.add own_El.none Y_b0 B_b0) Y_b1 B_b1) Y_b2 B_b2)
  have ne_ea_de := (Nat.ne_of_gt (Nat.lt_of_lt_of_le V0.lt os_ea))
  refine own_new W1009 112 at_109 (wd59 hw) (wd60 hw) (wd61 hw) (by decide) (by decide) rfl ?_
  intro T1010 h1010 lg W1010 E1010 g_lg o_lg X_lg D_lg
  have ne_ad_lg : ad ≠ lg := by rw [g_lg]; exact Nat.ne_of_lt X_ad.lt
  have ne_ea_lg : ea ≠ lg := by rw [g_lg]; exact Nat.ne_of_lt V_ea.lt
  have X_ad := X_ad.ext E1010
  have Fe_ad := Fe_ad.ext E1010
  have Fs_ad := Fs_ad.ext E1010
  have Fm_ad := Fm_ad.ext E1010
  have V_ea := V_ea.ext E1010
  have E_a := E_a.ext E1010
  have Fg_lg : own_fg Z h1010 lg .null := D_lg (Or.inr (wd69 hw)) (ty := (.object "java/util/List")) (by decide)
  have Ff_lg : own_ff Z h1010 lg (.long (0 : Int64)) := D_lg (Or.inl (wd76 hw)) (ty := .long) (by decide)
  have Fp_lg : own_fp Z h1010 lg (.long (0 : Int64)) := D_lg (Or.inl (wd141 hw)) (ty := .long) (by decide)
  have Fl_lg : own_fl Z h1010 lg (.long (0 : Int64)) := D_lg (Or.inl (wd152 hw)) (ty := .long) (by decide)
  have os_lg := o_lg
  have ne_lg_de := (Nat.ne_of_gt (Nat.lt_of_lt_of_le V0.lt os_lg))
  refine own_dup W1010 113 at_112 rfl rfl ?_
  have S_de := own_staK0 S0 (own_WK W1010)
  have V_de := V0.keep (own_WK W1010) nin0
  have hsH := own_le W1010
  have q_ad := X_ad.lt
  have q_lg := X_lg.lt
  have q_ea := V_ea.lt
  refine own_callN W1010 (A := []) (wt := 1) (pc' := 116) (st := [(.ref lg)]) at_113 rfl (wd62 hw) (wd63 hw) (wd61 hw) (wd64 hw) (by decide) (own_m10 l Z a0 hw [] h1010 lg de S_de X_lg Fg_lg Fp_lg Ff_lg Fl_lg) (allS (Or.inr o_lg) all0) rfl pd_0 rfl (Nat.le_of_eq rfl) (by decide) (by decide) (by decide) (by decide) rfl ?_
  rintro T1011 h1011 _ W1011 K1011 P1011 ⟨rfl, ⟨ml, o_ml, X_ml, Fg_lg, Fp_lg, Ff_lg, Fl_lg, Fe_ml, Fs_ml, Fm_ml⟩⟩
  have X_ad := X_ad.keep K1011
  have Fe_ad := Fe_ad.keep K1011 (ninS ne_ad_lg nin0)
  have Fs_ad := Fs_ad.keep K1011 (ninS ne_ad_lg nin0)
  have Fm_ad := Fm_ad.keep K1011 (ninS ne_ad_lg nin0)
  have V_ea := V_ea.keep K1011 (ninS ne_ea_lg nin0)
  have E_a := E_a.keep K1011
  have X_lg := X_lg.keep K1011
  show own_Go p e below C T1011 (mkF m 116 #[.val (.long q1), .second, .val (.int p2), .val (.int p3), .val (.int p4), .val (.int p5), .val (.int (3 : Int32)), .val (.int d1), .val (.int d2), .val (.long xx), .second, .val (.ref ad), .unset, .unset] [(.ref lg)])
  have ne_ad_ml : ad ≠ ml := Nat.ne_of_lt (Nat.lt_of_lt_of_le q_ad o_ml)
  have ne_lg_ml : lg ≠ ml := Nat.ne_of_lt (Nat.lt_of_lt_of_le q_lg o_ml)
  have ne_ea_ml : ea ≠ ml := Nat.ne_of_lt (Nat.lt_of_lt_of_le q_ea o_ml)
  have os_ml : s.heap.size ≤ ml := Nat.le_trans hsH o_ml
  have ne_ml_de := (Nat.ne_of_gt (Nat.lt_of_lt_of_le V0.lt os_ml))
  refine own_astore W1011 118 #[.val (.long q1), .second, .val (.int p2), .val (.int p3), .val (.int p4), .val (.int p5), .val (.int (3 : Int32)), .val (.int d1), .val (.int d2), .val (.long xx), .second, .val (.ref ad), .val (.ref lg), .unset] at_116 rfl rfl rfl ?_
  refine own_aload W1011 120 at_118 rfl rfl rfl ?_
  refine own_lload W1011 122 at_120 rfl rfl ?_
  refine own_callV W1011 (A := [(.long xx)]) (wt := 0) (pc' := 125) (st := []) at_122 (wd70 hw) (wd71 hw) (own_nf W1011 (wd73 hw)) (wd73 hw) (wd72 hw) (wd61 hw) (wd74 hw) (by decide) X_lg (own_m11 l Z a0 hw [] h1011 lg xx (0 : Int64) Ff_lg) all0 rfl pd_21 rfl (Nat.le_of_eq rfl) (by decide) (by decide) (by decide) (by decide) rfl ?_
  rintro T1012 h1012 _ W1012 K1012 P1012 rfl
  rw [P1012 rfl rfl] at W1012
  show own_Go p e below C T1012 (mkF m 125 #[.val (.long q1), .second, .val (.int p2), .val (.int p3), .val (.int p4), .val (.int p5), .val (.int (3 : Int32)), .val (.int d1), .val (.int d2), .val (.long xx), .second, .val (.ref ad), .val (.ref lg), .unset] [(.int (if (0 : Int64) < xx then (1 : Int32) else 0))])
  refine own_lload W1012 127 at_125 rfl rfl ?_
  refine own_lconst W1012 (0 : Int64) 128 at_127 rfl rfl ?_
  refine own_lcmp W1012 129 at_128 rfl ?_
  suffices J1013 : own_Go p e below C T1012 (mkF m 137 #[.val (.long q1), .second, .val (.int p2), .val (.int p3), .val (.int p4), .val (.int p5), .val (.int (3 : Int32)), .val (.int d1), .val (.int d2), .val (.long xx), .second, .val (.ref ad), .val (.ref lg), .unset] [(.int (if (0 : Int64) < xx then (1 : Int32) else (0 : Int32))), (.int (if (0 : Int64) < xx then (1 : Int32) else 0))]) by
    by_cases c1014 : (0 : Int64) < xx
    · refine own_ifN W1012 132 at_129 ((if0 _ _).trans (tlt ((lw_gt xx (0 : Int64)).mpr c1014)).2.2.2) rfl ?_
      refine own_iconst W1012 (1 : Int32) 133 at_132 rfl rfl ?_
      refine own_goto W1012 137 at_133 (by decide) (by decide) ?_
      first | (simp only [if_pos c1014] at J1013; exact J1013) | (simp only [if_pos c1014] at J1013 ⊢; exact J1013)
    · refine own_ifY W1012 136 at_129 ((if0 _ _).trans (flt (mt (lw_gt xx (0 : Int64)).mp c1014)).2.2.2) (by decide) (by decide) ?_
      refine own_iconst W1012 (0 : Int32) 137 at_136 rfl rfl ?_
      first | (simp only [if_neg c1014] at J1013; exact J1013) | (simp only [if_neg c1014] at J1013 ⊢; exact J1013)
  refine own_icmpN W1012 140 at_137 ((teq (rfl : (if (0 : Int64) < xx then (1 : Int32) else 0) = (if (0 : Int64) < xx then (1 : Int32) else (0 : Int32)))).2) rfl ?_
  refine own_iconst W1012 (1 : Int32) 141 at_140 rfl rfl ?_
  refine own_goto W1012 145 at_141 (by decide) (by decide) ?_
  refine own_istore W1012 147 #[.val (.long q1), .second, .val (.int p2), .val (.int p3), .val (.int p4), .val (.int p5), .val (.int (3 : Int32)), .val (.int d1), .val (.int d2), .val (.long xx), .second, .val (.ref ad), .val (.ref lg), .val (.int (1 : Int32))] at_145 rfl rfl ?_
  refine own_aload W1012 149 at_147 rfl rfl rfl ?_
  refine own_lconst W1012 (0 : Int64) 150 at_149 rfl rfl ?_
  refine own_aload W1012 152 at_150 rfl rfl rfl ?_
  have S_de := own_staK0 S0 (own_WK W1012)
  have V_de := V0.keep (own_WK W1012) nin0
  have hsH := own_le W1012
  have q_ad := X_ad.lt
  have q_lg := X_lg.lt
  have q_ml := X_ml.lt
  have q_ea := V_ea.lt
  refine own_callV W1012 (A := [(.long (0 : Int64)), (.ref ad)]) (wt := 0) (pc' := 155) (st := []) at_152 (wd77 hw) (wd78 hw) (own_nf W1012 (wd80 hw)) (wd80 hw) (wd79 hw) (wd61 hw) (wd81 hw) (by decide) X_lg (own_m12_3 l Z a0 hw [] h1011 lg (0 : Int64) ad de df ml (0 : Int64) ((((0 : Int32) + (1 : Int32)) + (1 : Int32)) + (1 : Int32)) ea (own_upd (own_upd (own_upd (fun _ => .null) 0 (.ref b0)) 1 (.ref b1)) 2 (.ref b2)) S_de V_de X_lg Fg_lg Fp_lg Ff_lg Fl_lg X_ml Fe_ml Fs_ml Fm_ml X_ad Fe_ad Fs_ad Fm_ad V_ea E_a ne_lg_ml (Ne.symm ne_ad_lg) (Ne.symm ne_ad_ml) ne_ml_de ne_lg_de ne_ad_de (Ne.symm ne_ea_lg) (Ne.symm ne_ea_ml) ne_ad_ea ne_ea_de) (allS (Or.inr o_lg) (allS (Or.inr os_ml) all0)) rfl pd_22 rfl (Nat.le_of_eq rfl) (by decide) (by decide) (by decide) (by decide) rfl ?_
  rintro T1015 h1015 _ W1015 K1015 P1015 ⟨rfl, ⟨pl1, em, mc1, vm, o_em, Fg_lg, Fp_lg, Ff_lg, Fl_lg, Fe_ml, Fs_ml, Fm_ml, V_em, hrm, E_m⟩⟩
  have X_ad := X_ad.keep K1015
  have Fe_ad := Fe_ad.keep K1015 (ninS ne_ad_lg (ninS ne_ad_ml nin0))
  have Fs_ad := Fs_ad.keep K1015 (ninS ne_ad_lg (ninS ne_ad_ml nin0))
  have Fm_ad := Fm_ad.keep K1015 (ninS ne_ad_lg (ninS ne_ad_ml nin0))
  have V_ea := V_ea.keep K1015 (ninS ne_ea_lg (ninS ne_ea_ml nin0))
  have E_a := E_a.keep K1015
  have X_lg := X_lg.keep K1015
  have X_ml := X_ml.keep K1015
  show own_Go p e below C T1015 (mkF m 155 #[.val (.long q1), .second, .val (.int p2), .val (.int p3), .val (.int p4), .val (.int p5), .val (.int (3 : Int32)), .val (.int d1), .val (.int d2), .val (.long xx), .second, .val (.ref ad), .val (.ref lg), .val (.int (1 : Int32))] [])
  have ne_lg_em : lg ≠ em := Nat.ne_of_lt (Nat.lt_of_lt_of_le q_lg o_em)
  have ne_ml_em : ml ≠ em := Nat.ne_of_lt (Nat.lt_of_lt_of_le q_ml o_em)
  have os_em : s.heap.size ≤ em := Nat.le_trans hsH o_em
  refine own_iload W1015 157 at_155 rfl rfl ?_
  refine own_ifN W1015 160 at_157 ((if0 _ _).trans (feq ((by decide) : ¬ ((1 : Int32) = (0 : Int32)))).1) rfl ?_
  refine own_aload W1015 162 at_160 rfl rfl rfl ?_
  refine own_lload W1015 164 at_162 rfl rfl ?_
  refine own_callV W1015 (A := [(.long xx)]) (wt := 0) (pc' := 167) (st := []) at_164 (wd70 hw) (wd71 hw) (own_nf W1015 (wd73 hw)) (wd73 hw) (wd72 hw) (wd61 hw) (wd74 hw) (by decide) X_lg (own_m11 l Z a0 hw [] h1015 lg xx (0 : Int64) Ff_lg) all0 rfl pd_21 rfl (Nat.le_of_eq rfl) (by decide) (by decide) (by decide) (by decide) rfl ?_
  rintro T1016 h1016 _ W1016 K1016 P1016 rfl
  rw [P1016 rfl rfl] at W1016
  show own_Go p e below C T1016 (mkF m 167 #[.val (.long q1), .second, .val (.int p2), .val (.int p3), .val (.int p4), .val (.int p5), .val (.int (3 : Int32)), .val (.int d1), .val (.int d2), .val (.long xx), .second, .val (.ref ad), .val (.ref lg), .val (.int (1 : Int32))] [(.int (if (0 : Int64) < xx then (1 : Int32) else 0))])
  refine own_lload W1016 169 at_167 rfl rfl ?_
  refine own_lconst W1016 (0 : Int64) 170 at_169 rfl rfl ?_
  refine own_lcmp W1016 171 at_170 rfl ?_
  suffices J1017 : own_Go p e below C T1016 (mkF m 179 #[.val (.long q1), .second, .val (.int p2), .val (.int p3), .val (.int p4), .val (.int p5), .val (.int (3 : Int32)), .val (.int d1), .val (.int d2), .val (.long xx), .second, .val (.ref ad), .val (.ref lg), .val (.int (1 : Int32))] [(.int (if (0 : Int64) < xx then (1 : Int32) else (0 : Int32))), (.int (if (0 : Int64) < xx then (1 : Int32) else 0))]) by
    by_cases c1018 : (0 : Int64) < xx
    · refine own_ifN W1016 174 at_171 ((if0 _ _).trans (tlt ((lw_gt xx (0 : Int64)).mpr c1018)).2.2.2) rfl ?_
      refine own_iconst W1016 (1 : Int32) 175 at_174 rfl rfl ?_
      refine own_goto W1016 179 at_175 (by decide) (by decide) ?_
      first | (simp only [if_pos c1018] at J1017; exact J1017) | (simp only [if_pos c1018] at J1017 ⊢; exact J1017)
    · refine own_ifY W1016 178 at_171 ((if0 _ _).trans (flt (mt (lw_gt xx (0 : Int64)).mp c1018)).2.2.2) (by decide) (by decide) ?_
      refine own_iconst W1016 (0 : Int32) 179 at_178 rfl rfl ?_
      first | (simp only [if_neg c1018] at J1017; exact J1017) | (simp only [if_neg c1018] at J1017 ⊢; exact J1017)
  refine own_icmpN W1016 182 at_179 ((teq (rfl : (if (0 : Int64) < xx then (1 : Int32) else 0) = (if (0 : Int64) < xx then (1 : Int32) else (0 : Int32)))).2) rfl ?_
  refine own_iconst W1016 (1 : Int32) 183 at_182 rfl rfl ?_
  refine own_goto W1016 187 at_183 (by decide) (by decide) ?_
  refine own_istore W1016 189 #[.val (.long q1), .second, .val (.int p2), .val (.int p3), .val (.int p4), .val (.int p5), .val (.int (3 : Int32)), .val (.int d1), .val (.int d2), .val (.long xx), .second, .val (.ref ad), .val (.ref lg), .val (.int (1 : Int32))] at_187 rfl rfl ?_
  rcases (by omega : d1n = 0 ∨ d1n = 1 ∨ d1n = 2 ∨ d1n = 3) with rfl | rfl | rfl | rfl
  · obtain rfl : d1 = (0 : Int32) := own_lit32 hd1 _ rfl
    show own_Go p e below C T1016 (mkF m 189 #[.val (.long q1), .second, .val (.int p2), .val (.int p3), .val (.int p4), .val (.int p5), .val (.int (3 : Int32)), .val (.int (0 : Int32)), .val (.int d2), .val (.long xx), .second, .val (.ref ad), .val (.ref lg), .val (.int (1 : Int32))] [])
    exact own_kd_30 l Z a0 hw h0 q1 p2 p3 p4 p5 p e s m below meth c C hC T1016 h1015 de df xx d2 d2n ad lg ml pl1 em mc1 vm W1016 S0 V0 hd2 h12 os_lg os_ml os_em X_lg Fg_lg Fp_lg Ff_lg Fl_lg X_ml Fe_ml Fs_ml Fm_ml V_em hrm E_m ne_lg_ml ne_lg_em ne_ml_em
  · obtain rfl : d1 = (1 : Int32) := own_lit32 hd1 _ rfl
    show own_Go p e below C T1016 (mkF m 189 #[.val (.long q1), .second, .val (.int p2), .val (.int p3), .val (.int p4), .val (.int p5), .val (.int (3 : Int32)), .val (.int (1 : Int32)), .val (.int d2), .val (.long xx), .second, .val (.ref ad), .val (.ref lg), .val (.int (1 : Int32))] [])
    exact own_kd_31 l Z a0 hw h0 q1 p2 p3 p4 p5 p e s m below meth c C hC T1016 h1015 de df xx d2 d2n ad lg ml pl1 em mc1 vm W1016 S0 V0 hd2 h12 os_lg os_ml os_em X_lg Fg_lg Fp_lg Ff_lg Fl_lg X_ml Fe_ml Fs_ml Fm_ml V_em hrm E_m ne_lg_ml ne_lg_em ne_ml_em
  · obtain rfl : d1 = (2 : Int32) := own_lit32 hd1 _ rfl
    show own_Go p e below C T1016 (mkF m 189 #[.val (.long q1), .second, .val (.int p2), .val (.int p3), .val (.int p4), .val (.int p5), .val (.int (3 : Int32)), .val (.int (2 : Int32)), .val (.int d2), .val (.long xx), .second, .val (.ref ad), .val (.ref lg), .val (.int (1 : Int32))] [])
    exact own_kd_32 l Z a0 hw h0 q1 p2 p3 p4 p5 p e s m below meth c C hC T1016 h1015 de df xx d2 d2n ad lg ml pl1 em mc1 vm W1016 S0 V0 hd2 h12 os_lg os_ml os_em X_lg Fg_lg Fp_lg Ff_lg Fl_lg X_ml Fe_ml Fs_ml Fm_ml V_em hrm E_m ne_lg_ml ne_lg_em ne_ml_em
  · obtain rfl : d1 = (3 : Int32) := own_lit32 hd1 _ rfl
    show own_Go p e below C T1016 (mkF m 189 #[.val (.long q1), .second, .val (.int p2), .val (.int p3), .val (.int p4), .val (.int p5), .val (.int (3 : Int32)), .val (.int (3 : Int32)), .val (.int d2), .val (.long xx), .second, .val (.ref ad), .val (.ref lg), .val (.int (1 : Int32))] [])
    exact own_kd_33 l Z a0 hw h0 q1 p2 p3 p4 p5 p e s m below meth c C hC T1016 h1015 de df xx d2 d2n ad lg ml pl1 em mc1 vm W1016 S0 V0 hd2 h12 os_lg os_ml os_em X_lg Fg_lg Fp_lg Ff_lg Fl_lg X_ml Fe_ml Fs_ml Fm_ml V_em hrm E_m ne_lg_ml ne_lg_em ne_ml_em
set_option maxRecDepth 65536 in
set_option maxHeartbeats 40000000 in
theorem own_m0 (l : Launch) (Z : State) (a0 : Array Value) (hw : ∀ d ∈ tables_1, d.before a0 Z = true) (wo : List Jvm.Cond) (h0 : Heap) (q1 : Int64) (p2 : Int32) (p3 : Int32) (p4 : Int32) (p5 : Int32) (de : Addr) (df : Nat → Value) (S_de : Sta Z h0 "java/util/ArrayList" "DEFAULTCAPACITY_EMPTY_ELEMENTDATA" "[Ljava/lang/Object;" (.ref de)) (V_de : own_A Z h0 de (.object "java/lang/Object") 0 df) :
    own_M l Z wo x code maxLocals ret room_1 [] #[(.long q1), (.int p2), (.int p3), (.int p4), (.int p5)] h0 (fun v h => v = some (.int (1 : Int32))) := by
  refine own_body (plainFor_of_name pn_0) (fun m => ef_m0 m q1 p2 p3 p4 p5) ?_
  intro p e s m below meth c C hC T0 W0
  have eH := own_W0 W0
  have S0 : Sta Z s.heap "java/util/ArrayList" "DEFAULTCAPACITY_EMPTY_ELEMENTDATA" "[Ljava/lang/Object;" (.ref de) := by rw [← eH]; exact S_de
  have V0 : own_A Z s.heap de (.object "java/lang/Object") 0 df := by rw [← eH]; exact V_de
  refine own_iloadN W0 1 at_0 rfl rfl ?_
  refine own_iconst W0 (3 : Int32) 2 at_1 rfl rfl ?_
  refine own_iand W0 3 at_2 rfl ?_
  obtain ⟨kn, hk, hk4⟩ := own_k3 p2
  generalize h_kv : (p2 &&& (3 : Int32)) = kv at hk ⊢
  show own_Go p e below C T0 (mkF m 3 #[.val (.long q1), .second, .val (.int p2), .val (.int p3), .val (.int p4), .val (.int p5), .unset, .unset, .unset, .unset, .unset, .unset, .unset, .unset] [(.int kv)])
  refine own_istore W0 5 #[.val (.long q1), .second, .val (.int p2), .val (.int p3), .val (.int p4), .val (.int p5), .val (.int kv), .unset, .unset, .unset, .unset, .unset, .unset, .unset] at_3 rfl rfl ?_
  refine own_iloadN W0 6 at_5 rfl rfl ?_
  refine own_ldcInt W0 8 at_6 (wd0 hw) rfl ?_
  refine own_iand W0 9 at_8 rfl ?_
  refine own_iload W0 11 at_9 rfl rfl ?_
  refine own_iconst W0 (1 : Int32) 12 at_11 rfl rfl ?_
  refine own_iadd W0 13 at_12 rfl ?_
  have hk1 := own_addN hk (j := 1) (v := 1) rfl (by omega)
  refine own_irem W0 14 at_13 (own_nz32 hk1 (by omega)) rfl ?_
  obtain ⟨d1n, hd1, hd1l⟩ := own_rm (u := p3) hk1 (by omega)
  generalize h_d1 : ((p3 &&& (2147483647 : Int32)) % (kv + (1 : Int32))) = d1 at hd1 ⊢
  show own_Go p e below C T0 (mkF m 14 #[.val (.long q1), .second, .val (.int p2), .val (.int p3), .val (.int p4), .val (.int p5), .val (.int kv), .unset, .unset, .unset, .unset, .unset, .unset, .unset] [(.int d1)])
  refine own_istore W0 16 #[.val (.long q1), .second, .val (.int p2), .val (.int p3), .val (.int p4), .val (.int p5), .val (.int kv), .val (.int d1), .unset, .unset, .unset, .unset, .unset, .unset] at_14 rfl rfl ?_
  refine own_iload W0 18 at_16 rfl rfl ?_
  refine own_iload W0 20 at_18 rfl rfl ?_
  refine own_ldcInt W0 22 at_20 (wd0 hw) rfl ?_
  refine own_iand W0 23 at_22 rfl ?_
  refine own_iload W0 25 at_23 rfl rfl ?_
  refine own_iload W0 27 at_25 rfl rfl ?_
  refine own_isub W0 28 at_27 rfl ?_
  refine own_iconst W0 (1 : Int32) 29 at_28 rfl rfl ?_
  refine own_iadd W0 30 at_29 rfl ?_
  have hk2 := own_addN (own_subN hk hd1 (by omega)) (j := 1) (v := 1) rfl (by omega)
  refine own_irem W0 31 at_30 (own_nz32 hk2 (by omega)) rfl ?_
  obtain ⟨rn, hrn, hrl⟩ := own_rm (u := p4) hk2 (by omega)
  refine own_iadd W0 32 at_31 rfl ?_
  have hd2 := own_addN hd1 hrn (by omega)
  obtain ⟨d2n, hd2n⟩ : ∃ d2n, d2n = d1n + rn := ⟨_, rfl⟩
  rw [← hd2n] at hd2
  generalize h_d2 : (d1 + ((p4 &&& (2147483647 : Int32)) % ((kv - d1) + (1 : Int32)))) = d2 at hd2 ⊢
  show own_Go p e below C T0 (mkF m 32 #[.val (.long q1), .second, .val (.int p2), .val (.int p3), .val (.int p4), .val (.int p5), .val (.int kv), .val (.int d1), .unset, .unset, .unset, .unset, .unset, .unset] [(.int d2)])
  refine own_istore W0 34 #[.val (.long q1), .second, .val (.int p2), .val (.int p3), .val (.int p4), .val (.int p5), .val (.int kv), .val (.int d1), .val (.int d2), .unset, .unset, .unset, .unset, .unset] at_32 rfl rfl ?_
  refine own_iload W0 36 at_34 rfl rfl ?_
  refine own_iconst W0 (1 : Int32) 37 at_36 rfl rfl ?_
  refine own_iand W0 38 at_37 rfl ?_
  have J1 : ∀ (T1 : State) (xx : Int64), own_W p l e room_1 s m #[(.long q1), (.int p2), (.int p3), (.int p4), (.int p5)] below meth c Z x ret code maxLocals [] T1 h0 (0) (0) → own_Go p e below C T1 (mkF m 54 #[.val (.long q1), .second, .val (.int p2), .val (.int p3), .val (.int p4), .val (.int p5), .val (.int kv), .val (.int d1), .val (.int d2), .unset, .unset, .unset, .unset, .unset] [(.long xx)]) := by
    intro T1 xx W1 
    refine own_lstore W1 56 #[.val (.long q1), .second, .val (.int p2), .val (.int p3), .val (.int p4), .val (.int p5), .val (.int kv), .val (.int d1), .val (.int d2), .val (.long xx), .second, .unset, .unset, .unset] at_54 rfl rfl ?_
    have h12 : d1n ≤ d2n ∧ d2n ≤ kn := by omega
    rcases own_lt4 hk4 with rfl | rfl | rfl | rfl
    · obtain rfl : kv = (0 : Int32) := own_lit32 hk _ rfl
      show own_Go p e below C T1 (mkF m 56 #[.val (.long q1), .second, .val (.int p2), .val (.int p3), .val (.int p4), .val (.int p5), .val (.int (0 : Int32)), .val (.int d1), .val (.int d2), .val (.long xx), .second, .unset, .unset, .unset] [])
      exact own_k_0 l Z a0 hw h0 q1 p2 p3 p4 p5 p e s m below meth c C hC T1 h0 de df xx d1 d2 d1n d2n W1 S0 V0 hd1 hd2 h12
    · obtain rfl : kv = (1 : Int32) := own_lit32 hk _ rfl
      show own_Go p e below C T1 (mkF m 56 #[.val (.long q1), .second, .val (.int p2), .val (.int p3), .val (.int p4), .val (.int p5), .val (.int (1 : Int32)), .val (.int d1), .val (.int d2), .val (.long xx), .second, .unset, .unset, .unset] [])
      exact own_k_1 l Z a0 hw h0 q1 p2 p3 p4 p5 p e s m below meth c C hC T1 h0 de df xx d1 d2 d1n d2n W1 S0 V0 hd1 hd2 h12
    · obtain rfl : kv = (2 : Int32) := own_lit32 hk _ rfl
      show own_Go p e below C T1 (mkF m 56 #[.val (.long q1), .second, .val (.int p2), .val (.int p3), .val (.int p4), .val (.int p5), .val (.int (2 : Int32)), .val (.int d1), .val (.int d2), .val (.long xx), .second, .unset, .unset, .unset] [])
      exact own_k_2 l Z a0 hw h0 q1 p2 p3 p4 p5 p e s m below meth c C hC T1 h0 de df xx d1 d2 d1n d2n W1 S0 V0 hd1 hd2 h12
    · obtain rfl : kv = (3 : Int32) := own_lit32 hk _ rfl
      show own_Go p e below C T1 (mkF m 56 #[.val (.long q1), .second, .val (.int p2), .val (.int p3), .val (.int p4), .val (.int p5), .val (.int (3 : Int32)), .val (.int d1), .val (.int d2), .val (.long xx), .second, .unset, .unset, .unset] [])
      exact own_k_3 l Z a0 hw h0 q1 p2 p3 p4 p5 p e s m below meth c C hC T1 h0 de df xx d1 d2 d1n d2n W1 S0 V0 hd1 hd2 h12
  by_cases c2 : (p5 &&& (1 : Int32)) = (0 : Int32)
  · refine own_ifY W0 45 at_38 ((if0 _ _).trans (teq c2).1) (by decide) (by decide) ?_
    refine own_iload W0 47 at_45 rfl rfl ?_
    refine own_i2l W0 48 at_47 rfl ?_
    refine own_lloadN W0 49 at_48 rfl rfl ?_
    refine own_ldc2Long W0 52 at_49 (wd261 hw) rfl ?_
    refine own_lrem W0 53 at_52 (by decide) rfl ?_
    refine own_ladd W0 54 at_53 rfl ?_
    exact J1 _ _ W0
  · refine own_ifN W0 41 at_38 ((if0 _ _).trans (feq c2).1) rfl ?_
    refine own_lloadN W0 42 at_41 rfl rfl ?_
    refine own_goto W0 54 at_42 (by decide) (by decide) ?_
    exact J1 _ _ W0
theorem own_empty {args : Array Value} {s : State} (H : ∀ d ∈ jdkStatics_1, d.before args s = true) : ∃ (de : Addr) (df : Nat → Value), Sta s s.heap "java/util/ArrayList" "DEFAULTCAPACITY_EMPTY_ELEMENTDATA" "[Ljava/lang/Object;" (.ref de) ∧ own_A s s.heap de (.object "java/lang/Object") 0 df := by
  have h0 : (Cond.laysStatic "java/util/ArrayList" "EMPTY_ELEMENTDATA" "[Ljava/lang/Object;").before args s = true := H _ (List.mem_of_getElem? (i := 0) rfl)
  have h1 : (Cond.initializedFor "java/util/ArrayList" "EMPTY_ELEMENTDATA" "[Ljava/lang/Object;").before args s = true := H _ (List.mem_of_getElem? (i := 1) rfl)
  have h2 : (Cond.laysStatic "java/util/ArrayList" "DEFAULTCAPACITY_EMPTY_ELEMENTDATA" "[Ljava/lang/Object;").before args s = true := H _ (List.mem_of_getElem? (i := 2) rfl)
  have h6 : (Cond.arrayOf (Term.static "java/util/ArrayList" "DEFAULTCAPACITY_EMPTY_ELEMENTDATA" "[Ljava/lang/Object;") (.object "java/lang/Object")).before args s = true := H _ (List.mem_of_getElem? (i := 6) rfl)
  have h7 : (Cond.exactly (Term.static "java/util/ArrayList" "DEFAULTCAPACITY_EMPTY_ELEMENTDATA" "[Ljava/lang/Object;") "[Ljava/lang/Object;").before args s = true := H _ (List.mem_of_getElem? (i := 7) rfl)
  have h8 : (Cond.eq (Term.length (Term.static "java/util/ArrayList" "DEFAULTCAPACITY_EMPTY_ELEMENTDATA" "[Ljava/lang/Object;")) (Term.int (0 : Int32))).before args s = true := H _ (List.mem_of_getElem? (i := 8) rfl)
  obtain ⟨c, k, i, f, st, cell, hc, hf, hs, hst, hS, hv, -, hsl, -⟩ := Cond.laysStatic_spec h0
  have hinit := Cond.initializedFor_spec hf h1
  obtain ⟨c', k', i', f', st', cell', hc', hf', hs', hst', hS', hv', -, hsl', -⟩ := Cond.laysStatic_spec h2
  cases hc.symm.trans hc'
  obtain rfl : k' = k := by
    have q1 := (State.fieldFound?_spec hf).1
    have q2 := (State.fieldFound?_spec hf').1
    rw [q1] at q2; exact (Option.some.inj q2).symm
  obtain ⟨ca, vca⟩ := exa_v (Cond.before_iff.mp h7)
  obtain ⟨A, hA⟩ := Arr.start vca (Cond.before_iff.mp h6)
  have v6 := eqv_i (Term.int_eval (0 : Int32)) (Cond.before_iff.mp h8)
  obtain ⟨b, cb, g1, g2, g3, g4⟩ := length_spec v6
  cases g1.symm.trans vca
  have hat : s.arrayAt? ca = some A := hA.fin (Vm.Alike.refl _)
  cases g2.symm.trans hat
  have hsz : A.slots.size = 0 := by
    have q1 := len_toInt g3
    have q2 := Value.int.inj g4
    rw [← q2] at q1
    have q3 : (0 : Int32).toInt = 0 := rfl
    omega
  have vcc : cell'.slots[f'.slot]? = some (.ref ca) := by
    have q := vca
    simp [Term.eval, State.fieldNamed?, hf', hs', hst', hS', hv'] at q
    simpa using q
  exact ⟨ca, fun _ => .null, ⟨_, i', _, f', st', cell', hf', hs', hinit, hst', hS', hv', vcc⟩, A, hA, hsz, fun j hj => absurd hj (by omega)⟩
set_option maxRecDepth 65536 in
set_option maxHeartbeats 40000000 in
theorem comes_1 {Post : Tables → Env → Array Value → State → Outcome → State → Prop} (hpost : ∀ tb e args s v u, (limb_1_1.after args s (.returned v) u = true ∧ limb_1_2.after args s (.returned v) u = true ∧ True) → FrameEnd s (.returned v) u (Jvm.fieldLocs frame_1_writes args s ++ Jvm.arrayLocs frame_1_arrays args s ++ Jvm.staticLocs frame_1_statics s) 32 192 → Post tb e args s (.returned v) u) :
    ArmFor flags0 classFile x code maxLocals ret World_1 tables_1 room_1 Calls_1 rest_1 Pre_1 Post := by
  intro l hfl _ _ p e ha hc hk s m args below hf hA hF happ hP
  obtain ⟨hcalls, hrest, hpre⟩ := hP
  obtain ⟨-, -, -, hnamed, -, -, -, hat⟩ := (Spec.applies_iff hf).mp happ
  obtain ⟨hg, hn⟩ := and_e (Cond.before_iff.mp (show (Jvm.Cond.and given_1 narrow_1).before args s = true from hpre))
  obtain ⟨g1, g2⟩ := and_e hg
  obtain ⟨g3, g4⟩ := and_e g2
  obtain ⟨g5, g6⟩ := and_e g4
  obtain ⟨g7, g8⟩ := and_e g6
  obtain ⟨g9, g10⟩ := and_e g8
  obtain ⟨w0, w1, w2, w3, w4, rfl⟩ : ∃ w0 w1 w2 w3 w4 : Value, args = #[w0, w1, w2, w3, w4] := by
    have hs : args.size = 5 := by simpa [Cond.value, given_1] using g1
    obtain ⟨L⟩ := args
    match L, hs with
    | [w0, w1, w2, w3, w4], _ => exact ⟨w0, w1, w2, w3, w4, rfl⟩
  have hw := fun d (hd : d ∈ tables_1) => atoms_spec (ws := Jvm.Cond.code x code maxLocals ret :: tables_1) hat d (List.mem_cons_of_mem _ hd)
  have hfit : Fit s := fun {y c} hc i hi => by
    obtain ⟨ha, rfl⟩ := Array.getElem?_eq_some_iff.mp hc
    have q := List.all_eq_true.mp ((Array.all_eq_true_iff_forall_mem.mp hF) _ (Array.getElem_mem ha)) i (List.mem_range.mpr hi)
    simpa [Array.getElem?_eq_getElem hi] using q
  obtain ⟨hsets, hown0⟩ := atoms_of _ (rest_1_c_eq ▸ (show rest_1_c.before _ s = true from hrest))
  have hr0 := Cond.before_iff.mp hown0
  obtain ⟨i0, ei0⟩ := isL_v g3
  obtain rfl : w0 = (.long i0) := Option.some.inj ei0
  obtain ⟨i1, ei1⟩ := is_v g5
  obtain rfl : w1 = (.int i1) := Option.some.inj ei1
  obtain ⟨i2, ei2⟩ := is_v g7
  obtain rfl : w2 = (.int i2) := Option.some.inj ei2
  obtain ⟨i3, ei3⟩ := is_v g9
  obtain rfl : w3 = (.int i3) := Option.some.inj ei3
  obtain ⟨i4, ei4⟩ := is_v g10
  obtain rfl : w4 = (.int i4) := Option.some.inj ei4
  obtain ⟨de, df, sD, vD⟩ := own_empty hsets
  obtain ⟨n, o, h1, h2, h3, _, L, rfl, ⟨N, -, -, rfl⟩, hq⟩ := own_m0 l s _ hw tables_1 s.heap i0 i1 i2 i3 i4 de df sD vD p e ha hc hk s m _ below hf ((Spec.applies_iff_loose hf).mp happ).1 ⟨rfl, State.Warmed39.refl s, rfl⟩ trivial
  refine ⟨n, _, h1, h2, h3, hpost _ _ _ _ _ _ ⟨Cond.after_iff.mpr rfl, Cond.after_iff.mpr (eq_i res_at (Term.int_eval (1)) rfl), trivial⟩ ⟨hq.1, hq.2.1, (hq.2.2.sift fun y hy => Or.inr ((N y hy).resolve_left (fun q => nomatch q))).mono (by decide) (by decide)⟩⟩
theorem main_1_1 : Claimed_1_1 := comes_1 fun _ _ _ _ _ _ h hF => ⟨h.1, hF⟩
theorem main_1_2 : Claimed_1_2 := comes_1 fun _ _ _ _ _ _ h hF => ⟨h.2.1, hF⟩
end Jvm.Pilot.@@N@@
namespace Jvm.Pilot.@@N@@
open Jvm Jvm.ClassFile Sem Op Lib Jvm.Free Jvm.Stand Jvm.Pilot.@@N@@.Jvm.D
/-! MADE BY PROGRAM (witnessworld.py) out of the Statement's table words and the real class files: 28 classes; the members and pool entries that the words name. The judged class is class 1, her method 1. -/
namespace start1
open Jvm.ClassFile
def u (s : String) : CpInfo := .utf8 (stringToUtf16 s)
/-- a pool by its gaps: so many unusable entries, then the entry; so many at the end -/
def gap : Nat → List CpInfo → List CpInfo
  | 0, r => r
  | n + 1, r => .unusable :: gap n r
def poolList (es : List (Nat × CpInfo)) (last : Nat) : List CpInfo := es.foldr (fun e r => gap e.1 (e.2 :: r)) (gap last [])
def pool (es : List (Nat × CpInfo)) (last : Nat) : Array CpInfo := ⟨poolList es last⟩
def fileOf (pool : Array CpInfo) (this : Nat) (attrs : Array Attribute := #[]) (ms : Array MethodInfo := #[]) (fl : Nat := 33) (sup : Nat := 0) (ifs : Array Nat := #[]) (fds : Array FieldInfo := #[]) : ClassFile where
  minorVersion := 0
  majorVersion := 65
  constantPool := pool
  accessFlags := fl
  thisClass := this
  superClass := sup
  interfaces := ifs
  fields := fds
  methods := ms
  attributes := attrs
def plain (name : String) (sup : Option ClassId) : Class where
  name := name
  kind := .ordinary
  loader := none
  accessFlags := 33
  super := sup
  interfaces := #[]
  cf := none
  fields := #[]
  methods := #[]
  instanceTypes := #[]
  staticTypes := #[]
  resolved := #[]
  callSites := []
  init := .initialized
  statics := none
  mirror := none

def pool0 : Array CpInfo := pool [(5, u "<init>"), (0, u "()V"), (1, .class_ 10), (1, u "java/lang/Object")] 113

def k0c0 : Code := { maxStack := 0, maxLocals := 1, code := object_method_1_code, exceptionTable := #[], attributes := #[] }
def k0m0 : Method := { name := "<init>", desc := "()V", sig := { parameters := [], returnType := none }, accessFlags := 1, code := some k0c0 }
/-- java/lang/Object -/
def k0 : Class := { plain "java/lang/Object" none with
  accessFlags := 33
  interfaces := #[]
  cf := some (fileOf pool0 8 #[] #[{ accessFlags := 1, nameIndex := 5, descriptorIndex := 6, attributes := #[] }] 33 0 #[] #[])
  fields := #[]
  methods := #[k0m0]
  instanceTypes := #[]
  staticTypes := #[]
  resolved := Array.replicate 124 none
  statics := none }

def pool1 : Array CpInfo := pool [(2, .class_ 4), (0, .nameAndType 5 6), (0, u "java/lang/Object"), (0, u "<init>"), (0, u "()V"), (0, .integer 2147483647), (0, .long 3), (1, .class_ 11), (0, u "java/util/ArrayList"), (0, .methodref 10 3), (0, .methodref 10 14), (0, .nameAndType 15 16), (0, u "add"), (0, u "(Ljava/lang/Object;)Z"), (0, .class_ 18), (0, u "com/example/redelivery/redelivery/engine/MemoryLog"), (0, .methodref 17 3), (0, .methodref 17 21), (0, .nameAndType 22 23), (0, u "deletesBefore"), (0, u "(J)Z"), (0, .methodref 17 25), (0, .nameAndType 26 27), (0, u "append"), (0, u "(JLjava/util/List;)V"), (0, .methodref 17 29), (0, .nameAndType 30 31), (0, u "dropBefore"), (0, u "(J)V"), (0, .class_ 33), (0, u "com/example/redelivery/redelivery/engine/MemoryLogDeletesBeforePinLaw"), (2, u "law"), (0, u "(JIIII)Z")] 3

def k1m0 : Method := { name := "<init>", desc := "()V", sig := { parameters := [], returnType := none }, accessFlags := 1, code := none }
def k1c1 : Code := { maxStack := 6, maxLocals := 14, code := code, exceptionTable := #[], attributes := #[] }
def k1m1 : Method := { name := "law", desc := "(JIIII)Z", sig := { parameters := [.long, .int, .int, .int, .int], returnType := some .boolean }, accessFlags := 9, code := some k1c1 }
/-- com/example/redelivery/redelivery/engine/MemoryLogDeletesBeforePinLaw -/
def k1 : Class := { plain "com/example/redelivery/redelivery/engine/MemoryLogDeletesBeforePinLaw" (some 0) with
  accessFlags := 49
  interfaces := #[]
  cf := some (fileOf pool1 32 #[] #[{ accessFlags := 1, nameIndex := 5, descriptorIndex := 6, attributes := #[] }, { accessFlags := 9, nameIndex := 36, descriptorIndex := 37, attributes := #[] }] 49 2 #[] #[])
  fields := #[]
  methods := #[k1m0, k1m1]
  instanceTypes := #[]
  staticTypes := #[]
  resolved := Array.replicate 41 none
  statics := none }

def pool2 : Array CpInfo := pool [(8, .class_ 10), (1, u "java/lang/Iterable"), (24, .class_ 36), (0, u "java/lang/Object")] 25

/-- java/lang/Iterable -/
def k2 : Class := { plain "java/lang/Iterable" (some 0) with
  accessFlags := 1537
  interfaces := #[]
  cf := some (fileOf pool2 8 #[] #[] 1537 35 #[] #[])
  fields := #[]
  methods := #[]
  instanceTypes := #[]
  staticTypes := #[]
  resolved := Array.replicate 62 none
  statics := none }

def pool3 : Array CpInfo := pool [(10, .class_ 12), (1, u "java/util/Collection"), (47, .class_ 61), (0, u "java/lang/Object"), (0, .class_ 63), (0, u "java/lang/Iterable")] 51

/-- java/util/Collection -/
def k3 : Class := { plain "java/util/Collection" (some 0) with
  accessFlags := 1537
  interfaces := #[2]
  cf := some (fileOf pool3 10 #[] #[] 1537 60 #[62] #[])
  fields := #[]
  methods := #[]
  instanceTypes := #[]
  staticTypes := #[]
  resolved := Array.replicate 115 none
  statics := none }

def pool4 : Array CpInfo := pool [(1, .methodref 2 3), (0, .class_ 4), (0, .nameAndType 5 6), (0, u "java/lang/Object"), (0, u "<init>"), (0, u "()V"), (1, .class_ 10), (1, u "java/util/AbstractCollection"), (0, u "size"), (0, u "()I"), (64, .class_ 78), (0, u "java/util/Collection")] 81

def k4c0 : Code := { maxStack := 1, maxLocals := 1, code := jdk_22_method_1_code, exceptionTable := #[], attributes := #[] }
def k4m0 : Method := { name := "<init>", desc := "()V", sig := { parameters := [], returnType := none }, accessFlags := 4, code := some k4c0 }
def k4m1 : Method := { name := "size", desc := "()I", sig := { parameters := [], returnType := some .int }, accessFlags := 1025, code := none }
/-- java/util/AbstractCollection -/
def k4 : Class := { plain "java/util/AbstractCollection" (some 0) with
  accessFlags := 1057
  interfaces := #[3]
  cf := some (fileOf pool4 8 #[] #[{ accessFlags := 4, nameIndex := 5, descriptorIndex := 6, attributes := #[] }, { accessFlags := 1025, nameIndex := 11, descriptorIndex := 12, attributes := #[] }] 1057 2 #[77] #[])
  fields := #[]
  methods := #[k4m0, k4m1]
  instanceTypes := #[]
  staticTypes := #[]
  resolved := Array.replicate 160 none
  statics := none }

def pool5 : Array CpInfo := pool [(8, .class_ 10), (1, u "java/util/SequencedCollection"), (15, .class_ 27), (0, u "java/lang/Object"), (0, .class_ 29), (0, u "java/util/Collection")] 27

/-- java/util/SequencedCollection -/
def k5 : Class := { plain "java/util/SequencedCollection" (some 0) with
  accessFlags := 1537
  interfaces := #[3]
  cf := some (fileOf pool5 8 #[] #[] 1537 26 #[28] #[])
  fields := #[]
  methods := #[]
  instanceTypes := #[]
  staticTypes := #[]
  resolved := Array.replicate 57 none
  statics := none }

def pool6 : Array CpInfo := pool [(8, .class_ 10), (1, u "java/util/List"), (19, u "set"), (29, u "add"), (3, u "(Ljava/lang/Object;)Z"), (7, u "()V"), (6, u "size"), (0, u "()I"), (22, .class_ 104), (0, u "java/lang/Object"), (15, .class_ 121), (0, u "java/util/SequencedCollection"), (1, u "iterator"), (0, u "()Ljava/util/Iterator;"), (44, u "clear"), (3, u "(ILjava/lang/Object;)Ljava/lang/Object;"), (8, u "subList"), (0, u "(II)Ljava/util/List;")] 67

def k6m0 : Method := { name := "size", desc := "()I", sig := { parameters := [], returnType := some .int }, accessFlags := 1025, code := none }
def k6m1 : Method := { name := "iterator", desc := "()Ljava/util/Iterator;", sig := { parameters := [], returnType := some (.object "java/util/Iterator") }, accessFlags := 1025, code := none }
def k6m2 : Method := { name := "add", desc := "(Ljava/lang/Object;)Z", sig := { parameters := [(.object "java/lang/Object")], returnType := some .boolean }, accessFlags := 1025, code := none }
def k6m3 : Method := { name := "clear", desc := "()V", sig := { parameters := [], returnType := none }, accessFlags := 1025, code := none }
def k6m4 : Method := { name := "set", desc := "(ILjava/lang/Object;)Ljava/lang/Object;", sig := { parameters := [.int, (.object "java/lang/Object")], returnType := some (.object "java/lang/Object") }, accessFlags := 1025, code := none }
def k6m5 : Method := { name := "subList", desc := "(II)Ljava/util/List;", sig := { parameters := [.int, .int], returnType := some (.object "java/util/List") }, accessFlags := 1025, code := none }
/-- java/util/List -/
def k6 : Class := { plain "java/util/List" (some 0) with
  accessFlags := 1537
  interfaces := #[5]
  cf := some (fileOf pool6 8 #[] #[{ accessFlags := 1025, nameIndex := 79, descriptorIndex := 80, attributes := #[] }, { accessFlags := 1025, nameIndex := 123, descriptorIndex := 124, attributes := #[] }, { accessFlags := 1025, nameIndex := 60, descriptorIndex := 64, attributes := #[] }, { accessFlags := 1025, nameIndex := 169, descriptorIndex := 72, attributes := #[] }, { accessFlags := 1025, nameIndex := 30, descriptorIndex := 173, attributes := #[] }, { accessFlags := 1025, nameIndex := 182, descriptorIndex := 183, attributes := #[] }] 1537 103 #[120] #[])
  fields := #[]
  methods := #[k6m0, k6m1, k6m2, k6m3, k6m4, k6m5]
  instanceTypes := #[]
  staticTypes := #[]
  resolved := Array.replicate 251 none
  statics := none }

def pool7 : Array CpInfo := pool [(1, .methodref 2 3), (0, .class_ 4), (0, .nameAndType 5 6), (0, u "java/util/AbstractCollection"), (0, u "<init>"), (0, u "()V"), (0, .fieldref 8 9), (0, .class_ 10), (0, .nameAndType 11 12), (0, u "java/util/AbstractList"), (0, u "modCount"), (0, u "I"), (0, .methodref 8 14), (0, .nameAndType 15 16), (0, u "size"), (0, u "()I"), (42, .methodref 8 60), (0, .nameAndType 61 62), (0, u "removeRange"), (0, u "(II)V"), (14, .class_ 78), (0, u "java/util/AbstractList$Itr"), (3, .class_ 83), (0, u "java/util/AbstractList$ListItr"), (5, u "subListRangeCheck"), (0, u "(III)V"), (2, .class_ 94), (0, u "java/util/AbstractList$RandomAccessSubList"), (3, .class_ 99), (0, u "java/util/AbstractList$SubList"), (33, .class_ 134), (0, u "java/util/List"), (45, u "clear"), (27, .class_ 209), (0, u "java/util/AbstractList$SubList$1"), (0, .class_ 211), (0, u "java/util/AbstractList$RandomAccessSpliterator")] 6

def k7c0 : Code := { maxStack := 2, maxLocals := 1, code := jdk_39_method_1_code, exceptionTable := #[], attributes := #[] }
def k7m0 : Method := { name := "<init>", desc := "()V", sig := { parameters := [], returnType := none }, accessFlags := 4, code := some k7c0 }
def k7c1 : Code := { maxStack := 3, maxLocals := 1, code := jdk_39_method_9_code, exceptionTable := #[], attributes := #[] }
def k7m1 : Method := { name := "clear", desc := "()V", sig := { parameters := [], returnType := none }, accessFlags := 1, code := some k7c1 }
def k7c2 : Code := { maxStack := 4, maxLocals := 3, code := jdk_39_method_15_code, exceptionTable := #[], attributes := #[] }
def k7m2 : Method := { name := "subListRangeCheck", desc := "(III)V", sig := { parameters := [.int, .int, .int], returnType := none }, accessFlags := 8, code := some k7c2 }
def k7c3 : Code := { maxStack := 2, maxLocals := 6, code := ⟨#[0x2a, 0x1b, 0xb6, 0x00, 0x2f, 0x4e, 0x03, 0x36, 0x04, 0x1c, 0x1b, 0x64, 0x36, 0x05, 0x15, 0x04, 0x15, 0x05, 0xa2, 0x00, 0x16, 0x2d, 0xb9, 0x00, 0x22, 0x01, 0x00, 0x57, 0x2d, 0xb9, 0x00, 0x8c, 0x01, 0x00, 0x84, 0x04, 0x01, 0xa7, 0xff, 0xe9, 0xb1]⟩, exceptionTable := #[], attributes := #[] }
def k7m3 : Method := { name := "removeRange", desc := "(II)V", sig := { parameters := [.int, .int], returnType := none }, accessFlags := 4, code := some k7c3 }
/-- java/util/AbstractList -/
def k7 : Class := { plain "java/util/AbstractList" (some 4) with
  accessFlags := 1057
  interfaces := #[6]
  cf := some (fileOf pool7 8 #[.nestMembers #[93, 98, 208, 210, 82, 77]] #[{ accessFlags := 4, nameIndex := 5, descriptorIndex := 6, attributes := #[] }, { accessFlags := 1, nameIndex := 180, descriptorIndex := 6, attributes := #[] }, { accessFlags := 8, nameIndex := 89, descriptorIndex := 90, attributes := #[] }, { accessFlags := 4, nameIndex := 61, descriptorIndex := 62, attributes := #[] }] 1057 2 #[133] #[{ accessFlags := 132, nameIndex := 11, descriptorIndex := 12, attributes := #[] }])
  fields := #[{ name := "modCount", type := .int, accessFlags := 132, slot := 0, constantValue := 0 }]
  methods := #[k7m0, k7m1, k7m2, k7m3]
  instanceTypes := #[.int]
  staticTypes := #[]
  resolved := Array.replicate 218 none
  statics := none }

def pool8 : Array CpInfo := pool [(1, .class_ 2), (0, u "java/util/RandomAccess"), (0, .class_ 4), (0, u "java/lang/Object")] 2

/-- java/util/RandomAccess -/
def k8 : Class := { plain "java/util/RandomAccess" (some 0) with
  accessFlags := 1537
  interfaces := #[]
  cf := some (fileOf pool8 1 #[] #[] 1537 3 #[] #[])
  fields := #[]
  methods := #[]
  instanceTypes := #[]
  staticTypes := #[]
  resolved := Array.replicate 7 none
  statics := none }

def pool9 : Array CpInfo := pool [(1, .class_ 2), (0, u "java/lang/Cloneable"), (0, .class_ 4), (0, u "java/lang/Object")] 2

/-- java/lang/Cloneable -/
def k9 : Class := { plain "java/lang/Cloneable" (some 0) with
  accessFlags := 1537
  interfaces := #[]
  cf := some (fileOf pool9 1 #[] #[] 1537 3 #[] #[])
  fields := #[]
  methods := #[]
  instanceTypes := #[]
  staticTypes := #[]
  resolved := Array.replicate 7 none
  statics := none }

def pool10 : Array CpInfo := pool [(1, .class_ 2), (0, u "java/io/Serializable"), (0, .class_ 4), (0, u "java/lang/Object")] 2

/-- java/io/Serializable -/
def k10 : Class := { plain "java/io/Serializable" (some 0) with
  accessFlags := 1537
  interfaces := #[]
  cf := some (fileOf pool10 1 #[] #[] 1537 3 #[] #[])
  fields := #[]
  methods := #[]
  instanceTypes := #[]
  staticTypes := #[]
  resolved := Array.replicate 7 none
  statics := none }

def pool11 : Array CpInfo := pool [(1, .methodref 2 3), (0, .class_ 4), (0, .nameAndType 5 6), (0, u "java/util/AbstractList"), (0, u "<init>"), (0, u "()V"), (0, .class_ 8), (0, u "java/lang/Object"), (0, .fieldref 10 11), (0, .class_ 12), (0, .nameAndType 13 14), (0, u "java/util/ArrayList"), (0, u "elementData"), (0, u "[Ljava/lang/Object;"), (2, u "EMPTY_ELEMENTDATA"), (21, .fieldref 10 40), (0, .nameAndType 41 14), (0, u "DEFAULTCAPACITY_EMPTY_ELEMENTDATA"), (5, u "()[Ljava/lang/Object;"), (0, .fieldref 10 49), (0, .nameAndType 50 51), (0, u "size"), (0, u "I"), (11, .fieldref 10 64), (0, .nameAndType 65 51), (0, u "modCount"), (3, .methodref 10 70), (0, .nameAndType 71 72), (0, u "grow"), (0, u "(I)[Ljava/lang/Object;"), (6, .methodref 80 81), (0, .class_ 82), (0, .nameAndType 83 84), (0, u "java/lang/Math"), (0, u "max"), (0, u "(II)I"), (11, u "(Ljava/lang/Object;)Z"), (15, .methodref 113 114), (0, .class_ 115), (0, .nameAndType 116 117), (0, u "java/lang/System"), (0, u "arraycopy"), (0, u "(Ljava/lang/Object;ILjava/lang/Object;II)V"), (0, .methodref 119 120), (0, .class_ 121), (0, .nameAndType 122 84), (0, u "java/util/Objects"), (0, u "checkIndex"), (0, .methodref 10 124), (0, .nameAndType 13 125), (0, u "(I)Ljava/lang/Object;"), (3, .methodref 10 130), (0, .nameAndType 71 47), (0, .methodref 10 132), (0, .nameAndType 133 134), (0, u "add"), (0, u "(Ljava/lang/Object;[Ljava/lang/Object;I)V"), (13, .class_ 149), (0, u "java/util/List"), (16, u "iterator"), (0, u "()Ljava/util/Iterator;"), (18, u "()I"), (7, .methodref 10 195), (0, .nameAndType 196 197), (0, u "shiftTailOverGap"), (0, u "([Ljava/lang/Object;II)V"), (64, .class_ 263), (0, u "java/util/ArrayList$ListItr"), (3, .class_ 268), (0, u "java/util/ArrayList$Itr"), (0, .methodref 267 270), (0, .nameAndType 5 271), (0, u "(Ljava/util/ArrayList;)V"), (0, .methodref 10 273), (0, .nameAndType 274 275), (0, u "subListRangeCheck"), (0, u "(III)V"), (0, .class_ 277), (0, u "java/util/ArrayList$SubList"), (0, .methodref 276 279), (0, .nameAndType 5 280), (0, u "(Ljava/util/ArrayList;II)V"), (9, .class_ 291), (0, u "java/util/ArrayList$ArrayListSpliterator"), (37, .class_ 330), (0, u "java/util/RandomAccess"), (0, .class_ 332), (0, u "java/lang/Cloneable"), (0, .class_ 334), (0, u "java/io/Serializable"), (0, u "serialVersionUID"), (0, u "J"), (3, u "DEFAULT_CAPACITY"), (45, u "set"), (0, u "(ILjava/lang/Object;)Ljava/lang/Object;"), (39, u "removeRange"), (0, u "(II)V"), (30, u "subList"), (0, u "(II)Ljava/util/List;"), (39, .class_ 501), (0, u "java/util/ArrayList$SubList$2"), (0, .class_ 503), (0, u "java/util/ArrayList$SubList$1")] 5

def k11c0 : Code := { maxStack := 2, maxLocals := 1, code := jdk_38_method_2_code, exceptionTable := #[], attributes := #[] }
def k11m0 : Method := { name := "<init>", desc := "()V", sig := { parameters := [], returnType := none }, accessFlags := 1, code := some k11c0 }
def k11c1 : Code := { maxStack := 4, maxLocals := 4, code := jdk_38_method_6_code, exceptionTable := #[], attributes := #[] }
def k11m1 : Method := { name := "grow", desc := "(I)[Ljava/lang/Object;", sig := { parameters := [.int], returnType := some (.array (.object "java/lang/Object")) }, accessFlags := 2, code := some k11c1 }
def k11c2 : Code := { maxStack := 3, maxLocals := 1, code := jdk_38_method_7_code, exceptionTable := #[], attributes := #[] }
def k11m2 : Method := { name := "grow", desc := "()[Ljava/lang/Object;", sig := { parameters := [], returnType := some (.array (.object "java/lang/Object")) }, accessFlags := 2, code := some k11c2 }
def k11c3 : Code := { maxStack := 1, maxLocals := 1, code := jdk_38_method_8_code, exceptionTable := #[], attributes := #[] }
def k11m3 : Method := { name := "size", desc := "()I", sig := { parameters := [], returnType := some .int }, accessFlags := 1, code := some k11c3 }
def k11c4 : Code := { maxStack := 2, maxLocals := 2, code := jdk_38_method_18_code, exceptionTable := #[], attributes := #[] }
def k11m4 : Method := { name := "elementData", desc := "(I)Ljava/lang/Object;", sig := { parameters := [.int], returnType := some (.object "java/lang/Object") }, accessFlags := 0, code := some k11c4 }
def k11c5 : Code := { maxStack := 3, maxLocals := 4, code := jdk_38_method_23_code, exceptionTable := #[], attributes := #[] }
def k11m5 : Method := { name := "set", desc := "(ILjava/lang/Object;)Ljava/lang/Object;", sig := { parameters := [.int, (.object "java/lang/Object")], returnType := some (.object "java/lang/Object") }, accessFlags := 1, code := some k11c5 }
def k11c6 : Code := { maxStack := 3, maxLocals := 4, code := jdk_38_method_24_code, exceptionTable := #[], attributes := #[] }
def k11m6 : Method := { name := "add", desc := "(Ljava/lang/Object;[Ljava/lang/Object;I)V", sig := { parameters := [(.object "java/lang/Object"), (.array (.object "java/lang/Object")), .int], returnType := none }, accessFlags := 2, code := some k11c6 }
def k11c7 : Code := { maxStack := 4, maxLocals := 2, code := jdk_38_method_25_code, exceptionTable := #[], attributes := #[] }
def k11m7 : Method := { name := "add", desc := "(Ljava/lang/Object;)Z", sig := { parameters := [(.object "java/lang/Object")], returnType := some .boolean }, accessFlags := 1, code := some k11c7 }
def k11c8 : Code := { maxStack := 4, maxLocals := 3, code := jdk_38_method_43_code, exceptionTable := #[], attributes := #[] }
def k11m8 : Method := { name := "removeRange", desc := "(II)V", sig := { parameters := [.int, .int], returnType := none }, accessFlags := 4, code := some k11c8 }
def k11c9 : Code := { maxStack := 6, maxLocals := 6, code := jdk_38_method_44_code, exceptionTable := #[], attributes := #[] }
def k11m9 : Method := { name := "shiftTailOverGap", desc := "([Ljava/lang/Object;II)V", sig := { parameters := [(.array (.object "java/lang/Object")), .int, .int], returnType := none }, accessFlags := 2, code := some k11c9 }
def k11c10 : Code := { maxStack := 3, maxLocals := 1, code := jdk_38_method_55_code, exceptionTable := #[], attributes := #[] }
def k11m10 : Method := { name := "iterator", desc := "()Ljava/util/Iterator;", sig := { parameters := [], returnType := some (.object "java/util/Iterator") }, accessFlags := 1, code := some k11c10 }
def k11c11 : Code := { maxStack := 5, maxLocals := 3, code := jdk_38_method_56_code, exceptionTable := #[], attributes := #[] }
def k11m11 : Method := { name := "subList", desc := "(II)Ljava/util/List;", sig := { parameters := [.int, .int], returnType := some (.object "java/util/List") }, accessFlags := 1, code := some k11c11 }
/-- java/util/ArrayList -/
def k11 : Class := { plain "java/util/ArrayList" (some 7) with
  accessFlags := 33
  interfaces := #[6, 8, 9, 10]
  cf := some (fileOf pool11 10 #[.nestMembers #[290, 276, 500, 502, 262, 267]] #[{ accessFlags := 1, nameIndex := 5, descriptorIndex := 6, attributes := #[] }, { accessFlags := 2, nameIndex := 71, descriptorIndex := 72, attributes := #[] }, { accessFlags := 2, nameIndex := 71, descriptorIndex := 47, attributes := #[] }, { accessFlags := 1, nameIndex := 50, descriptorIndex := 186, attributes := #[] }, { accessFlags := 0, nameIndex := 13, descriptorIndex := 125, attributes := #[] }, { accessFlags := 1, nameIndex := 386, descriptorIndex := 387, attributes := #[] }, { accessFlags := 2, nameIndex := 133, descriptorIndex := 134, attributes := #[] }, { accessFlags := 1, nameIndex := 133, descriptorIndex := 96, attributes := #[] }, { accessFlags := 4, nameIndex := 427, descriptorIndex := 428, attributes := #[] }, { accessFlags := 2, nameIndex := 196, descriptorIndex := 197, attributes := #[] }, { accessFlags := 1, nameIndex := 166, descriptorIndex := 167, attributes := #[] }, { accessFlags := 1, nameIndex := 459, descriptorIndex := 460, attributes := #[] }] 33 2 #[148, 329, 331, 333] #[{ accessFlags := 26, nameIndex := 335, descriptorIndex := 336, attributes := #[] }, { accessFlags := 26, nameIndex := 340, descriptorIndex := 51, attributes := #[] }, { accessFlags := 26, nameIndex := 17, descriptorIndex := 14, attributes := #[] }, { accessFlags := 26, nameIndex := 41, descriptorIndex := 14, attributes := #[] }, { accessFlags := 128, nameIndex := 13, descriptorIndex := 14, attributes := #[] }, { accessFlags := 2, nameIndex := 50, descriptorIndex := 51, attributes := #[] }])
  fields := #[{ name := "serialVersionUID", type := .long, accessFlags := 26, slot := 0, constantValue := 0 }, { name := "DEFAULT_CAPACITY", type := .int, accessFlags := 26, slot := 1, constantValue := 0 }, { name := "EMPTY_ELEMENTDATA", type := (.array (.object "java/lang/Object")), accessFlags := 26, slot := 2, constantValue := 0 }, { name := "DEFAULTCAPACITY_EMPTY_ELEMENTDATA", type := (.array (.object "java/lang/Object")), accessFlags := 26, slot := 3, constantValue := 0 }, { name := "elementData", type := (.array (.object "java/lang/Object")), accessFlags := 128, slot := 1, constantValue := 0 }, { name := "size", type := .int, accessFlags := 2, slot := 2, constantValue := 0 }]
  methods := #[k11m0, k11m1, k11m2, k11m3, k11m4, k11m5, k11m6, k11m7, k11m8, k11m9, k11m10, k11m11]
  instanceTypes := #[.int, (.array (.object "java/lang/Object")), .int]
  staticTypes := #[.long, .int, (.array (.object "java/lang/Object")), (.array (.object "java/lang/Object"))]
  resolved := Array.replicate 509 none
  statics := some 0 }

def pool12 : Array CpInfo := pool [(1, .class_ 2), (0, u "java/lang/Math"), (1, .class_ 6), (1, u "java/lang/Object"), (0, u "<init>"), (0, u "()V"), (89, .class_ 100), (1, u "java/lang/Math$RandomNumberGeneratorHolder"), (71, u "negativeZeroFloatBits"), (0, u "J"), (2, u "negativeZeroDoubleBits"), (21, u "max"), (46, u "$assertionsDisabled"), (0, u "Z"), (88, u "(II)I"), (2, u "twoToTheDoubleScaleDown"), (0, u "D"), (4, u "twoToTheDoubleScaleUp"), (9, u "E"), (3, u "PI"), (2, u "TAU"), (2, u "DEGREES_TO_RADIANS"), (0, u "RADIANS_TO_DEGREES")] 94

def k12m0 : Method := { name := "<init>", desc := "()V", sig := { parameters := [], returnType := none }, accessFlags := 2, code := none }
def k12c1 : Code := { maxStack := 2, maxLocals := 2, code := jdk_29_method_65_code, exceptionTable := #[], attributes := #[] }
def k12m1 : Method := { name := "max", desc := "(II)I", sig := { parameters := [.int, .int], returnType := some .int }, accessFlags := 9, code := some k12c1 }
/-- java/lang/Math -/
def k12 : Class := { plain "java/lang/Math" (some 0) with
  accessFlags := 49
  interfaces := #[]
  cf := some (fileOf pool12 1 #[.nestMembers #[98]] #[{ accessFlags := 2, nameIndex := 7, descriptorIndex := 8, attributes := #[] }, { accessFlags := 9, nameIndex := 198, descriptorIndex := 335, attributes := #[] }] 49 4 #[] #[{ accessFlags := 25, nameIndex := 354, descriptorIndex := 339, attributes := #[] }, { accessFlags := 25, nameIndex := 358, descriptorIndex := 339, attributes := #[] }, { accessFlags := 25, nameIndex := 361, descriptorIndex := 339, attributes := #[] }, { accessFlags := 26, nameIndex := 364, descriptorIndex := 339, attributes := #[] }, { accessFlags := 26, nameIndex := 365, descriptorIndex := 339, attributes := #[] }, { accessFlags := 26, nameIndex := 172, descriptorIndex := 173, attributes := #[] }, { accessFlags := 26, nameIndex := 176, descriptorIndex := 173, attributes := #[] }, { accessFlags := 8, nameIndex := 344, descriptorIndex := 339, attributes := #[] }, { accessFlags := 8, nameIndex := 338, descriptorIndex := 339, attributes := #[] }, { accessFlags := 4120, nameIndex := 245, descriptorIndex := 246, attributes := #[] }])
  fields := #[{ name := "E", type := .double, accessFlags := 25, slot := 0, constantValue := 0 }, { name := "PI", type := .double, accessFlags := 25, slot := 1, constantValue := 0 }, { name := "TAU", type := .double, accessFlags := 25, slot := 2, constantValue := 0 }, { name := "DEGREES_TO_RADIANS", type := .double, accessFlags := 26, slot := 3, constantValue := 0 }, { name := "RADIANS_TO_DEGREES", type := .double, accessFlags := 26, slot := 4, constantValue := 0 }, { name := "negativeZeroFloatBits", type := .long, accessFlags := 26, slot := 5, constantValue := 0 }, { name := "negativeZeroDoubleBits", type := .long, accessFlags := 26, slot := 6, constantValue := 0 }, { name := "twoToTheDoubleScaleUp", type := .double, accessFlags := 8, slot := 7, constantValue := 0 }, { name := "twoToTheDoubleScaleDown", type := .double, accessFlags := 8, slot := 8, constantValue := 0 }, { name := "$assertionsDisabled", type := .boolean, accessFlags := 4120, slot := 9, constantValue := 0 }]
  methods := #[k12m0, k12m1]
  instanceTypes := #[]
  staticTypes := #[.double, .double, .double, .double, .double, .long, .long, .double, .double, .boolean]
  resolved := Array.replicate 460 none
  statics := none }

def pool13 : Array CpInfo := pool [(1, .class_ 2), (0, u "java/lang/AutoCloseable"), (0, .class_ 4), (0, u "java/lang/Object")] 7

/-- java/lang/AutoCloseable -/
def k13 : Class := { plain "java/lang/AutoCloseable" (some 0) with
  accessFlags := 1537
  interfaces := #[]
  cf := some (fileOf pool13 1 #[] #[] 1537 3 #[] #[])
  fields := #[]
  methods := #[]
  instanceTypes := #[]
  staticTypes := #[]
  resolved := Array.replicate 12 none
  statics := none }

def pool14 : Array CpInfo := pool [(1, .class_ 2), (0, u "java/io/Closeable"), (0, .class_ 4), (0, u "java/lang/Object"), (0, .class_ 6), (0, u "java/lang/AutoCloseable")] 7

/-- java/io/Closeable -/
def k14 : Class := { plain "java/io/Closeable" (some 0) with
  accessFlags := 1537
  interfaces := #[13]
  cf := some (fileOf pool14 1 #[] #[] 1537 3 #[5] #[])
  fields := #[]
  methods := #[]
  instanceTypes := #[]
  staticTypes := #[]
  resolved := Array.replicate 14 none
  statics := none }

def pool15 : Array CpInfo := pool [(1, .class_ 2), (0, u "com/example/redelivery/redelivery/engine/MessageLog"), (0, .class_ 4), (0, u "java/lang/Object"), (0, .class_ 6), (0, u "java/io/Closeable")] 24

/-- com/example/redelivery/redelivery/engine/MessageLog -/
def k15 : Class := { plain "com/example/redelivery/redelivery/engine/MessageLog" (some 0) with
  accessFlags := 1536
  interfaces := #[14]
  cf := some (fileOf pool15 1 #[] #[] 1536 3 #[5] #[])
  fields := #[]
  methods := #[]
  instanceTypes := #[]
  staticTypes := #[]
  resolved := Array.replicate 31 none
  statics := none }

def pool16 : Array CpInfo := pool [(1, .methodref 2 3), (0, .class_ 4), (0, .nameAndType 5 6), (0, u "java/lang/Object"), (0, u "<init>"), (0, u "()V"), (0, .class_ 8), (0, u "java/util/ArrayList"), (0, .methodref 7 3), (0, .fieldref 11 12), (0, .class_ 13), (0, .nameAndType 14 15), (0, u "com/example/redelivery/redelivery/engine/MemoryLog"), (0, u "messages"), (0, u "Ljava/util/List;"), (0, .methodref 11 17), (0, .nameAndType 18 19), (0, u "slot"), (0, u "(J)I"), (1, .class_ 23), (1, u "java/util/List"), (2, .class_ 27), (0, u "[B"), (0, .interfaceMethodref 21 29), (0, .nameAndType 30 31), (0, u "iterator"), (0, u "()Ljava/util/Iterator;"), (0, .interfaceMethodref 33 34), (0, .class_ 35), (0, .nameAndType 36 37), (0, u "java/util/Iterator"), (0, u "hasNext"), (0, u "()Z"), (0, .interfaceMethodref 33 39), (0, .nameAndType 40 41), (0, u "next"), (0, u "()Ljava/lang/Object;"), (0, .interfaceMethodref 21 43), (0, .nameAndType 44 45), (0, u "add"), (0, u "(Ljava/lang/Object;)Z"), (0, .fieldref 11 47), (0, .nameAndType 48 49), (0, u "payload"), (0, u "J"), (0, .fieldref 11 51), (0, .nameAndType 52 49), (0, u "first"), (0, .interfaceMethodref 21 54), (0, .nameAndType 55 56), (0, u "set"), (0, u "(ILjava/lang/Object;)Ljava/lang/Object;"), (0, .interfaceMethodref 21 58), (0, .nameAndType 59 60), (0, u "size"), (0, u "()I"), (0, .interfaceMethodref 21 62), (0, .nameAndType 63 64), (0, u "subList"), (0, u "(II)Ljava/util/List;"), (0, .interfaceMethodref 21 66), (0, .nameAndType 67 6), (0, u "clear"), (0, .fieldref 11 69), (0, .nameAndType 70 49), (0, u "listedFirst"), (2, .class_ 74), (0, u "com/example/redelivery/redelivery/engine/MessageLog"), (0, u "MESSAGE_OVERHEAD"), (0, u "I"), (8, u "append"), (0, u "(JLjava/util/List;)V"), (2, u "dropBefore"), (0, u "(J)V"), (0, u "deletesBefore"), (0, u "(J)Z")] 5

def k16c0 : Code := { maxStack := 3, maxLocals := 1, code := prog_7_method_1_code, exceptionTable := #[], attributes := #[] }
def k16m0 : Method := { name := "<init>", desc := "()V", sig := { parameters := [], returnType := none }, accessFlags := 0, code := some k16c0 }
def k16c1 : Code := { maxStack := 5, maxLocals := 6, code := prog_7_method_3_code, exceptionTable := #[], attributes := #[] }
def k16m1 : Method := { name := "append", desc := "(JLjava/util/List;)V", sig := { parameters := [.long, (.object "java/util/List")], returnType := none }, accessFlags := 1, code := some k16c1 }
def k16c2 : Code := { maxStack := 7, maxLocals := 5, code := prog_7_method_4_code, exceptionTable := #[], attributes := #[] }
def k16m2 : Method := { name := "dropBefore", desc := "(J)V", sig := { parameters := [.long], returnType := none }, accessFlags := 1, code := some k16c2 }
def k16c3 : Code := { maxStack := 4, maxLocals := 3, code := prog_7_method_5_code, exceptionTable := #[], attributes := #[] }
def k16m3 : Method := { name := "deletesBefore", desc := "(J)Z", sig := { parameters := [.long], returnType := some .boolean }, accessFlags := 1, code := some k16c3 }
def k16c4 : Code := { maxStack := 4, maxLocals := 3, code := prog_7_method_8_code, exceptionTable := #[], attributes := #[] }
def k16m4 : Method := { name := "slot", desc := "(J)I", sig := { parameters := [.long], returnType := some .int }, accessFlags := 2, code := some k16c4 }
/-- com/example/redelivery/redelivery/engine/MemoryLog -/
def k16 : Class := { plain "com/example/redelivery/redelivery/engine/MemoryLog" (some 0) with
  accessFlags := 48
  interfaces := #[15]
  cf := some (fileOf pool16 11 #[] #[{ accessFlags := 0, nameIndex := 5, descriptorIndex := 6, attributes := #[] }, { accessFlags := 1, nameIndex := 85, descriptorIndex := 86, attributes := #[] }, { accessFlags := 1, nameIndex := 89, descriptorIndex := 90, attributes := #[] }, { accessFlags := 1, nameIndex := 91, descriptorIndex := 92, attributes := #[] }, { accessFlags := 2, nameIndex := 18, descriptorIndex := 19, attributes := #[] }] 48 2 #[73] #[{ accessFlags := 26, nameIndex := 75, descriptorIndex := 76, attributes := #[] }, { accessFlags := 18, nameIndex := 14, descriptorIndex := 15, attributes := #[] }, { accessFlags := 2, nameIndex := 70, descriptorIndex := 49, attributes := #[] }, { accessFlags := 2, nameIndex := 52, descriptorIndex := 49, attributes := #[] }, { accessFlags := 2, nameIndex := 48, descriptorIndex := 49, attributes := #[] }])
  fields := #[{ name := "MESSAGE_OVERHEAD", type := .int, accessFlags := 26, slot := 0, constantValue := 0 }, { name := "messages", type := (.object "java/util/List"), accessFlags := 18, slot := 0, constantValue := 0 }, { name := "listedFirst", type := .long, accessFlags := 2, slot := 1, constantValue := 0 }, { name := "first", type := .long, accessFlags := 2, slot := 2, constantValue := 0 }, { name := "payload", type := .long, accessFlags := 2, slot := 3, constantValue := 0 }]
  methods := #[k16m0, k16m1, k16m2, k16m3, k16m4]
  instanceTypes := #[(.object "java/util/List"), .long, .long, .long]
  staticTypes := #[.int]
  resolved := Array.replicate 98 none
  statics := none }

def pool17 : Array CpInfo := pool [(16, .class_ 18), (1, u "java/util/Iterator"), (0, u "hasNext"), (0, u "()Z"), (2, u "next"), (0, u "()Ljava/lang/Object;"), (6, .class_ 32), (0, u "java/lang/Object")] 20

def k17m0 : Method := { name := "hasNext", desc := "()Z", sig := { parameters := [], returnType := some .boolean }, accessFlags := 1025, code := none }
def k17m1 : Method := { name := "next", desc := "()Ljava/lang/Object;", sig := { parameters := [], returnType := some (.object "java/lang/Object") }, accessFlags := 1025, code := none }
/-- java/util/Iterator -/
def k17 : Class := { plain "java/util/Iterator" (some 0) with
  accessFlags := 1537
  interfaces := #[]
  cf := some (fileOf pool17 16 #[] #[{ accessFlags := 1025, nameIndex := 19, descriptorIndex := 20, attributes := #[] }, { accessFlags := 1025, nameIndex := 23, descriptorIndex := 24, attributes := #[] }] 1537 31 #[] #[])
  fields := #[]
  methods := #[k17m0, k17m1]
  instanceTypes := #[]
  staticTypes := #[]
  resolved := Array.replicate 53 none
  statics := none }

def pool18 : Array CpInfo := pool [(1, .fieldref 2 3), (0, .class_ 4), (0, .nameAndType 5 6), (0, u "java/util/ArrayList$Itr"), (0, u "this$0"), (0, u "Ljava/util/ArrayList;"), (0, .methodref 8 9), (0, .class_ 10), (0, .nameAndType 11 12), (0, u "java/lang/Object"), (0, u "<init>"), (0, u "()V"), (0, .fieldref 2 14), (0, .nameAndType 15 16), (0, u "lastRet"), (0, u "I"), (0, .fieldref 18 19), (0, .class_ 20), (0, .nameAndType 21 16), (0, u "java/util/ArrayList"), (0, u "modCount"), (0, .fieldref 2 23), (0, .nameAndType 24 16), (0, u "expectedModCount"), (0, .fieldref 2 26), (0, .nameAndType 27 16), (0, u "cursor"), (0, .fieldref 18 29), (0, .nameAndType 30 16), (0, u "size"), (0, .methodref 2 32), (0, .nameAndType 33 12), (0, u "checkForComodification"), (3, .fieldref 18 38), (0, .nameAndType 39 40), (0, u "elementData"), (0, u "[Ljava/lang/Object;"), (28, .class_ 70), (0, u "java/util/Iterator"), (0, u "(Ljava/util/ArrayList;)V"), (8, u "hasNext"), (0, u "()Z"), (1, u "next"), (0, u "()Ljava/lang/Object;")] 19

def k18c0 : Code := { maxStack := 2, maxLocals := 2, code := jdk_49_method_1_code, exceptionTable := #[], attributes := #[] }
def k18m0 : Method := { name := "<init>", desc := "(Ljava/util/ArrayList;)V", sig := { parameters := [(.object "java/util/ArrayList")], returnType := none }, accessFlags := 0, code := some k18c0 }
def k18c1 : Code := { maxStack := 2, maxLocals := 1, code := jdk_49_method_2_code, exceptionTable := #[], attributes := #[] }
def k18m1 : Method := { name := "hasNext", desc := "()Z", sig := { parameters := [], returnType := some .boolean }, accessFlags := 1, code := some k18c1 }
def k18c2 : Code := { maxStack := 4, maxLocals := 3, code := jdk_49_method_3_code, exceptionTable := #[], attributes := #[] }
def k18m2 : Method := { name := "next", desc := "()Ljava/lang/Object;", sig := { parameters := [], returnType := some (.object "java/lang/Object") }, accessFlags := 1, code := some k18c2 }
def k18c3 : Code := { maxStack := 2, maxLocals := 1, code := jdk_49_method_6_code, exceptionTable := #[], attributes := #[] }
def k18m3 : Method := { name := "checkForComodification", desc := "()V", sig := { parameters := [], returnType := none }, accessFlags := 16, code := some k18c3 }
/-- java/util/ArrayList$Itr -/
def k18 : Class := { plain "java/util/ArrayList$Itr" (some 0) with
  accessFlags := 32
  interfaces := #[17]
  cf := some (fileOf pool18 2 #[.nestHost 18] #[{ accessFlags := 0, nameIndex := 11, descriptorIndex := 71, attributes := #[] }, { accessFlags := 1, nameIndex := 80, descriptorIndex := 81, attributes := #[] }, { accessFlags := 1, nameIndex := 83, descriptorIndex := 84, attributes := #[] }, { accessFlags := 16, nameIndex := 33, descriptorIndex := 12, attributes := #[] }] 32 8 #[69] #[{ accessFlags := 0, nameIndex := 27, descriptorIndex := 16, attributes := #[] }, { accessFlags := 0, nameIndex := 15, descriptorIndex := 16, attributes := #[] }, { accessFlags := 0, nameIndex := 24, descriptorIndex := 16, attributes := #[] }, { accessFlags := 4112, nameIndex := 5, descriptorIndex := 6, attributes := #[] }])
  fields := #[{ name := "cursor", type := .int, accessFlags := 0, slot := 0, constantValue := 0 }, { name := "lastRet", type := .int, accessFlags := 0, slot := 1, constantValue := 0 }, { name := "expectedModCount", type := .int, accessFlags := 0, slot := 2, constantValue := 0 }, { name := "this$0", type := (.object "java/util/ArrayList"), accessFlags := 4112, slot := 3, constantValue := 0 }]
  methods := #[k18m0, k18m1, k18m2, k18m3]
  instanceTypes := #[.int, .int, .int, (.object "java/util/ArrayList")]
  staticTypes := #[]
  resolved := Array.replicate 104 none
  statics := none }

def pool19 : Array CpInfo := pool [(2, .class_ 4), (1, u "java/lang/Object"), (0, u "<init>"), (0, u "()V"), (35, .class_ 44), (1, u "java/util/Objects"), (60, .methodref 106 107), (0, .class_ 108), (0, .nameAndType 109 110), (0, u "jdk/internal/util/Preconditions"), (0, u "checkIndex"), (0, u "(IILjava/util/function/BiFunction;)I"), (60, u "(II)I")] 12

def k19m0 : Method := { name := "<init>", desc := "()V", sig := { parameters := [], returnType := none }, accessFlags := 2, code := none }
def k19c1 : Code := { maxStack := 3, maxLocals := 2, code := jdk_31_method_17_code, exceptionTable := #[], attributes := #[] }
def k19m1 : Method := { name := "checkIndex", desc := "(II)I", sig := { parameters := [.int, .int], returnType := some .int }, accessFlags := 9, code := some k19c1 }
/-- java/util/Objects -/
def k19 : Class := { plain "java/util/Objects" (some 0) with
  accessFlags := 49
  interfaces := #[]
  cf := some (fileOf pool19 42 #[] #[{ accessFlags := 2, nameIndex := 5, descriptorIndex := 6, attributes := #[] }, { accessFlags := 9, nameIndex := 109, descriptorIndex := 171, attributes := #[] }] 49 2 #[] #[])
  fields := #[]
  methods := #[k19m0, k19m1]
  instanceTypes := #[]
  staticTypes := #[]
  resolved := Array.replicate 184 none
  statics := none }

def pool20 : Array CpInfo := pool [(2, .class_ 4), (1, u "java/lang/Object"), (0, u "<init>"), (0, u "()V"), (17, .class_ 26), (1, u "jdk/internal/util/Preconditions"), (6, u "checkIndex"), (21, .class_ 56), (0, u "jdk/internal/util/Preconditions$4"), (57, .class_ 115), (0, u "jdk/internal/util/Preconditions$1"), (7, u "SIOOBE_FORMATTER"), (0, u "Ljava/util/function/BiFunction;"), (0, .class_ 126), (0, u "jdk/internal/util/Preconditions$2"), (3, u "AIOOBE_FORMATTER"), (0, .class_ 132), (0, u "jdk/internal/util/Preconditions$3"), (3, u "IOOBE_FORMATTER"), (41, u "(IILjava/util/function/BiFunction;)I")] 15

def k20m0 : Method := { name := "<init>", desc := "()V", sig := { parameters := [], returnType := none }, accessFlags := 1, code := none }
def k20c1 : Code := { maxStack := 3, maxLocals := 3, code := jdk_41_method_11_code, exceptionTable := #[], attributes := #[] }
def k20m1 : Method := { name := "checkIndex", desc := "(IILjava/util/function/BiFunction;)I", sig := { parameters := [.int, .int, (.object "java/util/function/BiFunction")], returnType := some .int }, accessFlags := 9, code := some k20c1 }
/-- jdk/internal/util/Preconditions -/
def k20 : Class := { plain "jdk/internal/util/Preconditions" (some 0) with
  accessFlags := 33
  interfaces := #[]
  cf := some (fileOf pool20 24 #[.nestMembers #[55, 131, 125, 114]] #[{ accessFlags := 1, nameIndex := 5, descriptorIndex := 6, attributes := #[] }, { accessFlags := 9, nameIndex := 33, descriptorIndex := 178, attributes := #[] }] 33 2 #[] #[{ accessFlags := 25, nameIndex := 123, descriptorIndex := 124, attributes := #[] }, { accessFlags := 25, nameIndex := 130, descriptorIndex := 124, attributes := #[] }, { accessFlags := 25, nameIndex := 136, descriptorIndex := 124, attributes := #[] }])
  fields := #[{ name := "SIOOBE_FORMATTER", type := (.object "java/util/function/BiFunction"), accessFlags := 25, slot := 0, constantValue := 0 }, { name := "AIOOBE_FORMATTER", type := (.object "java/util/function/BiFunction"), accessFlags := 25, slot := 1, constantValue := 0 }, { name := "IOOBE_FORMATTER", type := (.object "java/util/function/BiFunction"), accessFlags := 25, slot := 2, constantValue := 0 }]
  methods := #[k20m0, k20m1]
  instanceTypes := #[]
  staticTypes := #[(.object "java/util/function/BiFunction"), (.object "java/util/function/BiFunction"), (.object "java/util/function/BiFunction")]
  resolved := Array.replicate 194 none
  statics := none }

def pool21 : Array CpInfo := pool [(1, .methodref 2 3), (0, .class_ 4), (0, .nameAndType 5 6), (0, u "java/util/AbstractList"), (0, u "<init>"), (0, u "()V"), (0, .fieldref 8 9), (0, .class_ 10), (0, .nameAndType 11 12), (0, u "java/util/ArrayList$SubList"), (0, u "root"), (0, u "Ljava/util/ArrayList;"), (0, .fieldref 8 14), (0, .nameAndType 15 16), (0, u "parent"), (0, u "Ljava/util/ArrayList$SubList;"), (0, .fieldref 8 18), (0, .nameAndType 19 20), (0, u "offset"), (0, u "I"), (0, .fieldref 8 22), (0, .nameAndType 23 20), (0, u "size"), (0, .fieldref 25 26), (0, .class_ 27), (0, .nameAndType 28 20), (0, u "java/util/ArrayList"), (0, u "modCount"), (0, .fieldref 8 26), (6, .methodref 8 37), (0, .nameAndType 38 6), (0, u "checkForComodification"), (10, u "(I)V"), (4, .methodref 8 55), (0, .nameAndType 56 49), (0, u "updateSizeAndModCount"), (3, .methodref 25 61), (0, .nameAndType 62 63), (0, u "removeRange"), (0, u "(II)V"), (8, u "()I"), (109, .class_ 183), (0, u "java/util/RandomAccess"), (3, u "(Ljava/util/ArrayList;II)V")] 82

def k21c0 : Code := { maxStack := 3, maxLocals := 4, code := jdk_130_method_1_code, exceptionTable := #[], attributes := #[] }
def k21m0 : Method := { name := "<init>", desc := "(Ljava/util/ArrayList;II)V", sig := { parameters := [(.object "java/util/ArrayList"), .int, .int], returnType := none }, accessFlags := 1, code := some k21c0 }
def k21c1 : Code := { maxStack := 1, maxLocals := 1, code := jdk_130_method_5_code, exceptionTable := #[], attributes := #[] }
def k21m1 : Method := { name := "size", desc := "()I", sig := { parameters := [], returnType := some .int }, accessFlags := 1, code := some k21c1 }
def k21c2 : Code := { maxStack := 4, maxLocals := 3, code := jdk_130_method_8_code, exceptionTable := #[], attributes := #[] }
def k21m2 : Method := { name := "removeRange", desc := "(II)V", sig := { parameters := [.int, .int], returnType := none }, accessFlags := 4, code := some k21c2 }
def k21c3 : Code := { maxStack := 2, maxLocals := 1, code := jdk_130_method_28_code, exceptionTable := #[], attributes := #[] }
def k21m3 : Method := { name := "checkForComodification", desc := "()V", sig := { parameters := [], returnType := none }, accessFlags := 2, code := some k21c3 }
def k21c4 : Code := { maxStack := 3, maxLocals := 3, code := jdk_130_method_29_code, exceptionTable := #[], attributes := #[] }
def k21m4 : Method := { name := "updateSizeAndModCount", desc := "(I)V", sig := { parameters := [.int], returnType := none }, accessFlags := 2, code := some k21c4 }
/-- java/util/ArrayList$SubList -/
def k21 : Class := { plain "java/util/ArrayList$SubList" (some 7) with
  accessFlags := 32
  interfaces := #[8]
  cf := some (fileOf pool21 8 #[.nestHost 25] #[{ accessFlags := 1, nameIndex := 5, descriptorIndex := 187, attributes := #[] }, { accessFlags := 1, nameIndex := 23, descriptorIndex := 72, attributes := #[] }, { accessFlags := 4, nameIndex := 62, descriptorIndex := 63, attributes := #[] }, { accessFlags := 2, nameIndex := 38, descriptorIndex := 6, attributes := #[] }, { accessFlags := 2, nameIndex := 56, descriptorIndex := 49, attributes := #[] }] 32 2 #[182] #[{ accessFlags := 18, nameIndex := 11, descriptorIndex := 12, attributes := #[] }, { accessFlags := 18, nameIndex := 15, descriptorIndex := 16, attributes := #[] }, { accessFlags := 18, nameIndex := 19, descriptorIndex := 20, attributes := #[] }, { accessFlags := 2, nameIndex := 23, descriptorIndex := 20, attributes := #[] }])
  fields := #[{ name := "root", type := (.object "java/util/ArrayList"), accessFlags := 18, slot := 1, constantValue := 0 }, { name := "parent", type := (.object "java/util/ArrayList$SubList"), accessFlags := 18, slot := 2, constantValue := 0 }, { name := "offset", type := .int, accessFlags := 18, slot := 3, constantValue := 0 }, { name := "size", type := .int, accessFlags := 2, slot := 4, constantValue := 0 }]
  methods := #[k21m0, k21m1, k21m2, k21m3, k21m4]
  instanceTypes := #[.int, (.object "java/util/ArrayList"), (.object "java/util/ArrayList$SubList"), .int, .int]
  staticTypes := #[]
  resolved := Array.replicate 270 none
  statics := none }

def pool22 : Array CpInfo := pool [(2, .class_ 4), (1, u "java/lang/Object"), (0, u "<init>"), (0, u "()V"), (1, .class_ 10), (1, u "java/lang/System"), (0, u "allowSecurityManager"), (0, u "I"), (16, u "cons"), (0, u "Ljava/io/Console;"), (77, .class_ 110), (1, u "java/lang/System$CallersHolder"), (43, u "initialErrStream"), (0, u "Ljava/io/PrintStream;"), (19, u "security"), (0, u "Ljava/lang/SecurityManager;"), (31, .class_ 209), (0, u "java/lang/System$1"), (7, u "props"), (0, u "Ljava/util/Properties;"), (2, u "lineSeparator"), (0, u "Ljava/lang/String;"), (96, .class_ 321), (1, u "java/lang/System$LoggerFinder"), (5, .class_ 328), (0, u "java/lang/System$Logger"), (67, u "err"), (2, u "out"), (91, u "notSupportedJnuEncoding"), (15, u "in"), (17, u "initialIn"), (0, u "Ljava/io/InputStream;"), (35, u "bootLayer"), (0, u "Ljava/lang/ModuleLayer;"), (99, .class_ 664), (0, u "java/lang/System$2"), (9, u "NEVER"), (2, u "MAYBE"), (49, u "arraycopy"), (0, u "(Ljava/lang/Object;ILjava/lang/Object;II)V"), (72, .class_ 802), (0, u "java/lang/System$Logger$Level")] 31

def k22m0 : Method := { name := "<init>", desc := "()V", sig := { parameters := [], returnType := none }, accessFlags := 2, code := none }
def k22m1 : Method := { name := "arraycopy", desc := "(Ljava/lang/Object;ILjava/lang/Object;II)V", sig := { parameters := [(.object "java/lang/Object"), .int, (.object "java/lang/Object"), .int, .int], returnType := none }, accessFlags := 265, code := none }
/-- java/lang/System -/
def k22 : Class := { plain "java/lang/System" (some 0) with
  accessFlags := 49
  interfaces := #[]
  cf := some (fileOf pool22 8 #[.nestMembers #[319, 327, 801, 108, 663, 208]] #[{ accessFlags := 2, nameIndex := 5, descriptorIndex := 6, attributes := #[] }, { accessFlags := 265, nameIndex := 727, descriptorIndex := 728, attributes := #[] }] 49 2 #[] #[{ accessFlags := 25, nameIndex := 507, descriptorIndex := 526, attributes := #[] }, { accessFlags := 25, nameIndex := 399, descriptorIndex := 155, attributes := #[] }, { accessFlags := 25, nameIndex := 396, descriptorIndex := 155, attributes := #[] }, { accessFlags := 10, nameIndex := 525, descriptorIndex := 526, attributes := #[] }, { accessFlags := 26, nameIndex := 674, descriptorIndex := 12, attributes := #[] }, { accessFlags := 26, nameIndex := 677, descriptorIndex := 12, attributes := #[] }, { accessFlags := 10, nameIndex := 11, descriptorIndex := 12, attributes := #[] }, { accessFlags := 74, nameIndex := 175, descriptorIndex := 176, attributes := #[] }, { accessFlags := 10, nameIndex := 491, descriptorIndex := 222, attributes := #[] }, { accessFlags := 74, nameIndex := 29, descriptorIndex := 30, attributes := #[] }, { accessFlags := 74, nameIndex := 154, descriptorIndex := 155, attributes := #[] }, { accessFlags := 10, nameIndex := 217, descriptorIndex := 218, attributes := #[] }, { accessFlags := 10, nameIndex := 221, descriptorIndex := 222, attributes := #[] }, { accessFlags := 8, nameIndex := 562, descriptorIndex := 563, attributes := #[] }])
  fields := #[{ name := "in", type := (.object "java/io/InputStream"), accessFlags := 25, slot := 0, constantValue := 0 }, { name := "out", type := (.object "java/io/PrintStream"), accessFlags := 25, slot := 1, constantValue := 0 }, { name := "err", type := (.object "java/io/PrintStream"), accessFlags := 25, slot := 2, constantValue := 0 }, { name := "initialIn", type := (.object "java/io/InputStream"), accessFlags := 10, slot := 3, constantValue := 0 }, { name := "NEVER", type := .int, accessFlags := 26, slot := 4, constantValue := 0 }, { name := "MAYBE", type := .int, accessFlags := 26, slot := 5, constantValue := 0 }, { name := "allowSecurityManager", type := .int, accessFlags := 10, slot := 6, constantValue := 0 }, { name := "security", type := (.object "java/lang/SecurityManager"), accessFlags := 74, slot := 7, constantValue := 0 }, { name := "notSupportedJnuEncoding", type := (.object "java/lang/String"), accessFlags := 10, slot := 8, constantValue := 0 }, { name := "cons", type := (.object "java/io/Console"), accessFlags := 74, slot := 9, constantValue := 0 }, { name := "initialErrStream", type := (.object "java/io/PrintStream"), accessFlags := 74, slot := 10, constantValue := 0 }, { name := "props", type := (.object "java/util/Properties"), accessFlags := 10, slot := 11, constantValue := 0 }, { name := "lineSeparator", type := (.object "java/lang/String"), accessFlags := 10, slot := 12, constantValue := 0 }, { name := "bootLayer", type := (.object "java/lang/ModuleLayer"), accessFlags := 8, slot := 13, constantValue := 0 }]
  methods := #[k22m0, k22m1]
  instanceTypes := #[]
  staticTypes := #[(.object "java/io/InputStream"), (.object "java/io/PrintStream"), (.object "java/io/PrintStream"), (.object "java/io/InputStream"), .int, .int, .int, (.object "java/lang/SecurityManager"), (.object "java/lang/String"), (.object "java/io/Console"), (.object "java/io/PrintStream"), (.object "java/util/Properties"), (.object "java/lang/String"), (.object "java/lang/ModuleLayer")]
  resolved := Array.replicate 834 none
  statics := none }

/-- the primitive byte -/
def k23 : Class := { plain "byte" none with kind := .primitive 'B', accessFlags := 0x411 }
/-- [B -/
def k24 : Class := { plain "[B" (some 0) with kind := .array 23 .byte, interfaces := #[9, 10], accessFlags := 1041 }

/-- the primitive int -/
def k25 : Class := { plain "int" none with kind := .primitive 'I', accessFlags := 0x411 }
/-- [I -/
def k26 : Class := { plain "[I" (some 0) with kind := .array 25 .int, interfaces := #[9, 10], accessFlags := 1041 }

/-- [Ljava/lang/Object; -/
def k27 : Class := { plain "[Ljava/lang/Object;" (some 0) with kind := .array 0 (.object "java/lang/Object"), interfaces := #[9, 10], accessFlags := 1041 }

def heap : Heap := #[{ cls := 11, slots := #[.long 0, .int 0, .ref 1, .ref 2], vm := .statics 11 },
  { cls := 27, slots := #[], vm := .none },
  { cls := 27, slots := #[], vm := .none }]
def classes : Array Class := #[k0, k1, k2, k3, k4, k5, k6, k7, k8, k9, k10, k11, k12, k13, k14, k15, k16, k17, k18, k19, k20, k21, k22, k23, k24, k25, k26, k27]
def interned : List (Array UInt16 × Addr) := []
def slotsUsed : Nat := 4
def theMethod : MethodId := ⟨1, 1⟩
def args0 : Array Value := #[.long 5, .int 3, .int 1, .int 1, .int 1]
def aboutOver (below : List Frame) : State where
  vm := { classes := classes, interned := interned.toArray }
  heap := heap
  slotsUsed := slotsUsed
  threads := #[{ frames := .invoking theMethod args0 :: below }]
def below0 : List Frame := [.native { method := ⟨0, 0⟩, args := #[] }]
def about1 : State := aboutOver below0
def p0 : Program := .bare "" "" ""
def e0 : Env := launch0.env 0 0 0
theorem w_frames : about1.frames = Frame.invoking theMethod args0 :: below0 := rfl
set_option maxRecDepth 65536 in
theorem w_args : argsFit about1.vm theMethod args0 = true := by decide +kernel
set_option maxRecDepth 65536 in
theorem w_heap : heapFits about1 = true := by decide +kernel
set_option maxRecDepth 65536 in
theorem w_runnable : about1.curStatus? = some .runnable := by decide +kernel
set_option maxRecDepth 65536 in
theorem w_alone : about1.alone = true := by decide +kernel
set_option maxRecDepth 65536 in
theorem w_named : about1.methodNamed? x = some theMethod := by decide +kernel
set_option maxRecDepth 65536 in
theorem w_hears : about1.hears theMethod below0 = true := by decide +kernel
set_option maxRecDepth 65536 in
theorem w_ripe : about1.ripe theMethod args0 below0 = true := by decide +kernel
theorem w_running : about1.status = .running := rfl
set_option maxRecDepth 65536 in
theorem w_room : about1.hasRoom e0.platform room_1 = true :=
  launch0.hasRoom_least _ room_1 (by decide +kernel) (by decide +kernel) (by decide +kernel) (by decide +kernel) (by decide +kernel) (by decide +kernel)
theorem allAtoms_all (ts : List Jvm.Cond) (a : Array Jvm.Value) (st : Jvm.State) : (allAtoms ts).before a st = ts.all (fun c => c.before a st) := by
  induction ts with
  | nil => rfl
  | cons c t ih =>
    show (Jvm.Cond.and c (allAtoms t)).before a st = _
    rw [Jvm.Cond.before_and, ih, List.all_cons]
def words1 : List Jvm.Cond := Jvm.Cond.code x code maxLocals ret :: tables_1
/-- a 'code' word, met by the world's own term for the bytes: nothing is compared byte by byte -/
theorem code_word {y : MethodName} {bytes : ByteArray} {mx : Nat} {rt : Option FieldType} {a : Array Value} {s : State} {m : MethodId} {meth : Method} {c : Code} (h1 : s.methodNamed? y = some m) (h2 : s.vm.method? m = some meth) (h3 : meth.code = some c) (h4 : c.code = bytes)
    (h5 : (c.maxLocals == mx && c.exceptionTable.isEmpty && decide (c.maxStack ≤ mostOperands) && decide (meth.sig.returnType = rt) && !meth.locks && decide (parseMethodDescriptor y.desc = some meth.sig)) = true) : (Jvm.Cond.code y bytes mx rt).before a s = true := by
  simp only [Bool.and_eq_true, beq_iff_eq, Bool.not_eq_true', decide_eq_true_eq] at h5
  obtain ⟨⟨⟨⟨⟨g1, g2⟩, g3⟩, g4⟩, g5⟩, g6⟩ := h5
  simp [Cond.before, Cond.holds, Cond.value, h1, h2, h3, h4, g1, g2, g3, g4, g5, g6]
def isCode : Jvm.Cond → Bool
  | .code _ _ _ _ => true
  | _ => false
theorem all_split {L : List Jvm.Cond} {P : Jvm.Cond → Bool} (h1 : L.all (fun c => isCode c || P c) = true) (h2 : ∀ c ∈ L.filter isCode, P c = true) : L.all P = true := by
  refine List.all_eq_true.mpr fun c hc => ?_
  have h := List.all_eq_true.mp h1 c hc
  rcases Bool.eq_false_or_eq_true (isCode c) with hi | hi
  · exact h2 c (List.mem_filter.mpr ⟨hc, hi⟩)
  · simpa [hi] using h
set_option maxRecDepth 65536 in
theorem w_c0 : (Jvm.Cond.code x code maxLocals ret).before args0 about1 = true := code_word (m := ⟨1, 1⟩) (meth := k1m1) (c := k1c1) (by decide +kernel) rfl rfl rfl (by decide +kernel)
set_option maxRecDepth 65536 in
theorem w_c1 : (Jvm.Cond.code ({ cls := "java/util/ArrayList", name := "<init>", desc := "()V" } : Jvm.MethodName) jdk_38_method_2_code (1 : Nat) (Option.none : Option Jvm.ClassFile.FieldType)).before args0 about1 = true := code_word (m := ⟨11, 0⟩) (meth := k11m0) (c := k11c0) (by decide +kernel) rfl rfl rfl (by decide +kernel)
set_option maxRecDepth 65536 in
theorem w_c2 : (Jvm.Cond.code ({ cls := "java/util/AbstractList", name := "<init>", desc := "()V" } : Jvm.MethodName) jdk_39_method_1_code (1 : Nat) (Option.none : Option Jvm.ClassFile.FieldType)).before args0 about1 = true := code_word (m := ⟨7, 0⟩) (meth := k7m0) (c := k7c0) (by decide +kernel) rfl rfl rfl (by decide +kernel)
set_option maxRecDepth 65536 in
theorem w_c3 : (Jvm.Cond.code ({ cls := "java/util/AbstractCollection", name := "<init>", desc := "()V" } : Jvm.MethodName) jdk_22_method_1_code (1 : Nat) (Option.none : Option Jvm.ClassFile.FieldType)).before args0 about1 = true := code_word (m := ⟨4, 0⟩) (meth := k4m0) (c := k4c0) (by decide +kernel) rfl rfl rfl (by decide +kernel)
set_option maxRecDepth 65536 in
theorem w_c4 : (Jvm.Cond.code ({ cls := "java/lang/Object", name := "<init>", desc := "()V" } : Jvm.MethodName) object_method_1_code (1 : Nat) (Option.none : Option Jvm.ClassFile.FieldType)).before args0 about1 = true := code_word (m := ⟨0, 0⟩) (meth := k0m0) (c := k0c0) (by decide +kernel) rfl rfl rfl (by decide +kernel)
set_option maxRecDepth 65536 in
theorem w_c5 : (Jvm.Cond.code ({ cls := "java/util/ArrayList", name := "add", desc := "(Ljava/lang/Object;)Z" } : Jvm.MethodName) jdk_38_method_25_code (2 : Nat) (Option.some Jvm.ClassFile.FieldType.boolean)).before args0 about1 = true := code_word (m := ⟨11, 7⟩) (meth := k11m7) (c := k11c7) (by decide +kernel) rfl rfl rfl (by decide +kernel)
set_option maxRecDepth 65536 in
theorem w_c6 : (Jvm.Cond.code ({ cls := "java/util/ArrayList", name := "add", desc := "(Ljava/lang/Object;[Ljava/lang/Object;I)V" } : Jvm.MethodName) jdk_38_method_24_code (4 : Nat) (Option.none : Option Jvm.ClassFile.FieldType)).before args0 about1 = true := code_word (m := ⟨11, 6⟩) (meth := k11m6) (c := k11c6) (by decide +kernel) rfl rfl rfl (by decide +kernel)
set_option maxRecDepth 65536 in
theorem w_c7 : (Jvm.Cond.code ({ cls := "java/util/ArrayList", name := "grow", desc := "()[Ljava/lang/Object;" } : Jvm.MethodName) jdk_38_method_7_code (1 : Nat) (Option.some (Jvm.ClassFile.FieldType.array (Jvm.ClassFile.FieldType.object "java/lang/Object")))).before args0 about1 = true := code_word (m := ⟨11, 2⟩) (meth := k11m2) (c := k11c2) (by decide +kernel) rfl rfl rfl (by decide +kernel)
set_option maxRecDepth 65536 in
theorem w_c8 : (Jvm.Cond.code ({ cls := "java/util/ArrayList", name := "grow", desc := "(I)[Ljava/lang/Object;" } : Jvm.MethodName) jdk_38_method_6_code (4 : Nat) (Option.some (Jvm.ClassFile.FieldType.array (Jvm.ClassFile.FieldType.object "java/lang/Object")))).before args0 about1 = true := code_word (m := ⟨11, 1⟩) (meth := k11m1) (c := k11c1) (by decide +kernel) rfl rfl rfl (by decide +kernel)
set_option maxRecDepth 65536 in
theorem w_c9 : (Jvm.Cond.code ({ cls := "java/lang/Math", name := "max", desc := "(II)I" } : Jvm.MethodName) jdk_29_method_65_code (2 : Nat) (Option.some Jvm.ClassFile.FieldType.int)).before args0 about1 = true := code_word (m := ⟨12, 1⟩) (meth := k12m1) (c := k12c1) (by decide +kernel) rfl rfl rfl (by decide +kernel)
set_option maxRecDepth 65536 in
theorem w_c10 : (Jvm.Cond.code ({ cls := "com/example/redelivery/redelivery/engine/MemoryLog", name := "<init>", desc := "()V" } : Jvm.MethodName) prog_7_method_1_code (1 : Nat) (Option.none : Option Jvm.ClassFile.FieldType)).before args0 about1 = true := code_word (m := ⟨16, 0⟩) (meth := k16m0) (c := k16c0) (by decide +kernel) rfl rfl rfl (by decide +kernel)
set_option maxRecDepth 65536 in
theorem w_c11 : (Jvm.Cond.code ({ cls := "com/example/redelivery/redelivery/engine/MemoryLog", name := "deletesBefore", desc := "(J)Z" } : Jvm.MethodName) prog_7_method_5_code (3 : Nat) (Option.some Jvm.ClassFile.FieldType.boolean)).before args0 about1 = true := code_word (m := ⟨16, 3⟩) (meth := k16m3) (c := k16c3) (by decide +kernel) rfl rfl rfl (by decide +kernel)
set_option maxRecDepth 65536 in
theorem w_c12 : (Jvm.Cond.code ({ cls := "com/example/redelivery/redelivery/engine/MemoryLog", name := "append", desc := "(JLjava/util/List;)V" } : Jvm.MethodName) prog_7_method_3_code (6 : Nat) (Option.none : Option Jvm.ClassFile.FieldType)).before args0 about1 = true := code_word (m := ⟨16, 1⟩) (meth := k16m1) (c := k16c1) (by decide +kernel) rfl rfl rfl (by decide +kernel)
set_option maxRecDepth 65536 in
theorem w_c13 : (Jvm.Cond.code ({ cls := "java/util/ArrayList", name := "iterator", desc := "()Ljava/util/Iterator;" } : Jvm.MethodName) jdk_38_method_55_code (1 : Nat) (Option.some (Jvm.ClassFile.FieldType.object "java/util/Iterator"))).before args0 about1 = true := code_word (m := ⟨11, 10⟩) (meth := k11m10) (c := k11c10) (by decide +kernel) rfl rfl rfl (by decide +kernel)
set_option maxRecDepth 65536 in
theorem w_c14 : (Jvm.Cond.code ({ cls := "java/util/ArrayList$Itr", name := "<init>", desc := "(Ljava/util/ArrayList;)V" } : Jvm.MethodName) jdk_49_method_1_code (2 : Nat) (Option.none : Option Jvm.ClassFile.FieldType)).before args0 about1 = true := code_word (m := ⟨18, 0⟩) (meth := k18m0) (c := k18c0) (by decide +kernel) rfl rfl rfl (by decide +kernel)
set_option maxRecDepth 65536 in
theorem w_c15 : (Jvm.Cond.code ({ cls := "java/util/ArrayList$Itr", name := "hasNext", desc := "()Z" } : Jvm.MethodName) jdk_49_method_2_code (1 : Nat) (Option.some Jvm.ClassFile.FieldType.boolean)).before args0 about1 = true := code_word (m := ⟨18, 1⟩) (meth := k18m1) (c := k18c1) (by decide +kernel) rfl rfl rfl (by decide +kernel)
set_option maxRecDepth 65536 in
theorem w_c16 : (Jvm.Cond.code ({ cls := "java/util/ArrayList$Itr", name := "next", desc := "()Ljava/lang/Object;" } : Jvm.MethodName) jdk_49_method_3_code (3 : Nat) (Option.some (Jvm.ClassFile.FieldType.object "java/lang/Object"))).before args0 about1 = true := code_word (m := ⟨18, 2⟩) (meth := k18m2) (c := k18c2) (by decide +kernel) rfl rfl rfl (by decide +kernel)
set_option maxRecDepth 65536 in
theorem w_c17 : (Jvm.Cond.code ({ cls := "java/util/ArrayList$Itr", name := "checkForComodification", desc := "()V" } : Jvm.MethodName) jdk_49_method_6_code (1 : Nat) (Option.none : Option Jvm.ClassFile.FieldType)).before args0 about1 = true := code_word (m := ⟨18, 3⟩) (meth := k18m3) (c := k18c3) (by decide +kernel) rfl rfl rfl (by decide +kernel)
set_option maxRecDepth 65536 in
theorem w_c18 : (Jvm.Cond.code ({ cls := "com/example/redelivery/redelivery/engine/MemoryLog", name := "dropBefore", desc := "(J)V" } : Jvm.MethodName) prog_7_method_4_code (5 : Nat) (Option.none : Option Jvm.ClassFile.FieldType)).before args0 about1 = true := code_word (m := ⟨16, 2⟩) (meth := k16m2) (c := k16c2) (by decide +kernel) rfl rfl rfl (by decide +kernel)
set_option maxRecDepth 65536 in
theorem w_c19 : (Jvm.Cond.code ({ cls := "com/example/redelivery/redelivery/engine/MemoryLog", name := "slot", desc := "(J)I" } : Jvm.MethodName) prog_7_method_8_code (3 : Nat) (Option.some Jvm.ClassFile.FieldType.int)).before args0 about1 = true := code_word (m := ⟨16, 4⟩) (meth := k16m4) (c := k16c4) (by decide +kernel) rfl rfl rfl (by decide +kernel)
set_option maxRecDepth 65536 in
theorem w_c20 : (Jvm.Cond.code ({ cls := "java/util/ArrayList", name := "set", desc := "(ILjava/lang/Object;)Ljava/lang/Object;" } : Jvm.MethodName) jdk_38_method_23_code (4 : Nat) (Option.some (Jvm.ClassFile.FieldType.object "java/lang/Object"))).before args0 about1 = true := code_word (m := ⟨11, 5⟩) (meth := k11m5) (c := k11c5) (by decide +kernel) rfl rfl rfl (by decide +kernel)
set_option maxRecDepth 65536 in
theorem w_c21 : (Jvm.Cond.code ({ cls := "java/util/Objects", name := "checkIndex", desc := "(II)I" } : Jvm.MethodName) jdk_31_method_17_code (2 : Nat) (Option.some Jvm.ClassFile.FieldType.int)).before args0 about1 = true := code_word (m := ⟨19, 1⟩) (meth := k19m1) (c := k19c1) (by decide +kernel) rfl rfl rfl (by decide +kernel)
set_option maxRecDepth 65536 in
theorem w_c22 : (Jvm.Cond.code ({ cls := "jdk/internal/util/Preconditions", name := "checkIndex", desc := "(IILjava/util/function/BiFunction;)I" } : Jvm.MethodName) jdk_41_method_11_code (3 : Nat) (Option.some Jvm.ClassFile.FieldType.int)).before args0 about1 = true := code_word (m := ⟨20, 1⟩) (meth := k20m1) (c := k20c1) (by decide +kernel) rfl rfl rfl (by decide +kernel)
set_option maxRecDepth 65536 in
theorem w_c23 : (Jvm.Cond.code ({ cls := "java/util/ArrayList", name := "elementData", desc := "(I)Ljava/lang/Object;" } : Jvm.MethodName) jdk_38_method_18_code (2 : Nat) (Option.some (Jvm.ClassFile.FieldType.object "java/lang/Object"))).before args0 about1 = true := code_word (m := ⟨11, 4⟩) (meth := k11m4) (c := k11c4) (by decide +kernel) rfl rfl rfl (by decide +kernel)
set_option maxRecDepth 65536 in
theorem w_c24 : (Jvm.Cond.code ({ cls := "java/util/ArrayList", name := "size", desc := "()I" } : Jvm.MethodName) jdk_38_method_8_code (1 : Nat) (Option.some Jvm.ClassFile.FieldType.int)).before args0 about1 = true := code_word (m := ⟨11, 3⟩) (meth := k11m3) (c := k11c3) (by decide +kernel) rfl rfl rfl (by decide +kernel)
set_option maxRecDepth 65536 in
theorem w_c25 : (Jvm.Cond.code ({ cls := "java/util/ArrayList", name := "subList", desc := "(II)Ljava/util/List;" } : Jvm.MethodName) jdk_38_method_56_code (3 : Nat) (Option.some (Jvm.ClassFile.FieldType.object "java/util/List"))).before args0 about1 = true := code_word (m := ⟨11, 11⟩) (meth := k11m11) (c := k11c11) (by decide +kernel) rfl rfl rfl (by decide +kernel)
set_option maxRecDepth 65536 in
theorem w_c26 : (Jvm.Cond.code ({ cls := "java/util/AbstractList", name := "subListRangeCheck", desc := "(III)V" } : Jvm.MethodName) jdk_39_method_15_code (3 : Nat) (Option.none : Option Jvm.ClassFile.FieldType)).before args0 about1 = true := code_word (m := ⟨7, 2⟩) (meth := k7m2) (c := k7c2) (by decide +kernel) rfl rfl rfl (by decide +kernel)
set_option maxRecDepth 65536 in
theorem w_c27 : (Jvm.Cond.code ({ cls := "java/util/ArrayList$SubList", name := "<init>", desc := "(Ljava/util/ArrayList;II)V" } : Jvm.MethodName) jdk_130_method_1_code (4 : Nat) (Option.none : Option Jvm.ClassFile.FieldType)).before args0 about1 = true := code_word (m := ⟨21, 0⟩) (meth := k21m0) (c := k21c0) (by decide +kernel) rfl rfl rfl (by decide +kernel)
set_option maxRecDepth 65536 in
theorem w_c28 : (Jvm.Cond.code ({ cls := "java/util/AbstractList", name := "clear", desc := "()V" } : Jvm.MethodName) jdk_39_method_9_code (1 : Nat) (Option.none : Option Jvm.ClassFile.FieldType)).before args0 about1 = true := code_word (m := ⟨7, 1⟩) (meth := k7m1) (c := k7c1) (by decide +kernel) rfl rfl rfl (by decide +kernel)
set_option maxRecDepth 65536 in
theorem w_c29 : (Jvm.Cond.code ({ cls := "java/util/ArrayList$SubList", name := "size", desc := "()I" } : Jvm.MethodName) jdk_130_method_5_code (1 : Nat) (Option.some Jvm.ClassFile.FieldType.int)).before args0 about1 = true := code_word (m := ⟨21, 1⟩) (meth := k21m1) (c := k21c1) (by decide +kernel) rfl rfl rfl (by decide +kernel)
set_option maxRecDepth 65536 in
theorem w_c30 : (Jvm.Cond.code ({ cls := "java/util/ArrayList$SubList", name := "checkForComodification", desc := "()V" } : Jvm.MethodName) jdk_130_method_28_code (1 : Nat) (Option.none : Option Jvm.ClassFile.FieldType)).before args0 about1 = true := code_word (m := ⟨21, 3⟩) (meth := k21m3) (c := k21c3) (by decide +kernel) rfl rfl rfl (by decide +kernel)
set_option maxRecDepth 65536 in
theorem w_c31 : (Jvm.Cond.code ({ cls := "java/util/ArrayList$SubList", name := "removeRange", desc := "(II)V" } : Jvm.MethodName) jdk_130_method_8_code (3 : Nat) (Option.none : Option Jvm.ClassFile.FieldType)).before args0 about1 = true := code_word (m := ⟨21, 2⟩) (meth := k21m2) (c := k21c2) (by decide +kernel) rfl rfl rfl (by decide +kernel)
set_option maxRecDepth 65536 in
theorem w_c32 : (Jvm.Cond.code ({ cls := "java/util/ArrayList", name := "removeRange", desc := "(II)V" } : Jvm.MethodName) jdk_38_method_43_code (3 : Nat) (Option.none : Option Jvm.ClassFile.FieldType)).before args0 about1 = true := code_word (m := ⟨11, 8⟩) (meth := k11m8) (c := k11c8) (by decide +kernel) rfl rfl rfl (by decide +kernel)
set_option maxRecDepth 65536 in
theorem w_c33 : (Jvm.Cond.code ({ cls := "java/util/ArrayList", name := "shiftTailOverGap", desc := "([Ljava/lang/Object;II)V" } : Jvm.MethodName) jdk_38_method_44_code (6 : Nat) (Option.none : Option Jvm.ClassFile.FieldType)).before args0 about1 = true := code_word (m := ⟨11, 9⟩) (meth := k11m9) (c := k11c9) (by decide +kernel) rfl rfl rfl (by decide +kernel)
set_option maxRecDepth 65536 in
theorem w_c34 : (Jvm.Cond.code ({ cls := "java/util/ArrayList$SubList", name := "updateSizeAndModCount", desc := "(I)V" } : Jvm.MethodName) jdk_130_method_29_code (3 : Nat) (Option.none : Option Jvm.ClassFile.FieldType)).before args0 about1 = true := code_word (m := ⟨21, 4⟩) (meth := k21m4) (c := k21c4) (by decide +kernel) rfl rfl rfl (by decide +kernel)
def codes1 : List Jvm.Cond := [Jvm.Cond.code x code maxLocals ret, Jvm.Cond.code ({ cls := "java/util/ArrayList", name := "<init>", desc := "()V" } : Jvm.MethodName) jdk_38_method_2_code (1 : Nat) (Option.none : Option Jvm.ClassFile.FieldType), Jvm.Cond.code ({ cls := "java/util/AbstractList", name := "<init>", desc := "()V" } : Jvm.MethodName) jdk_39_method_1_code (1 : Nat) (Option.none : Option Jvm.ClassFile.FieldType), Jvm.Cond.code ({ cls := "java/util/AbstractCollection", name := "<init>", desc := "()V" } : Jvm.MethodName) jdk_22_method_1_code (1 : Nat) (Option.none : Option Jvm.ClassFile.FieldType), Jvm.Cond.code ({ cls := "java/lang/Object", name := "<init>", desc := "()V" } : Jvm.MethodName) object_method_1_code (1 : Nat) (Option.none : Option Jvm.ClassFile.FieldType), Jvm.Cond.code ({ cls := "java/util/ArrayList", name := "add", desc := "(Ljava/lang/Object;)Z" } : Jvm.MethodName) jdk_38_method_25_code (2 : Nat) (Option.some Jvm.ClassFile.FieldType.boolean), Jvm.Cond.code ({ cls := "java/util/ArrayList", name := "add", desc := "(Ljava/lang/Object;[Ljava/lang/Object;I)V" } : Jvm.MethodName) jdk_38_method_24_code (4 : Nat) (Option.none : Option Jvm.ClassFile.FieldType), Jvm.Cond.code ({ cls := "java/util/ArrayList", name := "grow", desc := "()[Ljava/lang/Object;" } : Jvm.MethodName) jdk_38_method_7_code (1 : Nat) (Option.some (Jvm.ClassFile.FieldType.array (Jvm.ClassFile.FieldType.object "java/lang/Object"))), Jvm.Cond.code ({ cls := "java/util/ArrayList", name := "grow", desc := "(I)[Ljava/lang/Object;" } : Jvm.MethodName) jdk_38_method_6_code (4 : Nat) (Option.some (Jvm.ClassFile.FieldType.array (Jvm.ClassFile.FieldType.object "java/lang/Object"))), Jvm.Cond.code ({ cls := "java/lang/Math", name := "max", desc := "(II)I" } : Jvm.MethodName) jdk_29_method_65_code (2 : Nat) (Option.some Jvm.ClassFile.FieldType.int), Jvm.Cond.code ({ cls := "com/example/redelivery/redelivery/engine/MemoryLog", name := "<init>", desc := "()V" } : Jvm.MethodName) prog_7_method_1_code (1 : Nat) (Option.none : Option Jvm.ClassFile.FieldType), Jvm.Cond.code ({ cls := "com/example/redelivery/redelivery/engine/MemoryLog", name := "deletesBefore", desc := "(J)Z" } : Jvm.MethodName) prog_7_method_5_code (3 : Nat) (Option.some Jvm.ClassFile.FieldType.boolean), Jvm.Cond.code ({ cls := "com/example/redelivery/redelivery/engine/MemoryLog", name := "append", desc := "(JLjava/util/List;)V" } : Jvm.MethodName) prog_7_method_3_code (6 : Nat) (Option.none : Option Jvm.ClassFile.FieldType), Jvm.Cond.code ({ cls := "java/util/ArrayList", name := "iterator", desc := "()Ljava/util/Iterator;" } : Jvm.MethodName) jdk_38_method_55_code (1 : Nat) (Option.some (Jvm.ClassFile.FieldType.object "java/util/Iterator")), Jvm.Cond.code ({ cls := "java/util/ArrayList$Itr", name := "<init>", desc := "(Ljava/util/ArrayList;)V" } : Jvm.MethodName) jdk_49_method_1_code (2 : Nat) (Option.none : Option Jvm.ClassFile.FieldType), Jvm.Cond.code ({ cls := "java/util/ArrayList$Itr", name := "hasNext", desc := "()Z" } : Jvm.MethodName) jdk_49_method_2_code (1 : Nat) (Option.some Jvm.ClassFile.FieldType.boolean), Jvm.Cond.code ({ cls := "java/util/ArrayList$Itr", name := "next", desc := "()Ljava/lang/Object;" } : Jvm.MethodName) jdk_49_method_3_code (3 : Nat) (Option.some (Jvm.ClassFile.FieldType.object "java/lang/Object")), Jvm.Cond.code ({ cls := "java/util/ArrayList$Itr", name := "checkForComodification", desc := "()V" } : Jvm.MethodName) jdk_49_method_6_code (1 : Nat) (Option.none : Option Jvm.ClassFile.FieldType), Jvm.Cond.code ({ cls := "com/example/redelivery/redelivery/engine/MemoryLog", name := "dropBefore", desc := "(J)V" } : Jvm.MethodName) prog_7_method_4_code (5 : Nat) (Option.none : Option Jvm.ClassFile.FieldType), Jvm.Cond.code ({ cls := "com/example/redelivery/redelivery/engine/MemoryLog", name := "slot", desc := "(J)I" } : Jvm.MethodName) prog_7_method_8_code (3 : Nat) (Option.some Jvm.ClassFile.FieldType.int), Jvm.Cond.code ({ cls := "java/util/ArrayList", name := "set", desc := "(ILjava/lang/Object;)Ljava/lang/Object;" } : Jvm.MethodName) jdk_38_method_23_code (4 : Nat) (Option.some (Jvm.ClassFile.FieldType.object "java/lang/Object")), Jvm.Cond.code ({ cls := "java/util/Objects", name := "checkIndex", desc := "(II)I" } : Jvm.MethodName) jdk_31_method_17_code (2 : Nat) (Option.some Jvm.ClassFile.FieldType.int), Jvm.Cond.code ({ cls := "jdk/internal/util/Preconditions", name := "checkIndex", desc := "(IILjava/util/function/BiFunction;)I" } : Jvm.MethodName) jdk_41_method_11_code (3 : Nat) (Option.some Jvm.ClassFile.FieldType.int), Jvm.Cond.code ({ cls := "java/util/ArrayList", name := "elementData", desc := "(I)Ljava/lang/Object;" } : Jvm.MethodName) jdk_38_method_18_code (2 : Nat) (Option.some (Jvm.ClassFile.FieldType.object "java/lang/Object")), Jvm.Cond.code ({ cls := "java/util/ArrayList", name := "size", desc := "()I" } : Jvm.MethodName) jdk_38_method_8_code (1 : Nat) (Option.some Jvm.ClassFile.FieldType.int), Jvm.Cond.code ({ cls := "java/util/ArrayList", name := "subList", desc := "(II)Ljava/util/List;" } : Jvm.MethodName) jdk_38_method_56_code (3 : Nat) (Option.some (Jvm.ClassFile.FieldType.object "java/util/List")), Jvm.Cond.code ({ cls := "java/util/AbstractList", name := "subListRangeCheck", desc := "(III)V" } : Jvm.MethodName) jdk_39_method_15_code (3 : Nat) (Option.none : Option Jvm.ClassFile.FieldType), Jvm.Cond.code ({ cls := "java/util/ArrayList$SubList", name := "<init>", desc := "(Ljava/util/ArrayList;II)V" } : Jvm.MethodName) jdk_130_method_1_code (4 : Nat) (Option.none : Option Jvm.ClassFile.FieldType), Jvm.Cond.code ({ cls := "java/util/AbstractList", name := "clear", desc := "()V" } : Jvm.MethodName) jdk_39_method_9_code (1 : Nat) (Option.none : Option Jvm.ClassFile.FieldType), Jvm.Cond.code ({ cls := "java/util/ArrayList$SubList", name := "size", desc := "()I" } : Jvm.MethodName) jdk_130_method_5_code (1 : Nat) (Option.some Jvm.ClassFile.FieldType.int), Jvm.Cond.code ({ cls := "java/util/ArrayList$SubList", name := "checkForComodification", desc := "()V" } : Jvm.MethodName) jdk_130_method_28_code (1 : Nat) (Option.none : Option Jvm.ClassFile.FieldType), Jvm.Cond.code ({ cls := "java/util/ArrayList$SubList", name := "removeRange", desc := "(II)V" } : Jvm.MethodName) jdk_130_method_8_code (3 : Nat) (Option.none : Option Jvm.ClassFile.FieldType), Jvm.Cond.code ({ cls := "java/util/ArrayList", name := "removeRange", desc := "(II)V" } : Jvm.MethodName) jdk_38_method_43_code (3 : Nat) (Option.none : Option Jvm.ClassFile.FieldType), Jvm.Cond.code ({ cls := "java/util/ArrayList", name := "shiftTailOverGap", desc := "([Ljava/lang/Object;II)V" } : Jvm.MethodName) jdk_38_method_44_code (6 : Nat) (Option.none : Option Jvm.ClassFile.FieldType), Jvm.Cond.code ({ cls := "java/util/ArrayList$SubList", name := "updateSizeAndModCount", desc := "(I)V" } : Jvm.MethodName) jdk_130_method_29_code (3 : Nat) (Option.none : Option Jvm.ClassFile.FieldType)]
set_option maxRecDepth 65536 in
theorem codes_eq : words1.filter isCode = codes1 := rfl
theorem w_codes : ∀ c ∈ words1.filter isCode, c.before args0 about1 = true := by
  rw [codes_eq]
  intro c hc
  simp only [codes1, List.mem_cons, List.not_mem_nil, or_false] at hc
  rcases hc with rfl | rfl | rfl | rfl | rfl | rfl | rfl | rfl | rfl | rfl | rfl | rfl | rfl | rfl | rfl | rfl | rfl | rfl | rfl | rfl | rfl | rfl | rfl | rfl | rfl | rfl | rfl | rfl | rfl | rfl | rfl | rfl | rfl | rfl | rfl
  · exact w_c0
  · exact w_c1
  · exact w_c2
  · exact w_c3
  · exact w_c4
  · exact w_c5
  · exact w_c6
  · exact w_c7
  · exact w_c8
  · exact w_c9
  · exact w_c10
  · exact w_c11
  · exact w_c12
  · exact w_c13
  · exact w_c14
  · exact w_c15
  · exact w_c16
  · exact w_c17
  · exact w_c18
  · exact w_c19
  · exact w_c20
  · exact w_c21
  · exact w_c22
  · exact w_c23
  · exact w_c24
  · exact w_c25
  · exact w_c26
  · exact w_c27
  · exact w_c28
  · exact w_c29
  · exact w_c30
  · exact w_c31
  · exact w_c32
  · exact w_c33
  · exact w_c34
set_option maxRecDepth 65536 in
theorem w_t1 : (words1.take 24).all (fun c => isCode c || c.before args0 about1) = true := by decide +kernel
set_option maxRecDepth 65536 in
theorem w_t2 : ((words1.drop 24).take 24).all (fun c => isCode c || c.before args0 about1) = true := by decide +kernel
set_option maxRecDepth 65536 in
theorem w_t3 : (((words1.drop 24).drop 24).take 24).all (fun c => isCode c || c.before args0 about1) = true := by decide +kernel
set_option maxRecDepth 65536 in
theorem w_t4 : ((((words1.drop 24).drop 24).drop 24).take 24).all (fun c => isCode c || c.before args0 about1) = true := by decide +kernel
set_option maxRecDepth 65536 in
theorem w_t5 : (((((words1.drop 24).drop 24).drop 24).drop 24).take 24).all (fun c => isCode c || c.before args0 about1) = true := by decide +kernel
set_option maxRecDepth 65536 in
theorem w_t6 : ((((((words1.drop 24).drop 24).drop 24).drop 24).drop 24).take 24).all (fun c => isCode c || c.before args0 about1) = true := by decide +kernel
set_option maxRecDepth 65536 in
theorem w_t7 : (((((((words1.drop 24).drop 24).drop 24).drop 24).drop 24).drop 24).take 24).all (fun c => isCode c || c.before args0 about1) = true := by decide +kernel
set_option maxRecDepth 65536 in
theorem w_t8 : ((((((((words1.drop 24).drop 24).drop 24).drop 24).drop 24).drop 24).drop 24).take 24).all (fun c => isCode c || c.before args0 about1) = true := by decide +kernel
set_option maxRecDepth 65536 in
theorem w_t9 : (((((((((words1.drop 24).drop 24).drop 24).drop 24).drop 24).drop 24).drop 24).drop 24).take 24).all (fun c => isCode c || c.before args0 about1) = true := by decide +kernel
set_option maxRecDepth 65536 in
theorem w_t10 : ((((((((((words1.drop 24).drop 24).drop 24).drop 24).drop 24).drop 24).drop 24).drop 24).drop 24).take 24).all (fun c => isCode c || c.before args0 about1) = true := by decide +kernel
set_option maxRecDepth 65536 in
theorem w_t11 : ((((((((((words1.drop 24).drop 24).drop 24).drop 24).drop 24).drop 24).drop 24).drop 24).drop 24).drop 24).all (fun c => isCode c || c.before args0 about1) = true := by decide +kernel
theorem w_tables : (allAtoms (Jvm.Cond.code x code maxLocals ret :: tables_1)).before args0 about1 = true := by
  rw [allAtoms_all]
  show words1.all (fun c => c.before args0 about1) = true
  refine all_split ?_ w_codes
  rw [← List.take_append_drop 24 words1, List.all_append, w_t1, ← List.take_append_drop 24 (words1.drop 24), List.all_append, w_t2, ← List.take_append_drop 24 ((words1.drop 24).drop 24), List.all_append, w_t3, ← List.take_append_drop 24 (((words1.drop 24).drop 24).drop 24), List.all_append, w_t4, ← List.take_append_drop 24 ((((words1.drop 24).drop 24).drop 24).drop 24), List.all_append, w_t5, ← List.take_append_drop 24 (((((words1.drop 24).drop 24).drop 24).drop 24).drop 24), List.all_append, w_t6, ← List.take_append_drop 24 ((((((words1.drop 24).drop 24).drop 24).drop 24).drop 24).drop 24), List.all_append, w_t7, ← List.take_append_drop 24 (((((((words1.drop 24).drop 24).drop 24).drop 24).drop 24).drop 24).drop 24), List.all_append, w_t8, ← List.take_append_drop 24 ((((((((words1.drop 24).drop 24).drop 24).drop 24).drop 24).drop 24).drop 24).drop 24), List.all_append, w_t9, ← List.take_append_drop 24 (((((((((words1.drop 24).drop 24).drop 24).drop 24).drop 24).drop 24).drop 24).drop 24).drop 24), List.all_append, w_t10, w_t11]
  rfl
set_option maxRecDepth 65536 in
theorem w_rest : rest_1_c.before args0 about1 = true := by decide +kernel
set_option maxRecDepth 65536 in
theorem w_case : (Jvm.Cond.and given_1 narrow_1).before args0 about1 = true := by decide +kernel
theorem w_applies : (headSpec (Jvm.Cond.code x code maxLocals ret :: tables_1) room_1).applies x e0.platform about1 = true :=
  (Spec.applies_iff w_frames).mpr ⟨w_running, w_runnable, w_alone, w_named, w_hears, w_ripe, w_room, w_tables⟩
theorem atStart : AtStart classFile x code maxLocals ret World_1 tables_1 room_1 Calls_1 rest_1 Pre_1 launch0 p0 e0 about1 theMethod args0 below0 :=
  ⟨lists_1, trivial, launch0.admits_env _ _ _, launch0.least_env, fairChoices_fair.cas, fairChoices_fair.clock, w_frames, w_args, w_heap, w_applies, trivial, w_rest, w_case⟩
end start1
theorem witness_1 : WitnessClaimed_1 := ⟨start1.p0, start1.e0, start1.about1, start1.theMethod, start1.args0, start1.below0, start1.atStart⟩
end Jvm.Pilot.@@N@@
