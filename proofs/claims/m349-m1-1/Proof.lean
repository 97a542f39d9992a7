import JvmDerived
import JvmDerived.Pilot.@@N@@Statement
import JvmDerived.Pilot.@@N@@Code
set_option linter.unusedVariables false
set_option linter.unusedSimpArgs false
namespace Jvm.Pilot.@@N@@
open Jvm Jvm.ClassFile Sem Op Lib Jvm.Free Jvm.Stand Jvm.LawKit Jvm.RoadKit Bundle Jvm.Pilot.@@N@@.Jvm.D
section OwnKit
variable {p : Program} {l : Launch} {e : Env} {R : Room} {s : State} {m : MethodId} {args : Array Value} {below : List Frame} {meth : Method} {c : Code} {Z : State} {y : MethodName} {ret : Option FieldType} {code : ByteArray} {ml : Nat} {ws : List Addr} {T : State} {h : Heap} {cells slots : Nat} {C : Outcome → State → Prop} {a0 : Array Value}
/-- the run goes on from this frame to an end that C allows -/
def own_Go (p : Program) (e : Env) (below : List Frame) (C : Outcome → State → Prop) (T : State) (g : JFrame) : Prop :=
  ∃ u o, Steps p.tables e below (T.setTop g) u ∧ u.status = .running ∧ Ended u below o ∧ C o u
/-- what was written lies at one of ws, or is new since s -/
def own_Fw (s : State) (ws : List Addr) (L : List Loc) : Prop := ∀ y ∈ L, y.base ∈ ws ∨ s.heap.size ≤ y.base
/-- where the walk stands: what is fixed of this body; the heap h; nothing old written but at ws -/
def own_W (p : Program) (l : Launch) (e : Env) (R : Room) (s : State) (m : MethodId) (args : Array Value) (below : List Frame) (meth : Method) (c : Code) (Z : State) (y : MethodName) (ret : Option FieldType) (code : ByteArray) (ml : Nat) (ws : List Addr) (T : State) (h : Heap) (cells slots : Nat) : Prop :=
  (p.tables.exec = Jvm.exec ∧ c.code = code ∧ c.maxLocals = ml ∧ s.vm.findClass y.cls = some m.cls ∧ meth.name = y.name ∧ meth.sig.returnType = ret ∧ meth.locks = false ∧ Z.Warmed39 s.vm) ∧ ∃ locs, Stand p l e R s m args below meth c T locs cells slots ∧ T.heap = h ∧ own_Fw s ws locs
/-- what a call leaves: written at ws or new alone; all else kept; where nothing is made or written the heap itself; and Q -/
def own_Q (ws : List Addr) (rm : Room) (h0 : Heap) (Q : Option Value → Heap → Prop) (v : Option Value) (h : Heap) (L : List Loc) : Prop := (∀ y ∈ L, y.base ∈ ws ∨ h0.size ≤ y.base) ∧ Keep h0 h ws ∧ (rm.cells = 0 → ws = [] → h = h0) ∧ Q v h
/-- a body's contract: called with A at the heap h0 it returns, Q holds of what it returns and of the heap, nothing old is written but at ws -/
def own_M (l : Launch) (Z : State) (wo : List Jvm.Cond) (y : MethodName) (bytes : ByteArray) (maxL : Nat) (ret : Option FieldType) (rm : Room) (ws : List Addr) (A : Array Value) (h0 : Heap) (Q : Option Value → Heap → Prop) : Prop :=
  MetFree l y (head1 (Jvm.Cond.code y bytes maxL ret :: wo) rm) (fun a U => a = A ∧ Z.Warmed39 U.vm ∧ U.heap = h0) (fun _ _ _ _ _ => True) (fun _ U o U' => ∃ v L, o = .returned v ∧ own_Q ws rm h0 Q v U'.heap L ∧ FrameEnd U o U' L rm.cells rm.slots)
theorem own_keep {u : State} {L : List Loc} {k n : Nat} (q : s.sameButNew ({ u with vm := s.vm } : State) L k n) (F : own_Fw s ws L) : Keep s.heap u.heap ws := by
  obtain ⟨-, q2, -, -, -, q6⟩ := q
  refine ⟨q2, fun x c hx hn => ?_, fun x c hx => ?_⟩
  · obtain ⟨c', h1, h2, h3, h4⟩ := q6 x c hx
    have h5 : c'.slots = c.slots := by
      apply Array.ext_getElem?
      intro i
      refine h4 i fun hm => ?_
      rcases F _ hm with w | w
      · exact hn w
      · exact absurd (Array.getElem?_eq_some_iff.mp hx).1 (Nat.not_lt.mpr w)
    rw [h5] at h2
    rw [h2] at h1
    exact h1
  · obtain ⟨c', h1, h2, h3, h4⟩ := q6 x c hx
    exact ⟨c', h1, by rw [h2], by rw [h2], h3⟩
theorem own_same0 {u : State} {L : List Loc} {n : Nat} (q : s.sameButNew ({ u with vm := s.vm } : State) L 0 n) (K : Keep s.heap u.heap []) : u.heap = s.heap := by
  obtain ⟨-, q2, q3, -⟩ := q
  apply Array.ext_getElem?
  intro i
  rcases Nat.lt_or_ge i s.heap.size with hi | hi
  · have hs : s.heap[i]? = some s.heap[i] := Array.getElem?_eq_getElem hi
    rw [hs]
    exact K.2.1 i _ hs nin0
  · have h1 : u.heap.size ≤ i := Nat.le_trans q3 hi
    rw [Array.getElem?_eq_none hi, Array.getElem?_eq_none h1]
theorem own_st {T' : State} {g g' : JFrame} (q : ∀ t, Steps p.tables e below (T'.setTop g') t → Steps p.tables e below (T.setTop g) t) (k : own_Go p e below C T' g') : own_Go p e below C T g := by
  obtain ⟨u, o, h1, h2⟩ := k
  exact ⟨u, o, q _ h1, h2⟩
theorem own_tr {T' : State} {g g' : JFrame} (q : Steps p.tables e below (T.setTop g) (T'.setTop g')) (k : own_Go p e below C T' g') : own_Go p e below C T g := by
  obtain ⟨u, o, h1, h2⟩ := k
  exact ⟨u, o, q.trans h1, h2⟩
theorem own_body {wo : List Jvm.Cond} {maxL : Nat} {rm : Room} {A : Array Value} {h0 : Heap} {Q : Option Value → Heap → Prop} {L0 : Array Slot} (hpl : plainFor y = true) (hef : ∀ m, entryFrame m A maxL = mkF m 0 L0 [])
    (body : ∀ p e s m below meth c (C : Outcome → State → Prop) (_ : ∀ v L u, own_Fw s ws L → Q v u.heap → FrameEnd s (.returned v) u L rm.cells rm.slots → C (.returned v) u) T0,
      own_W p l e rm s m A below meth c Z y ret code maxL ws T0 h0 0 0 → own_Go p e below C T0 (mkF m 0 L0 [])) :
    own_M l Z wo y code maxL ret rm ws A h0 Q := by
  refine MetFree.of_bodySF hpl hisR ?_
  intro p e s m args below meth c s₁ Bd hml0 hP hK
  obtain ⟨rfl, hZ, rfl⟩ := hP
  have X0 : Stand p l e rm s m _ below meth c s₁ [] 0 0 := Stand.of_body Bd
  have e0 : s₁.heap = s.heap := by rw [Bd.state]; rfl
  have hlk : meth.locks = false := BodyLoose.notSynchronized Bd
  have k := body p e s m below meth c (fun o U' => ∃ v L, o = .returned v ∧ own_Q ws rm s.heap Q v U'.heap L ∧ FrameEnd s o U' L rm.cells rm.slots)
    (fun v L u h1 h2 h3 => by
      have K := own_keep h3.2.2 h1
      refine ⟨v, L, rfl, ⟨h1, K, fun hc hw => ?_, h2⟩, h3⟩
      subst hw
      have h4 := h3.2.2
      rw [hc] at h4
      exact own_same0 h4 K) s₁
    ⟨⟨Bd.exec, Bd.bytes, hml0, findClass_of_methodNamed Bd.named, (name_of_methodNamed Bd.named Bd.method).1, Bd.returns, hlk, hZ⟩, [], X0, e0, fun _ hy => nomatch hy⟩
  obtain ⟨u, o, h1, h2⟩ := k
  exact ⟨u, o, castTop (hef m) h1, h2⟩
theorem own_Fw_snoc {L : List Loc} {a : Addr} {sl : Nat} (N : own_Fw s ws L) (q : a ∈ ws ∨ s.heap.size ≤ a) : own_Fw s ws (L ++ [⟨a, sl⟩]) := fun y hy => by
  rcases List.mem_append.mp hy with w | w
  · exact N y w
  · cases List.mem_singleton.mp w; exact q
theorem own_Fw_app {L L' : List Loc} {wc' : List Addr} (N : own_Fw s ws L) (q : ∀ y ∈ L', y.base ∈ wc' ∨ h.size ≤ y.base) (r : ∀ b ∈ wc', b ∈ ws ∨ s.heap.size ≤ b) (z : s.heap.size ≤ h.size) : own_Fw s ws (L ++ L') := fun y hy => by
  rcases List.mem_append.mp hy with w | w
  · exact N y w
  · rcases q y w with u | u
    · exact r _ u
    · exact Or.inr (Nat.le_trans z u)
theorem own_le (W : own_W p l e R s m args below meth c Z y ret code ml ws T h cells slots) : s.heap.size ≤ h.size := by
  obtain ⟨-, locs, X, rfl, -⟩ := W
  exact X.same.2.1
theorem own_iadd (W : own_W p l e R s m args below meth c Z y ret code ml ws T h cells slots) {u v : Int32} {pc : Nat} (pc' : Nat) {L : Array Slot} {st : List Value} (hd : decode code pc = .ok (.iadd, 1))  (hp : pc + 1 = pc') (k : own_Go p e below C T (mkF m pc' L (.int (u + v) :: st))) : own_Go p e below C T (mkF m pc L (.int v :: .int u :: st)) := by
  have hsz := own_le W
  obtain ⟨⟨hx, hby, hml, hown, hnm, hrt, hlk, hZ⟩, locs, X, eT, N⟩ := W
  subst hp
  exact own_st (fun _ k => XS.iadd X.here hx rfl (hb hby hd) rfl k) k
theorem own_ladd (W : own_W p l e R s m args below meth c Z y ret code ml ws T h cells slots) {u v : Int64} {pc : Nat} (pc' : Nat) {L : Array Slot} {st : List Value} (hd : decode code pc = .ok (.ladd, 1))  (hp : pc + 1 = pc') (k : own_Go p e below C T (mkF m pc' L (.long (u + v) :: st))) : own_Go p e below C T (mkF m pc L (.long v :: .long u :: st)) := by
  have hsz := own_le W
  obtain ⟨⟨hx, hby, hml, hown, hnm, hrt, hlk, hZ⟩, locs, X, eT, N⟩ := W
  subst hp
  exact own_st (fun _ k => XS.ladd X.here hx rfl (hb hby hd) rfl k) k
theorem own_isub (W : own_W p l e R s m args below meth c Z y ret code ml ws T h cells slots) {u v : Int32} {pc : Nat} (pc' : Nat) {L : Array Slot} {st : List Value} (hd : decode code pc = .ok (.isub, 1))  (hp : pc + 1 = pc') (k : own_Go p e below C T (mkF m pc' L (.int (u - v) :: st))) : own_Go p e below C T (mkF m pc L (.int v :: .int u :: st)) := by
  have hsz := own_le W
  obtain ⟨⟨hx, hby, hml, hown, hnm, hrt, hlk, hZ⟩, locs, X, eT, N⟩ := W
  subst hp
  exact own_st (fun _ k => XS.isub X.here hx rfl (hb hby hd) rfl k) k
theorem own_lsub (W : own_W p l e R s m args below meth c Z y ret code ml ws T h cells slots) {u v : Int64} {pc : Nat} (pc' : Nat) {L : Array Slot} {st : List Value} (hd : decode code pc = .ok (.lsub, 1))  (hp : pc + 1 = pc') (k : own_Go p e below C T (mkF m pc' L (.long (u - v) :: st))) : own_Go p e below C T (mkF m pc L (.long v :: .long u :: st)) := by
  have hsz := own_le W
  obtain ⟨⟨hx, hby, hml, hown, hnm, hrt, hlk, hZ⟩, locs, X, eT, N⟩ := W
  subst hp
  exact own_st (fun _ k => XS.lsub X.here hx rfl (hb hby hd) rfl k) k
theorem own_imul (W : own_W p l e R s m args below meth c Z y ret code ml ws T h cells slots) {u v : Int32} {pc : Nat} (pc' : Nat) {L : Array Slot} {st : List Value} (hd : decode code pc = .ok (.imul, 1))  (hp : pc + 1 = pc') (k : own_Go p e below C T (mkF m pc' L (.int (u * v) :: st))) : own_Go p e below C T (mkF m pc L (.int v :: .int u :: st)) := by
  have hsz := own_le W
  obtain ⟨⟨hx, hby, hml, hown, hnm, hrt, hlk, hZ⟩, locs, X, eT, N⟩ := W
  subst hp
  exact own_st (fun _ k => XS.imul X.here hx rfl (hb hby hd) rfl k) k
theorem own_lmul (W : own_W p l e R s m args below meth c Z y ret code ml ws T h cells slots) {u v : Int64} {pc : Nat} (pc' : Nat) {L : Array Slot} {st : List Value} (hd : decode code pc = .ok (.lmul, 1))  (hp : pc + 1 = pc') (k : own_Go p e below C T (mkF m pc' L (.long (u * v) :: st))) : own_Go p e below C T (mkF m pc L (.long v :: .long u :: st)) := by
  have hsz := own_le W
  obtain ⟨⟨hx, hby, hml, hown, hnm, hrt, hlk, hZ⟩, locs, X, eT, N⟩ := W
  subst hp
  exact own_st (fun _ k => XS.lmul X.here hx rfl (hb hby hd) rfl k) k
theorem own_iand (W : own_W p l e R s m args below meth c Z y ret code ml ws T h cells slots) {u v : Int32} {pc : Nat} (pc' : Nat) {L : Array Slot} {st : List Value} (hd : decode code pc = .ok (.iand, 1))  (hp : pc + 1 = pc') (k : own_Go p e below C T (mkF m pc' L (.int (u &&& v) :: st))) : own_Go p e below C T (mkF m pc L (.int v :: .int u :: st)) := by
  have hsz := own_le W
  obtain ⟨⟨hx, hby, hml, hown, hnm, hrt, hlk, hZ⟩, locs, X, eT, N⟩ := W
  subst hp
  exact own_st (fun _ k => XS.iand X.here hx rfl (hb hby hd) rfl k) k
theorem own_land (W : own_W p l e R s m args below meth c Z y ret code ml ws T h cells slots) {u v : Int64} {pc : Nat} (pc' : Nat) {L : Array Slot} {st : List Value} (hd : decode code pc = .ok (.land, 1))  (hp : pc + 1 = pc') (k : own_Go p e below C T (mkF m pc' L (.long (u &&& v) :: st))) : own_Go p e below C T (mkF m pc L (.long v :: .long u :: st)) := by
  have hsz := own_le W
  obtain ⟨⟨hx, hby, hml, hown, hnm, hrt, hlk, hZ⟩, locs, X, eT, N⟩ := W
  subst hp
  exact own_st (fun _ k => XS.land X.here hx rfl (hb hby hd) rfl k) k
theorem own_ior (W : own_W p l e R s m args below meth c Z y ret code ml ws T h cells slots) {u v : Int32} {pc : Nat} (pc' : Nat) {L : Array Slot} {st : List Value} (hd : decode code pc = .ok (.ior, 1))  (hp : pc + 1 = pc') (k : own_Go p e below C T (mkF m pc' L (.int (u ||| v) :: st))) : own_Go p e below C T (mkF m pc L (.int v :: .int u :: st)) := by
  have hsz := own_le W
  obtain ⟨⟨hx, hby, hml, hown, hnm, hrt, hlk, hZ⟩, locs, X, eT, N⟩ := W
  subst hp
  exact own_st (fun _ k => XS.ior X.here hx rfl (hb hby hd) rfl k) k
theorem own_lor (W : own_W p l e R s m args below meth c Z y ret code ml ws T h cells slots) {u v : Int64} {pc : Nat} (pc' : Nat) {L : Array Slot} {st : List Value} (hd : decode code pc = .ok (.lor, 1))  (hp : pc + 1 = pc') (k : own_Go p e below C T (mkF m pc' L (.long (u ||| v) :: st))) : own_Go p e below C T (mkF m pc L (.long v :: .long u :: st)) := by
  have hsz := own_le W
  obtain ⟨⟨hx, hby, hml, hown, hnm, hrt, hlk, hZ⟩, locs, X, eT, N⟩ := W
  subst hp
  exact own_st (fun _ k => XS.lor X.here hx rfl (hb hby hd) rfl k) k
theorem own_ixor (W : own_W p l e R s m args below meth c Z y ret code ml ws T h cells slots) {u v : Int32} {pc : Nat} (pc' : Nat) {L : Array Slot} {st : List Value} (hd : decode code pc = .ok (.ixor, 1))  (hp : pc + 1 = pc') (k : own_Go p e below C T (mkF m pc' L (.int (u ^^^ v) :: st))) : own_Go p e below C T (mkF m pc L (.int v :: .int u :: st)) := by
  have hsz := own_le W
  obtain ⟨⟨hx, hby, hml, hown, hnm, hrt, hlk, hZ⟩, locs, X, eT, N⟩ := W
  subst hp
  exact own_st (fun _ k => XS.ixor X.here hx rfl (hb hby hd) rfl k) k
theorem own_lxor (W : own_W p l e R s m args below meth c Z y ret code ml ws T h cells slots) {u v : Int64} {pc : Nat} (pc' : Nat) {L : Array Slot} {st : List Value} (hd : decode code pc = .ok (.lxor, 1))  (hp : pc + 1 = pc') (k : own_Go p e below C T (mkF m pc' L (.long (u ^^^ v) :: st))) : own_Go p e below C T (mkF m pc L (.long v :: .long u :: st)) := by
  have hsz := own_le W
  obtain ⟨⟨hx, hby, hml, hown, hnm, hrt, hlk, hZ⟩, locs, X, eT, N⟩ := W
  subst hp
  exact own_st (fun _ k => XS.lxor X.here hx rfl (hb hby hd) rfl k) k
theorem own_ishl (W : own_W p l e R s m args below meth c Z y ret code ml ws T h cells slots) {u v : Int32} {pc : Nat} (pc' : Nat) {L : Array Slot} {st : List Value} (hd : decode code pc = .ok (.ishl, 1))  (hp : pc + 1 = pc') (k : own_Go p e below C T (mkF m pc' L (.int (u <<< (v &&& 31)) :: st))) : own_Go p e below C T (mkF m pc L (.int v :: .int u :: st)) := by
  have hsz := own_le W
  obtain ⟨⟨hx, hby, hml, hown, hnm, hrt, hlk, hZ⟩, locs, X, eT, N⟩ := W
  subst hp
  exact own_st (fun _ k => XS.ishl X.here hx rfl (hb hby hd) rfl k) k
theorem own_ishr (W : own_W p l e R s m args below meth c Z y ret code ml ws T h cells slots) {u v : Int32} {pc : Nat} (pc' : Nat) {L : Array Slot} {st : List Value} (hd : decode code pc = .ok (.ishr, 1))  (hp : pc + 1 = pc') (k : own_Go p e below C T (mkF m pc' L (.int (u >>> (v &&& 31)) :: st))) : own_Go p e below C T (mkF m pc L (.int v :: .int u :: st)) := by
  have hsz := own_le W
  obtain ⟨⟨hx, hby, hml, hown, hnm, hrt, hlk, hZ⟩, locs, X, eT, N⟩ := W
  subst hp
  exact own_st (fun _ k => XS.ishr X.here hx rfl (hb hby hd) rfl k) k
theorem own_iushr (W : own_W p l e R s m args below meth c Z y ret code ml ws T h cells slots) {u v : Int32} {pc : Nat} (pc' : Nat) {L : Array Slot} {st : List Value} (hd : decode code pc = .ok (.iushr, 1))  (hp : pc + 1 = pc') (k : own_Go p e below C T (mkF m pc' L (.int ((u.toUInt32 >>> (v &&& 31).toUInt32).toInt32) :: st))) : own_Go p e below C T (mkF m pc L (.int v :: .int u :: st)) := by
  have hsz := own_le W
  obtain ⟨⟨hx, hby, hml, hown, hnm, hrt, hlk, hZ⟩, locs, X, eT, N⟩ := W
  subst hp
  exact own_st (fun _ k => XS.iushr X.here hx rfl (hb hby hd) rfl k) k
theorem own_lshl (W : own_W p l e R s m args below meth c Z y ret code ml ws T h cells slots) {u : Int64} {v : Int32} {pc : Nat} (pc' : Nat) {L : Array Slot} {st : List Value} (hd : decode code pc = .ok (.lshl, 1))  (hp : pc + 1 = pc') (k : own_Go p e below C T (mkF m pc' L (.long (u <<< (v &&& 0x3f).toInt64) :: st))) : own_Go p e below C T (mkF m pc L (.int v :: .long u :: st)) := by
  have hsz := own_le W
  obtain ⟨⟨hx, hby, hml, hown, hnm, hrt, hlk, hZ⟩, locs, X, eT, N⟩ := W
  subst hp
  exact own_st (fun _ k => XS.lshl X.here hx rfl (hb hby hd) rfl k) k
theorem own_lshr (W : own_W p l e R s m args below meth c Z y ret code ml ws T h cells slots) {u : Int64} {v : Int32} {pc : Nat} (pc' : Nat) {L : Array Slot} {st : List Value} (hd : decode code pc = .ok (.lshr, 1))  (hp : pc + 1 = pc') (k : own_Go p e below C T (mkF m pc' L (.long (u >>> (v &&& 0x3f).toInt64) :: st))) : own_Go p e below C T (mkF m pc L (.int v :: .long u :: st)) := by
  have hsz := own_le W
  obtain ⟨⟨hx, hby, hml, hown, hnm, hrt, hlk, hZ⟩, locs, X, eT, N⟩ := W
  subst hp
  exact own_st (fun _ k => XS.lshr X.here hx rfl (hb hby hd) rfl k) k
theorem own_lushr (W : own_W p l e R s m args below meth c Z y ret code ml ws T h cells slots) {u : Int64} {v : Int32} {pc : Nat} (pc' : Nat) {L : Array Slot} {st : List Value} (hd : decode code pc = .ok (.lushr, 1))  (hp : pc + 1 = pc') (k : own_Go p e below C T (mkF m pc' L (.long ((u.toUInt64 >>> (v &&& 0x3f).toInt64.toUInt64).toInt64) :: st))) : own_Go p e below C T (mkF m pc L (.int v :: .long u :: st)) := by
  have hsz := own_le W
  obtain ⟨⟨hx, hby, hml, hown, hnm, hrt, hlk, hZ⟩, locs, X, eT, N⟩ := W
  subst hp
  exact own_st (fun _ k => XS.lushr X.here hx rfl (hb hby hd) rfl k) k
theorem own_ineg (W : own_W p l e R s m args below meth c Z y ret code ml ws T h cells slots) {u : Int32} {pc : Nat} (pc' : Nat) {L : Array Slot} {st : List Value} (hd : decode code pc = .ok (.ineg, 1))  (hp : pc + 1 = pc') (k : own_Go p e below C T (mkF m pc' L (.int (-u) :: st))) : own_Go p e below C T (mkF m pc L (.int u :: st)) := by
  have hsz := own_le W
  obtain ⟨⟨hx, hby, hml, hown, hnm, hrt, hlk, hZ⟩, locs, X, eT, N⟩ := W
  subst hp
  exact own_st (fun _ k => XS.ineg X.here hx rfl (hb hby hd) rfl k) k
theorem own_lneg (W : own_W p l e R s m args below meth c Z y ret code ml ws T h cells slots) {u : Int64} {pc : Nat} (pc' : Nat) {L : Array Slot} {st : List Value} (hd : decode code pc = .ok (.lneg, 1))  (hp : pc + 1 = pc') (k : own_Go p e below C T (mkF m pc' L (.long (-u) :: st))) : own_Go p e below C T (mkF m pc L (.long u :: st)) := by
  have hsz := own_le W
  obtain ⟨⟨hx, hby, hml, hown, hnm, hrt, hlk, hZ⟩, locs, X, eT, N⟩ := W
  subst hp
  exact own_st (fun _ k => XS.lneg X.here hx rfl (hb hby hd) rfl k) k
theorem own_i2l (W : own_W p l e R s m args below meth c Z y ret code ml ws T h cells slots) {u : Int32} {pc : Nat} (pc' : Nat) {L : Array Slot} {st : List Value} (hd : decode code pc = .ok (.i2l, 1))  (hp : pc + 1 = pc') (k : own_Go p e below C T (mkF m pc' L (.long u.toInt64 :: st))) : own_Go p e below C T (mkF m pc L (.int u :: st)) := by
  have hsz := own_le W
  obtain ⟨⟨hx, hby, hml, hown, hnm, hrt, hlk, hZ⟩, locs, X, eT, N⟩ := W
  subst hp
  exact own_st (fun _ k => XS.i2l X.here hx rfl (hb hby hd) rfl k) k
theorem own_l2i (W : own_W p l e R s m args below meth c Z y ret code ml ws T h cells slots) {u : Int64} {pc : Nat} (pc' : Nat) {L : Array Slot} {st : List Value} (hd : decode code pc = .ok (.l2i, 1))  (hp : pc + 1 = pc') (k : own_Go p e below C T (mkF m pc' L (.int u.toInt32 :: st))) : own_Go p e below C T (mkF m pc L (.long u :: st)) := by
  have hsz := own_le W
  obtain ⟨⟨hx, hby, hml, hown, hnm, hrt, hlk, hZ⟩, locs, X, eT, N⟩ := W
  subst hp
  exact own_st (fun _ k => XS.l2i X.here hx rfl (hb hby hd) rfl k) k
theorem own_i2b (W : own_W p l e R s m args below meth c Z y ret code ml ws T h cells slots) {u : Int32} {pc : Nat} (pc' : Nat) {L : Array Slot} {st : List Value} (hd : decode code pc = .ok (.i2b, 1))  (hp : pc + 1 = pc') (k : own_Go p e below C T (mkF m pc' L (.int u.toInt8.toInt32 :: st))) : own_Go p e below C T (mkF m pc L (.int u :: st)) := by
  have hsz := own_le W
  obtain ⟨⟨hx, hby, hml, hown, hnm, hrt, hlk, hZ⟩, locs, X, eT, N⟩ := W
  subst hp
  exact own_st (fun _ k => XS.i2b X.here hx rfl (hb hby hd) rfl k) k
theorem own_i2c (W : own_W p l e R s m args below meth c Z y ret code ml ws T h cells slots) {u : Int32} {pc : Nat} (pc' : Nat) {L : Array Slot} {st : List Value} (hd : decode code pc = .ok (.i2c, 1))  (hp : pc + 1 = pc') (k : own_Go p e below C T (mkF m pc' L (.int u.toUInt32.toUInt16.toUInt32.toInt32 :: st))) : own_Go p e below C T (mkF m pc L (.int u :: st)) := by
  have hsz := own_le W
  obtain ⟨⟨hx, hby, hml, hown, hnm, hrt, hlk, hZ⟩, locs, X, eT, N⟩ := W
  subst hp
  exact own_st (fun _ k => XS.i2c X.here hx rfl (hb hby hd) rfl k) k
theorem own_lcmp (W : own_W p l e R s m args below meth c Z y ret code ml ws T h cells slots) {u v : Int64} {pc : Nat} (pc' : Nat) {L : Array Slot} {st : List Value} (hd : decode code pc = .ok (.lcmp, 1))  (hp : pc + 1 = pc') (k : own_Go p e below C T (mkF m pc' L (.int (lcmpW u v) :: st))) : own_Go p e below C T (mkF m pc L (.long v :: .long u :: st)) := by
  have hsz := own_le W
  obtain ⟨⟨hx, hby, hml, hown, hnm, hrt, hlk, hZ⟩, locs, X, eT, N⟩ := W
  subst hp
  exact own_st (fun _ k => XS.lcmp X.here hx rfl (hb hby hd) rfl k) k
theorem own_idiv (W : own_W p l e R s m args below meth c Z y ret code ml ws T h cells slots) {u v : Int32} {pc : Nat} (pc' : Nat) {L : Array Slot} {st : List Value} (hd : decode code pc = .ok (.idiv, 1)) (hv : v ≠ 0) (hp : pc + 1 = pc') (k : own_Go p e below C T (mkF m pc' L (.int (u / v) :: st))) : own_Go p e below C T (mkF m pc L (.int v :: .int u :: st)) := by
  have hsz := own_le W
  obtain ⟨⟨hx, hby, hml, hown, hnm, hrt, hlk, hZ⟩, locs, X, eT, N⟩ := W
  subst hp
  exact own_st (fun _ k => XS.idiv X.here hx rfl (hb hby hd) rfl hv k) k
theorem own_ldiv (W : own_W p l e R s m args below meth c Z y ret code ml ws T h cells slots) {u v : Int64} {pc : Nat} (pc' : Nat) {L : Array Slot} {st : List Value} (hd : decode code pc = .ok (.ldiv, 1)) (hv : v ≠ 0) (hp : pc + 1 = pc') (k : own_Go p e below C T (mkF m pc' L (.long (u / v) :: st))) : own_Go p e below C T (mkF m pc L (.long v :: .long u :: st)) := by
  have hsz := own_le W
  obtain ⟨⟨hx, hby, hml, hown, hnm, hrt, hlk, hZ⟩, locs, X, eT, N⟩ := W
  subst hp
  exact own_st (fun _ k => XS.ldiv X.here hx rfl (hb hby hd) rfl hv k) k
theorem own_lrem (W : own_W p l e R s m args below meth c Z y ret code ml ws T h cells slots) {u v : Int64} {pc : Nat} (pc' : Nat) {L : Array Slot} {st : List Value} (hd : decode code pc = .ok (.lrem, 1)) (hv : v ≠ 0) (hp : pc + 1 = pc') (k : own_Go p e below C T (mkF m pc' L (.long (u - (u / v) * v) :: st))) : own_Go p e below C T (mkF m pc L (.long v :: .long u :: st)) := by
  have hsz := own_le W
  obtain ⟨⟨hx, hby, hml, hown, hnm, hrt, hlk, hZ⟩, locs, X, eT, N⟩ := W
  subst hp
  exact own_st (fun _ k => XS.lrem X.here hx rfl (hb hby hd) rfl hv k) k
theorem own_irem (W : own_W p l e R s m args below meth c Z y ret code ml ws T h cells slots) {u v : Int32} {pc : Nat} (pc' : Nat) {L : Array Slot} {st : List Value} (hd : decode code pc = .ok (.irem, 1)) (hv : v ≠ 0) (hp : pc + 1 = pc') (k : own_Go p e below C T (mkF m pc' L (.int (u % v) :: st))) : own_Go p e below C T (mkF m pc L (.int v :: .int u :: st)) := by
  have hsz := own_le W
  obtain ⟨⟨hx, hby, hml, hown, hnm, hrt, hlk, hZ⟩, locs, X, eT, N⟩ := W
  subst hp
  exact own_st (fun _ k => iremM X hx rfl (hb hby hd) rfl hv k) k
theorem own_iconst (W : own_W p l e R s m args below meth c Z y ret code ml ws T h cells slots) {i : Int} (v : Int32) {pc : Nat} (pc' : Nat) {L : Array Slot} {st : List Value} (hd : decode code pc = .ok (.iconst i, 1)) (hv : Int32.ofInt i = v) (hp : pc + 1 = pc') (k : own_Go p e below C T (mkF m pc' L (.int v :: st))) : own_Go p e below C T (mkF m pc L st) := by
  have hsz := own_le W
  obtain ⟨⟨hx, hby, hml, hown, hnm, hrt, hlk, hZ⟩, locs, X, eT, N⟩ := W
  subst hp hv
  exact own_st (fun _ k => XS.iconst X.here hx rfl (hb hby hd) k) k
theorem own_bipush (W : own_W p l e R s m args below meth c Z y ret code ml ws T h cells slots) {i : Int} (v : Int32) {pc : Nat} (pc' : Nat) {L : Array Slot} {st : List Value} (hd : decode code pc = .ok (.bipush i, 2)) (hv : (Int8.ofInt i).toInt32 = v) (hp : pc + 2 = pc') (k : own_Go p e below C T (mkF m pc' L (.int v :: st))) : own_Go p e below C T (mkF m pc L st) := by
  have hsz := own_le W
  obtain ⟨⟨hx, hby, hml, hown, hnm, hrt, hlk, hZ⟩, locs, X, eT, N⟩ := W
  subst hp hv
  exact own_st (fun _ k => XS.bipush X.here hx rfl (hb hby hd) k) k
theorem own_sipush (W : own_W p l e R s m args below meth c Z y ret code ml ws T h cells slots) {i : Int} (v : Int32) {pc : Nat} (pc' : Nat) {L : Array Slot} {st : List Value} (hd : decode code pc = .ok (.sipush i, 3)) (hv : (Int16.ofInt i).toInt32 = v) (hp : pc + 3 = pc') (k : own_Go p e below C T (mkF m pc' L (.int v :: st))) : own_Go p e below C T (mkF m pc L st) := by
  have hsz := own_le W
  obtain ⟨⟨hx, hby, hml, hown, hnm, hrt, hlk, hZ⟩, locs, X, eT, N⟩ := W
  subst hp hv
  exact own_st (fun _ k => XS.sipush X.here hx rfl (hb hby hd) k) k
theorem own_lconst (W : own_W p l e R s m args below meth c Z y ret code ml ws T h cells slots) {i : Fin 2} (v : Int64) {pc : Nat} (pc' : Nat) {L : Array Slot} {st : List Value} (hd : decode code pc = .ok (.lconst i, 1)) (hv : Int64.ofNat i.val = v) (hp : pc + 1 = pc') (k : own_Go p e below C T (mkF m pc' L (.long v :: st))) : own_Go p e below C T (mkF m pc L st) := by
  have hsz := own_le W
  obtain ⟨⟨hx, hby, hml, hown, hnm, hrt, hlk, hZ⟩, locs, X, eT, N⟩ := W
  subst hp hv
  exact own_st (fun _ k => XS.lconst X.here hx rfl (hb hby hd) k) k
theorem own_aconst_null (W : own_W p l e R s m args below meth c Z y ret code ml ws T h cells slots) {pc : Nat} (pc' : Nat) {L : Array Slot} {st : List Value} (hd : decode code pc = .ok (.aconst_null, 1)) (hp : pc + 1 = pc') (k : own_Go p e below C T (mkF m pc' L (.null :: st))) : own_Go p e below C T (mkF m pc L st) := by
  have hsz := own_le W
  obtain ⟨⟨hx, hby, hml, hown, hnm, hrt, hlk, hZ⟩, locs, X, eT, N⟩ := W
  subst hp
  exact own_st (fun _ k => XS.aconstNull X.here hx rfl (hb hby hd) k) k
theorem own_ldcInt (W : own_W p l e R s m args below meth c Z y ret code ml ws T h cells slots) {i : Nat} {v : Int32} {pc : Nat} (pc' : Nat) {L : Array Slot} {st : List Value} (hd : decode code pc = .ok (.ldc i, 2)) (w : (Jvm.Cond.constant y.cls i v).before a0 Z = true) (hp : pc + 2 = pc') (k : own_Go p e below C T (mkF m pc' L (.int v :: st))) : own_Go p e below C T (mkF m pc L st) := by
  have hsz := own_le W
  obtain ⟨⟨hx, hby, hml, hown, hnm, hrt, hlk, hZ⟩, locs, X, eT, N⟩ := W
  subst hp
  exact own_st (fun _ k => X.ldcInt hx hown (mvT hZ w) (g := mkF m pc L st) rfl (hb hby hd) _ k) k
theorem own_ldc2Long (W : own_W p l e R s m args below meth c Z y ret code ml ws T h cells slots) {i : Nat} {v : Int64} {pc : Nat} (pc' : Nat) {L : Array Slot} {st : List Value} (hd : decode code pc = .ok (.ldc2_w i, 3)) (w : (Jvm.Cond.constantLong y.cls i v).before a0 Z = true) (hp : pc + 3 = pc') (k : own_Go p e below C T (mkF m pc' L (.long v :: st))) : own_Go p e below C T (mkF m pc L st) := by
  have hsz := own_le W
  obtain ⟨⟨hx, hby, hml, hown, hnm, hrt, hlk, hZ⟩, locs, X, eT, N⟩ := W
  subst hp
  exact own_st (fun _ k => X.ldc2Long hx hown (mvT hZ w) (g := mkF m pc L st) rfl (hb hby hd) _ k) k
theorem own_iloadN (W : own_W p l e R s m args below meth c Z y ret code ml ws T h cells slots) {i : Fin 4} {v : Int32} {pc : Nat} (pc' : Nat) {L : Array Slot} {st : List Value} (hd : decode code pc = .ok (.iload_n i, 1)) (hl : L[i.val]? = some (.val (.int v))) (hp : pc + 1 = pc') (k : own_Go p e below C T (mkF m pc' L (.int v :: st))) : own_Go p e below C T (mkF m pc L st) := by
  have hsz := own_le W
  obtain ⟨⟨hx, hby, hml, hown, hnm, hrt, hlk, hZ⟩, locs, X, eT, N⟩ := W
  subst hp
  exact own_st (fun _ k => XS.iloadN X.here hx rfl (hb hby hd) hl k) k
theorem own_iload (W : own_W p l e R s m args below meth c Z y ret code ml ws T h cells slots) {i : Nat} {v : Int32} {pc : Nat} (pc' : Nat) {L : Array Slot} {st : List Value} (hd : decode code pc = .ok (.iload i, 2)) (hl : L[i]? = some (.val (.int v))) (hp : pc + 2 = pc') (k : own_Go p e below C T (mkF m pc' L (.int v :: st))) : own_Go p e below C T (mkF m pc L st) := by
  have hsz := own_le W
  obtain ⟨⟨hx, hby, hml, hown, hnm, hrt, hlk, hZ⟩, locs, X, eT, N⟩ := W
  subst hp
  exact own_st (fun _ k => XS.iload X.here hx rfl (hb hby hd) hl k) k
theorem own_lloadN (W : own_W p l e R s m args below meth c Z y ret code ml ws T h cells slots) {i : Fin 4} {v : Int64} {pc : Nat} (pc' : Nat) {L : Array Slot} {st : List Value} (hd : decode code pc = .ok (.lload_n i, 1)) (hl : L[i.val]? = some (.val (.long v))) (hp : pc + 1 = pc') (k : own_Go p e below C T (mkF m pc' L (.long v :: st))) : own_Go p e below C T (mkF m pc L st) := by
  have hsz := own_le W
  obtain ⟨⟨hx, hby, hml, hown, hnm, hrt, hlk, hZ⟩, locs, X, eT, N⟩ := W
  subst hp
  exact own_st (fun _ k => XS.lloadN X.here hx rfl (hb hby hd) hl k) k
theorem own_lload (W : own_W p l e R s m args below meth c Z y ret code ml ws T h cells slots) {i : Nat} {v : Int64} {pc : Nat} (pc' : Nat) {L : Array Slot} {st : List Value} (hd : decode code pc = .ok (.lload i, 2)) (hl : L[i]? = some (.val (.long v))) (hp : pc + 2 = pc') (k : own_Go p e below C T (mkF m pc' L (.long v :: st))) : own_Go p e below C T (mkF m pc L st) := by
  have hsz := own_le W
  obtain ⟨⟨hx, hby, hml, hown, hnm, hrt, hlk, hZ⟩, locs, X, eT, N⟩ := W
  subst hp
  exact own_st (fun _ k => XS.lload X.here hx rfl (hb hby hd) hl k) k
theorem own_aloadN (W : own_W p l e R s m args below meth c Z y ret code ml ws T h cells slots) {i : Fin 4} {v : Value} {pc : Nat} (pc' : Nat) {L : Array Slot} {st : List Value} (hd : decode code pc = .ok (.aload_n i, 1)) (hl : L[i.val]? = some (.val v)) (hv : v.isRef = true) (hp : pc + 1 = pc') (k : own_Go p e below C T (mkF m pc' L (v :: st))) : own_Go p e below C T (mkF m pc L st) := by
  have hsz := own_le W
  obtain ⟨⟨hx, hby, hml, hown, hnm, hrt, hlk, hZ⟩, locs, X, eT, N⟩ := W
  subst hp
  exact own_st (fun _ k => XS.aloadN X.here hx rfl (hb hby hd) hl hv k) k
theorem own_aload (W : own_W p l e R s m args below meth c Z y ret code ml ws T h cells slots) {i : Nat} {v : Value} {pc : Nat} (pc' : Nat) {L : Array Slot} {st : List Value} (hd : decode code pc = .ok (.aload i, 2)) (hl : L[i]? = some (.val v)) (hv : v.isRef = true) (hp : pc + 2 = pc') (k : own_Go p e below C T (mkF m pc' L (v :: st))) : own_Go p e below C T (mkF m pc L st) := by
  have hsz := own_le W
  obtain ⟨⟨hx, hby, hml, hown, hnm, hrt, hlk, hZ⟩, locs, X, eT, N⟩ := W
  subst hp
  exact own_st (fun _ k => XS.aload X.here hx rfl (hb hby hd) hl hv k) k
theorem own_istoreN (W : own_W p l e R s m args below meth c Z y ret code ml ws T h cells slots) {i : Fin 4} {v : Int32} {pc : Nat} (pc' : Nat) {L : Array Slot} (L' : Array Slot) {st : List Value} (hd : decode code pc = .ok (.istore_n i, 1)) (hl : storeLocals L i.val (.int v) = some L') (hp : pc + 1 = pc') (k : own_Go p e below C T (mkF m pc' L' st)) : own_Go p e below C T (mkF m pc L (.int v :: st)) := by
  have hsz := own_le W
  obtain ⟨⟨hx, hby, hml, hown, hnm, hrt, hlk, hZ⟩, locs, X, eT, N⟩ := W
  subst hp
  exact own_st (fun _ k => XS.istoreN X.here hx rfl (hb hby hd) rfl hl k) k
theorem own_istore (W : own_W p l e R s m args below meth c Z y ret code ml ws T h cells slots) {i : Nat} {v : Int32} {pc : Nat} (pc' : Nat) {L : Array Slot} (L' : Array Slot) {st : List Value} (hd : decode code pc = .ok (.istore i, 2)) (hl : storeLocals L i (.int v) = some L') (hp : pc + 2 = pc') (k : own_Go p e below C T (mkF m pc' L' st)) : own_Go p e below C T (mkF m pc L (.int v :: st)) := by
  have hsz := own_le W
  obtain ⟨⟨hx, hby, hml, hown, hnm, hrt, hlk, hZ⟩, locs, X, eT, N⟩ := W
  subst hp
  exact own_st (fun _ k => XS.istore X.here hx rfl (hb hby hd) rfl hl k) k
theorem own_lstoreN (W : own_W p l e R s m args below meth c Z y ret code ml ws T h cells slots) {i : Fin 4} {v : Int64} {pc : Nat} (pc' : Nat) {L : Array Slot} (L' : Array Slot) {st : List Value} (hd : decode code pc = .ok (.lstore_n i, 1)) (hl : storeLocals L i.val (.long v) = some L') (hp : pc + 1 = pc') (k : own_Go p e below C T (mkF m pc' L' st)) : own_Go p e below C T (mkF m pc L (.long v :: st)) := by
  have hsz := own_le W
  obtain ⟨⟨hx, hby, hml, hown, hnm, hrt, hlk, hZ⟩, locs, X, eT, N⟩ := W
  subst hp
  exact own_st (fun _ k => XS.lstoreN X.here hx rfl (hb hby hd) rfl hl k) k
theorem own_lstore (W : own_W p l e R s m args below meth c Z y ret code ml ws T h cells slots) {i : Nat} {v : Int64} {pc : Nat} (pc' : Nat) {L : Array Slot} (L' : Array Slot) {st : List Value} (hd : decode code pc = .ok (.lstore i, 2)) (hl : storeLocals L i (.long v) = some L') (hp : pc + 2 = pc') (k : own_Go p e below C T (mkF m pc' L' st)) : own_Go p e below C T (mkF m pc L (.long v :: st)) := by
  have hsz := own_le W
  obtain ⟨⟨hx, hby, hml, hown, hnm, hrt, hlk, hZ⟩, locs, X, eT, N⟩ := W
  subst hp
  exact own_st (fun _ k => XS.lstore X.here hx rfl (hb hby hd) rfl hl k) k
theorem own_astoreN (W : own_W p l e R s m args below meth c Z y ret code ml ws T h cells slots) {i : Fin 4} {v : Value} {pc : Nat} (pc' : Nat) {L : Array Slot} (L' : Array Slot) {st : List Value} (hd : decode code pc = .ok (.astore_n i, 1)) (hv : v.isRef = true) (hl : storeLocals L i.val v = some L') (hp : pc + 1 = pc') (k : own_Go p e below C T (mkF m pc' L' st)) : own_Go p e below C T (mkF m pc L (v :: st)) := by
  have hsz := own_le W
  obtain ⟨⟨hx, hby, hml, hown, hnm, hrt, hlk, hZ⟩, locs, X, eT, N⟩ := W
  subst hp
  exact own_st (fun _ k => XS.astoreN X.here hx rfl (hb hby hd) rfl hv hl k) k
theorem own_astore (W : own_W p l e R s m args below meth c Z y ret code ml ws T h cells slots) {i : Nat} {v : Value} {pc : Nat} (pc' : Nat) {L : Array Slot} (L' : Array Slot) {st : List Value} (hd : decode code pc = .ok (.astore i, 2)) (hv : v.isRef = true) (hl : storeLocals L i v = some L') (hp : pc + 2 = pc') (k : own_Go p e below C T (mkF m pc' L' st)) : own_Go p e below C T (mkF m pc L (v :: st)) := by
  have hsz := own_le W
  obtain ⟨⟨hx, hby, hml, hown, hnm, hrt, hlk, hZ⟩, locs, X, eT, N⟩ := W
  subst hp
  exact own_st (fun _ k => XS.astore X.here hx rfl (hb hby hd) rfl hv hl k) k
theorem own_iinc (W : own_W p l e R s m args below meth c Z y ret code ml ws T h cells slots) {i : Nat} {cst : Int} {v : Int32} (v' : Int32) {pc : Nat} (pc' : Nat) {L : Array Slot} (L' : Array Slot) {st : List Value} (hd : decode code pc = .ok (.iinc i cst, 3)) (hv : L[i]? = some (.val (.int v))) (hv' : v + Int32.ofInt cst = v') (hl : storeLocals L i (.int v') = some L') (hp : pc + 3 = pc') (k : own_Go p e below C T (mkF m pc' L' st)) : own_Go p e below C T (mkF m pc L st) := by
  have hsz := own_le W
  obtain ⟨⟨hx, hby, hml, hown, hnm, hrt, hlk, hZ⟩, locs, X, eT, N⟩ := W
  subst hp hv'
  exact own_st (fun _ k => XS.iinc X.here hx rfl (hb hby hd) hv hl k) k
theorem own_dup (W : own_W p l e R s m args below meth c Z y ret code ml ws T h cells slots) {v : Value} {pc : Nat} (pc' : Nat) {L : Array Slot} {st : List Value} (hd : decode code pc = .ok (.dup, 1)) (hc : v.category = 1) (hp : pc + 1 = pc') (k : own_Go p e below C T (mkF m pc' L (v :: v :: st))) : own_Go p e below C T (mkF m pc L (v :: st)) := by
  have hsz := own_le W
  obtain ⟨⟨hx, hby, hml, hown, hnm, hrt, hlk, hZ⟩, locs, X, eT, N⟩ := W
  subst hp
  exact own_st (fun _ k => XS.dup X.here hx rfl (hb hby hd) rfl hc k) k
theorem own_pop (W : own_W p l e R s m args below meth c Z y ret code ml ws T h cells slots) {v : Value} {pc : Nat} (pc' : Nat) {L : Array Slot} {st : List Value} (hd : decode code pc = .ok (.pop, 1)) (hc : v.category = 1) (hp : pc + 1 = pc') (k : own_Go p e below C T (mkF m pc' L st)) : own_Go p e below C T (mkF m pc L (v :: st)) := by
  have hsz := own_le W
  obtain ⟨⟨hx, hby, hml, hown, hnm, hrt, hlk, hZ⟩, locs, X, eT, N⟩ := W
  subst hp
  exact own_st (fun _ k => XS.pop X.here hx rfl (hb hby hd) rfl hc k) k
theorem own_dup_x1 (W : own_W p l e R s m args below meth c Z y ret code ml ws T h cells slots) {u v : Value} {pc : Nat} (pc' : Nat) {L : Array Slot} {st : List Value} (hd : decode code pc = .ok (.dup_x1, 1)) (hc : v.category = 1) (hc' : u.category = 1) (hp : pc + 1 = pc') (k : own_Go p e below C T (mkF m pc' L (v :: u :: v :: st))) : own_Go p e below C T (mkF m pc L (v :: u :: st)) := by
  have hsz := own_le W
  obtain ⟨⟨hx, hby, hml, hown, hnm, hrt, hlk, hZ⟩, locs, X, eT, N⟩ := W
  subst hp
  exact own_st (fun _ k => XS.dupX1 X.here hx rfl (hb hby hd) rfl hc hc' k) k
theorem own_goto (W : own_W p l e R s m args below meth c Z y ret code ml ws T h cells slots) {o : Int} {pc : Nat} (pc' : Nat) {L : Array Slot} {st : List Value} (hd : decode code pc = .ok (.goto o, 3)) (ho : 0 ≤ (pc : Int) + o) (hp : ((pc : Int) + o).toNat = pc') (k : own_Go p e below C T (mkF m pc' L st)) : own_Go p e below C T (mkF m pc L st) := by
  have hsz := own_le W
  obtain ⟨⟨hx, hby, hml, hown, hnm, hrt, hlk, hZ⟩, locs, X, eT, N⟩ := W
  exact own_st (fun _ k => XS.goto X.here hx rfl rfl (hb hby hd) ho hp k) k
theorem own_ifY (W : own_W p l e R s m args below meth c Z y ret code ml ws T h cells slots) {cd : ClassFile.Cond} {o : Int} {u : Int32} {pc : Nat} (pc' : Nat) {L : Array Slot} {st : List Value} (hd : decode code pc = .ok (.ifCond cd o, 3)) (hc : ifCond.holds cd u = true) (ho : 0 ≤ (pc : Int) + o) (hp : ((pc : Int) + o).toNat = pc') (k : own_Go p e below C T (mkF m pc' L st)) : own_Go p e below C T (mkF m pc L (.int u :: st)) := by
  have hsz := own_le W
  obtain ⟨⟨hx, hby, hml, hown, hnm, hrt, hlk, hZ⟩, locs, X, eT, N⟩ := W
  exact own_st (fun _ k => XS.ifYes X.here hx rfl rfl (hb hby hd) rfl hc ho hp k) k
theorem own_ifN (W : own_W p l e R s m args below meth c Z y ret code ml ws T h cells slots) {cd : ClassFile.Cond} {o : Int} {u : Int32} {pc : Nat} (pc' : Nat) {L : Array Slot} {st : List Value} (hd : decode code pc = .ok (.ifCond cd o, 3)) (hc : ifCond.holds cd u = false) (hp : pc + 3 = pc') (k : own_Go p e below C T (mkF m pc' L st)) : own_Go p e below C T (mkF m pc L (.int u :: st)) := by
  have hsz := own_le W
  obtain ⟨⟨hx, hby, hml, hown, hnm, hrt, hlk, hZ⟩, locs, X, eT, N⟩ := W
  subst hp
  exact own_st (fun _ k => XS.ifNo X.here hx rfl (hb hby hd) rfl hc k) k
theorem own_icmpY (W : own_W p l e R s m args below meth c Z y ret code ml ws T h cells slots) {cd : ClassFile.Cond} {o : Int} {u v : Int32} {pc : Nat} (pc' : Nat) {L : Array Slot} {st : List Value} (hd : decode code pc = .ok (.if_icmp cd o, 3)) (hc : if_icmp.holds cd u v = true) (ho : 0 ≤ (pc : Int) + o) (hp : ((pc : Int) + o).toNat = pc') (k : own_Go p e below C T (mkF m pc' L st)) : own_Go p e below C T (mkF m pc L (.int v :: .int u :: st)) := by
  have hsz := own_le W
  obtain ⟨⟨hx, hby, hml, hown, hnm, hrt, hlk, hZ⟩, locs, X, eT, N⟩ := W
  exact own_st (fun _ k => XS.icmpYes X.here hx rfl rfl (hb hby hd) rfl hc ho hp k) k
theorem own_icmpN (W : own_W p l e R s m args below meth c Z y ret code ml ws T h cells slots) {cd : ClassFile.Cond} {o : Int} {u v : Int32} {pc : Nat} (pc' : Nat) {L : Array Slot} {st : List Value} (hd : decode code pc = .ok (.if_icmp cd o, 3)) (hc : if_icmp.holds cd u v = false) (hp : pc + 3 = pc') (k : own_Go p e below C T (mkF m pc' L st)) : own_Go p e below C T (mkF m pc L (.int v :: .int u :: st)) := by
  have hsz := own_le W
  obtain ⟨⟨hx, hby, hml, hown, hnm, hrt, hlk, hZ⟩, locs, X, eT, N⟩ := W
  subst hp
  exact own_st (fun _ k => XS.icmpNo X.here hx rfl (hb hby hd) rfl hc k) k
theorem own_ifnullY (W : own_W p l e R s m args below meth c Z y ret code ml ws T h cells slots) {o : Int} {b : Addr} {pc : Nat} (pc' : Nat) {L : Array Slot} {st : List Value} (hd : decode code pc = .ok (.ifnull o, 3)) (ho : 0 ≤ (pc : Int) + o) (hp : ((pc : Int) + o).toNat = pc') (k : own_Go p e below C T (mkF m pc' L st)) : own_Go p e below C T (mkF m pc L (.null :: st)) := by
  have hsz := own_le W
  obtain ⟨⟨hx, hby, hml, hown, hnm, hrt, hlk, hZ⟩, locs, X, eT, N⟩ := W
  exact own_st (fun _ k => XS.ifnullYes X.here hx rfl rfl (hb hby hd) rfl ho hp k) k
theorem own_ifnullN (W : own_W p l e R s m args below meth c Z y ret code ml ws T h cells slots) {o : Int} {b : Addr} {pc : Nat} (pc' : Nat) {L : Array Slot} {st : List Value} (hd : decode code pc = .ok (.ifnull o, 3)) (hp : pc + 3 = pc') (k : own_Go p e below C T (mkF m pc' L st)) : own_Go p e below C T (mkF m pc L (.ref b :: st)) := by
  have hsz := own_le W
  obtain ⟨⟨hx, hby, hml, hown, hnm, hrt, hlk, hZ⟩, locs, X, eT, N⟩ := W
  subst hp
  exact own_st (fun _ k => XS.ifnullNo X.here hx rfl (hb hby hd) rfl k) k
theorem own_ifnonnullY (W : own_W p l e R s m args below meth c Z y ret code ml ws T h cells slots) {o : Int} {b : Addr} {pc : Nat} (pc' : Nat) {L : Array Slot} {st : List Value} (hd : decode code pc = .ok (.ifnonnull o, 3)) (ho : 0 ≤ (pc : Int) + o) (hp : ((pc : Int) + o).toNat = pc') (k : own_Go p e below C T (mkF m pc' L st)) : own_Go p e below C T (mkF m pc L (.ref b :: st)) := by
  have hsz := own_le W
  obtain ⟨⟨hx, hby, hml, hown, hnm, hrt, hlk, hZ⟩, locs, X, eT, N⟩ := W
  exact own_st (fun _ k => XS.ifnonnullYes X.here hx rfl rfl (hb hby hd) rfl ho hp k) k
theorem own_ifnonnullN (W : own_W p l e R s m args below meth c Z y ret code ml ws T h cells slots) {o : Int} {b : Addr} {pc : Nat} (pc' : Nat) {L : Array Slot} {st : List Value} (hd : decode code pc = .ok (.ifnonnull o, 3)) (hp : pc + 3 = pc') (k : own_Go p e below C T (mkF m pc' L st)) : own_Go p e below C T (mkF m pc L (.null :: st)) := by
  have hsz := own_le W
  obtain ⟨⟨hx, hby, hml, hown, hnm, hrt, hlk, hZ⟩, locs, X, eT, N⟩ := W
  subst hp
  exact own_st (fun _ k => XS.ifnonnullNo X.here hx rfl (hb hby hd) rfl k) k
theorem own_acmp (W : own_W p l e R s m args below meth c Z y ret code ml ws T h cells slots) {cd : ACond} {o : Int} {u v : Value} {same : Bool} {pc : Nat} (pc' : Nat) {L : Array Slot} {st : List Value} (hd : decode code pc = .ok (.if_acmp cd o, 3)) (h1 : u.isRef = true) (h2 : v.isRef = true) (hq : decide (u = v) = same) (ho : 0 ≤ (pc : Int) + o) (hp : pc' = if acV cd same = true then ((pc : Int) + o).toNat else pc + 3) (k : own_Go p e below C T (mkF m pc' L st)) : own_Go p e below C T (mkF m pc L (v :: u :: st)) := by
  have hsz := own_le W
  obtain ⟨⟨hx, hby, hml, hown, hnm, hrt, hlk, hZ⟩, locs, X, eT, N⟩ := W
  exact own_st (fun _ k => Jvm.RoadKit.acmp X hx rfl h1 h2 rfl (hb hby hd) rfl hq ho hp k) k
theorem own_retI {Q : Option Value → Heap → Prop} {kc ks : Nat} {z : Int32}  (W : own_W p l e R s m args below meth c Z y (some .int) code ml ws T h cells slots) (hC : ∀ v L u, own_Fw s ws L → Q v u.heap → FrameEnd s (.returned v) u L kc ks → C (.returned v) u) (hcl : cells ≤ kc) (hsl : slots ≤ ks) {pc : Nat} {L : Array Slot} {st : List Value} (hd : decode code pc = .ok (.ireturn, 1)) (hq : Q (some (.int z)) h) : own_Go p e below C T (mkF m pc L (.int z :: st)) := by
  have hsz := own_le W
  obtain ⟨⟨hx, hby, hml, hown, hnm, hrt, hlk, hZ⟩, locs, X, eT, N⟩ := W
  subst eT
  obtain ⟨fs, hr, hrun, hended, hW, hsame⟩ := X.leave (v := (some (.int z))) (fun h => by rw [hrt] at h; cases h) hlk
  refine ⟨_, _, ?_, hrun, hended, hC _ _ _ N hq ⟨⟨_, rfl⟩, hW, hsame.mono hcl hsl⟩⟩
  have hn : narrow .int (.int z) = .int z := rfl
  show Steps p.tables e below (T.setTop { method := m, pc := pc, locals := L, stack := _ :: st, locked := none }) _
  have hm' := X.method'
  jvm_step X.here [X.here.top, hx, (hb hby hd), hm', hrt, hn]
  first | (intro acts; rw [hr _ acts rfl rfl rfl]) | rw [hr _ _ rfl rfl rfl]
  exact Steps.refl _
theorem own_retZ {Q : Option Value → Heap → Prop} {kc ks : Nat} {z : Int32}  (W : own_W p l e R s m args below meth c Z y (some .boolean) code ml ws T h cells slots) (hC : ∀ v L u, own_Fw s ws L → Q v u.heap → FrameEnd s (.returned v) u L kc ks → C (.returned v) u) (hcl : cells ≤ kc) (hsl : slots ≤ ks) {pc : Nat} {L : Array Slot} {st : List Value} (hd : decode code pc = .ok (.ireturn, 1)) (hq : Q (some (.int (z &&& 1))) h) : own_Go p e below C T (mkF m pc L (.int z :: st)) := by
  have hsz := own_le W
  obtain ⟨⟨hx, hby, hml, hown, hnm, hrt, hlk, hZ⟩, locs, X, eT, N⟩ := W
  subst eT
  obtain ⟨fs, hr, hrun, hended, hW, hsame⟩ := X.leave (v := (some (.int (z &&& 1)))) (fun h => by rw [hrt] at h; cases h) hlk
  refine ⟨_, _, ?_, hrun, hended, hC _ _ _ N hq ⟨⟨_, rfl⟩, hW, hsame.mono hcl hsl⟩⟩
  exact retN X hx (t := .boolean) hrt (by simp) (hb hby hd) hr
theorem own_retB {Q : Option Value → Heap → Prop} {kc ks : Nat} {z : Int32}  (W : own_W p l e R s m args below meth c Z y (some .byte) code ml ws T h cells slots) (hC : ∀ v L u, own_Fw s ws L → Q v u.heap → FrameEnd s (.returned v) u L kc ks → C (.returned v) u) (hcl : cells ≤ kc) (hsl : slots ≤ ks) {pc : Nat} {L : Array Slot} {st : List Value} (hd : decode code pc = .ok (.ireturn, 1)) (hq : Q (some (.int z.toInt8.toInt32)) h) : own_Go p e below C T (mkF m pc L (.int z :: st)) := by
  have hsz := own_le W
  obtain ⟨⟨hx, hby, hml, hown, hnm, hrt, hlk, hZ⟩, locs, X, eT, N⟩ := W
  subst eT
  obtain ⟨fs, hr, hrun, hended, hW, hsame⟩ := X.leave (v := (some (.int z.toInt8.toInt32))) (fun h => by rw [hrt] at h; cases h) hlk
  refine ⟨_, _, ?_, hrun, hended, hC _ _ _ N hq ⟨⟨_, rfl⟩, hW, hsame.mono hcl hsl⟩⟩
  exact retN X hx (t := .byte) hrt (by simp) (hb hby hd) hr
theorem own_retC {Q : Option Value → Heap → Prop} {kc ks : Nat} {z : Int32}  (W : own_W p l e R s m args below meth c Z y (some .char) code ml ws T h cells slots) (hC : ∀ v L u, own_Fw s ws L → Q v u.heap → FrameEnd s (.returned v) u L kc ks → C (.returned v) u) (hcl : cells ≤ kc) (hsl : slots ≤ ks) {pc : Nat} {L : Array Slot} {st : List Value} (hd : decode code pc = .ok (.ireturn, 1)) (hq : Q (some (.int z.toUInt32.toUInt16.toUInt32.toInt32)) h) : own_Go p e below C T (mkF m pc L (.int z :: st)) := by
  have hsz := own_le W
  obtain ⟨⟨hx, hby, hml, hown, hnm, hrt, hlk, hZ⟩, locs, X, eT, N⟩ := W
  subst eT
  obtain ⟨fs, hr, hrun, hended, hW, hsame⟩ := X.leave (v := (some (.int z.toUInt32.toUInt16.toUInt32.toInt32))) (fun h => by rw [hrt] at h; cases h) hlk
  refine ⟨_, _, ?_, hrun, hended, hC _ _ _ N hq ⟨⟨_, rfl⟩, hW, hsame.mono hcl hsl⟩⟩
  exact retN X hx (t := .char) hrt (by simp) (hb hby hd) hr
theorem own_retJ {Q : Option Value → Heap → Prop} {kc ks : Nat} {z : Int64}  (W : own_W p l e R s m args below meth c Z y (some .long) code ml ws T h cells slots) (hC : ∀ v L u, own_Fw s ws L → Q v u.heap → FrameEnd s (.returned v) u L kc ks → C (.returned v) u) (hcl : cells ≤ kc) (hsl : slots ≤ ks) {pc : Nat} {L : Array Slot} {st : List Value} (hd : decode code pc = .ok (.lreturn, 1)) (hq : Q (some (.long z)) h) : own_Go p e below C T (mkF m pc L (.long z :: st)) := by
  have hsz := own_le W
  obtain ⟨⟨hx, hby, hml, hown, hnm, hrt, hlk, hZ⟩, locs, X, eT, N⟩ := W
  subst eT
  obtain ⟨fs, hr, hrun, hended, hW, hsame⟩ := X.leave (v := (some (.long z))) (fun h => by rw [hrt] at h; cases h) hlk
  refine ⟨_, _, ?_, hrun, hended, hC _ _ _ N hq ⟨⟨_, rfl⟩, hW, hsame.mono hcl hsl⟩⟩
  have hn : narrow .long (.long z) = .long z := rfl
  show Steps p.tables e below (T.setTop { method := m, pc := pc, locals := L, stack := _ :: st, locked := none }) _
  have hm' := X.method'
  jvm_step X.here [X.here.top, hx, (hb hby hd), hm', hrt, hn]
  first | (intro acts; rw [hr _ acts rfl rfl rfl]) | rw [hr _ _ rfl rfl rfl]
  exact Steps.refl _
theorem own_retV {Q : Option Value → Heap → Prop} {kc ks : Nat}  (W : own_W p l e R s m args below meth c Z y none code ml ws T h cells slots) (hC : ∀ v L u, own_Fw s ws L → Q v u.heap → FrameEnd s (.returned v) u L kc ks → C (.returned v) u) (hcl : cells ≤ kc) (hsl : slots ≤ ks) {pc : Nat} {L : Array Slot} (hd : decode code pc = .ok (.return_, 1)) (hq : Q none h) : own_Go p e below C T (mkF m pc L []) := by
  have hsz := own_le W
  obtain ⟨⟨hx, hby, hml, hown, hnm, hrt, hlk, hZ⟩, locs, X, eT, N⟩ := W
  subst eT
  obtain ⟨fs, hr, hrun, hended, hW, hsame⟩ := X.leave (v := none) (fun _ => rfl) hlk
  refine ⟨_, _, ?_, hrun, hended, hC _ _ _ N hq ⟨⟨_, rfl⟩, hW, hsame.mono hcl hsl⟩⟩
  exact X.returnOut hx hrt (hb hby hd) hr
theorem own_retA {Q : Option Value → Heap → Prop} {kc ks : Nat} {rt : FieldType} {z : Value} (W : own_W p l e R s m args below meth c Z y (some rt) code ml ws T h cells slots) (hC : ∀ v L u, own_Fw s ws L → Q v u.heap → FrameEnd s (.returned v) u L kc ks → C (.returned v) u) (hcl : cells ≤ kc) (hsl : slots ≤ ks) (hrr : rt.isReference = true) (hzr : z.isRef = true) {pc : Nat} {L : Array Slot} {st : List Value} (hd : decode code pc = .ok (.areturn, 1)) (hn : narrow rt z = z) (hq : Q (some z) h) : own_Go p e below C T (mkF m pc L (z :: st)) := by
  have hsz := own_le W
  obtain ⟨⟨hx, hby, hml, hown, hnm, hrt, hlk, hZ⟩, locs, X, eT, N⟩ := W
  subst eT
  obtain ⟨fs, hr, hrun, hended, hW, hsame⟩ := X.leave (v := some z) (fun h => by rw [hrt] at h; cases h) hlk
  refine ⟨_, _, ?_, hrun, hended, hC _ _ _ N hq ⟨⟨_, rfl⟩, hW, hsame.mono hcl hsl⟩⟩
  exact retOut X hx hrt hn (Or.inr (Or.inr (Or.inr (Or.inr ⟨rfl, hrr, hzr⟩)))) (hb hby hd) hr
/-- an array by its places: n of them, place j holds f j -/
def own_A (Z : State) (h : Heap) (a : Addr) (ty : FieldType) (n : Nat) (f : Nat → Value) : Prop := ∃ cl : Cell, Arr Z h a cl ty ∧ cl.slots.size = n ∧ ∀ j, j < n → cl.slots[j]? = some (f j)
def own_upd (f : Nat → Value) (k : Nat) (v : Value) : Nat → Value := fun j => if j = k then v else f j
theorem own_A.lt {a : Addr} {ty : FieldType} {n : Nat} {f : Nat → Value} (F : own_A Z h a ty n f) : a < h.size := by obtain ⟨cl, A, -⟩ := F; exact A.lt
theorem own_A.ext {h' : Heap} {a : Addr} {ty : FieldType} {n : Nat} {f : Nat → Value} (F : own_A Z h a ty n f) (E : Ext h h') : own_A Z h' a ty n f := by obtain ⟨cl, A, r⟩ := F; exact ⟨cl, A.ext E, r⟩
theorem own_A.other {h' : Heap} {a b : Addr} {sl : Nat} {v : Value} {ty : FieldType} {n : Nat} {f : Nat → Value} (F : own_A Z h b ty n f) (q : Wr h h' a sl v) (ne : b ≠ a) : own_A Z h' b ty n f := by obtain ⟨cl, A, r⟩ := F; exact ⟨cl, A.other q ne, r⟩
theorem own_A.keep {h' : Heap} {ws : List Addr} {a : Addr} {ty : FieldType} {n : Nat} {f : Nat → Value} (F : own_A Z h a ty n f) (K : Keep h h' ws) (q : a ∉ ws) : own_A Z h' a ty n f := by obtain ⟨cl, A, r⟩ := F; exact ⟨cl, ⟨K.2.1 a cl A.1 q, A.2⟩, r⟩
theorem own_A.congr {a : Addr} {ty : FieldType} {n : Nat} {f g : Nat → Value} (F : own_A Z h a ty n f) (q : ∀ j, j < n → f j = g j) : own_A Z h a ty n g := by obtain ⟨cl, A, r1, r2⟩ := F; exact ⟨cl, A, r1, fun j hj => by rw [r2 j hj, q j hj]⟩
theorem own_nn {z : Int32} {k : Nat} (hz : z.toInt = (k : Int)) : ¬ z < 0 := by rw [Int32.lt_iff_toInt_lt]; have : (0 : Int32).toInt = 0 := rfl; omega
theorem own_cl {z : Int32} {k : Nat} (hz : z.toInt = (k : Int)) : z.toNatClampNeg = k := by
  have h := nat_of (own_nn hz)
  omega
theorem own_in {z : Int32} {k n : Nat} {cl : Cell} (hz : z.toInt = (k : Int)) (hs : cl.slots.size = n) (hk : k < n) : ¬ (z < 0 ∨ cl.slots.size ≤ z.toNatClampNeg) := by
  rintro (q | q)
  · exact own_nn hz q
  · rw [own_cl hz] at q; omega
theorem own_A.set {h' : Heap} {a : Addr} {ty : FieldType} {n k : Nat} {f : Nat → Value} {v : Value} (F : own_A Z h a ty n f) (q : Wr h h' a k v) (hk : k < n) : own_A Z h' a ty n (own_upd f k v) := by
  obtain ⟨cl, A, r1, r2⟩ := F
  refine ⟨cl.setSlot k v, Arr.same q A, by rw [sz_set]; exact r1, fun j hj => ?_⟩
  by_cases e : j = k
  · subst e; simp [own_upd, Cell.setSlot, r1, hj]
  · simp only [own_upd, if_neg e, Cell.setSlot]
    rw [Array.getElem?_setIfInBounds_ne (Ne.symm e)]; exact r2 j hj
theorem own_newarray (W : own_W p l e R s m args below meth c Z y ret code ml ws T h cells slots) {aty : ArrayType} {z : Int32} (N cap : Nat) {pc : Nat} (pc' : Nat) {L : Array Slot} {st : List Value} (hd : decode code pc = .ok (.newarray aty, 2)) (w : (Jvm.Cond.arrayClass (newarray.typeOf aty)).before a0 Z = true) (hz : z.toInt = (N : Int)) (hcap : N ≤ cap) (hb8 : cap * 8 ≤ 536870912) (hc : cells + 1 ≤ R.cells) (hl : slots + cap ≤ R.slots) (hp : pc + 2 = pc') (k : ∀ T' h' a, own_W p l e R s m args below meth c Z y ret code ml ws T' h' (cells + 1) (slots + cap) → Ext h h' → a = h.size → s.heap.size ≤ a → own_A Z h' a (newarray.typeOf aty) N (fun _ => defaultValue (newarray.typeOf aty)) → own_Go p e below C T' (mkF m pc' L (.ref a :: st))) : own_Go p e below C T (mkF m pc L (.int z :: st)) := by
  have hsz := own_le W
  obtain ⟨⟨hx, hby, hml, hown, hnm, hrt, hlk, hZ⟩, locs, X, eT, Nf⟩ := W
  subst hp
  have hcl := own_cl hz
  obtain ⟨T', h', cA, X', e', E', A', st'⟩ := newP X hx hZ w eT (g := mkF m pc L (.int z :: st)) rfl (hb hby hd) rfl (own_nn hz) (cap := cap) (by rw [hcl]; exact hcap) hb8 hc hl
  refine own_st st' (k T' h' h.size ⟨⟨hx, hby, hml, hown, hnm, hrt, hlk, hZ⟩, locs, X', e', Nf⟩ E' rfl hsz ⟨_, A', by rw [sz_new, hcl], fun j hj => ?_⟩)
  simp [newA, hcl, hj]
theorem own_baload (W : own_W p l e R s m args below meth c Z y ret code ml ws T h cells slots) {a : Addr} {z : Int32} {n : Nat} {f : Nat → Value} (k : Nat) (v : Int32) {pc : Nat} (pc' : Nat) {L : Array Slot} {st : List Value} (hd : decode code pc = .ok (.baload, 1)) (F : own_A Z h a .byte n f) (hz : z.toInt = (k : Int)) (hk : k < n) (hv : f k = (.int v)) (hp : pc + 1 = pc') (kk : own_Go p e below C T (mkF m pc' L ((.int v) :: st))) : own_Go p e below C T (mkF m pc L (.int z :: .ref a :: st)) := by
  have hsz := own_le W
  obtain ⟨⟨hx, hby, hml, hown, hnm, hrt, hlk, hZ⟩, locs, X, eT, N⟩ := W
  subst hp eT
  obtain ⟨cl, A, hs, hf⟩ := F
  have hat : cl.slots[z.toNatClampNeg]? = some (.int v) := by rw [own_cl hz, hf k hk, hv]
  exact own_st (fun t q => X.baloadBytes hx A.1 (State.isArrayOf_alike hZ.alike A.2.1) A.2.2 (own_in hz hs hk) hat (g := mkF m pc L (.int z :: .ref a :: st)) rfl rfl (hb hby hd) t q) kk
theorem own_iaload (W : own_W p l e R s m args below meth c Z y ret code ml ws T h cells slots) {a : Addr} {z : Int32} {n : Nat} {f : Nat → Value} (k : Nat) (v : Int32) {pc : Nat} (pc' : Nat) {L : Array Slot} {st : List Value} (hd : decode code pc = .ok (.iaload, 1)) (F : own_A Z h a .int n f) (hz : z.toInt = (k : Int)) (hk : k < n) (hv : f k = (.int v)) (hp : pc + 1 = pc') (kk : own_Go p e below C T (mkF m pc' L ((.int v) :: st))) : own_Go p e below C T (mkF m pc L (.int z :: .ref a :: st)) := by
  have hsz := own_le W
  obtain ⟨⟨hx, hby, hml, hown, hnm, hrt, hlk, hZ⟩, locs, X, eT, N⟩ := W
  subst hp eT
  obtain ⟨cl, A, hs, hf⟩ := F
  have hat : cl.slots[z.toNatClampNeg]? = some (.int v) := by rw [own_cl hz, hf k hk, hv]
  exact own_st (fun t q => X.iaload hx A.1 (State.isArrayOf_alike hZ.alike A.2.1) A.2.2 (own_in hz hs hk) hat (g := mkF m pc L (.int z :: .ref a :: st)) rfl rfl (hb hby hd) t q) kk
theorem own_laload (W : own_W p l e R s m args below meth c Z y ret code ml ws T h cells slots) {a : Addr} {z : Int32} {n : Nat} {f : Nat → Value} (k : Nat) (v : Int64) {pc : Nat} (pc' : Nat) {L : Array Slot} {st : List Value} (hd : decode code pc = .ok (.laload, 1)) (F : own_A Z h a .long n f) (hz : z.toInt = (k : Int)) (hk : k < n) (hv : f k = (.long v)) (hp : pc + 1 = pc') (kk : own_Go p e below C T (mkF m pc' L ((.long v) :: st))) : own_Go p e below C T (mkF m pc L (.int z :: .ref a :: st)) := by
  have hsz := own_le W
  obtain ⟨⟨hx, hby, hml, hown, hnm, hrt, hlk, hZ⟩, locs, X, eT, N⟩ := W
  subst hp eT
  obtain ⟨cl, A, hs, hf⟩ := F
  have hat : cl.slots[z.toNatClampNeg]? = some (.long v) := by rw [own_cl hz, hf k hk, hv]
  exact own_st (fun t q => X.laload hx A.1 (State.isArrayOf_alike hZ.alike A.2.1) A.2.2 (own_in hz hs hk) hat (g := mkF m pc L (.int z :: .ref a :: st)) rfl rfl (hb hby hd) t q) kk
theorem own_caload (W : own_W p l e R s m args below meth c Z y ret code ml ws T h cells slots) {a : Addr} {z : Int32} {n : Nat} {f : Nat → Value} (k : Nat) (v : Int32) {pc : Nat} (pc' : Nat) {L : Array Slot} {st : List Value} (hd : decode code pc = .ok (.caload, 1)) (F : own_A Z h a .char n f) (hz : z.toInt = (k : Int)) (hk : k < n) (hv : f k = (.int v)) (hp : pc + 1 = pc') (kk : own_Go p e below C T (mkF m pc' L ((.int v) :: st))) : own_Go p e below C T (mkF m pc L (.int z :: .ref a :: st)) := by
  have hsz := own_le W
  obtain ⟨⟨hx, hby, hml, hown, hnm, hrt, hlk, hZ⟩, locs, X, eT, N⟩ := W
  subst hp eT
  obtain ⟨cl, A, hs, hf⟩ := F
  have hat : cl.slots[z.toNatClampNeg]? = some (.int v) := by rw [own_cl hz, hf k hk, hv]
  exact own_st (fun t q => X.caload hx A.1 (State.isArrayOf_alike hZ.alike A.2.1) A.2.2 (own_in hz hs hk) hat (g := mkF m pc L (.int z :: .ref a :: st)) rfl rfl (hb hby hd) t q) kk
theorem own_bastore (W : own_W p l e R s m args below meth c Z y ret code ml ws T h cells slots) {a : Addr} {z : Int32} {n : Nat} {f : Nat → Value} {xx : Int32} (k : Nat) {pc : Nat} (pc' : Nat) {L : Array Slot} {st : List Value} (hd : decode code pc = .ok (.bastore, 1)) (F : own_A Z h a .byte n f) (ha : a ∈ ws ∨ s.heap.size ≤ a) (hz : z.toInt = (k : Int)) (hk : k < n) (hp : pc + 1 = pc') (kk : ∀ T' h', own_W p l e R s m args below meth c Z y ret code ml ws T' h' cells slots → Wr h h' a k (.int xx.toInt8.toInt32) → own_A Z h' a .byte n (own_upd f k (.int xx.toInt8.toInt32)) → own_Go p e below C T' (mkF m pc' L st)) : own_Go p e below C T (mkF m pc L (.int xx :: .int z :: .ref a :: st)) := by
  have hsz := own_le W
  obtain ⟨⟨hx, hby, hml, hown, hnm, hrt, hlk, hZ⟩, locs, X, eT, N⟩ := W
  subst hp
  have F' := F
  obtain ⟨cl, A, hs, hf⟩ := F
  obtain ⟨T', h', X', e', W', st'⟩ := stB X hx hZ eT A (j := z) (own_in hz hs hk) (g := mkF m pc L (.int xx :: .int z :: .ref a :: st)) rfl rfl (hb hby hd)
  rw [own_cl hz] at W'
  exact own_st st' (kk T' h' ⟨⟨hx, hby, hml, hown, hnm, hrt, hlk, hZ⟩, _, X', e', own_Fw_snoc N ha⟩ W' (F'.set W' hk))
theorem own_iastore (W : own_W p l e R s m args below meth c Z y ret code ml ws T h cells slots) {a : Addr} {z : Int32} {n : Nat} {f : Nat → Value} {xx : Int32} (k : Nat) {pc : Nat} (pc' : Nat) {L : Array Slot} {st : List Value} (hd : decode code pc = .ok (.iastore, 1)) (F : own_A Z h a .int n f) (ha : a ∈ ws ∨ s.heap.size ≤ a) (hz : z.toInt = (k : Int)) (hk : k < n) (hp : pc + 1 = pc') (kk : ∀ T' h', own_W p l e R s m args below meth c Z y ret code ml ws T' h' cells slots → Wr h h' a k (.int xx) → own_A Z h' a .int n (own_upd f k (.int xx)) → own_Go p e below C T' (mkF m pc' L st)) : own_Go p e below C T (mkF m pc L (.int xx :: .int z :: .ref a :: st)) := by
  have hsz := own_le W
  obtain ⟨⟨hx, hby, hml, hown, hnm, hrt, hlk, hZ⟩, locs, X, eT, N⟩ := W
  subst hp
  have F' := F
  obtain ⟨cl, A, hs, hf⟩ := F
  obtain ⟨T', h', X', e', W', st'⟩ := stI X hx hZ eT A (j := z) (own_in hz hs hk) (g := mkF m pc L (.int xx :: .int z :: .ref a :: st)) rfl rfl (hb hby hd)
  rw [own_cl hz] at W'
  exact own_st st' (kk T' h' ⟨⟨hx, hby, hml, hown, hnm, hrt, hlk, hZ⟩, _, X', e', own_Fw_snoc N ha⟩ W' (F'.set W' hk))
theorem own_lastore (W : own_W p l e R s m args below meth c Z y ret code ml ws T h cells slots) {a : Addr} {z : Int32} {n : Nat} {f : Nat → Value} {xx : Int64} (k : Nat) {pc : Nat} (pc' : Nat) {L : Array Slot} {st : List Value} (hd : decode code pc = .ok (.lastore, 1)) (F : own_A Z h a .long n f) (ha : a ∈ ws ∨ s.heap.size ≤ a) (hz : z.toInt = (k : Int)) (hk : k < n) (hp : pc + 1 = pc') (kk : ∀ T' h', own_W p l e R s m args below meth c Z y ret code ml ws T' h' cells slots → Wr h h' a k (.long xx) → own_A Z h' a .long n (own_upd f k (.long xx)) → own_Go p e below C T' (mkF m pc' L st)) : own_Go p e below C T (mkF m pc L (.long xx :: .int z :: .ref a :: st)) := by
  have hsz := own_le W
  obtain ⟨⟨hx, hby, hml, hown, hnm, hrt, hlk, hZ⟩, locs, X, eT, N⟩ := W
  subst hp
  have F' := F
  obtain ⟨cl, A, hs, hf⟩ := F
  obtain ⟨T', h', X', e', W', st'⟩ := stJ X hx hZ eT A (j := z) (own_in hz hs hk) (g := mkF m pc L (.long xx :: .int z :: .ref a :: st)) rfl rfl (hb hby hd)
  rw [own_cl hz] at W'
  exact own_st st' (kk T' h' ⟨⟨hx, hby, hml, hown, hnm, hrt, hlk, hZ⟩, _, X', e', own_Fw_snoc N ha⟩ W' (F'.set W' hk))
theorem own_castore (W : own_W p l e R s m args below meth c Z y ret code ml ws T h cells slots) {a : Addr} {z : Int32} {n : Nat} {f : Nat → Value} {xx : Int32} (k : Nat) {pc : Nat} (pc' : Nat) {L : Array Slot} {st : List Value} (hd : decode code pc = .ok (.castore, 1)) (F : own_A Z h a .char n f) (ha : a ∈ ws ∨ s.heap.size ≤ a) (hz : z.toInt = (k : Int)) (hk : k < n) (hp : pc + 1 = pc') (kk : ∀ T' h', own_W p l e R s m args below meth c Z y ret code ml ws T' h' cells slots → Wr h h' a k (.int xx.toUInt32.toUInt16.toUInt32.toInt32) → own_A Z h' a .char n (own_upd f k (.int xx.toUInt32.toUInt16.toUInt32.toInt32)) → own_Go p e below C T' (mkF m pc' L st)) : own_Go p e below C T (mkF m pc L (.int xx :: .int z :: .ref a :: st)) := by
  have hsz := own_le W
  obtain ⟨⟨hx, hby, hml, hown, hnm, hrt, hlk, hZ⟩, locs, X, eT, N⟩ := W
  subst hp
  have F' := F
  obtain ⟨cl, A, hs, hf⟩ := F
  obtain ⟨T', h', X', e', W', st'⟩ := stC X hx hZ eT A (j := z) (own_in hz hs hk) (g := mkF m pc L (.int xx :: .int z :: .ref a :: st)) rfl rfl (hb hby hd)
  rw [own_cl hz] at W'
  exact own_st st' (kk T' h' ⟨⟨hx, hby, hml, hown, hnm, hrt, hlk, hZ⟩, _, X', e', own_Fw_snoc N ha⟩ W' (F'.set W' hk))
theorem own_arraylength (W : own_W p l e R s m args below meth c Z y ret code ml ws T h cells slots) {a : Addr} {ty : FieldType} {n : Nat} {f : Nat → Value} (z : Int32) {pc : Nat} (pc' : Nat) {L : Array Slot} {st : List Value} (hd : decode code pc = .ok (.arraylength, 1)) (F : own_A Z h a ty n f) (hz : n.toInt32 = z) (hp : pc + 1 = pc') (k : own_Go p e below C T (mkF m pc' L (.int z :: st))) : own_Go p e below C T (mkF m pc L (.ref a :: st)) := by
  have hsz := own_le W
  obtain ⟨⟨hx, hby, hml, hown, hnm, hrt, hlk, hZ⟩, locs, X, eT, N⟩ := W
  subst hp eT
  obtain ⟨cl, A, hs, hf⟩ := F
  subst hs hz
  exact own_st (fun t q => X.arraylength hx A.1 (State.isArrayOf_alike hZ.alike A.2.1) (g := mkF m pc L (.ref a :: st)) rfl rfl (hb hby hd) t q) k
/-- an array of references to objects of C (and of what may be stored there) -/
def own_R (Z : State) (h : Heap) (a : Addr) (C0 : String) (n : Nat) (f : Nat → Value) : Prop := ∃ cl : Cell, Arr Z h a cl (.object C0) ∧ Ovr Z cl.cls C0 ∧ cl.slots.size = n ∧ ∀ j, j < n → cl.slots[j]? = some (f j)
theorem own_R.lt {a : Addr} {C0 : String} {n : Nat} {f : Nat → Value} (F : own_R Z h a C0 n f) : a < h.size := by obtain ⟨cl, A, -⟩ := F; exact A.lt
theorem own_R.ext {h' : Heap} {a : Addr} {C0 : String} {n : Nat} {f : Nat → Value} (F : own_R Z h a C0 n f) (E : Ext h h') : own_R Z h' a C0 n f := by obtain ⟨cl, A, r⟩ := F; exact ⟨cl, A.ext E, r⟩
theorem own_R.other {h' : Heap} {a b : Addr} {sl : Nat} {v : Value} {C0 : String} {n : Nat} {f : Nat → Value} (F : own_R Z h b C0 n f) (q : Wr h h' a sl v) (ne : b ≠ a) : own_R Z h' b C0 n f := by obtain ⟨cl, A, r⟩ := F; exact ⟨cl, A.other q ne, r⟩
theorem own_R.keep {h' : Heap} {ws : List Addr} {a : Addr} {C0 : String} {n : Nat} {f : Nat → Value} (F : own_R Z h a C0 n f) (K : Keep h h' ws) (q : a ∉ ws) : own_R Z h' a C0 n f := by obtain ⟨cl, A, r⟩ := F; exact ⟨cl, ⟨K.2.1 a cl A.1 q, A.2⟩, r⟩
theorem own_R.set {h' : Heap} {a : Addr} {C0 : String} {n k : Nat} {f : Nat → Value} {v : Value} (F : own_R Z h a C0 n f) (q : Wr h h' a k v) (hk : k < n) : own_R Z h' a C0 n (own_upd f k v) := by
  obtain ⟨cl, A, O, r1, r2⟩ := F
  refine ⟨cl.setSlot k v, Arr.same q A, O, by rw [sz_set]; exact r1, fun j hj => ?_⟩
  by_cases e : j = k
  · subst e; simp [own_upd, Cell.setSlot, r1, hj]
  · simp only [own_upd, if_neg e, Cell.setSlot]
    rw [Array.getElem?_setIfInBounds_ne (Ne.symm e)]; exact r2 j hj
theorem own_anewarray (W : own_W p l e R s m args below meth c Z y ret code ml ws T h cells slots) {C0 : String} {i : Nat} {z : Int32} (N cap : Nat) {pc : Nat} (pc' : Nat) {L : Array Slot} {st : List Value} (hd : decode code pc = .ok (.anewarray i, 3)) (w1 : (Jvm.Cond.classLink y.cls i C0).before a0 Z = true) (w2 : (Jvm.Cond.arrayOver (.object C0)).before a0 Z = true) (hz : z.toInt = (N : Int)) (hcap : N ≤ cap) (hb8 : cap * 8 ≤ 536870912) (hc : cells + 1 ≤ R.cells) (hl : slots + cap ≤ R.slots) (hp : pc + 3 = pc') (k : ∀ T' h' a, own_W p l e R s m args below meth c Z y ret code ml ws T' h' (cells + 1) (slots + cap) → Ext h h' → a = h.size → s.heap.size ≤ a → own_R Z h' a C0 N (fun _ => .null) → own_Go p e below C T' (mkF m pc' L (.ref a :: st))) : own_Go p e below C T (mkF m pc L (.int z :: st)) := by
  have hsz := own_le W
  obtain ⟨⟨hx, hby, hml, hown, hnm, hrt, hlk, hZ⟩, locs, X, eT, Nf⟩ := W
  subst hp
  have hcl := own_cl hz
  obtain ⟨T', h', cA, X', e', E', A', O', st'⟩ := newR X hx hZ hown w1 w2 eT (g := mkF m pc L (.int z :: st)) rfl (hb hby hd) rfl (own_nn hz) (cap := cap) (by rw [hcl]; exact hcap) hb8 hc hl
  refine own_st st' (k T' h' h.size ⟨⟨hx, hby, hml, hown, hnm, hrt, hlk, hZ⟩, locs, X', e', Nf⟩ E' rfl hsz ⟨_, A', O', by rw [sz_new, hcl], fun j hj => ?_⟩)
  simp [newA, hcl, hj, defaultValue]
theorem own_aastore (W : own_W p l e R s m args below meth c Z y ret code ml ws T h cells slots) {a b : Addr} {C0 : String} {z : Int32} {n : Nat} {f : Nat → Value} (k : Nat) {pc : Nat} (pc' : Nat) {L : Array Slot} {st : List Value} (hd : decode code pc = .ok (.aastore, 1)) (F : own_R Z h a C0 n f) (I : Ins Z h b C0 true) (ha : a ∈ ws ∨ s.heap.size ≤ a) (hz : z.toInt = (k : Int)) (hk : k < n) (hp : pc + 1 = pc') (kk : ∀ T' h', own_W p l e R s m args below meth c Z y ret code ml ws T' h' cells slots → Wr h h' a k (.ref b) → own_R Z h' a C0 n (own_upd f k (.ref b)) → own_Go p e below C T' (mkF m pc' L st)) : own_Go p e below C T (mkF m pc L (.ref b :: .int z :: .ref a :: st)) := by
  have hsz := own_le W
  obtain ⟨⟨hx, hby, hml, hown, hnm, hrt, hlk, hZ⟩, locs, X, eT, N⟩ := W
  subst hp
  have F' := F
  obtain ⟨cl, A, O, hs, hf⟩ := F
  obtain ⟨T', h', X', e', W', st'⟩ := stR X hx hZ eT A (j := z) (own_in hz hs hk) rfl (Sto.of A O I) (g := mkF m pc L (.ref b :: .int z :: .ref a :: st)) rfl rfl (hb hby hd)
  rw [own_cl hz] at W'
  exact own_st st' (kk T' h' ⟨⟨hx, hby, hml, hown, hnm, hrt, hlk, hZ⟩, _, X', e', own_Fw_snoc N ha⟩ W' (F'.set W' hk))
theorem own_aaload (W : own_W p l e R s m args below meth c Z y ret code ml ws T h cells slots) {a : Addr} {C0 : String} {z : Int32} {n : Nat} {f : Nat → Value} (k : Nat) (v : Value) {pc : Nat} (pc' : Nat) {L : Array Slot} {st : List Value} (hd : decode code pc = .ok (.aaload, 1)) (F : own_R Z h a C0 n f) (hz : z.toInt = (k : Int)) (hk : k < n) (hv : f k = v) (hp : pc + 1 = pc') (kk : own_Go p e below C T (mkF m pc' L (v :: st))) : own_Go p e below C T (mkF m pc L (.int z :: .ref a :: st)) := by
  have hsz := own_le W
  obtain ⟨⟨hx, hby, hml, hown, hnm, hrt, hlk, hZ⟩, locs, X, eT, N⟩ := W
  subst hp eT
  obtain ⟨cl, A, O, hs, hf⟩ := F
  have hat : cl.slots[z.toNatClampNeg]? = some v := by rw [own_cl hz, hf k hk, hv]
  exact own_st (fun t q => X.aaload hx A.1 (State.isArrayOf_alike hZ.alike A.2.1) rfl A.2.2 (own_in hz hs hk) hat (g := mkF m pc L (.int z :: .ref a :: st)) rfl rfl (hb hby hd) t q) kk
theorem own_dup2 (W : own_W p l e R s m args below meth c Z y ret code ml ws T h cells slots) {a : Addr} {z : Int32} {pc : Nat} (pc' : Nat) {L : Array Slot} {st : List Value} (hd : decode code pc = .ok (.dup2, 1)) (hp : pc + 1 = pc') (k : own_Go p e below C T (mkF m pc' L (.int z :: .ref a :: .int z :: .ref a :: st))) : own_Go p e below C T (mkF m pc L (.int z :: .ref a :: st)) := by
  have hsz := own_le W
  obtain ⟨⟨hx, hby, hml, hown, hnm, hrt, hlk, hZ⟩, locs, X, eT, N⟩ := W
  subst hp
  refine own_st (fun t q => ?_) k
  show Steps p.tables e below (T.setTop { method := m, pc := pc, locals := L, stack := .int z :: .ref a :: st, locked := none }) _
  jvm_step X.here [X.here.top, hx, (hb hby hd), Value.category]
  exact q
theorem own_gd {n k : Nat} {f : Nat → Value} {d : Value} (hk : k < n) : ((List.range n).map f).getD k d = f k := by simp [List.getD, hk]
theorem own_A.arv {a : Addr} {ty : FieldType} {n : Nat} {f : Nat → Value} (F : own_A Z h a ty n f) (hn : n < 2147483648) (hf : ∀ j, j < n → fits ty (f j) = true) (d : Value) : ∃ k, Arv Z h a k ty n.toInt32 ((List.range n).map f) d := by
  obtain ⟨cl, A, r1, r2⟩ := F
  have hz : n.toInt32.toInt = (n : Int) := len_toInt hn
  refine ⟨cl.cls, cl, A, rfl, by rw [r1, own_cl hz], own_nn hz, fun k hk => ?_, fun i hi => ?_⟩
  · rw [r1] at hk
    rw [r2 k hk, own_gd hk]
  · rw [r1] at hi
    rw [own_gd hi]; exact hf i hi
theorem own_A.of_arv {a : Addr} {k : ClassId} {ty : FieldType} {z : Int32} {n : Nat} {vs : List Value} {d : Value} (F : Arv Z h a k ty z vs d) (hz : z.toInt = (n : Int)) : own_A Z h a ty n (fun j => vs.getD j d) := by
  obtain ⟨cl, A, -, r2, -, H, -⟩ := F
  rw [own_cl hz] at r2
  exact ⟨cl, A, r2, fun j hj => H j (by rw [r2]; exact hj)⟩
theorem own_cpl (f f' : Nat → Value) (n n' i j k : Nat) (d : Value) (h4 : i + k ≤ n) (h5 : j + k ≤ n') (q : Nat) (hq : q < n') :
    (((List.range n').map f').take j ++ (List.range k).map (fun t => ((List.range n).map f).getD (i + t) d) ++ ((List.range n').map f').drop (j + k)).getD q d = if j ≤ q ∧ q < j + k then f (i + (q - j)) else f' q := by
  have hl : (((List.range n').map f').take j).length = j := by simp; omega
  have hm : ((List.range k).map (fun t => ((List.range n).map f).getD (i + t) d)).length = k := by simp
  rw [List.getD_eq_getElem?_getD, List.append_assoc]
  rcases Nat.lt_or_ge q j with h1 | h1
  · rw [List.getElem?_append_left (by omega), if_neg (by omega)]
    simp [List.getElem?_take, h1, hq]
  · rw [List.getElem?_append_right (by omega), hl]
    rcases Nat.lt_or_ge q (j + k) with h2 | h2
    · rw [List.getElem?_append_left (by omega), if_pos ⟨h1, h2⟩, List.getElem?_map, List.getElem?_range (by omega)]
      simp only [Option.map_some, Option.getD_some]
      rw [own_gd (by omega)]
    · rw [List.getElem?_append_right (by omega), hm, if_neg (by omega), List.getElem?_drop]
      rw [show j + k + (q - j - k) = q by omega]
      simp [hq]
theorem own_arraycopy (W : own_W p l e R s m args below meth c Z y ret code ml [] T h cells slots) {i : Nat} {a b : Addr} {ty : FieldType} {n n' : Nat} {f f' : Nat → Value} {sp dp nn : Int32} (i1 j1 k1 wt : Nat) {pc : Nat} (pc' : Nat) {L : Array Slot} {st : List Value} (hd : decode code pc = .ok (.invokestatic i, 3)) (w1 : (Jvm.Cond.methodLink y.cls i Jvm.Stand.acN).before a0 Z = true) (w2 : (Jvm.Cond.native Jvm.Stand.acN).before a0 Z = true) (w3 : (Jvm.Cond.static Jvm.Stand.acN).before a0 Z = true) (w4 : (Jvm.Cond.initialized "java/lang/System").before a0 Z = true) (F : own_A Z h a ty n f) (G : own_A Z h b ty n' f') (hff : ∀ j, j < n → fits ty (f j) = true) (hfg : ∀ j, j < n' → fits ty (f' j) = true) (hn : n < 2147483648) (hn' : n' < 2147483648) (hrk : refKind ty = false) (hsp : sp.toInt = (i1 : Int)) (hdp : dp.toInt = (j1 : Int)) (hnn : nn.toInt = (k1 : Int)) (h4 : i1 + k1 ≤ n) (h5 : j1 + k1 ≤ n') (hob : s.heap.size ≤ b) (hL : L.size = ml) (hwt : (st.map fun v => v.category).sum ≤ wt) (hf : 1 ≤ R.frames) (hlo : wt + (nativeFrameWords "java/lang/System" "arraycopy" 5 + 11) ≤ R.locals) (hp : pc + 3 = pc') (k : ∀ T' h', own_W p l e R s m args below meth c Z y ret code ml [] T' h' cells slots → Keep h h' [b] → own_A Z h' b ty n' (fun q => if j1 ≤ q ∧ q < j1 + k1 then f (i1 + (q - j1)) else f' q) → own_Go p e below C T' (mkF m pc' L st)) : own_Go p e below C T (mkF m pc L (.int nn :: .int dp :: .ref b :: .int sp :: .ref a :: st)) := by
  have hsz := own_le W
  obtain ⟨⟨hx, hby, hml, hown, hnm, hrt, hlk, hZ⟩, locs, X, eT, N⟩ := W
  subst hp
  have NF : Fr s.heap.size locs := fun y hy => (N y hy).resolve_left (fun q => nomatch q)
  obtain ⟨ka, A⟩ := F.arv hn hff (.int 0)
  obtain ⟨kb, B⟩ := G.arv hn' hfg (.int 0)
  have ez : n.toInt32.toNatClampNeg = n := own_cl (len_toInt hn)
  have ez' : n'.toInt32.toNatClampNeg = n' := own_cl (len_toInt hn')
  obtain ⟨T', h', L', X', e', N', K', B', st'⟩ := cpA X hx hZ hown w1 w2 w3 w4 eT A B (Or.inl ⟨rfl, hrk⟩) (own_nn hsp) (own_nn hdp) (own_nn hnn) (by rw [own_cl hsp, own_cl hnn, ez]; exact h4) (by rw [own_cl hdp, own_cl hnn, ez']; exact h5) rfl (by rw [own_cl hdp, own_cl hnn]; simpa using h5) NF hob (g := mkF m pc L (.int nn :: .int dp :: .ref b :: .int sp :: .ref a :: st)) rfl (by rw [hml]; exact hL) rfl (hb hby hd) hf (W := wt) (by show 2 * 0 + _ ≤ _; omega) hlo
  refine own_st st' (k T' h' ⟨⟨hx, hby, hml, hown, hnm, hrt, hlk, hZ⟩, L', X', e', fun y hy => Or.inr (N' y hy)⟩ K' ((own_A.of_arv B' (len_toInt hn')).congr fun q hq => ?_))
  rw [own_cl hsp, own_cl hdp, own_cl hnn]
  exact own_cpl f f' n n' i1 j1 k1 _ h4 h5 q hq
theorem own_new (W : own_W p l e R s m args below meth c Z y ret code ml ws T h cells slots) {C0 : String} {i nn : Nat} {pc : Nat} (pc' : Nat) {L : Array Slot} {st : List Value} (hd : decode code pc = .ok (.new i, 3)) (w : (Jvm.Cond.classLink y.cls i C0).before a0 Z = true) (wi : (Jvm.Cond.instantiable C0 nn).before a0 Z = true) (wz : (Jvm.Cond.initialized C0).before a0 Z = true) (hc : cells + 1 ≤ R.cells) (hl : slots + nn ≤ R.slots) (hp : pc + 3 = pc') (k : ∀ T' h' a, own_W p l e R s m args below meth c Z y ret code ml ws T' h' (cells + 1) (slots + nn) → Ext h h' → a = h.size → s.heap.size ≤ a → Exa Z h' a C0 → (∀ {O nm d : String} {ty : FieldType}, Laid Z a0 C0 O nm d → parseFieldDescriptor d = some ty → Fld Z h' a O nm d (defaultValue ty)) → own_Go p e below C T' (mkF m pc' L (.ref a :: st))) : own_Go p e below C T (mkF m pc L st) := by
  have hsz := own_le W
  obtain ⟨⟨hx, hby, hml, hown, hnm, hrt, hlk, hZ⟩, locs, X, eT, N⟩ := W
  subst hp
  obtain ⟨T', h', X', e', E', A', D', -, st'⟩ := newO X hx hZ hown w wi wz eT (g := mkF m pc L st) rfl (hb hby hd) hc hl
  exact own_st st' (k T' h' h.size ⟨⟨hx, hby, hml, hown, hnm, hrt, hlk, hZ⟩, locs, X', e', N⟩ E' rfl hsz A' D')
theorem own_getfield (W : own_W p l e R s m args below meth c Z y ret code ml ws T h cells slots) {O n d : String} {i : Nat} {a : Addr} {v : Value} {pc : Nat} (pc' : Nat) {L : Array Slot} {st : List Value} (hd : decode code pc = .ok (.getfield i, 3)) (w : (Jvm.Cond.fieldLink y.cls i O n d).before a0 Z = true) (F : Fld Z h a O n d v) (hp : pc + 3 = pc') (k : ∀ T', own_W p l e R s m args below meth c Z y ret code ml ws T' h cells slots → own_Go p e below C T' (mkF m pc' L (v :: st))) : own_Go p e below C T (mkF m pc L (.ref a :: st)) := by
  have hsz := own_le W
  obtain ⟨⟨hx, hby, hml, hown, hnm, hrt, hlk, hZ⟩, locs, X, eT, N⟩ := W
  subst hp
  obtain ⟨T', X', e', st'⟩ := getF X hx hZ hown (host := "") (Or.inl w) Via.refl eT F (g := mkF m pc L (.ref a :: st)) rfl rfl (hb hby hd)
  exact own_st st' (k T' ⟨⟨hx, hby, hml, hown, hnm, hrt, hlk, hZ⟩, locs, X', e', N⟩)
theorem own_getfieldN (W : own_W p l e R s m args below meth c Z y ret code ml ws T h cells slots) {O n d host : String} {i : Nat} {a : Addr} {v : Value} {pc : Nat} (pc' : Nat) {L : Array Slot} {st : List Value} (hd : decode code pc = .ok (.getfield i, 3)) (w : (Jvm.Cond.fieldLinkNest y.cls i O n d host).before a0 Z = true) (F : Fld Z h a O n d v) (hp : pc + 3 = pc') (k : ∀ T', own_W p l e R s m args below meth c Z y ret code ml ws T' h cells slots → own_Go p e below C T' (mkF m pc' L (v :: st))) : own_Go p e below C T (mkF m pc L (.ref a :: st)) := by
  have hsz := own_le W
  obtain ⟨⟨hx, hby, hml, hown, hnm, hrt, hlk, hZ⟩, locs, X, eT, N⟩ := W
  subst hp
  obtain ⟨T', X', e', st'⟩ := getF X hx hZ hown (host := host) (Or.inr w) Via.refl eT F (g := mkF m pc L (.ref a :: st)) rfl rfl (hb hby hd)
  exact own_st st' (k T' ⟨⟨hx, hby, hml, hown, hnm, hrt, hlk, hZ⟩, locs, X', e', N⟩)
theorem own_getstatic (W : own_W p l e R s m args below meth c Z y ret code ml ws T h cells slots) {O n d : String} {i : Nat} {v : Value} {pc : Nat} (pc' : Nat) {L : Array Slot} {st : List Value} (hd : decode code pc = .ok (.getstatic i, 3)) (w : (Jvm.Cond.fieldLink y.cls i O n d).before a0 Z = true) (F : Sta Z h O n d v) (hp : pc + 3 = pc') (k : ∀ T', own_W p l e R s m args below meth c Z y ret code ml ws T' h cells slots → own_Go p e below C T' (mkF m pc' L (v :: st))) : own_Go p e below C T (mkF m pc L st) := by
  have hsz := own_le W
  obtain ⟨⟨hx, hby, hml, hown, hnm, hrt, hlk, hZ⟩, locs, X, eT, N⟩ := W
  subst hp
  obtain ⟨T', X', e', st'⟩ := getS X hx hZ hown (host := "") w Via.refl eT F (g := mkF m pc L st) rfl (hb hby hd)
  exact own_st st' (k T' ⟨⟨hx, hby, hml, hown, hnm, hrt, hlk, hZ⟩, locs, X', e', N⟩)
theorem own_putfield (W : own_W p l e R s m args below meth c Z y ret code ml ws T h cells slots) {O n d C0 : String} {i kk : Nat} {ty : FieldType} {a : Addr} {v old : Value} (v' : Value) {pc : Nat} (pc' : Nat) {L : Array Slot} {st : List Value} (hd : decode code pc = .ok (.putfield i, 3)) (w : (Jvm.Cond.fieldLink y.cls i O n d).before a0 Z = true) (F : Fld Z h a O n d old) (E : Exa Z h a C0) (La : (Jvm.Cond.lays C0 O n d).before a0 Z = true ∨ ((Jvm.Cond.laysFinal C0 O n d).before a0 Z = true ∧ y.cls = O ∧ y.name = "<init>")) (wi : (Jvm.Cond.instantiable C0 kk).before a0 Z = true) (ha : a ∈ ws ∨ s.heap.size ≤ a) (hty : parseFieldDescriptor d = some ty) (hn : narrow ty v = v') (hf : fits ty v' = true) (hp : pc + 3 = pc') (k : ∀ T' h', own_W p l e R s m args below meth c Z y ret code ml ws T' h' cells slots → Wr h h' a (Jvm.RoadKit.slotOf Z O n d) v' → Fld Z h' a O n d v' → own_Go p e below C T' (mkF m pc' L st)) : own_Go p e below C T (mkF m pc L (v :: .ref a :: st)) := by
  have hsz := own_le W
  obtain ⟨⟨hx, hby, hml, hown, hnm, hrt, hlk, hZ⟩, locs, X, eT, N⟩ := W
  subst hp
  obtain ⟨T', h', X', e', W', st'⟩ := putFN X hx hZ hown w Via.refl eT F E (by rw [hnm]; exact La) wi hty hn hf (g := mkF m pc L (v :: .ref a :: st)) rfl rfl (hb hby hd)
  exact own_st st' (k T' h' ⟨⟨hx, hby, hml, hown, hnm, hrt, hlk, hZ⟩, _, X', e', own_Fw_snoc N ha⟩ W' (F.same W'))
theorem own_callS (W : own_W p l e R s m args below meth c Z y ret code ml ws T h cells slots) {i : Nat} {yc : MethodName} {bytes : ByteArray} {maxL : Nat} {rt : Option FieldType} {rm : Room} {Q : Option Value → Heap → Prop} {ps : List FieldType} {rr : Option FieldType} {wc' : List Addr} (A : List Value) (wt : Nat) {pc : Nat} (pc' : Nat) {L : Array Slot} {st : List Value} (hd : decode code pc = .ok (.invokestatic i, 3)) (wl : (Jvm.Cond.methodLink y.cls i yc).before a0 Z = true) (wst : (Jvm.Cond.static yc).before a0 Z = true) (wz : (Jvm.Cond.initialized yc.cls).before a0 Z = true) (wc : (Jvm.Cond.code yc bytes maxL rt).before a0 Z = true) (hy : yc.cls ≠ "java/lang/invoke/MethodHandle" ∧ yc.cls ≠ "java/lang/invoke/VarHandle") (hM : own_M l Z [] yc bytes maxL rt rm wc' A.toArray h Q) (hws : ∀ b ∈ wc', b ∈ ws ∨ s.heap.size ≤ b) (hL : L.size = ml) (hds : parseMethodDescriptor yc.desc = some ⟨ps, rr⟩) (hA : A.length = ps.length) (hwt : (st.map fun v => v.category).sum ≤ wt) (hf : rm.frames + 1 ≤ R.frames) (hlo : wt + (maxL + 11) + rm.locals ≤ R.locals) (hc : cells + rm.cells ≤ R.cells) (hs : slots + rm.slots ≤ R.slots) (hp : pc + 3 = pc') (k : ∀ T' h' v, own_W p l e R s m args below meth c Z y ret code ml ws T' h' (cells + rm.cells) (slots + rm.slots) → Keep h h' wc' → (rm.cells = 0 → wc' = [] → h' = h) → Q v h' → own_Go p e below C T' (mkF m pc' L (v.toList ++ st))) : own_Go p e below C T (mkF m pc L (A.reverse ++ st)) := by
  have hsz := own_le W
  obtain ⟨⟨hx, hby, hml, hown, hnm, hrt, hlk, hZ⟩, locs, X, eT, N⟩ := W
  subst hp
  obtain ⟨_, _, ⟨T', L', k', n'⟩, -, X', ⟨Lc', hQ', l', y', z'⟩, st'⟩ := Jvm.LawKit.callS X hx (y := yc) hown (mvT hZ wl) (mvT hZ wst) (mvT hZ wz) (mvT hZ wc) hy (backOf (W := wt) hM hZ wc wz hf hlo) (g := mkF m pc L (A.reverse ++ st)) rfl (by rw [hml]; exact hL) (argsL := A) (rest := st) (lenOf hds hA) rfl (by show 2 * 0 + _ ≤ _; omega) (hb hby hd) (fun _ _ => ⟨rfl, eT, hc, hs⟩)
  dsimp only [Pt.U, Pt.locs, Pt.cells, Pt.slots] at X' l' y' z' st' hQ'
  subst l' y' z'
  exact own_st st' (k T' _ _ ⟨⟨hx, hby, hml, hown, hnm, hrt, hlk, hZ⟩, _, X', rfl, own_Fw_app N hQ'.1 hws hsz⟩ hQ'.2.1 hQ'.2.2.1 hQ'.2.2.2)
theorem own_callN (W : own_W p l e R s m args below meth c Z y ret code ml ws T h cells slots) {i : Nat} {yc : MethodName} {bytes : ByteArray} {maxL : Nat} {rm : Room} {Q : Option Value → Heap → Prop} {ps : List FieldType} {rr : Option FieldType} {a : Addr} {wc' : List Addr} (A : List Value) (wt : Nat) {pc : Nat} (pc' : Nat) {L : Array Slot} {st : List Value} (hd : decode code pc = .ok (.invokespecial i, 3)) (hi : yc.name = "<init>") (wl : (Jvm.Cond.methodLink y.cls i yc).before a0 Z = true) (wst : (Jvm.Cond.instanceMethod yc).before a0 Z = true) (wz : (Jvm.Cond.initialized yc.cls).before a0 Z = true) (wc : (Jvm.Cond.code yc bytes maxL none).before a0 Z = true) (hy : yc.cls ≠ "java/lang/invoke/MethodHandle" ∧ yc.cls ≠ "java/lang/invoke/VarHandle") (hM : own_M l Z [] yc bytes maxL none rm wc' (.ref a :: A).toArray h Q) (hws : ∀ b ∈ wc', b ∈ ws ∨ s.heap.size ≤ b) (hL : L.size = ml) (hds : parseMethodDescriptor yc.desc = some ⟨ps, rr⟩) (hA : A.length = ps.length) (hwt : (st.map fun v => v.category).sum ≤ wt) (hf : rm.frames + 1 ≤ R.frames) (hlo : wt + (maxL + 11) + rm.locals ≤ R.locals) (hc : cells + rm.cells ≤ R.cells) (hs : slots + rm.slots ≤ R.slots) (hp : pc + 3 = pc') (k : ∀ T' h' v, own_W p l e R s m args below meth c Z y ret code ml ws T' h' (cells + rm.cells) (slots + rm.slots) → Keep h h' wc' → (rm.cells = 0 → wc' = [] → h' = h) → Q v h' → own_Go p e below C T' (mkF m pc' L (v.toList ++ st))) : own_Go p e below C T (mkF m pc L (A.reverse ++ .ref a :: st)) := by
  have hsz := own_le W
  obtain ⟨⟨hx, hby, hml, hown, hnm, hrt, hlk, hZ⟩, locs, X, eT, N⟩ := W
  subst hp
  obtain ⟨_, _, ⟨T', L', k', n'⟩, -, X', ⟨Lc', hQ', l', y', z'⟩, st'⟩ := X.specialBack hx (y := yc) hi hown (mvT hZ wl) (mvT hZ wst) (mvT hZ wc) hy (backOf (W := wt) hM hZ wc wz hf hlo) (g := mkF m pc L (A.reverse ++ .ref a :: st)) rfl (by rw [hml]; exact hL) (Steps.refl _) (a := a) (argsL := A) (rest := st) (lenOf hds hA) rfl (by show 2 * 0 + _ ≤ _; omega) (hb hby hd) (fun _ _ => ⟨rfl, eT, hc, hs⟩)
  dsimp only [Pt.U, Pt.locs, Pt.cells, Pt.slots] at X' l' y' z' st' hQ'
  subst l' y' z'
  exact own_tr st' (k T' _ _ ⟨⟨hx, hby, hml, hown, hnm, hrt, hlk, hZ⟩, _, X', rfl, own_Fw_app N hQ'.1 hws hsz⟩ hQ'.2.1 hQ'.2.2.1 hQ'.2.2.2)
theorem own_callV (W : own_W p l e R s m args below meth c Z y ret code ml ws T h cells slots) {C0 : String} {i : Nat} {yc zc : MethodName} {bytes : ByteArray} {maxL : Nat} {rt : Option FieldType} {rm : Room} {Q : Option Value → Heap → Prop} {ps : List FieldType} {rr : Option FieldType} {a : Addr} {wc' : List Addr} (A : List Value) (wt : Nat) {pc : Nat} (pc' : Nat) {L : Array Slot} {st : List Value} (hd : decode code pc = .ok (.invokevirtual i, 3)) (wl : (Jvm.Cond.methodLink y.cls i yc).before a0 Z = true) (wd : (Jvm.Cond.declares yc).before a0 Z = true) (nf : NotFace s yc) (wse : (Jvm.Cond.selects C0 yc zc).before a0 Z = true) (wst : (Jvm.Cond.instanceMethod zc).before a0 Z = true) (wz : (Jvm.Cond.initialized zc.cls).before a0 Z = true) (wc : (Jvm.Cond.code zc bytes maxL rt).before a0 Z = true) (hy : yc.cls ≠ "java/lang/invoke/MethodHandle" ∧ yc.cls ≠ "java/lang/invoke/VarHandle") (E : Exa Z h a C0) (hM : own_M l Z [] zc bytes maxL rt rm wc' (.ref a :: A).toArray h Q) (hws : ∀ b ∈ wc', b ∈ ws ∨ s.heap.size ≤ b) (hL : L.size = ml) (hds : parseMethodDescriptor yc.desc = some ⟨ps, rr⟩) (hA : A.length = ps.length) (hwt : (st.map fun v => v.category).sum ≤ wt) (hf : rm.frames + 1 ≤ R.frames) (hlo : wt + (maxL + 11) + rm.locals ≤ R.locals) (hc : cells + rm.cells ≤ R.cells) (hs : slots + rm.slots ≤ R.slots) (hp : pc + 3 = pc') (k : ∀ T' h' v, own_W p l e R s m args below meth c Z y ret code ml ws T' h' (cells + rm.cells) (slots + rm.slots) → Keep h h' wc' → (rm.cells = 0 → wc' = [] → h' = h) → Q v h' → own_Go p e below C T' (mkF m pc' L (v.toList ++ st))) : own_Go p e below C T (mkF m pc L (A.reverse ++ .ref a :: st)) := by
  have hsz := own_le W
  obtain ⟨⟨hx, hby, hml, hown, hnm, hrt, hlk, hZ⟩, locs, X, eT, N⟩ := W
  subst hp
  obtain ⟨cq, kq, qa, qb, qc⟩ := isOf hZ eT E
  obtain ⟨_, _, ⟨T', L', k', n'⟩, -, X', ⟨Lc', hQ', l', y', z'⟩, st'⟩ := X.virtualBack hx (y := yc) (z := zc) hown (mvT hZ wl) (mvT hZ wd) nf (mvT hZ wse) (mvT hZ wst) hy (backOf (W := wt) hM hZ wc wz hf hlo) qa qc (g := mkF m pc L (A.reverse ++ .ref a :: st)) rfl (by rw [hml]; exact hL) (Steps.refl _) (argsL := A) (rest := st) (lenOf hds hA) rfl (by show 2 * 0 + _ ≤ _; omega) (hb hby hd) (fun _ _ => ⟨rfl, eT, hc, hs⟩)
  dsimp only [Pt.U, Pt.locs, Pt.cells, Pt.slots] at X' l' y' z' st' hQ'
  subst l' y' z'
  exact own_tr st' (k T' _ _ ⟨⟨hx, hby, hml, hown, hnm, hrt, hlk, hZ⟩, _, X', rfl, own_Fw_app N hQ'.1 hws hsz⟩ hQ'.2.1 hQ'.2.2.1 hQ'.2.2.2)
theorem own_nf (W : own_W p l e R s m args below meth c Z y ret code ml ws T h cells slots) {C0 : String} {yc : MethodName} (wse : (Jvm.Cond.selects C0 yc yc).before a0 Z = true) : NotFace s yc := by
  have hsz := own_le W
  obtain ⟨⟨hx, hby, hml, hown, hnm, hrt, hlk, hZ⟩, locs, X, eT, N⟩ := W
  exact notFace_of_selects (args := #[]) (mvT hZ wse)
theorem own_initO (W : own_W p l e R s m args below meth c Z y ret code ml ws T h cells slots) {i : Nat} {a : Addr} (wt : Nat) {pc : Nat} (pc' : Nat) {L : Array Slot} {st : List Value} (hd : decode code pc = .ok (.invokespecial i, 3)) (w1 : (Jvm.Cond.methodLink y.cls i Lib.objectInit).before a0 Z = true) (w2 : (Jvm.Cond.instanceMethod Lib.objectInit).before a0 Z = true) (w3 : (Jvm.Cond.code Lib.objectInit ⟨#[0xb1]⟩ 1 none).before a0 Z = true) (hL : L.size = ml) (hwt : (st.map fun v => v.category).sum ≤ wt) (hf : 1 ≤ R.frames) (hlo : wt + 12 ≤ R.locals) (hp : pc + 3 = pc') (k : ∀ T', own_W p l e R s m args below meth c Z y ret code ml ws T' h cells slots → own_Go p e below C T' (mkF m pc' L st)) : own_Go p e below C T (mkF m pc L (.ref a :: st)) := by
  have hsz := own_le W
  obtain ⟨⟨hx, hby, hml, hown, hnm, hrt, hlk, hZ⟩, locs, X, eT, N⟩ := W
  subst hp
  obtain ⟨T', X', e', st'⟩ := initO X hx hZ hown w1 w2 w3 eT (g := mkF m pc L (.ref a :: st)) rfl (by rw [hml]; exact hL) rfl (hb hby hd) hf (W := wt) (by show 2 * 0 + _ ≤ _; omega) hlo
  exact own_st st' (k T' ⟨⟨hx, hby, hml, hown, hnm, hrt, hlk, hZ⟩, locs, X', e', N⟩)
theorem own_b1 {P : Prop} [Decidable P] (q : P) : ¬ (if P then (1 : Int32) else 0) = 0 := by rw [if_pos q]; decide
theorem own_b0 {P : Prop} [Decidable P] (q : ¬ P) : (if P then (1 : Int32) else 0) = 0 := if_neg q
theorem own_bz {P : Prop} [Decidable P] : (if P then (1 : Int32) else 0) &&& 1 = if P then (1 : Int32) else 0 := by split <;> rfl
end OwnKit

theorem wd0 {a0 : Array Value} {Z : State} (hw : ∀ d ∈ tables_1, d.before a0 Z = true) : (Jvm.Cond.arrayClass Jvm.ClassFile.FieldType.byte).before a0 Z = true := hw _ (List.mem_of_getElem? (i := 0) rfl)
theorem wd1 {a0 : Array Value} {Z : State} (hw : ∀ d ∈ tables_1, d.before a0 Z = true) : (Jvm.Cond.classLink "com/example/redelivery/redelivery/engine/CarriageCarriesPinLaw" (7 : Nat) "com/example/redelivery/redelivery/engine/Carriage").before a0 Z = true := hw _ (List.mem_of_getElem? (i := 1) rfl)
theorem wd2 {a0 : Array Value} {Z : State} (hw : ∀ d ∈ tables_1, d.before a0 Z = true) : (Jvm.Cond.instantiable "com/example/redelivery/redelivery/engine/Carriage" (3 : Nat)).before a0 Z = true := hw _ (List.mem_of_getElem? (i := 2) rfl)
theorem wd3 {a0 : Array Value} {Z : State} (hw : ∀ d ∈ tables_1, d.before a0 Z = true) : (Jvm.Cond.initialized "com/example/redelivery/redelivery/engine/Carriage").before a0 Z = true := hw _ (List.mem_of_getElem? (i := 3) rfl)
theorem wd4 {a0 : Array Value} {Z : State} (hw : ∀ d ∈ tables_1, d.before a0 Z = true) : (Jvm.Cond.stringLink "com/example/redelivery/redelivery/engine/CarriageCarriesPinLaw" (9 : Nat) "p").before a0 Z = true := hw _ (List.mem_of_getElem? (i := 4) rfl)
theorem wd11 {a0 : Array Value} {Z : State} (hw : ∀ d ∈ tables_1, d.before a0 Z = true) : (Jvm.Cond.methodLink "com/example/redelivery/redelivery/engine/CarriageCarriesPinLaw" (11 : Nat) ({ cls := "com/example/redelivery/redelivery/engine/Carriage", name := "<init>", desc := "(Ljava/lang/String;ZI)V" } : Jvm.MethodName)).before a0 Z = true := hw _ (List.mem_of_getElem? (i := 11) rfl)
theorem wd12 {a0 : Array Value} {Z : State} (hw : ∀ d ∈ tables_1, d.before a0 Z = true) : (Jvm.Cond.instanceMethod ({ cls := "com/example/redelivery/redelivery/engine/Carriage", name := "<init>", desc := "(Ljava/lang/String;ZI)V" } : Jvm.MethodName)).before a0 Z = true := hw _ (List.mem_of_getElem? (i := 12) rfl)
theorem wd13 {a0 : Array Value} {Z : State} (hw : ∀ d ∈ tables_1, d.before a0 Z = true) : (Jvm.Cond.code ({ cls := "com/example/redelivery/redelivery/engine/Carriage", name := "<init>", desc := "(Ljava/lang/String;ZI)V" } : Jvm.MethodName) prog_4_method_1_code (4 : Nat) (Option.none : Option Jvm.ClassFile.FieldType)).before a0 Z = true := hw _ (List.mem_of_getElem? (i := 13) rfl)
theorem wd14 {a0 : Array Value} {Z : State} (hw : ∀ d ∈ tables_1, d.before a0 Z = true) : (Jvm.Cond.methodLink "com/example/redelivery/redelivery/engine/Carriage" (1 : Nat) ({ cls := "java/lang/Record", name := "<init>", desc := "()V" } : Jvm.MethodName)).before a0 Z = true := hw _ (List.mem_of_getElem? (i := 14) rfl)
theorem wd15 {a0 : Array Value} {Z : State} (hw : ∀ d ∈ tables_1, d.before a0 Z = true) : (Jvm.Cond.instanceMethod ({ cls := "java/lang/Record", name := "<init>", desc := "()V" } : Jvm.MethodName)).before a0 Z = true := hw _ (List.mem_of_getElem? (i := 15) rfl)
theorem wd17 {a0 : Array Value} {Z : State} (hw : ∀ d ∈ tables_1, d.before a0 Z = true) : (Jvm.Cond.initialized "java/lang/Record").before a0 Z = true := hw _ (List.mem_of_getElem? (i := 17) rfl)
theorem wd18 {a0 : Array Value} {Z : State} (hw : ∀ d ∈ tables_1, d.before a0 Z = true) : (Jvm.Cond.code ({ cls := "java/lang/Record", name := "<init>", desc := "()V" } : Jvm.MethodName) jdk_30_method_1_code (1 : Nat) (Option.none : Option Jvm.ClassFile.FieldType)).before a0 Z = true := hw _ (List.mem_of_getElem? (i := 18) rfl)
theorem wd19 {a0 : Array Value} {Z : State} (hw : ∀ d ∈ tables_1, d.before a0 Z = true) : (Jvm.Cond.methodLink "java/lang/Record" (1 : Nat) ({ cls := "java/lang/Object", name := "<init>", desc := "()V" } : Jvm.MethodName)).before a0 Z = true := hw _ (List.mem_of_getElem? (i := 19) rfl)
theorem wd20 {a0 : Array Value} {Z : State} (hw : ∀ d ∈ tables_1, d.before a0 Z = true) : (Jvm.Cond.instanceMethod ({ cls := "java/lang/Object", name := "<init>", desc := "()V" } : Jvm.MethodName)).before a0 Z = true := hw _ (List.mem_of_getElem? (i := 20) rfl)
theorem wd21 {a0 : Array Value} {Z : State} (hw : ∀ d ∈ tables_1, d.before a0 Z = true) : (Jvm.Cond.code ({ cls := "java/lang/Object", name := "<init>", desc := "()V" } : Jvm.MethodName) object_method_1_code (1 : Nat) (Option.none : Option Jvm.ClassFile.FieldType)).before a0 Z = true := hw _ (List.mem_of_getElem? (i := 21) rfl)
theorem wd22 {a0 : Array Value} {Z : State} (hw : ∀ d ∈ tables_1, d.before a0 Z = true) : (Jvm.Cond.fieldLink "com/example/redelivery/redelivery/engine/Carriage" (7 : Nat) "com/example/redelivery/redelivery/engine/Carriage" "protocol" "Ljava/lang/String;").before a0 Z = true := hw _ (List.mem_of_getElem? (i := 22) rfl)
theorem wd23 {a0 : Array Value} {Z : State} (hw : ∀ d ∈ tables_1, d.before a0 Z = true) : (Jvm.Cond.laysFinal "com/example/redelivery/redelivery/engine/Carriage" "com/example/redelivery/redelivery/engine/Carriage" "protocol" "Ljava/lang/String;").before a0 Z = true := hw _ (List.mem_of_getElem? (i := 23) rfl)
theorem wd24 {a0 : Array Value} {Z : State} (hw : ∀ d ∈ tables_1, d.before a0 Z = true) : (Jvm.Cond.fieldLink "com/example/redelivery/redelivery/engine/Carriage" (13 : Nat) "com/example/redelivery/redelivery/engine/Carriage" "carriesCr" "Z").before a0 Z = true := hw _ (List.mem_of_getElem? (i := 24) rfl)
theorem wd25 {a0 : Array Value} {Z : State} (hw : ∀ d ∈ tables_1, d.before a0 Z = true) : (Jvm.Cond.laysFinal "com/example/redelivery/redelivery/engine/Carriage" "com/example/redelivery/redelivery/engine/Carriage" "carriesCr" "Z").before a0 Z = true := hw _ (List.mem_of_getElem? (i := 25) rfl)
theorem wd26 {a0 : Array Value} {Z : State} (hw : ∀ d ∈ tables_1, d.before a0 Z = true) : (Jvm.Cond.fieldLink "com/example/redelivery/redelivery/engine/Carriage" (17 : Nat) "com/example/redelivery/redelivery/engine/Carriage" "maxLength" "I").before a0 Z = true := hw _ (List.mem_of_getElem? (i := 26) rfl)
theorem wd27 {a0 : Array Value} {Z : State} (hw : ∀ d ∈ tables_1, d.before a0 Z = true) : (Jvm.Cond.laysFinal "com/example/redelivery/redelivery/engine/Carriage" "com/example/redelivery/redelivery/engine/Carriage" "maxLength" "I").before a0 Z = true := hw _ (List.mem_of_getElem? (i := 27) rfl)
theorem wd28 {a0 : Array Value} {Z : State} (hw : ∀ d ∈ tables_1, d.before a0 Z = true) : (Jvm.Cond.methodLink "com/example/redelivery/redelivery/engine/CarriageCarriesPinLaw" (14 : Nat) ({ cls := "com/example/redelivery/redelivery/engine/Carriage", name := "carries", desc := "([B)Z" } : Jvm.MethodName)).before a0 Z = true := hw _ (List.mem_of_getElem? (i := 28) rfl)
theorem wd29 {a0 : Array Value} {Z : State} (hw : ∀ d ∈ tables_1, d.before a0 Z = true) : (Jvm.Cond.declares ({ cls := "com/example/redelivery/redelivery/engine/Carriage", name := "carries", desc := "([B)Z" } : Jvm.MethodName)).before a0 Z = true := hw _ (List.mem_of_getElem? (i := 29) rfl)
theorem wd30 {a0 : Array Value} {Z : State} (hw : ∀ d ∈ tables_1, d.before a0 Z = true) : (Jvm.Cond.instanceMethod ({ cls := "com/example/redelivery/redelivery/engine/Carriage", name := "carries", desc := "([B)Z" } : Jvm.MethodName)).before a0 Z = true := hw _ (List.mem_of_getElem? (i := 30) rfl)
theorem wd31 {a0 : Array Value} {Z : State} (hw : ∀ d ∈ tables_1, d.before a0 Z = true) : (Jvm.Cond.selects "com/example/redelivery/redelivery/engine/Carriage" ({ cls := "com/example/redelivery/redelivery/engine/Carriage", name := "carries", desc := "([B)Z" } : Jvm.MethodName) ({ cls := "com/example/redelivery/redelivery/engine/Carriage", name := "carries", desc := "([B)Z" } : Jvm.MethodName)).before a0 Z = true := hw _ (List.mem_of_getElem? (i := 31) rfl)
theorem wd32 {a0 : Array Value} {Z : State} (hw : ∀ d ∈ tables_1, d.before a0 Z = true) : (Jvm.Cond.code ({ cls := "com/example/redelivery/redelivery/engine/Carriage", name := "carries", desc := "([B)Z" } : Jvm.MethodName) prog_4_method_2_code (4 : Nat) (Option.some Jvm.ClassFile.FieldType.boolean)).before a0 Z = true := hw _ (List.mem_of_getElem? (i := 32) rfl)
theorem d2_0 : decode jdk_30_method_1_code 0 = .ok (.aload_n 0, 1) := by decide +kernel
theorem d2_1 : decode jdk_30_method_1_code 1 = .ok (.invokespecial 1, 3) := by decide +kernel
theorem d2_4 : decode jdk_30_method_1_code 4 = .ok (.return_, 1) := by decide +kernel
theorem pn_2 : plainName "java/lang/Record" = true := by first | (simp [plainName, overriddenIn]; done) | decide +kernel
theorem d1_0 : decode prog_4_method_1_code 0 = .ok (.aload_n 0, 1) := by decide +kernel
theorem pd_0 : parseMethodDescriptor "()V" = some ⟨[], none⟩ := by decide +kernel
theorem d1_1 : decode prog_4_method_1_code 1 = .ok (.invokespecial 1, 3) := by decide +kernel
theorem d1_4 : decode prog_4_method_1_code 4 = .ok (.aload_n 0, 1) := by decide +kernel
theorem d1_5 : decode prog_4_method_1_code 5 = .ok (.aload_n 1, 1) := by decide +kernel
theorem d1_6 : decode prog_4_method_1_code 6 = .ok (.putfield 7, 3) := by decide +kernel
theorem d1_9 : decode prog_4_method_1_code 9 = .ok (.aload_n 0, 1) := by decide +kernel
theorem d1_10 : decode prog_4_method_1_code 10 = .ok (.iload_n 2, 1) := by decide +kernel
theorem d1_11 : decode prog_4_method_1_code 11 = .ok (.putfield 13, 3) := by decide +kernel
theorem d1_14 : decode prog_4_method_1_code 14 = .ok (.aload_n 0, 1) := by decide +kernel
theorem d1_15 : decode prog_4_method_1_code 15 = .ok (.iload_n 3, 1) := by decide +kernel
theorem d1_16 : decode prog_4_method_1_code 16 = .ok (.putfield 17, 3) := by decide +kernel
theorem d1_19 : decode prog_4_method_1_code 19 = .ok (.return_, 1) := by decide +kernel
theorem pn_1 : plainName "com/example/redelivery/redelivery/engine/Carriage" = true := by first | (simp [plainName, overriddenIn]; done) | decide +kernel
theorem d4_17 : decode prog_4_method_2_code 17 = .ok (.iload_n 3, 1) := by decide +kernel
theorem d4_18 : decode prog_4_method_2_code 18 = .ok (.aload_n 1, 1) := by decide +kernel
theorem d4_19 : decode prog_4_method_2_code 19 = .ok (.arraylength, 1) := by decide +kernel
theorem d4_20 : decode prog_4_method_2_code 20 = .ok (.if_icmp .ge 34, 3) := by decide +kernel
theorem d4_23 : decode prog_4_method_2_code 23 = .ok (.iload_n 2, 1) := by decide +kernel
theorem d4_24 : decode prog_4_method_2_code 24 = .ok (.ifCond .eq 30, 3) := by decide +kernel
theorem d4_54 : decode prog_4_method_2_code 54 = .ok (.iload_n 2, 1) := by decide +kernel
theorem d4_55 : decode prog_4_method_2_code 55 = .ok (.ireturn, 1) := by decide +kernel
theorem d4_27 : decode prog_4_method_2_code 27 = .ok (.aload_n 0, 1) := by decide +kernel
theorem d4_28 : decode prog_4_method_2_code 28 = .ok (.getfield 13, 3) := by decide +kernel
theorem d4_31 : decode prog_4_method_2_code 31 = .ok (.ifCond .ne 23, 3) := by decide +kernel
theorem d4_34 : decode prog_4_method_2_code 34 = .ok (.aload_n 1, 1) := by decide +kernel
theorem d4_35 : decode prog_4_method_2_code 35 = .ok (.iload_n 3, 1) := by decide +kernel
theorem d4_36 : decode prog_4_method_2_code 36 = .ok (.baload, 1) := by decide +kernel
theorem d4_37 : decode prog_4_method_2_code 37 = .ok (.bipush 13, 2) := by decide +kernel
theorem d4_39 : decode prog_4_method_2_code 39 = .ok (.if_icmp .eq 7, 3) := by decide +kernel
theorem d4_46 : decode prog_4_method_2_code 46 = .ok (.iconst 0, 1) := by decide +kernel
theorem d4_47 : decode prog_4_method_2_code 47 = .ok (.istore_n 2, 1) := by decide +kernel
theorem d4_48 : decode prog_4_method_2_code 48 = .ok (.iinc 3 1, 3) := by decide +kernel
theorem d4_51 : decode prog_4_method_2_code 51 = .ok (.goto (-34), 3) := by decide +kernel
theorem d4_42 : decode prog_4_method_2_code 42 = .ok (.iconst 1, 1) := by decide +kernel
theorem d4_43 : decode prog_4_method_2_code 43 = .ok (.goto 4, 3) := by decide +kernel
theorem d4_0 : decode prog_4_method_2_code 0 = .ok (.aload_n 1, 1) := by decide +kernel
theorem d4_1 : decode prog_4_method_2_code 1 = .ok (.arraylength, 1) := by decide +kernel
theorem d4_2 : decode prog_4_method_2_code 2 = .ok (.aload_n 0, 1) := by decide +kernel
theorem d4_3 : decode prog_4_method_2_code 3 = .ok (.getfield 17, 3) := by decide +kernel
theorem d4_6 : decode prog_4_method_2_code 6 = .ok (.if_icmp .gt 7, 3) := by decide +kernel
theorem d4_13 : decode prog_4_method_2_code 13 = .ok (.iconst 0, 1) := by decide +kernel
theorem d4_14 : decode prog_4_method_2_code 14 = .ok (.istore_n 2, 1) := by decide +kernel
theorem d4_15 : decode prog_4_method_2_code 15 = .ok (.iconst 0, 1) := by decide +kernel
theorem d4_16 : decode prog_4_method_2_code 16 = .ok (.istore_n 3, 1) := by decide +kernel
theorem d4_9 : decode prog_4_method_2_code 9 = .ok (.iconst 1, 1) := by decide +kernel
theorem d4_10 : decode prog_4_method_2_code 10 = .ok (.goto 4, 3) := by decide +kernel
theorem pn_4 : plainName "com/example/redelivery/redelivery/engine/Carriage" = true := by first | (simp [plainName, overriddenIn]; done) | decide +kernel
theorem pd_1 : parseMethodDescriptor "(Ljava/lang/String;ZI)V" = some ⟨[(.object "java/lang/String"), .boolean, .int], none⟩ := by decide +kernel
theorem pd_2 : parseMethodDescriptor "([B)Z" = some ⟨[(.array .byte)], some .boolean⟩ := by decide +kernel
theorem pn_0 : plainName "com/example/redelivery/redelivery/engine/CarriageCarriesPinLaw" = true := by first | (simp [plainName, overriddenIn]; done) | decide +kernel
section OwnWide
variable {p : Program} {l : Launch} {e : Env} {R : Room} {s : State} {m : MethodId} {args : Array Value} {below : List Frame} {meth : Method} {c : Code} {Z : State} {y : MethodName} {ret : Option FieldType} {code : ByteArray} {ml : Nat} {ws : List Addr} {T : State} {h : Heap} {cells slots : Nat} {C : Outcome → State → Prop} {a0 : Array Value}
def own_MW (l : Launch) (Z : State) (wo : List Jvm.Cond) (y : MethodName) (bytes : ByteArray) (maxL : Nat) (ret : Option FieldType) (rm : Room) (A : Array Value) (h0 : Heap) (Q : Option Value → Heap → Prop) : Prop :=
  MetFree l y (head1 (Jvm.Cond.code y bytes maxL ret :: wo) rm) (fun a U => a = A ∧ Z.Warmed39 U.vm ∧ U.heap = h0) (fun _ _ _ _ _ => True) (fun _ U o U' => ∃ v L, o = .returned v ∧ ((∀ y ∈ L, h0.size ≤ y.base) ∧ Q v U'.heap) ∧ ReturnedEndW U o U' L rm.cells rm.slots)
theorem own_bodyW {wo : List Jvm.Cond} {maxL : Nat} {rm : Room} {A : Array Value} {h0 : Heap} {Q : Option Value → Heap → Prop} {L0 : Array Slot} (hpl : plainFor y = true) (hef : ∀ m, entryFrame m A maxL = mkF m 0 L0 [])
    (body : ∀ p e s m below meth c (C : Outcome → State → Prop) (_ : ∀ v L u vm1 n, s.Since vm1 n → n ≤ u.heap.size → own_Fw (s.setVm vm1) [] L → Q v u.heap → FrameEnd (s.setVm vm1) (.returned v) u L rm.cells rm.slots → C (.returned v) u) T0,
      own_W p l e rm s m A below meth c Z y ret code maxL [] T0 h0 0 0 → own_Go p e below C T0 (mkF m 0 L0 [])) :
    own_MW l Z wo y code maxL ret rm A h0 Q := by
  refine MetFree.of_bodySF hpl hisR ?_
  intro p e s m args below meth c s₁ Bd hml0 hP hK
  obtain ⟨rfl, hZ, rfl⟩ := hP
  have X0 : Stand p l e rm s m _ below meth c s₁ [] 0 0 := Stand.of_body Bd
  have e0 : s₁.heap = s.heap := by rw [Bd.state]; rfl
  have hlk : meth.locks = false := BodyLoose.notSynchronized Bd
  have k := body p e s m below meth c (fun o U' => ∃ v L, o = .returned v ∧ ((∀ y ∈ L, s.heap.size ≤ y.base) ∧ Q v U'.heap) ∧ ReturnedEndW s o U' L rm.cells rm.slots)
    (fun v L u vm1 n hS hn h1 h2 h3 => by
      obtain ⟨a, b, c'⟩ := hS.ended (U := u) h3.2.1 hn h3.2.2
      exact ⟨v, L, rfl, ⟨fun y hy => (h1 y hy).resolve_left (fun q => nomatch q), h2⟩, ⟨v, rfl⟩, a, b, c'⟩) s₁
    ⟨⟨Bd.exec, Bd.bytes, hml0, findClass_of_methodNamed Bd.named, (name_of_methodNamed Bd.named Bd.method).1, Bd.returns, hlk, hZ⟩, [], X0, e0, fun _ hy => nomatch hy⟩
  obtain ⟨u, o, h1, h2⟩ := k
  exact ⟨u, o, castTop (hef m) h1, h2⟩
theorem own_ldcS (W : own_W p l e R s m args below meth c Z y ret code ml ws T h cells slots) {i : Nat} {text : String} (n : Nat) {pc : Nat} (pc' : Nat) {L : Array Slot} {st : List Value} (hd : decode code pc = .ok (.ldc i, 2)) (w : (Jvm.Cond.stringLink y.cls i text).before a0 Z = true) (wS : ∀ a ∈ Bundle.stringAtoms, a.before a0 Z = true) (hn : 4 * text.toList.length ≤ n) (hbig : n ≤ 536870912) (hc : cells + 2 ≤ R.cells) (hl : slots + (n + 4) ≤ R.slots) (hp : pc + 2 = pc')
    (k : ∀ vm1 n1 T' h' a, s.Since vm1 n1 → n1 ≤ h'.size → own_W p l e R (s.setVm vm1) m args below meth c Z y ret code ml ws T' h' (cells + 2) (slots + (n + 4)) → Ext h h' → own_Go p e below C T' (mkF m pc' L (.ref a :: st))) : own_Go p e below C T (mkF m pc L st) := by
  obtain ⟨⟨hx, hby, hml, hown, hnm, hrt, hlk, hZ⟩, locs, X, eT, N⟩ := W
  subst hp
  have X' : Stand p l e R (s.setVm s.vm) m args below meth c T locs cells slots := X
  obtain ⟨a, T', h', k1, X2, e2, E2, hS2, hk2, hZ2, hown2, st2⟩ := ldcS X' hx hZ hown w wS eT ((State.WarmedH.refl s).since 0) (Nat.zero_le _) (g := mkF m pc L st) rfl (hb hby hd) (n := n) hn hbig hc hl
  exact own_st st2 (k T'.vm k1 T' h' a hS2 hk2 ⟨⟨hx, hby, hml, hown2, hnm, hrt, hlk, hZ2⟩, locs, X2, e2, N⟩ E2)
end OwnWide
theorem own_strs {a0 : Array Value} {Z : State} (hw : ∀ d ∈ tables_1, d.before a0 Z = true) : ∀ a ∈ Bundle.stringAtoms, a.before a0 Z = true := by
  intro a ha
  simp only [Bundle.stringAtoms, List.mem_cons, List.not_mem_nil, or_false] at ha
  rcases ha with rfl | rfl | rfl | rfl | rfl | rfl | rfl
  · exact hw _ (List.mem_of_getElem? (i := 5) rfl)
  · exact hw _ (List.mem_of_getElem? (i := 6) rfl)
  · exact hw _ (List.mem_of_getElem? (i := 0) rfl)
  · exact hw _ (List.mem_of_getElem? (i := 7) rfl)
  · exact hw _ (List.mem_of_getElem? (i := 8) rfl)
  · exact hw _ (List.mem_of_getElem? (i := 9) rfl)
  · exact hw _ (List.mem_of_getElem? (i := 10) rfl)
theorem own_off (u : Int32) : ∃ k : Nat, ((u &&& (2147483647 : Int32)) % (5 : Int32)).toInt = (k : Int) ∧ k < 5 := by
  have h1 := c_mask u 2147483647 31 (by decide) (by decide)
  have h2 := (c_irem (u &&& 2147483647) 5 5 rfl).1
  have h3 : 0 ≤ (u &&& 2147483647).toInt := by rw [h1]; omega
  have h4 := h2 h3
  exact ⟨((u &&& 2147483647) % 5).toInt.toNat, by omega, by omega⟩
theorem own_ofN {u : Int32} {k : Nat} (h : u.toInt = (k : Int)) (hk : k < 2147483648) : u = Int32.ofNat k := by
  have h1 := (back32 (own_nn h)).1
  rw [own_cl h] at h1
  exact h1.symm
theorem own_inc {u : Int32} {k : Nat} (h : u.toInt = (k : Int)) (hk : k < 2000000000) : (u + (1 : Int32)).toInt = ((k + 1 : Nat) : Int) := by
  have h1 := c_iadd u 1
  have h2 := rng32 (u + 1)
  have h3 : (1 : Int32).toInt = 1 := rfl
  omega
theorem own_ltN {u v : Int32} {i j : Nat} (hu : u.toInt = (i : Int)) (hv : v.toInt = (j : Int)) : u < v ↔ i < j := by
  rw [Int32.lt_iff_toInt_lt]; omega
theorem own_lt0 {u : Int32} : u < 0 ↔ u.toInt < 0 := by
  rw [Int32.lt_iff_toInt_lt]; have : (0 : Int32).toInt = 0 := rfl
  rw [this]
theorem own_lt5 {n : Nat} (h : n < 5) : n = 0 ∨ n = 1 ∨ n = 2 ∨ n = 3 ∨ n = 4 := by omega
theorem own_lt4 {n : Nat} (h : n < 4) : n = 0 ∨ n = 1 ∨ n = 2 ∨ n = 3 := by omega
def own_g (x0 x1 x2 x3 : Int32) (j : Nat) : Int32 := if j = 0 then x0 else if j = 1 then x1 else if j = 2 then x2 else x3
def own_cr (g : Nat → Int32) : Nat → Nat → Bool
  | 0, _ => false
  | k + 1, i => decide (g i = 13) || own_cr g k (i + 1)
def own_car (mx ln cr : Int32) (b : Bool) : Int32 := if mx < ln then 0 else if cr = 0 then (if b = true then 0 else 1) else 1
theorem own_n5 (u : Int32) : ∃ k : Nat, (((u.toUInt32 >>> ((1 : Int32) &&& 31).toUInt32).toInt32) % (5 : Int32)).toInt = (k : Int) ∧ k < 5 := by
  have h1 := c_iushr u 1 1 (by decide) (by decide)
  have h2 := (c_irem ((u.toUInt32 >>> ((1 : Int32) &&& 31).toUInt32).toInt32) 5 5 rfl).1
  simp only [Nat.reducePow] at h1
  have h3 : 0 ≤ ((u.toUInt32 >>> ((1 : Int32) &&& 31).toUInt32).toInt32).toInt := by rw [h1]; omega
  have h4 := h2 h3
  exact ⟨(((u.toUInt32 >>> ((1 : Int32) &&& 31).toUInt32).toInt32) % 5).toInt.toNat, by omega, by omega⟩
theorem ef_m2 (m : MethodId) (x0 : Addr) : entryFrame m #[(.ref x0)] 1 = mkF m 0 #[.val (.ref x0)] [] := by first | (simp [entryFrame, mkF, argsToLocals, Value.category]; done) | rfl
set_option maxRecDepth 65536 in
set_option maxHeartbeats 40000000 in
theorem own_m2 (l : Launch) (Z : State) (a0 : Array Value) (hw : ∀ d ∈ tables_1, d.before a0 Z = true) (wo : List Jvm.Cond) (h0 : Heap) (a1 : Addr) :
    own_M l Z wo (⟨"java/lang/Record", "<init>", "()V"⟩ : MethodName) jdk_30_method_1_code 1 none ({ frames := 1, cells := 0, slots := 0, locals := 12 } : Room) [] #[(.ref a1)] h0 (fun v h => v = none ∧ (True)) := by
  refine own_body (plainFor_of_name pn_2) (fun m => ef_m2 m a1) ?_
  intro p e s m below meth c C hC T0 W0
  refine own_aloadN W0 1 d2_0 rfl rfl rfl ?_
  refine own_initO W0 0 4 d2_1 (wd19 hw) (wd20 hw) (wd21 hw) rfl (Nat.le_of_eq rfl) (by decide) (by decide) rfl ?_
  intro T1 W1
  show own_Go p e below C T1 (mkF m 4 #[.val (.ref a1)] [])
  refine own_retV (Q := fun v h => v = none ∧ (True)) W1 hC (by decide) (by decide) d2_4 ?_
  exact ⟨rfl, trivial⟩
theorem ef_m1 (m : MethodId) (x0 : Addr) (x1 : Addr) (x2 : Int32) (x3 : Int32) : entryFrame m #[(.ref x0), (.ref x1), (.int x2), (.int x3)] 4 = mkF m 0 #[.val (.ref x0), .val (.ref x1), .val (.int x2), .val (.int x3)] [] := by first | (simp [entryFrame, mkF, argsToLocals, Value.category]; done) | rfl
set_option maxRecDepth 65536 in
set_option maxHeartbeats 40000000 in
theorem own_m1 (l : Launch) (Z : State) (a0 : Array Value) (hw : ∀ d ∈ tables_1, d.before a0 Z = true) (wo : List Jvm.Cond) (h0 : Heap) (a1 : Addr) (a2 : Addr) (p3 : Int32) (p4 : Int32) (X_a1 : Exa Z h0 a1 "com/example/redelivery/redelivery/engine/Carriage") (F_protocol_a1 : Fld Z h0 a1 "com/example/redelivery/redelivery/engine/Carriage" "protocol" "Ljava/lang/String;" .null) (F_carriesCr_a1 : Fld Z h0 a1 "com/example/redelivery/redelivery/engine/Carriage" "carriesCr" "Z" (.int 0)) (F_maxLength_a1 : Fld Z h0 a1 "com/example/redelivery/redelivery/engine/Carriage" "maxLength" "I" (.int 0)) :
    own_M l Z wo (⟨"com/example/redelivery/redelivery/engine/Carriage", "<init>", "(Ljava/lang/String;ZI)V"⟩ : MethodName) prog_4_method_1_code 4 none ({ frames := 2, cells := 0, slots := 0, locals := 24 } : Room) [a1] #[(.ref a1), (.ref a2), (.int p3), (.int p4)] h0 (fun v h => v = none ∧ (Fld Z h a1 "com/example/redelivery/redelivery/engine/Carriage" "carriesCr" "Z" (.int (p3 &&& 1)) ∧ Fld Z h a1 "com/example/redelivery/redelivery/engine/Carriage" "maxLength" "I" (.int p4))) := by
  refine own_body (plainFor_of_name pn_1) (fun m => ef_m1 m a1 a2 p3 p4) ?_
  intro p e s m below meth c C hC T0 W0
  refine own_aloadN W0 1 d1_0 rfl rfl rfl ?_
  refine own_callN W0 (A := []) (wt := 0) (pc' := 4) (st := []) d1_1 rfl (wd14 hw) (wd15 hw) (wd17 hw) (wd18 hw) (by decide) (own_m2 l Z a0 hw [] h0 a1) all0 rfl pd_0 rfl (Nat.le_of_eq rfl) (by decide) (by decide) (by decide) (by decide) rfl ?_
  rintro T1 h1 _ W1 K1 P1 ⟨rfl, _⟩
  rw [P1 rfl rfl] at W1
  show own_Go p e below C T1 (mkF m 4 #[.val (.ref a1), .val (.ref a2), .val (.int p3), .val (.int p4)] [])
  refine own_aloadN W1 5 d1_4 rfl rfl rfl ?_
  refine own_aloadN W1 6 d1_5 rfl rfl rfl ?_
  refine own_putfield W1 (.ref a2) 9 d1_6 (wd22 hw) F_protocol_a1 X_a1 (Or.inr ⟨(wd23 hw), rfl, rfl⟩) (wd2 hw) (Or.inl (List.mem_of_getElem? (i := 0) rfl)) (ty := (.object "java/lang/String")) (by decide) rfl rfl rfl ?_
  intro T2 h2 W2 Wr2 F_protocol_a1
  have X_a1 := X_a1.wr Wr2
  have F_carriesCr_a1 := F_carriesCr_a1.other Wr2 (Or.inr (slot_ne (Or.inr (wd25 hw)) (Or.inr (wd23 hw)) (by decide) (t := .boolean) (t' := (.object "java/lang/String")) (by decide) (by decide)))
  have F_maxLength_a1 := F_maxLength_a1.other Wr2 (Or.inr (slot_ne (Or.inr (wd27 hw)) (Or.inr (wd23 hw)) (by decide) (t := .int) (t' := (.object "java/lang/String")) (by decide) (by decide)))
  show own_Go p e below C T2 (mkF m 9 #[.val (.ref a1), .val (.ref a2), .val (.int p3), .val (.int p4)] [])
  refine own_aloadN W2 10 d1_9 rfl rfl rfl ?_
  refine own_iloadN W2 11 d1_10 rfl rfl ?_
  refine own_putfield W2 (.int (p3 &&& 1)) 14 d1_11 (wd24 hw) F_carriesCr_a1 X_a1 (Or.inr ⟨(wd25 hw), rfl, rfl⟩) (wd2 hw) (Or.inl (List.mem_of_getElem? (i := 0) rfl)) (ty := .boolean) (by decide) rfl (fits_nar_bool p3) rfl ?_
  intro T3 h3 W3 Wr3 F_carriesCr_a1
  have X_a1 := X_a1.wr Wr3
  have F_protocol_a1 := F_protocol_a1.other Wr3 (Or.inr (slot_ne (Or.inr (wd23 hw)) (Or.inr (wd25 hw)) (by decide) (t := (.object "java/lang/String")) (t' := .boolean) (by decide) (by decide)))
  have F_maxLength_a1 := F_maxLength_a1.other Wr3 (Or.inr (slot_ne (Or.inr (wd27 hw)) (Or.inr (wd25 hw)) (by decide) (t := .int) (t' := .boolean) (by decide) (by decide)))
  show own_Go p e below C T3 (mkF m 14 #[.val (.ref a1), .val (.ref a2), .val (.int p3), .val (.int p4)] [])
  refine own_aloadN W3 15 d1_14 rfl rfl rfl ?_
  refine own_iloadN W3 16 d1_15 rfl rfl ?_
  refine own_putfield W3 (.int p4) 19 d1_16 (wd26 hw) F_maxLength_a1 X_a1 (Or.inr ⟨(wd27 hw), rfl, rfl⟩) (wd2 hw) (Or.inl (List.mem_of_getElem? (i := 0) rfl)) (ty := .int) (by decide) rfl rfl rfl ?_
  intro T4 h4 W4 Wr4 F_maxLength_a1
  have X_a1 := X_a1.wr Wr4
  have F_protocol_a1 := F_protocol_a1.other Wr4 (Or.inr (slot_ne (Or.inr (wd23 hw)) (Or.inr (wd27 hw)) (by decide) (t := (.object "java/lang/String")) (t' := .int) (by decide) (by decide)))
  have F_carriesCr_a1 := F_carriesCr_a1.other Wr4 (Or.inr (slot_ne (Or.inr (wd25 hw)) (Or.inr (wd27 hw)) (by decide) (t := .boolean) (t' := .int) (by decide) (by decide)))
  show own_Go p e below C T4 (mkF m 19 #[.val (.ref a1), .val (.ref a2), .val (.int p3), .val (.int p4)] [])
  refine own_retV (Q := fun v h => v = none ∧ (Fld Z h a1 "com/example/redelivery/redelivery/engine/Carriage" "carriesCr" "Z" (.int (p3 &&& 1)) ∧ Fld Z h a1 "com/example/redelivery/redelivery/engine/Carriage" "maxLength" "I" (.int p4))) W4 hC (by decide) (by decide) d1_19 ?_
  exact ⟨rfl, ⟨F_carriesCr_a1, F_maxLength_a1⟩⟩
theorem ef_m4 (m : MethodId) (x0 : Addr) (x1 : Addr) : entryFrame m #[(.ref x0), (.ref x1)] 4 = mkF m 0 #[.val (.ref x0), .val (.ref x1), .unset, .unset] [] := by first | (simp [entryFrame, mkF, argsToLocals, Value.category]; done) | rfl
set_option maxRecDepth 65536 in
set_option maxHeartbeats 40000000 in
theorem own_m4 (l : Launch) (Z : State) (a0 : Array Value) (hw : ∀ d ∈ tables_1, d.before a0 Z = true) (wo : List Jvm.Cond) (h0 : Heap) (a1 : Addr) (a2 : Addr) (mx : Int32) (cr : Int32) (N : Nat) (zN : Int32) (f : Nat → Value) (g : Nat → Int32) (F_maxLength_a1 : Fld Z h0 a1 "com/example/redelivery/redelivery/engine/Carriage" "maxLength" "I" (.int mx)) (F_carriesCr_a1 : Fld Z h0 a1 "com/example/redelivery/redelivery/engine/Carriage" "carriesCr" "Z" (.int cr)) (V_a2 : own_A Z h0 a2 .byte N f) (hg : ∀ j, j < N → f j = .int (g j)) (hzN : N.toInt32 = zN) (hzi : zN.toInt = (N : Int)) (hN : N < 1000) :
    own_M l Z wo (⟨"com/example/redelivery/redelivery/engine/Carriage", "carries", "([B)Z"⟩ : MethodName) prog_4_method_2_code 4 (some .boolean) ({ frames := 0, cells := 0, slots := 0, locals := 0 } : Room) [] #[(.ref a1), (.ref a2)] h0 (fun v h => v = some (.int (own_car mx zN cr (own_cr g N 0)))) := by
  refine own_body (plainFor_of_name pn_4) (fun m => ef_m4 m a1 a2) ?_
  intro p e s m below meth c C hC T0 W0
  have zero : ∀ (u : Int32) (T : State), own_W p l e ({ frames := 0, cells := 0, slots := 0, locals := 0 } : Room) s m #[(.ref a1), (.ref a2)] below meth c Z (⟨"com/example/redelivery/redelivery/engine/Carriage", "carries", "([B)Z"⟩ : MethodName) (some .boolean) prog_4_method_2_code 4 [] T h0 (0) (0) → own_car mx zN cr (own_cr g N 0) = 0 → own_Go p e below C T (mkF m 17 #[.val (.ref a1), .val (.ref a2), .val (.int (0 : Int32)), .val (.int u)] []) := by
    intro u T W hres
    refine own_iloadN W 18 d4_17 rfl rfl ?_
    refine own_aloadN W 19 d4_18 rfl rfl rfl ?_
    refine own_arraylength W zN 20 d4_19 V_a2 hzN rfl ?_
    by_cases c1 : u < zN
    · refine own_icmpN W 23 d4_20 ((tlt c1).2.1) rfl ?_
      refine own_iloadN W 24 d4_23 rfl rfl ?_
      refine own_ifY W 54 d4_24 ((if0 _ _).trans (teq (rfl : (0 : Int32) = (0 : Int32))).1) (by decide) (by decide) ?_
      refine own_iloadN W 55 d4_54 rfl rfl ?_
      refine own_retZ (Q := fun v h => v = some (.int (own_car mx zN cr (own_cr g N 0)))) W hC (by decide) (by decide) d4_55 ?_
      exact by rw [hres]; rfl
    · refine own_icmpY W 54 d4_20 ((flt c1).2.1) (by decide) (by decide) ?_
      refine own_iloadN W 55 d4_54 rfl rfl ?_
      refine own_retZ (Q := fun v h => v = some (.int (own_car mx zN cr (own_cr g N 0)))) W hC (by decide) (by decide) d4_55 ?_
      exact by rw [hres]; rfl
  have loop : ∀ (k i : Nat) (u : Int32) (T : State), own_W p l e ({ frames := 0, cells := 0, slots := 0, locals := 0 } : Room) s m #[(.ref a1), (.ref a2)] below meth c Z (⟨"com/example/redelivery/redelivery/engine/Carriage", "carries", "([B)Z"⟩ : MethodName) (some .boolean) prog_4_method_2_code 4 [] T h0 (0) (0) → u.toInt = (i : Int) → i ≤ N → N - i = k → ¬ (mx < zN) → own_cr g N 0 = own_cr g k i → own_Go p e below C T (mkF m 17 #[.val (.ref a1), .val (.ref a2), .val (.int (1 : Int32)), .val (.int u)] []) := by
    intro k
    induction k with
    | zero =>
      intro i u T W hu hi hk hmx hs
      have hlt : ¬ (u < zN) := by rw [own_ltN hu hzi]; omega
      refine own_iloadN W 18 d4_17 rfl rfl ?_
      refine own_aloadN W 19 d4_18 rfl rfl rfl ?_
      refine own_arraylength W zN 20 d4_19 V_a2 hzN rfl ?_
      refine own_icmpY W 54 d4_20 ((flt (hlt : ¬ (u < zN))).2.1) (by decide) (by decide) ?_
      refine own_iloadN W 55 d4_54 rfl rfl ?_
      refine own_retZ (Q := fun v h => v = some (.int (own_car mx zN cr (own_cr g N 0)))) W hC (by decide) (by decide) d4_55 ?_
      exact by rw [hs, own_car, if_neg hmx]; split <;> rfl
    | succ k ih =>
      intro i u T W hu hi hk hmx hs
      have hlt : u < zN := by rw [own_ltN hu hzi]; omega
      refine own_iloadN W 18 d4_17 rfl rfl ?_
      refine own_aloadN W 19 d4_18 rfl rfl rfl ?_
      refine own_arraylength W zN 20 d4_19 V_a2 hzN rfl ?_
      refine own_icmpN W 23 d4_20 ((tlt (hlt : u < zN)).2.1) rfl ?_
      refine own_iloadN W 24 d4_23 rfl rfl ?_
      refine own_ifN W 27 d4_24 ((if0 _ _).trans (feq (by decide : ¬ ((1 : Int32) = (0 : Int32)))).1) rfl ?_
      refine own_aloadN W 28 d4_27 rfl rfl rfl ?_
      refine own_getfield W 31 d4_28 (wd24 hw) F_carriesCr_a1 rfl ?_
      intro T2 W2
      show own_Go p e below C T2 (mkF m 31 #[.val (.ref a1), .val (.ref a2), .val (.int (1 : Int32)), .val (.int u)] [(.int cr)])
      by_cases c3 : cr = (0 : Int32)
      · refine own_ifN W2 34 d4_31 ((if0 _ _).trans (teq c3).2) rfl ?_
        refine own_aloadN W2 35 d4_34 rfl rfl rfl ?_
        refine own_iloadN W2 36 d4_35 rfl rfl ?_
        refine own_baload W2 i (g i) 37 d4_36 V_a2 hu (by omega) (hg i (by omega)) rfl ?_
        refine own_bipush W2 (13 : Int32) 39 d4_37 rfl rfl ?_
        by_cases c4 : (g i) = (13 : Int32)
        · refine own_icmpY W2 46 d4_39 ((teq c4).1) (by decide) (by decide) ?_
          refine own_iconst W2 (0 : Int32) 47 d4_46 rfl rfl ?_
          refine own_istoreN W2 48 #[.val (.ref a1), .val (.ref a2), .val (.int (0 : Int32)), .val (.int u)] d4_47 rfl rfl ?_
          refine own_iinc W2 (u + (1 : Int32)) 51 #[.val (.ref a1), .val (.ref a2), .val (.int (0 : Int32)), .val (.int (u + (1 : Int32)))] d4_48 rfl rfl rfl rfl ?_
          refine own_goto W2 17 d4_51 (by decide) (by decide) ?_
          exact zero _ T2 W2 (by rw [own_car, if_neg hmx, if_pos c3, hs, own_cr, decide_eq_true c4]; rfl)
        · refine own_icmpN W2 42 d4_39 ((feq c4).1) rfl ?_
          refine own_iconst W2 (1 : Int32) 43 d4_42 rfl rfl ?_
          refine own_goto W2 47 d4_43 (by decide) (by decide) ?_
          refine own_istoreN W2 48 #[.val (.ref a1), .val (.ref a2), .val (.int (1 : Int32)), .val (.int u)] d4_47 rfl rfl ?_
          refine own_iinc W2 (u + (1 : Int32)) 51 #[.val (.ref a1), .val (.ref a2), .val (.int (1 : Int32)), .val (.int (u + (1 : Int32)))] d4_48 rfl rfl rfl rfl ?_
          refine own_goto W2 17 d4_51 (by decide) (by decide) ?_
          exact ih (i + 1) _ T2 W2 (own_inc hu (by omega)) (by omega) (by omega) hmx (by rw [hs, own_cr, decide_eq_false c4, Bool.false_or])
      · refine own_ifY W2 54 d4_31 ((if0 _ _).trans (feq c3).2) (by decide) (by decide) ?_
        refine own_iloadN W2 55 d4_54 rfl rfl ?_
        refine own_retZ (Q := fun v h => v = some (.int (own_car mx zN cr (own_cr g N 0)))) W2 hC (by decide) (by decide) d4_55 ?_
        exact by rw [own_car, if_neg hmx, if_neg c3]; rfl
  refine own_aloadN W0 1 d4_0 rfl rfl rfl ?_
  refine own_arraylength W0 zN 2 d4_1 V_a2 hzN rfl ?_
  refine own_aloadN W0 3 d4_2 rfl rfl rfl ?_
  refine own_getfield W0 6 d4_3 (wd26 hw) F_maxLength_a1 rfl ?_
  intro T5 W5
  show own_Go p e below C T5 (mkF m 6 #[.val (.ref a1), .val (.ref a2), .unset, .unset] [(.int mx), (.int zN)])
  by_cases c6 : mx < zN
  · refine own_icmpY W5 13 d4_6 ((tlt c6).2.2.1) (by decide) (by decide) ?_
    refine own_iconst W5 (0 : Int32) 14 d4_13 rfl rfl ?_
    refine own_istoreN W5 15 #[.val (.ref a1), .val (.ref a2), .val (.int (0 : Int32)), .unset] d4_14 rfl rfl ?_
    refine own_iconst W5 (0 : Int32) 16 d4_15 rfl rfl ?_
    refine own_istoreN W5 17 #[.val (.ref a1), .val (.ref a2), .val (.int (0 : Int32)), .val (.int (0 : Int32))] d4_16 rfl rfl ?_
    exact zero (0 : Int32) T5 W5 (by rw [own_car, if_pos c6])
  · refine own_icmpN W5 9 d4_6 ((flt c6).2.2.1) rfl ?_
    refine own_iconst W5 (1 : Int32) 10 d4_9 rfl rfl ?_
    refine own_goto W5 14 d4_10 (by decide) (by decide) ?_
    refine own_istoreN W5 15 #[.val (.ref a1), .val (.ref a2), .val (.int (1 : Int32)), .unset] d4_14 rfl rfl ?_
    refine own_iconst W5 (0 : Int32) 16 d4_15 rfl rfl ?_
    refine own_istoreN W5 17 #[.val (.ref a1), .val (.ref a2), .val (.int (1 : Int32)), .val (.int (0 : Int32))] d4_16 rfl rfl ?_
    exact loop N 0 (0 : Int32) T5 W5 rfl (Nat.zero_le _) rfl c6 rfl
theorem own_bb (u : Int32) : u.toInt8.toInt32.toInt8.toInt32 = u.toInt8.toInt32 := by
  apply Int32.toInt_inj.mp
  have h1 := c_i2b u.toInt8.toInt32
  have h2 := c_i2b u
  omega
theorem own_fin0 (p1 cr0 t0 t1 t2 t3 : Int32) (hcr : cr0 &&& 1 = cr0) : (own_car p1 (0 : Int32) (cr0 &&& 1) (own_cr (own_g t0 t1 t2 t3) 0 0)) = (if p1 < (0 : Int32) then (0 : Int32) else (1 : Int32)) := by
  rw [hcr]
  unfold own_car
  simp only [own_cr, own_g]
  by_cases h1 : p1 < (0 : Int32) <;> by_cases h2 : cr0 = (0 : Int32) <;> by_cases c0 : t0 = (13 : Int32) <;> by_cases c1 : t1 = (13 : Int32) <;> by_cases c2 : t2 = (13 : Int32) <;> by_cases c3 : t3 = (13 : Int32) <;> simp [h1, h2, c0, c1, c2, c3]
theorem own_fin1 (p1 cr0 t0 t1 t2 t3 : Int32) (hcr : cr0 &&& 1 = cr0) : (own_car p1 (1 : Int32) (cr0 &&& 1) (own_cr (own_g t0 t1 t2 t3) 1 0)) = (if p1 < (1 : Int32) then (0 : Int32) else (if cr0 = (0 : Int32) then (if t0 = (13 : Int32) then (0 : Int32) else (1 : Int32)) else (1 : Int32))) := by
  rw [hcr]
  unfold own_car
  simp only [own_cr, own_g]
  by_cases h1 : p1 < (1 : Int32) <;> by_cases h2 : cr0 = (0 : Int32) <;> by_cases c0 : t0 = (13 : Int32) <;> by_cases c1 : t1 = (13 : Int32) <;> by_cases c2 : t2 = (13 : Int32) <;> by_cases c3 : t3 = (13 : Int32) <;> simp [h1, h2, c0, c1, c2, c3]
theorem own_fin2 (p1 cr0 t0 t1 t2 t3 : Int32) (hcr : cr0 &&& 1 = cr0) : (own_car p1 (2 : Int32) (cr0 &&& 1) (own_cr (own_g t0 t1 t2 t3) 2 0)) = (if p1 < (2 : Int32) then (0 : Int32) else (if cr0 = (0 : Int32) then (if (if t0 = (13 : Int32) then (1 : Int32) else (if t1 = (13 : Int32) then (1 : Int32) else (0 : Int32))) = (0 : Int32) then (1 : Int32) else (0 : Int32)) else (1 : Int32))) := by
  rw [hcr]
  unfold own_car
  simp only [own_cr, own_g]
  by_cases h1 : p1 < (2 : Int32) <;> by_cases h2 : cr0 = (0 : Int32) <;> by_cases c0 : t0 = (13 : Int32) <;> by_cases c1 : t1 = (13 : Int32) <;> by_cases c2 : t2 = (13 : Int32) <;> by_cases c3 : t3 = (13 : Int32) <;> simp [h1, h2, c0, c1, c2, c3]
theorem own_fin3 (p1 cr0 t0 t1 t2 t3 : Int32) (hcr : cr0 &&& 1 = cr0) : (own_car p1 (3 : Int32) (cr0 &&& 1) (own_cr (own_g t0 t1 t2 t3) 3 0)) = (if p1 < (3 : Int32) then (0 : Int32) else (if cr0 = (0 : Int32) then (if (if t0 = (13 : Int32) then (1 : Int32) else (if t1 = (13 : Int32) then (1 : Int32) else (if t2 = (13 : Int32) then (1 : Int32) else (0 : Int32)))) = (0 : Int32) then (1 : Int32) else (0 : Int32)) else (1 : Int32))) := by
  rw [hcr]
  unfold own_car
  simp only [own_cr, own_g]
  by_cases h1 : p1 < (3 : Int32) <;> by_cases h2 : cr0 = (0 : Int32) <;> by_cases c0 : t0 = (13 : Int32) <;> by_cases c1 : t1 = (13 : Int32) <;> by_cases c2 : t2 = (13 : Int32) <;> by_cases c3 : t3 = (13 : Int32) <;> simp [h1, h2, c0, c1, c2, c3]
theorem own_fin4 (p1 cr0 t0 t1 t2 t3 : Int32) (hcr : cr0 &&& 1 = cr0) : (own_car p1 (4 : Int32) (cr0 &&& 1) (own_cr (own_g t0 t1 t2 t3) 4 0)) = (if p1 < (4 : Int32) then (0 : Int32) else (if cr0 = (0 : Int32) then (if (if t0 = (13 : Int32) then (1 : Int32) else (if t1 = (13 : Int32) then (1 : Int32) else (if t2 = (13 : Int32) then (1 : Int32) else (if t3 = (13 : Int32) then (1 : Int32) else (0 : Int32))))) = (0 : Int32) then (1 : Int32) else (0 : Int32)) else (1 : Int32))) := by
  rw [hcr]
  unfold own_car
  simp only [own_cr, own_g]
  by_cases h1 : p1 < (4 : Int32) <;> by_cases h2 : cr0 = (0 : Int32) <;> by_cases c0 : t0 = (13 : Int32) <;> by_cases c1 : t1 = (13 : Int32) <;> by_cases c2 : t2 = (13 : Int32) <;> by_cases c3 : t3 = (13 : Int32) <;> simp [h1, h2, c0, c1, c2, c3]
theorem ef_m0 (m : MethodId) (x0 : Int32) (x1 : Int32) (x2 : Int32) : entryFrame m #[(.int x0), (.int x1), (.int x2)] maxLocals = mkF m 0 #[.val (.int x0), .val (.int x1), .val (.int x2), .unset, .unset, .unset, .unset, .unset, .unset, .unset, .unset, .unset, .unset, .unset] [] := by first | (simp [entryFrame, mkF, argsToLocals, Value.category, maxLocals]; done) | rfl
set_option maxRecDepth 65536 in
set_option maxHeartbeats 40000000 in
theorem own_m0 (l : Launch) (Z : State) (a0 : Array Value) (hw : ∀ d ∈ tables_1, d.before a0 Z = true) (wo : List Jvm.Cond) (h0 : Heap) (p1 : Int32) (p2 : Int32) (p3 : Int32) :
    own_MW l Z wo x code maxLocals ret room_1 #[(.int p1), (.int p2), (.int p3)] h0 (fun v h => v = some (.int (1 : Int32))) := by
  refine own_bodyW (plainFor_of_name pn_0) (fun m => ef_m0 m p1 p2 p3) ?_
  intro p e s m below meth c C hC T0 W0
  refine own_iloadN W0 1 at_0 rfl rfl ?_
  refine own_iconst W0 (1 : Int32) 2 at_1 rfl rfl ?_
  refine own_iand W0 3 at_2 rfl ?_
  suffices J1 : own_Go p e below C T0 (mkF m 11 #[.val (.int p1), .val (.int p2), .val (.int p3), .unset, .unset, .unset, .unset, .unset, .unset, .unset, .unset, .unset, .unset, .unset] [(.int (if (p2 &&& (1 : Int32)) = (0 : Int32) then (0 : Int32) else (1 : Int32)))]) by
    by_cases c2 : (p2 &&& (1 : Int32)) = (0 : Int32)
    · refine own_ifY W0 10 at_3 ((if0 _ _).trans (teq c2).1) (by decide) (by decide) ?_
      refine own_iconst W0 (0 : Int32) 11 at_10 rfl rfl ?_
      first | (simp only [if_pos c2] at J1; exact J1) | (simp only [if_pos c2] at J1 ⊢; exact J1)
    · refine own_ifN W0 6 at_3 ((if0 _ _).trans (feq c2).1) rfl ?_
      refine own_iconst W0 (1 : Int32) 7 at_6 rfl rfl ?_
      refine own_goto W0 11 at_7 (by decide) (by decide) ?_
      first | (simp only [if_neg c2] at J1; exact J1) | (simp only [if_neg c2] at J1 ⊢; exact J1)
  generalize hcr0 : (if (p2 &&& (1 : Int32)) = (0 : Int32) then (0 : Int32) else (1 : Int32)) = cr0
  refine own_istoreN W0 12 #[.val (.int p1), .val (.int p2), .val (.int p3), .val (.int cr0), .unset, .unset, .unset, .unset, .unset, .unset, .unset, .unset, .unset, .unset] at_11 rfl rfl ?_
  refine own_iloadN W0 13 at_12 rfl rfl ?_
  refine own_iconst W0 (1 : Int32) 14 at_13 rfl rfl ?_
  refine own_iushr W0 15 at_14 rfl ?_
  refine own_iconst W0 (5 : Int32) 16 at_15 rfl rfl ?_
  refine own_irem W0 17 at_16 (by decide) rfl ?_
  refine own_istore W0 19 #[.val (.int p1), .val (.int p2), .val (.int p3), .val (.int cr0), .val (.int (((p2.toUInt32 >>> ((1 : Int32) &&& 31).toUInt32).toInt32) % (5 : Int32))), .unset, .unset, .unset, .unset, .unset, .unset, .unset, .unset, .unset] at_17 rfl rfl ?_
  have hcr : cr0 &&& 1 = cr0 := by rw [← hcr0]; split <;> rfl
  obtain ⟨k, hk, hk5⟩ := own_n5 p2
  generalize h_off : (((p2.toUInt32 >>> ((1 : Int32) &&& 31).toUInt32).toInt32) % (5 : Int32)) = off at hk ⊢
  show own_Go p e below C T0 (mkF m 19 #[.val (.int p1), .val (.int p2), .val (.int p3), .val (.int cr0), .val (.int off), .unset, .unset, .unset, .unset, .unset, .unset, .unset, .unset, .unset] [])
  refine own_iloadN W0 20 at_19 rfl rfl ?_
  refine own_i2b W0 21 at_20 rfl ?_
  refine own_istore W0 23 #[.val (.int p1), .val (.int p2), .val (.int p3), .val (.int cr0), .val (.int off), .val (.int p3.toInt8.toInt32), .unset, .unset, .unset, .unset, .unset, .unset, .unset, .unset] at_21 rfl rfl ?_
  refine own_iloadN W0 24 at_23 rfl rfl ?_
  refine own_bipush W0 (8 : Int32) 26 at_24 rfl rfl ?_
  refine own_iushr W0 27 at_26 rfl ?_
  refine own_i2b W0 28 at_27 rfl ?_
  refine own_istore W0 30 #[.val (.int p1), .val (.int p2), .val (.int p3), .val (.int cr0), .val (.int off), .val (.int p3.toInt8.toInt32), .val (.int ((p3.toUInt32 >>> ((8 : Int32) &&& 31).toUInt32).toInt32).toInt8.toInt32), .unset, .unset, .unset, .unset, .unset, .unset, .unset] at_28 rfl rfl ?_
  refine own_iloadN W0 31 at_30 rfl rfl ?_
  refine own_bipush W0 (16 : Int32) 33 at_31 rfl rfl ?_
  refine own_iushr W0 34 at_33 rfl ?_
  refine own_i2b W0 35 at_34 rfl ?_
  refine own_istore W0 37 #[.val (.int p1), .val (.int p2), .val (.int p3), .val (.int cr0), .val (.int off), .val (.int p3.toInt8.toInt32), .val (.int ((p3.toUInt32 >>> ((8 : Int32) &&& 31).toUInt32).toInt32).toInt8.toInt32), .val (.int ((p3.toUInt32 >>> ((16 : Int32) &&& 31).toUInt32).toInt32).toInt8.toInt32), .unset, .unset, .unset, .unset, .unset, .unset] at_35 rfl rfl ?_
  refine own_iloadN W0 38 at_37 rfl rfl ?_
  refine own_bipush W0 (24 : Int32) 40 at_38 rfl rfl ?_
  refine own_iushr W0 41 at_40 rfl ?_
  refine own_i2b W0 42 at_41 rfl ?_
  refine own_istore W0 44 #[.val (.int p1), .val (.int p2), .val (.int p3), .val (.int cr0), .val (.int off), .val (.int p3.toInt8.toInt32), .val (.int ((p3.toUInt32 >>> ((8 : Int32) &&& 31).toUInt32).toInt32).toInt8.toInt32), .val (.int ((p3.toUInt32 >>> ((16 : Int32) &&& 31).toUInt32).toInt32).toInt8.toInt32), .val (.int ((p3.toUInt32 >>> ((24 : Int32) &&& 31).toUInt32).toInt32).toInt8.toInt32), .unset, .unset, .unset, .unset, .unset] at_42 rfl rfl ?_
  obtain ⟨t0, ht0, hu0⟩ : ∃ z : Int32, z.toInt8.toInt32 = z ∧ p3.toInt8.toInt32 = z := ⟨_, own_bb _, rfl⟩
  obtain ⟨t1, ht1, hu1⟩ : ∃ z : Int32, z.toInt8.toInt32 = z ∧ ((p3.toUInt32 >>> ((8 : Int32) &&& 31).toUInt32).toInt32).toInt8.toInt32 = z := ⟨_, own_bb _, rfl⟩
  obtain ⟨t2, ht2, hu2⟩ : ∃ z : Int32, z.toInt8.toInt32 = z ∧ ((p3.toUInt32 >>> ((16 : Int32) &&& 31).toUInt32).toInt32).toInt8.toInt32 = z := ⟨_, own_bb _, rfl⟩
  obtain ⟨t3, ht3, hu3⟩ : ∃ z : Int32, z.toInt8.toInt32 = z ∧ ((p3.toUInt32 >>> ((24 : Int32) &&& 31).toUInt32).toInt32).toInt8.toInt32 = z := ⟨_, own_bb _, rfl⟩
  rw [hu0, hu1, hu2, hu3]
  show own_Go p e below C T0 (mkF m 44 #[.val (.int p1), .val (.int p2), .val (.int p3), .val (.int cr0), .val (.int off), .val (.int t0), .val (.int t1), .val (.int t2), .val (.int t3), .unset, .unset, .unset, .unset, .unset] [])
  refine own_iload W0 46 at_44 rfl rfl ?_
  rcases own_lt5 hk5 with rfl | rfl | rfl | rfl | rfl
  · obtain rfl : off = (0 : Int32) := own_ofN hk (by decide)
    show own_Go p e below C T0 (mkF m 46 #[.val (.int p1), .val (.int p2), .val (.int p3), .val (.int cr0), .val (.int (0 : Int32)), .val (.int t0), .val (.int t1), .val (.int t2), .val (.int t3), .unset, .unset, .unset, .unset, .unset] [(.int (0 : Int32))])
    refine own_ifN W0 49 at_46 ((if0 _ _).trans (teq (rfl : (0 : Int32) = (0 : Int32))).2) rfl ?_
    refine own_iconst W0 (0 : Int32) 50 at_49 rfl rfl ?_
    refine own_newarray W0 0 0 52 at_50 (wd0 hw) rfl (Nat.le_refl _) (by decide) (by decide) (by decide) rfl ?_
    intro T3 h3 b W3 E3 g_b o_b V_b
    show own_Go p e below C T3 (mkF m 52 #[.val (.int p1), .val (.int p2), .val (.int p3), .val (.int cr0), .val (.int (0 : Int32)), .val (.int t0), .val (.int t1), .val (.int t2), .val (.int t3), .unset, .unset, .unset, .unset, .unset] [(.ref b)])
    refine own_astore W3 54 #[.val (.int p1), .val (.int p2), .val (.int p3), .val (.int cr0), .val (.int (0 : Int32)), .val (.int t0), .val (.int t1), .val (.int t2), .val (.int t3), .val (.ref b), .unset, .unset, .unset, .unset] at_52 rfl rfl rfl ?_
    refine own_goto W3 154 at_54 (by decide) (by decide) ?_
    refine own_new W3 157 at_154 (wd1 hw) (wd2 hw) (wd3 hw) (by decide) (by decide) rfl ?_
    intro T4 h4 o W4 E4 g_o o_o X_o D_o
    have ne_b_o : b ≠ o := by rw [g_o]; exact Nat.ne_of_lt V_b.lt
    have V_b := V_b.ext E4
    have F_protocol_o : Fld Z h4 o "com/example/redelivery/redelivery/engine/Carriage" "protocol" "Ljava/lang/String;" .null := D_o (Or.inr (wd23 hw)) (ty := (.object "java/lang/String")) (by decide)
    have F_carriesCr_o : Fld Z h4 o "com/example/redelivery/redelivery/engine/Carriage" "carriesCr" "Z" (.int (0 : Int32)) := D_o (Or.inr (wd25 hw)) (ty := .boolean) (by decide)
    have F_maxLength_o : Fld Z h4 o "com/example/redelivery/redelivery/engine/Carriage" "maxLength" "I" (.int (0 : Int32)) := D_o (Or.inr (wd27 hw)) (ty := .int) (by decide)
    show own_Go p e below C T4 (mkF m 157 #[.val (.int p1), .val (.int p2), .val (.int p3), .val (.int cr0), .val (.int (0 : Int32)), .val (.int t0), .val (.int t1), .val (.int t2), .val (.int t3), .val (.ref b), .unset, .unset, .unset, .unset] [(.ref o)])
    refine own_dup W4 158 at_157 rfl rfl ?_
    refine own_ldcS W4 1024 160 at_158 (wd4 hw) (own_strs hw) (by decide) (by decide) (by decide) (by decide) rfl ?_
    intro vm5 n5 T5 h5 sa5 hS5 Z5 W5 E5
    have V_b := V_b.ext E5
    have X_o := X_o.ext E5
    have F_protocol_o := F_protocol_o.ext E5
    have F_carriesCr_o := F_carriesCr_o.ext E5
    have F_maxLength_o := F_maxLength_o.ext E5
    have hC5 : ∀ v L u, own_Fw (s.setVm vm5) [] L → (v = some (.int (1 : Int32)) ∧ n5 ≤ u.heap.size) → FrameEnd (s.setVm vm5) (.returned v) u L room_1.cells room_1.slots → C (.returned v) u := fun v L u q1 q2 q3 => hC v L u vm5 n5 hS5 q2.2 q1 q2.1 q3
    show own_Go p e below C T5 (mkF m 160 #[.val (.int p1), .val (.int p2), .val (.int p3), .val (.int cr0), .val (.int (0 : Int32)), .val (.int t0), .val (.int t1), .val (.int t2), .val (.int t3), .val (.ref b), .unset, .unset, .unset, .unset] [(.ref sa5), (.ref o), (.ref o)])
    refine own_iloadN W5 161 at_160 rfl rfl ?_
    refine own_iloadN W5 162 at_161 rfl rfl ?_
    refine own_callN W5 (A := [(.ref sa5), (.int cr0), (.int p1)]) (wt := 1) (pc' := 165) (st := [(.ref o)]) at_162 rfl (wd11 hw) (wd12 hw) (wd3 hw) (wd13 hw) (by decide) (own_m1 l Z a0 hw [] h5 o sa5 cr0 p1 X_o F_protocol_o F_carriesCr_o F_maxLength_o) (allS (Or.inr o_o) all0) rfl pd_1 rfl (Nat.le_of_eq rfl) (by decide) (by decide) (by decide) (by decide) rfl ?_
    rintro T6 h6 _ W6 K6 P6 ⟨rfl, ⟨F_carriesCr_o, F_maxLength_o⟩⟩
    have V_b := V_b.keep K6 (ninS ne_b_o nin0)
    have X_o := X_o.keep K6
    have Z5 := Nat.le_trans Z5 K6.1
    show own_Go p e below C T6 (mkF m 165 #[.val (.int p1), .val (.int p2), .val (.int p3), .val (.int cr0), .val (.int (0 : Int32)), .val (.int t0), .val (.int t1), .val (.int t2), .val (.int t3), .val (.ref b), .unset, .unset, .unset, .unset] [(.ref o)])
    refine own_astore W6 167 #[.val (.int p1), .val (.int p2), .val (.int p3), .val (.int cr0), .val (.int (0 : Int32)), .val (.int t0), .val (.int t1), .val (.int t2), .val (.int t3), .val (.ref b), .val (.ref o), .unset, .unset, .unset] at_165 rfl rfl rfl ?_
    refine own_aload W6 169 at_167 rfl rfl rfl ?_
    refine own_aload W6 171 at_169 rfl rfl rfl ?_
    refine own_callV W6 (A := [(.ref b)]) (wt := 0) (pc' := 174) (st := []) at_171 (wd28 hw) (wd29 hw) (own_nf W6 (wd31 hw)) (wd31 hw) (wd30 hw) (wd3 hw) (wd32 hw) (by decide) X_o (own_m4 l Z a0 hw [] h6 o b p1 (cr0 &&& 1) 0 (0 : Int32) _ (own_g t0 t1 t2 t3) F_maxLength_o F_carriesCr_o V_b (by intro j hj; rcases own_lt4 (by omega : j < 4) with rfl | rfl | rfl | rfl <;> first | exact congrArg Value.int ht0 | exact congrArg Value.int ht1 | exact congrArg Value.int ht2 | exact congrArg Value.int ht3 | (exfalso; omega)) rfl rfl (by decide)) all0 rfl pd_2 rfl (Nat.le_of_eq rfl) (by decide) (by decide) (by decide) (by decide) rfl ?_
    rintro T7 h7 _ W7 K7 P7 rfl
    rw [P7 rfl rfl] at W7
    show own_Go p e below C T7 (mkF m 174 #[.val (.int p1), .val (.int p2), .val (.int p3), .val (.int cr0), .val (.int (0 : Int32)), .val (.int t0), .val (.int t1), .val (.int t2), .val (.int t3), .val (.ref b), .val (.ref o), .unset, .unset, .unset] [(.int (own_car p1 (0 : Int32) (cr0 &&& 1) (own_cr (own_g t0 t1 t2 t3) 0 0)))])
    refine own_istore W7 176 #[.val (.int p1), .val (.int p2), .val (.int p3), .val (.int cr0), .val (.int (0 : Int32)), .val (.int t0), .val (.int t1), .val (.int t2), .val (.int t3), .val (.ref b), .val (.ref o), .val (.int (own_car p1 (0 : Int32) (cr0 &&& 1) (own_cr (own_g t0 t1 t2 t3) 0 0))), .unset, .unset] at_174 rfl rfl ?_
    refine own_iload W7 178 at_176 rfl rfl ?_
    suffices J8 : own_Go p e below C T7 (mkF m 232 #[.val (.int p1), .val (.int p2), .val (.int p3), .val (.int cr0), .val (.int (0 : Int32)), .val (.int t0), .val (.int t1), .val (.int t2), .val (.int t3), .val (.ref b), .val (.ref o), .val (.int (own_car p1 (0 : Int32) (cr0 &&& 1) (own_cr (own_g t0 t1 t2 t3) 0 0))), .unset, .unset] [(.int (0 : Int32))]) by
      refine own_ifY W7 188 at_178 ((if0 _ _).trans (flt (by decide : ¬ ((0 : Int32) < (0 : Int32)))).2.2.2) (by decide) (by decide) ?_
      refine own_iload W7 190 at_188 rfl rfl ?_
      refine own_iconst W7 (1 : Int32) 191 at_190 rfl rfl ?_
      refine own_icmpY W7 201 at_191 ((flt (by decide : ¬ ((1 : Int32) < (0 : Int32)))).2.2.2) (by decide) (by decide) ?_
      refine own_iload W7 203 at_201 rfl rfl ?_
      refine own_iconst W7 (2 : Int32) 204 at_203 rfl rfl ?_
      refine own_icmpY W7 214 at_204 ((flt (by decide : ¬ ((2 : Int32) < (0 : Int32)))).2.2.2) (by decide) (by decide) ?_
      refine own_iload W7 216 at_214 rfl rfl ?_
      refine own_iconst W7 (3 : Int32) 217 at_216 rfl rfl ?_
      refine own_icmpY W7 231 at_217 ((flt (by decide : ¬ ((3 : Int32) < (0 : Int32)))).2.2.2) (by decide) (by decide) ?_
      refine own_iconst W7 (0 : Int32) 232 at_231 rfl rfl ?_
      exact J8
    refine own_istore W7 234 #[.val (.int p1), .val (.int p2), .val (.int p3), .val (.int cr0), .val (.int (0 : Int32)), .val (.int t0), .val (.int t1), .val (.int t2), .val (.int t3), .val (.ref b), .val (.ref o), .val (.int (own_car p1 (0 : Int32) (cr0 &&& 1) (own_cr (own_g t0 t1 t2 t3) 0 0))), .val (.int (0 : Int32)), .unset] at_232 rfl rfl ?_
    refine own_iload W7 236 at_234 rfl rfl ?_
    refine own_iloadN W7 237 at_236 rfl rfl ?_
    suffices J9 : own_Go p e below C T7 (mkF m 254 #[.val (.int p1), .val (.int p2), .val (.int p3), .val (.int cr0), .val (.int (0 : Int32)), .val (.int t0), .val (.int t1), .val (.int t2), .val (.int t3), .val (.ref b), .val (.ref o), .val (.int (own_car p1 (0 : Int32) (cr0 &&& 1) (own_cr (own_g t0 t1 t2 t3) 0 0))), .val (.int (0 : Int32)), .unset] [(.int (if p1 < (0 : Int32) then (0 : Int32) else (1 : Int32)))]) by
      by_cases c10 : p1 < (0 : Int32)
      · refine own_icmpY W7 253 at_237 ((tlt c10).2.2.1) (by decide) (by decide) ?_
        refine own_iconst W7 (0 : Int32) 254 at_253 rfl rfl ?_
        first | (simp only [if_pos c10] at J9; exact J9) | (simp only [if_pos c10] at J9 ⊢; exact J9)
      · refine own_icmpN W7 240 at_237 ((flt c10).2.2.1) rfl ?_
        refine own_iloadN W7 241 at_240 rfl rfl ?_
        by_cases c11 : cr0 = (0 : Int32)
        · refine own_ifN W7 244 at_241 ((if0 _ _).trans (teq c11).2) rfl ?_
          refine own_iload W7 246 at_244 rfl rfl ?_
          refine own_ifN W7 249 at_246 ((if0 _ _).trans (teq (by decide : (0 : Int32) = (0 : Int32))).2) rfl ?_
          refine own_iconst W7 (1 : Int32) 250 at_249 rfl rfl ?_
          refine own_goto W7 254 at_250 (by decide) (by decide) ?_
          first | (simp only [if_neg c10, if_pos c11] at J9; exact J9) | (simp only [if_neg c10, if_pos c11] at J9 ⊢; exact J9)
        · refine own_ifY W7 249 at_241 ((if0 _ _).trans (feq c11).2) (by decide) (by decide) ?_
          refine own_iconst W7 (1 : Int32) 250 at_249 rfl rfl ?_
          refine own_goto W7 254 at_250 (by decide) (by decide) ?_
          first | (simp only [if_neg c10, if_neg c11] at J9; exact J9) | (simp only [if_neg c10, if_neg c11] at J9 ⊢; exact J9)
    refine own_istore W7 256 #[.val (.int p1), .val (.int p2), .val (.int p3), .val (.int cr0), .val (.int (0 : Int32)), .val (.int t0), .val (.int t1), .val (.int t2), .val (.int t3), .val (.ref b), .val (.ref o), .val (.int (own_car p1 (0 : Int32) (cr0 &&& 1) (own_cr (own_g t0 t1 t2 t3) 0 0))), .val (.int (0 : Int32)), .val (.int (if p1 < (0 : Int32) then (0 : Int32) else (1 : Int32)))] at_254 rfl rfl ?_
    refine own_iload W7 258 at_256 rfl rfl ?_
    refine own_iload W7 260 at_258 rfl rfl ?_
    refine own_icmpN W7 263 at_260 ((teq (own_fin0 p1 cr0 t0 t1 t2 t3 hcr : (own_car p1 (0 : Int32) (cr0 &&& 1) (own_cr (own_g t0 t1 t2 t3) 0 0)) = (if p1 < (0 : Int32) then (0 : Int32) else (1 : Int32)))).2) rfl ?_
    refine own_iconst W7 (1 : Int32) 264 at_263 rfl rfl ?_
    refine own_goto W7 268 at_264 (by decide) (by decide) ?_
    refine own_retZ (Q := fun v h => v = some (.int (1 : Int32)) ∧ n5 ≤ h.size) W7 hC5 (by decide) (by decide) at_268 ?_
    exact ⟨rfl, Z5⟩
  · obtain rfl : off = (1 : Int32) := own_ofN hk (by decide)
    show own_Go p e below C T0 (mkF m 46 #[.val (.int p1), .val (.int p2), .val (.int p3), .val (.int cr0), .val (.int (1 : Int32)), .val (.int t0), .val (.int t1), .val (.int t2), .val (.int t3), .unset, .unset, .unset, .unset, .unset] [(.int (1 : Int32))])
    refine own_ifY W0 57 at_46 ((if0 _ _).trans (feq (by decide : ¬ ((1 : Int32) = (0 : Int32)))).2) (by decide) (by decide) ?_
    refine own_iload W0 59 at_57 rfl rfl ?_
    refine own_iconst W0 (1 : Int32) 60 at_59 rfl rfl ?_
    refine own_icmpN W0 63 at_60 ((teq (rfl : (1 : Int32) = (1 : Int32))).2) rfl ?_
    refine own_iconst W0 (1 : Int32) 64 at_63 rfl rfl ?_
    refine own_newarray W0 1 1 66 at_64 (wd0 hw) rfl (Nat.le_refl _) (by decide) (by decide) (by decide) rfl ?_
    intro T12 h12 b W12 E12 g_b o_b V_b
    show own_Go p e below C T12 (mkF m 66 #[.val (.int p1), .val (.int p2), .val (.int p3), .val (.int cr0), .val (.int (1 : Int32)), .val (.int t0), .val (.int t1), .val (.int t2), .val (.int t3), .unset, .unset, .unset, .unset, .unset] [(.ref b)])
    refine own_dup W12 67 at_66 rfl rfl ?_
    refine own_iconst W12 (0 : Int32) 68 at_67 rfl rfl ?_
    refine own_iload W12 70 at_68 rfl rfl ?_
    refine own_bastore W12 0 71 at_70 V_b (Or.inr o_b) rfl (by decide) rfl ?_
    intro T13 h13 W13 Wr13 V_b
    show own_Go p e below C T13 (mkF m 71 #[.val (.int p1), .val (.int p2), .val (.int p3), .val (.int cr0), .val (.int (1 : Int32)), .val (.int t0), .val (.int t1), .val (.int t2), .val (.int t3), .unset, .unset, .unset, .unset, .unset] [(.ref b)])
    refine own_astore W13 73 #[.val (.int p1), .val (.int p2), .val (.int p3), .val (.int cr0), .val (.int (1 : Int32)), .val (.int t0), .val (.int t1), .val (.int t2), .val (.int t3), .val (.ref b), .unset, .unset, .unset, .unset] at_71 rfl rfl rfl ?_
    refine own_goto W13 154 at_73 (by decide) (by decide) ?_
    refine own_new W13 157 at_154 (wd1 hw) (wd2 hw) (wd3 hw) (by decide) (by decide) rfl ?_
    intro T14 h14 o W14 E14 g_o o_o X_o D_o
    have ne_b_o : b ≠ o := by rw [g_o]; exact Nat.ne_of_lt V_b.lt
    have V_b := V_b.ext E14
    have F_protocol_o : Fld Z h14 o "com/example/redelivery/redelivery/engine/Carriage" "protocol" "Ljava/lang/String;" .null := D_o (Or.inr (wd23 hw)) (ty := (.object "java/lang/String")) (by decide)
    have F_carriesCr_o : Fld Z h14 o "com/example/redelivery/redelivery/engine/Carriage" "carriesCr" "Z" (.int (0 : Int32)) := D_o (Or.inr (wd25 hw)) (ty := .boolean) (by decide)
    have F_maxLength_o : Fld Z h14 o "com/example/redelivery/redelivery/engine/Carriage" "maxLength" "I" (.int (0 : Int32)) := D_o (Or.inr (wd27 hw)) (ty := .int) (by decide)
    show own_Go p e below C T14 (mkF m 157 #[.val (.int p1), .val (.int p2), .val (.int p3), .val (.int cr0), .val (.int (1 : Int32)), .val (.int t0), .val (.int t1), .val (.int t2), .val (.int t3), .val (.ref b), .unset, .unset, .unset, .unset] [(.ref o)])
    refine own_dup W14 158 at_157 rfl rfl ?_
    refine own_ldcS W14 1024 160 at_158 (wd4 hw) (own_strs hw) (by decide) (by decide) (by decide) (by decide) rfl ?_
    intro vm15 n15 T15 h15 sa15 hS15 Z15 W15 E15
    have V_b := V_b.ext E15
    have X_o := X_o.ext E15
    have F_protocol_o := F_protocol_o.ext E15
    have F_carriesCr_o := F_carriesCr_o.ext E15
    have F_maxLength_o := F_maxLength_o.ext E15
    have hC15 : ∀ v L u, own_Fw (s.setVm vm15) [] L → (v = some (.int (1 : Int32)) ∧ n15 ≤ u.heap.size) → FrameEnd (s.setVm vm15) (.returned v) u L room_1.cells room_1.slots → C (.returned v) u := fun v L u q1 q2 q3 => hC v L u vm15 n15 hS15 q2.2 q1 q2.1 q3
    show own_Go p e below C T15 (mkF m 160 #[.val (.int p1), .val (.int p2), .val (.int p3), .val (.int cr0), .val (.int (1 : Int32)), .val (.int t0), .val (.int t1), .val (.int t2), .val (.int t3), .val (.ref b), .unset, .unset, .unset, .unset] [(.ref sa15), (.ref o), (.ref o)])
    refine own_iloadN W15 161 at_160 rfl rfl ?_
    refine own_iloadN W15 162 at_161 rfl rfl ?_
    refine own_callN W15 (A := [(.ref sa15), (.int cr0), (.int p1)]) (wt := 1) (pc' := 165) (st := [(.ref o)]) at_162 rfl (wd11 hw) (wd12 hw) (wd3 hw) (wd13 hw) (by decide) (own_m1 l Z a0 hw [] h15 o sa15 cr0 p1 X_o F_protocol_o F_carriesCr_o F_maxLength_o) (allS (Or.inr o_o) all0) rfl pd_1 rfl (Nat.le_of_eq rfl) (by decide) (by decide) (by decide) (by decide) rfl ?_
    rintro T16 h16 _ W16 K16 P16 ⟨rfl, ⟨F_carriesCr_o, F_maxLength_o⟩⟩
    have V_b := V_b.keep K16 (ninS ne_b_o nin0)
    have X_o := X_o.keep K16
    have Z15 := Nat.le_trans Z15 K16.1
    show own_Go p e below C T16 (mkF m 165 #[.val (.int p1), .val (.int p2), .val (.int p3), .val (.int cr0), .val (.int (1 : Int32)), .val (.int t0), .val (.int t1), .val (.int t2), .val (.int t3), .val (.ref b), .unset, .unset, .unset, .unset] [(.ref o)])
    refine own_astore W16 167 #[.val (.int p1), .val (.int p2), .val (.int p3), .val (.int cr0), .val (.int (1 : Int32)), .val (.int t0), .val (.int t1), .val (.int t2), .val (.int t3), .val (.ref b), .val (.ref o), .unset, .unset, .unset] at_165 rfl rfl rfl ?_
    refine own_aload W16 169 at_167 rfl rfl rfl ?_
    refine own_aload W16 171 at_169 rfl rfl rfl ?_
    refine own_callV W16 (A := [(.ref b)]) (wt := 0) (pc' := 174) (st := []) at_171 (wd28 hw) (wd29 hw) (own_nf W16 (wd31 hw)) (wd31 hw) (wd30 hw) (wd3 hw) (wd32 hw) (by decide) X_o (own_m4 l Z a0 hw [] h16 o b p1 (cr0 &&& 1) 1 (1 : Int32) _ (own_g t0 t1 t2 t3) F_maxLength_o F_carriesCr_o V_b (by intro j hj; rcases own_lt4 (by omega : j < 4) with rfl | rfl | rfl | rfl <;> first | exact congrArg Value.int ht0 | exact congrArg Value.int ht1 | exact congrArg Value.int ht2 | exact congrArg Value.int ht3 | (exfalso; omega)) rfl rfl (by decide)) all0 rfl pd_2 rfl (Nat.le_of_eq rfl) (by decide) (by decide) (by decide) (by decide) rfl ?_
    rintro T17 h17 _ W17 K17 P17 rfl
    rw [P17 rfl rfl] at W17
    show own_Go p e below C T17 (mkF m 174 #[.val (.int p1), .val (.int p2), .val (.int p3), .val (.int cr0), .val (.int (1 : Int32)), .val (.int t0), .val (.int t1), .val (.int t2), .val (.int t3), .val (.ref b), .val (.ref o), .unset, .unset, .unset] [(.int (own_car p1 (1 : Int32) (cr0 &&& 1) (own_cr (own_g t0 t1 t2 t3) 1 0)))])
    refine own_istore W17 176 #[.val (.int p1), .val (.int p2), .val (.int p3), .val (.int cr0), .val (.int (1 : Int32)), .val (.int t0), .val (.int t1), .val (.int t2), .val (.int t3), .val (.ref b), .val (.ref o), .val (.int (own_car p1 (1 : Int32) (cr0 &&& 1) (own_cr (own_g t0 t1 t2 t3) 1 0))), .unset, .unset] at_174 rfl rfl ?_
    refine own_iload W17 178 at_176 rfl rfl ?_
    suffices J18 : own_Go p e below C T17 (mkF m 232 #[.val (.int p1), .val (.int p2), .val (.int p3), .val (.int cr0), .val (.int (1 : Int32)), .val (.int t0), .val (.int t1), .val (.int t2), .val (.int t3), .val (.ref b), .val (.ref o), .val (.int (own_car p1 (1 : Int32) (cr0 &&& 1) (own_cr (own_g t0 t1 t2 t3) 1 0))), .unset, .unset] [(.int (if t0 = (13 : Int32) then (1 : Int32) else (0 : Int32)))]) by
      refine own_ifN W17 181 at_178 ((if0 _ _).trans (tlt (by decide : (0 : Int32) < (1 : Int32))).2.2.2) rfl ?_
      refine own_iload W17 183 at_181 rfl rfl ?_
      refine own_bipush W17 (13 : Int32) 185 at_183 rfl rfl ?_
      by_cases c19 : t0 = (13 : Int32)
      · refine own_icmpY W17 227 at_185 ((teq c19).1) (by decide) (by decide) ?_
        refine own_iconst W17 (1 : Int32) 228 at_227 rfl rfl ?_
        refine own_goto W17 232 at_228 (by decide) (by decide) ?_
        first | (simp only [if_pos c19] at J18; exact J18) | (simp only [if_pos c19] at J18 ⊢; exact J18)
      · refine own_icmpN W17 188 at_185 ((feq c19).1) rfl ?_
        refine own_iload W17 190 at_188 rfl rfl ?_
        refine own_iconst W17 (1 : Int32) 191 at_190 rfl rfl ?_
        refine own_icmpY W17 201 at_191 ((flt (by decide : ¬ ((1 : Int32) < (1 : Int32)))).2.2.2) (by decide) (by decide) ?_
        refine own_iload W17 203 at_201 rfl rfl ?_
        refine own_iconst W17 (2 : Int32) 204 at_203 rfl rfl ?_
        refine own_icmpY W17 214 at_204 ((flt (by decide : ¬ ((2 : Int32) < (1 : Int32)))).2.2.2) (by decide) (by decide) ?_
        refine own_iload W17 216 at_214 rfl rfl ?_
        refine own_iconst W17 (3 : Int32) 217 at_216 rfl rfl ?_
        refine own_icmpY W17 231 at_217 ((flt (by decide : ¬ ((3 : Int32) < (1 : Int32)))).2.2.2) (by decide) (by decide) ?_
        refine own_iconst W17 (0 : Int32) 232 at_231 rfl rfl ?_
        first | (simp only [if_neg c19] at J18; exact J18) | (simp only [if_neg c19] at J18 ⊢; exact J18)
    refine own_istore W17 234 #[.val (.int p1), .val (.int p2), .val (.int p3), .val (.int cr0), .val (.int (1 : Int32)), .val (.int t0), .val (.int t1), .val (.int t2), .val (.int t3), .val (.ref b), .val (.ref o), .val (.int (own_car p1 (1 : Int32) (cr0 &&& 1) (own_cr (own_g t0 t1 t2 t3) 1 0))), .val (.int (if t0 = (13 : Int32) then (1 : Int32) else (0 : Int32))), .unset] at_232 rfl rfl ?_
    refine own_iload W17 236 at_234 rfl rfl ?_
    refine own_iloadN W17 237 at_236 rfl rfl ?_
    suffices J20 : own_Go p e below C T17 (mkF m 254 #[.val (.int p1), .val (.int p2), .val (.int p3), .val (.int cr0), .val (.int (1 : Int32)), .val (.int t0), .val (.int t1), .val (.int t2), .val (.int t3), .val (.ref b), .val (.ref o), .val (.int (own_car p1 (1 : Int32) (cr0 &&& 1) (own_cr (own_g t0 t1 t2 t3) 1 0))), .val (.int (if t0 = (13 : Int32) then (1 : Int32) else (0 : Int32))), .unset] [(.int (if p1 < (1 : Int32) then (0 : Int32) else (if cr0 = (0 : Int32) then (if t0 = (13 : Int32) then (0 : Int32) else (1 : Int32)) else (1 : Int32))))]) by
      by_cases c21 : p1 < (1 : Int32)
      · refine own_icmpY W17 253 at_237 ((tlt c21).2.2.1) (by decide) (by decide) ?_
        refine own_iconst W17 (0 : Int32) 254 at_253 rfl rfl ?_
        first | (simp only [if_pos c21] at J20; exact J20) | (simp only [if_pos c21] at J20 ⊢; exact J20)
      · refine own_icmpN W17 240 at_237 ((flt c21).2.2.1) rfl ?_
        refine own_iloadN W17 241 at_240 rfl rfl ?_
        by_cases c22 : cr0 = (0 : Int32)
        · refine own_ifN W17 244 at_241 ((if0 _ _).trans (teq c22).2) rfl ?_
          refine own_iload W17 246 at_244 rfl rfl ?_
          by_cases c23 : t0 = (13 : Int32)
          · refine own_ifY W17 253 at_246 ((if0 _ _).trans (feq (own_b1 c23)).2) (by decide) (by decide) ?_
            refine own_iconst W17 (0 : Int32) 254 at_253 rfl rfl ?_
            first | (simp only [if_neg c21, if_pos c22, if_pos c23] at J20; exact J20) | (simp only [if_neg c21, if_pos c22, if_pos c23] at J20 ⊢; exact J20)
          · refine own_ifN W17 249 at_246 ((if0 _ _).trans (teq (own_b0 c23)).2) rfl ?_
            refine own_iconst W17 (1 : Int32) 250 at_249 rfl rfl ?_
            refine own_goto W17 254 at_250 (by decide) (by decide) ?_
            first | (simp only [if_neg c21, if_pos c22, if_neg c23] at J20; exact J20) | (simp only [if_neg c21, if_pos c22, if_neg c23] at J20 ⊢; exact J20)
        · refine own_ifY W17 249 at_241 ((if0 _ _).trans (feq c22).2) (by decide) (by decide) ?_
          refine own_iconst W17 (1 : Int32) 250 at_249 rfl rfl ?_
          refine own_goto W17 254 at_250 (by decide) (by decide) ?_
          first | (simp only [if_neg c21, if_neg c22] at J20; exact J20) | (simp only [if_neg c21, if_neg c22] at J20 ⊢; exact J20)
    refine own_istore W17 256 #[.val (.int p1), .val (.int p2), .val (.int p3), .val (.int cr0), .val (.int (1 : Int32)), .val (.int t0), .val (.int t1), .val (.int t2), .val (.int t3), .val (.ref b), .val (.ref o), .val (.int (own_car p1 (1 : Int32) (cr0 &&& 1) (own_cr (own_g t0 t1 t2 t3) 1 0))), .val (.int (if t0 = (13 : Int32) then (1 : Int32) else (0 : Int32))), .val (.int (if p1 < (1 : Int32) then (0 : Int32) else (if cr0 = (0 : Int32) then (if t0 = (13 : Int32) then (0 : Int32) else (1 : Int32)) else (1 : Int32))))] at_254 rfl rfl ?_
    refine own_iload W17 258 at_256 rfl rfl ?_
    refine own_iload W17 260 at_258 rfl rfl ?_
    refine own_icmpN W17 263 at_260 ((teq (own_fin1 p1 cr0 t0 t1 t2 t3 hcr : (own_car p1 (1 : Int32) (cr0 &&& 1) (own_cr (own_g t0 t1 t2 t3) 1 0)) = (if p1 < (1 : Int32) then (0 : Int32) else (if cr0 = (0 : Int32) then (if t0 = (13 : Int32) then (0 : Int32) else (1 : Int32)) else (1 : Int32))))).2) rfl ?_
    refine own_iconst W17 (1 : Int32) 264 at_263 rfl rfl ?_
    refine own_goto W17 268 at_264 (by decide) (by decide) ?_
    refine own_retZ (Q := fun v h => v = some (.int (1 : Int32)) ∧ n15 ≤ h.size) W17 hC15 (by decide) (by decide) at_268 ?_
    exact ⟨rfl, Z15⟩
  · obtain rfl : off = (2 : Int32) := own_ofN hk (by decide)
    show own_Go p e below C T0 (mkF m 46 #[.val (.int p1), .val (.int p2), .val (.int p3), .val (.int cr0), .val (.int (2 : Int32)), .val (.int t0), .val (.int t1), .val (.int t2), .val (.int t3), .unset, .unset, .unset, .unset, .unset] [(.int (2 : Int32))])
    refine own_ifY W0 57 at_46 ((if0 _ _).trans (feq (by decide : ¬ ((2 : Int32) = (0 : Int32)))).2) (by decide) (by decide) ?_
    refine own_iload W0 59 at_57 rfl rfl ?_
    refine own_iconst W0 (1 : Int32) 60 at_59 rfl rfl ?_
    refine own_icmpY W0 76 at_60 ((feq (by decide : ¬ ((2 : Int32) = (1 : Int32)))).2) (by decide) (by decide) ?_
    refine own_iload W0 78 at_76 rfl rfl ?_
    refine own_iconst W0 (2 : Int32) 79 at_78 rfl rfl ?_
    refine own_icmpN W0 82 at_79 ((teq (rfl : (2 : Int32) = (2 : Int32))).2) rfl ?_
    refine own_iconst W0 (2 : Int32) 83 at_82 rfl rfl ?_
    refine own_newarray W0 2 2 85 at_83 (wd0 hw) rfl (Nat.le_refl _) (by decide) (by decide) (by decide) rfl ?_
    intro T24 h24 b W24 E24 g_b o_b V_b
    show own_Go p e below C T24 (mkF m 85 #[.val (.int p1), .val (.int p2), .val (.int p3), .val (.int cr0), .val (.int (2 : Int32)), .val (.int t0), .val (.int t1), .val (.int t2), .val (.int t3), .unset, .unset, .unset, .unset, .unset] [(.ref b)])
    refine own_dup W24 86 at_85 rfl rfl ?_
    refine own_iconst W24 (0 : Int32) 87 at_86 rfl rfl ?_
    refine own_iload W24 89 at_87 rfl rfl ?_
    refine own_bastore W24 0 90 at_89 V_b (Or.inr o_b) rfl (by decide) rfl ?_
    intro T25 h25 W25 Wr25 V_b
    show own_Go p e below C T25 (mkF m 90 #[.val (.int p1), .val (.int p2), .val (.int p3), .val (.int cr0), .val (.int (2 : Int32)), .val (.int t0), .val (.int t1), .val (.int t2), .val (.int t3), .unset, .unset, .unset, .unset, .unset] [(.ref b)])
    refine own_dup W25 91 at_90 rfl rfl ?_
    refine own_iconst W25 (1 : Int32) 92 at_91 rfl rfl ?_
    refine own_iload W25 94 at_92 rfl rfl ?_
    refine own_bastore W25 1 95 at_94 V_b (Or.inr o_b) rfl (by decide) rfl ?_
    intro T26 h26 W26 Wr26 V_b
    show own_Go p e below C T26 (mkF m 95 #[.val (.int p1), .val (.int p2), .val (.int p3), .val (.int cr0), .val (.int (2 : Int32)), .val (.int t0), .val (.int t1), .val (.int t2), .val (.int t3), .unset, .unset, .unset, .unset, .unset] [(.ref b)])
    refine own_astore W26 97 #[.val (.int p1), .val (.int p2), .val (.int p3), .val (.int cr0), .val (.int (2 : Int32)), .val (.int t0), .val (.int t1), .val (.int t2), .val (.int t3), .val (.ref b), .unset, .unset, .unset, .unset] at_95 rfl rfl rfl ?_
    refine own_goto W26 154 at_97 (by decide) (by decide) ?_
    refine own_new W26 157 at_154 (wd1 hw) (wd2 hw) (wd3 hw) (by decide) (by decide) rfl ?_
    intro T27 h27 o W27 E27 g_o o_o X_o D_o
    have ne_b_o : b ≠ o := by rw [g_o]; exact Nat.ne_of_lt V_b.lt
    have V_b := V_b.ext E27
    have F_protocol_o : Fld Z h27 o "com/example/redelivery/redelivery/engine/Carriage" "protocol" "Ljava/lang/String;" .null := D_o (Or.inr (wd23 hw)) (ty := (.object "java/lang/String")) (by decide)
    have F_carriesCr_o : Fld Z h27 o "com/example/redelivery/redelivery/engine/Carriage" "carriesCr" "Z" (.int (0 : Int32)) := D_o (Or.inr (wd25 hw)) (ty := .boolean) (by decide)
    have F_maxLength_o : Fld Z h27 o "com/example/redelivery/redelivery/engine/Carriage" "maxLength" "I" (.int (0 : Int32)) := D_o (Or.inr (wd27 hw)) (ty := .int) (by decide)
    show own_Go p e below C T27 (mkF m 157 #[.val (.int p1), .val (.int p2), .val (.int p3), .val (.int cr0), .val (.int (2 : Int32)), .val (.int t0), .val (.int t1), .val (.int t2), .val (.int t3), .val (.ref b), .unset, .unset, .unset, .unset] [(.ref o)])
    refine own_dup W27 158 at_157 rfl rfl ?_
    refine own_ldcS W27 1024 160 at_158 (wd4 hw) (own_strs hw) (by decide) (by decide) (by decide) (by decide) rfl ?_
    intro vm28 n28 T28 h28 sa28 hS28 Z28 W28 E28
    have V_b := V_b.ext E28
    have X_o := X_o.ext E28
    have F_protocol_o := F_protocol_o.ext E28
    have F_carriesCr_o := F_carriesCr_o.ext E28
    have F_maxLength_o := F_maxLength_o.ext E28
    have hC28 : ∀ v L u, own_Fw (s.setVm vm28) [] L → (v = some (.int (1 : Int32)) ∧ n28 ≤ u.heap.size) → FrameEnd (s.setVm vm28) (.returned v) u L room_1.cells room_1.slots → C (.returned v) u := fun v L u q1 q2 q3 => hC v L u vm28 n28 hS28 q2.2 q1 q2.1 q3
    show own_Go p e below C T28 (mkF m 160 #[.val (.int p1), .val (.int p2), .val (.int p3), .val (.int cr0), .val (.int (2 : Int32)), .val (.int t0), .val (.int t1), .val (.int t2), .val (.int t3), .val (.ref b), .unset, .unset, .unset, .unset] [(.ref sa28), (.ref o), (.ref o)])
    refine own_iloadN W28 161 at_160 rfl rfl ?_
    refine own_iloadN W28 162 at_161 rfl rfl ?_
    refine own_callN W28 (A := [(.ref sa28), (.int cr0), (.int p1)]) (wt := 1) (pc' := 165) (st := [(.ref o)]) at_162 rfl (wd11 hw) (wd12 hw) (wd3 hw) (wd13 hw) (by decide) (own_m1 l Z a0 hw [] h28 o sa28 cr0 p1 X_o F_protocol_o F_carriesCr_o F_maxLength_o) (allS (Or.inr o_o) all0) rfl pd_1 rfl (Nat.le_of_eq rfl) (by decide) (by decide) (by decide) (by decide) rfl ?_
    rintro T29 h29 _ W29 K29 P29 ⟨rfl, ⟨F_carriesCr_o, F_maxLength_o⟩⟩
    have V_b := V_b.keep K29 (ninS ne_b_o nin0)
    have X_o := X_o.keep K29
    have Z28 := Nat.le_trans Z28 K29.1
    show own_Go p e below C T29 (mkF m 165 #[.val (.int p1), .val (.int p2), .val (.int p3), .val (.int cr0), .val (.int (2 : Int32)), .val (.int t0), .val (.int t1), .val (.int t2), .val (.int t3), .val (.ref b), .unset, .unset, .unset, .unset] [(.ref o)])
    refine own_astore W29 167 #[.val (.int p1), .val (.int p2), .val (.int p3), .val (.int cr0), .val (.int (2 : Int32)), .val (.int t0), .val (.int t1), .val (.int t2), .val (.int t3), .val (.ref b), .val (.ref o), .unset, .unset, .unset] at_165 rfl rfl rfl ?_
    refine own_aload W29 169 at_167 rfl rfl rfl ?_
    refine own_aload W29 171 at_169 rfl rfl rfl ?_
    refine own_callV W29 (A := [(.ref b)]) (wt := 0) (pc' := 174) (st := []) at_171 (wd28 hw) (wd29 hw) (own_nf W29 (wd31 hw)) (wd31 hw) (wd30 hw) (wd3 hw) (wd32 hw) (by decide) X_o (own_m4 l Z a0 hw [] h29 o b p1 (cr0 &&& 1) 2 (2 : Int32) _ (own_g t0 t1 t2 t3) F_maxLength_o F_carriesCr_o V_b (by intro j hj; rcases own_lt4 (by omega : j < 4) with rfl | rfl | rfl | rfl <;> first | exact congrArg Value.int ht0 | exact congrArg Value.int ht1 | exact congrArg Value.int ht2 | exact congrArg Value.int ht3 | (exfalso; omega)) rfl rfl (by decide)) all0 rfl pd_2 rfl (Nat.le_of_eq rfl) (by decide) (by decide) (by decide) (by decide) rfl ?_
    rintro T30 h30 _ W30 K30 P30 rfl
    rw [P30 rfl rfl] at W30
    show own_Go p e below C T30 (mkF m 174 #[.val (.int p1), .val (.int p2), .val (.int p3), .val (.int cr0), .val (.int (2 : Int32)), .val (.int t0), .val (.int t1), .val (.int t2), .val (.int t3), .val (.ref b), .val (.ref o), .unset, .unset, .unset] [(.int (own_car p1 (2 : Int32) (cr0 &&& 1) (own_cr (own_g t0 t1 t2 t3) 2 0)))])
    refine own_istore W30 176 #[.val (.int p1), .val (.int p2), .val (.int p3), .val (.int cr0), .val (.int (2 : Int32)), .val (.int t0), .val (.int t1), .val (.int t2), .val (.int t3), .val (.ref b), .val (.ref o), .val (.int (own_car p1 (2 : Int32) (cr0 &&& 1) (own_cr (own_g t0 t1 t2 t3) 2 0))), .unset, .unset] at_174 rfl rfl ?_
    refine own_iload W30 178 at_176 rfl rfl ?_
    suffices J31 : own_Go p e below C T30 (mkF m 232 #[.val (.int p1), .val (.int p2), .val (.int p3), .val (.int cr0), .val (.int (2 : Int32)), .val (.int t0), .val (.int t1), .val (.int t2), .val (.int t3), .val (.ref b), .val (.ref o), .val (.int (own_car p1 (2 : Int32) (cr0 &&& 1) (own_cr (own_g t0 t1 t2 t3) 2 0))), .unset, .unset] [(.int (if t0 = (13 : Int32) then (1 : Int32) else (if t1 = (13 : Int32) then (1 : Int32) else (0 : Int32))))]) by
      refine own_ifN W30 181 at_178 ((if0 _ _).trans (tlt (by decide : (0 : Int32) < (2 : Int32))).2.2.2) rfl ?_
      refine own_iload W30 183 at_181 rfl rfl ?_
      refine own_bipush W30 (13 : Int32) 185 at_183 rfl rfl ?_
      by_cases c32 : t0 = (13 : Int32)
      · refine own_icmpY W30 227 at_185 ((teq c32).1) (by decide) (by decide) ?_
        refine own_iconst W30 (1 : Int32) 228 at_227 rfl rfl ?_
        refine own_goto W30 232 at_228 (by decide) (by decide) ?_
        first | (simp only [if_pos c32] at J31; exact J31) | (simp only [if_pos c32] at J31 ⊢; exact J31)
      · refine own_icmpN W30 188 at_185 ((feq c32).1) rfl ?_
        refine own_iload W30 190 at_188 rfl rfl ?_
        refine own_iconst W30 (1 : Int32) 191 at_190 rfl rfl ?_
        refine own_icmpN W30 194 at_191 ((tlt (by decide : (1 : Int32) < (2 : Int32))).2.2.2) rfl ?_
        refine own_iload W30 196 at_194 rfl rfl ?_
        refine own_bipush W30 (13 : Int32) 198 at_196 rfl rfl ?_
        by_cases c33 : t1 = (13 : Int32)
        · refine own_icmpY W30 227 at_198 ((teq c33).1) (by decide) (by decide) ?_
          refine own_iconst W30 (1 : Int32) 228 at_227 rfl rfl ?_
          refine own_goto W30 232 at_228 (by decide) (by decide) ?_
          first | (simp only [if_neg c32, if_pos c33] at J31; exact J31) | (simp only [if_neg c32, if_pos c33] at J31 ⊢; exact J31)
        · refine own_icmpN W30 201 at_198 ((feq c33).1) rfl ?_
          refine own_iload W30 203 at_201 rfl rfl ?_
          refine own_iconst W30 (2 : Int32) 204 at_203 rfl rfl ?_
          refine own_icmpY W30 214 at_204 ((flt (by decide : ¬ ((2 : Int32) < (2 : Int32)))).2.2.2) (by decide) (by decide) ?_
          refine own_iload W30 216 at_214 rfl rfl ?_
          refine own_iconst W30 (3 : Int32) 217 at_216 rfl rfl ?_
          refine own_icmpY W30 231 at_217 ((flt (by decide : ¬ ((3 : Int32) < (2 : Int32)))).2.2.2) (by decide) (by decide) ?_
          refine own_iconst W30 (0 : Int32) 232 at_231 rfl rfl ?_
          first | (simp only [if_neg c32, if_neg c33] at J31; exact J31) | (simp only [if_neg c32, if_neg c33] at J31 ⊢; exact J31)
    refine own_istore W30 234 #[.val (.int p1), .val (.int p2), .val (.int p3), .val (.int cr0), .val (.int (2 : Int32)), .val (.int t0), .val (.int t1), .val (.int t2), .val (.int t3), .val (.ref b), .val (.ref o), .val (.int (own_car p1 (2 : Int32) (cr0 &&& 1) (own_cr (own_g t0 t1 t2 t3) 2 0))), .val (.int (if t0 = (13 : Int32) then (1 : Int32) else (if t1 = (13 : Int32) then (1 : Int32) else (0 : Int32)))), .unset] at_232 rfl rfl ?_
    refine own_iload W30 236 at_234 rfl rfl ?_
    refine own_iloadN W30 237 at_236 rfl rfl ?_
    suffices J34 : own_Go p e below C T30 (mkF m 254 #[.val (.int p1), .val (.int p2), .val (.int p3), .val (.int cr0), .val (.int (2 : Int32)), .val (.int t0), .val (.int t1), .val (.int t2), .val (.int t3), .val (.ref b), .val (.ref o), .val (.int (own_car p1 (2 : Int32) (cr0 &&& 1) (own_cr (own_g t0 t1 t2 t3) 2 0))), .val (.int (if t0 = (13 : Int32) then (1 : Int32) else (if t1 = (13 : Int32) then (1 : Int32) else (0 : Int32)))), .unset] [(.int (if p1 < (2 : Int32) then (0 : Int32) else (if cr0 = (0 : Int32) then (if (if t0 = (13 : Int32) then (1 : Int32) else (if t1 = (13 : Int32) then (1 : Int32) else (0 : Int32))) = (0 : Int32) then (1 : Int32) else (0 : Int32)) else (1 : Int32))))]) by
      by_cases c35 : p1 < (2 : Int32)
      · refine own_icmpY W30 253 at_237 ((tlt c35).2.2.1) (by decide) (by decide) ?_
        refine own_iconst W30 (0 : Int32) 254 at_253 rfl rfl ?_
        first | (simp only [if_pos c35] at J34; exact J34) | (simp only [if_pos c35] at J34 ⊢; exact J34)
      · refine own_icmpN W30 240 at_237 ((flt c35).2.2.1) rfl ?_
        refine own_iloadN W30 241 at_240 rfl rfl ?_
        by_cases c36 : cr0 = (0 : Int32)
        · refine own_ifN W30 244 at_241 ((if0 _ _).trans (teq c36).2) rfl ?_
          refine own_iload W30 246 at_244 rfl rfl ?_
          by_cases c37 : (if t0 = (13 : Int32) then (1 : Int32) else (if t1 = (13 : Int32) then (1 : Int32) else (0 : Int32))) = (0 : Int32)
          · refine own_ifN W30 249 at_246 ((if0 _ _).trans (teq c37).2) rfl ?_
            refine own_iconst W30 (1 : Int32) 250 at_249 rfl rfl ?_
            refine own_goto W30 254 at_250 (by decide) (by decide) ?_
            first | (simp only [if_neg c35, if_pos c36, if_pos c37] at J34; exact J34) | (simp only [if_neg c35, if_pos c36, if_pos c37] at J34 ⊢; exact J34)
          · refine own_ifY W30 253 at_246 ((if0 _ _).trans (feq c37).2) (by decide) (by decide) ?_
            refine own_iconst W30 (0 : Int32) 254 at_253 rfl rfl ?_
            first | (simp only [if_neg c35, if_pos c36, if_neg c37] at J34; exact J34) | (simp only [if_neg c35, if_pos c36, if_neg c37] at J34 ⊢; exact J34)
        · refine own_ifY W30 249 at_241 ((if0 _ _).trans (feq c36).2) (by decide) (by decide) ?_
          refine own_iconst W30 (1 : Int32) 250 at_249 rfl rfl ?_
          refine own_goto W30 254 at_250 (by decide) (by decide) ?_
          first | (simp only [if_neg c35, if_neg c36] at J34; exact J34) | (simp only [if_neg c35, if_neg c36] at J34 ⊢; exact J34)
    refine own_istore W30 256 #[.val (.int p1), .val (.int p2), .val (.int p3), .val (.int cr0), .val (.int (2 : Int32)), .val (.int t0), .val (.int t1), .val (.int t2), .val (.int t3), .val (.ref b), .val (.ref o), .val (.int (own_car p1 (2 : Int32) (cr0 &&& 1) (own_cr (own_g t0 t1 t2 t3) 2 0))), .val (.int (if t0 = (13 : Int32) then (1 : Int32) else (if t1 = (13 : Int32) then (1 : Int32) else (0 : Int32)))), .val (.int (if p1 < (2 : Int32) then (0 : Int32) else (if cr0 = (0 : Int32) then (if (if t0 = (13 : Int32) then (1 : Int32) else (if t1 = (13 : Int32) then (1 : Int32) else (0 : Int32))) = (0 : Int32) then (1 : Int32) else (0 : Int32)) else (1 : Int32))))] at_254 rfl rfl ?_
    refine own_iload W30 258 at_256 rfl rfl ?_
    refine own_iload W30 260 at_258 rfl rfl ?_
    refine own_icmpN W30 263 at_260 ((teq (own_fin2 p1 cr0 t0 t1 t2 t3 hcr : (own_car p1 (2 : Int32) (cr0 &&& 1) (own_cr (own_g t0 t1 t2 t3) 2 0)) = (if p1 < (2 : Int32) then (0 : Int32) else (if cr0 = (0 : Int32) then (if (if t0 = (13 : Int32) then (1 : Int32) else (if t1 = (13 : Int32) then (1 : Int32) else (0 : Int32))) = (0 : Int32) then (1 : Int32) else (0 : Int32)) else (1 : Int32))))).2) rfl ?_
    refine own_iconst W30 (1 : Int32) 264 at_263 rfl rfl ?_
    refine own_goto W30 268 at_264 (by decide) (by decide) ?_
    refine own_retZ (Q := fun v h => v = some (.int (1 : Int32)) ∧ n28 ≤ h.size) W30 hC28 (by decide) (by decide) at_268 ?_
    exact ⟨rfl, Z28⟩
  · obtain rfl : off = (3 : Int32) := own_ofN hk (by decide)
    show own_Go p e below C T0 (mkF m 46 #[.val (.int p1), .val (.int p2), .val (.int p3), .val (.int cr0), .val (.int (3 : Int32)), .val (.int t0), .val (.int t1), .val (.int t2), .val (.int t3), .unset, .unset, .unset, .unset, .unset] [(.int (3 : Int32))])
    refine own_ifY W0 57 at_46 ((if0 _ _).trans (feq (by decide : ¬ ((3 : Int32) = (0 : Int32)))).2) (by decide) (by decide) ?_
    refine own_iload W0 59 at_57 rfl rfl ?_
    refine own_iconst W0 (1 : Int32) 60 at_59 rfl rfl ?_
    refine own_icmpY W0 76 at_60 ((feq (by decide : ¬ ((3 : Int32) = (1 : Int32)))).2) (by decide) (by decide) ?_
    refine own_iload W0 78 at_76 rfl rfl ?_
    refine own_iconst W0 (2 : Int32) 79 at_78 rfl rfl ?_
    refine own_icmpY W0 100 at_79 ((feq (by decide : ¬ ((3 : Int32) = (2 : Int32)))).2) (by decide) (by decide) ?_
    refine own_iload W0 102 at_100 rfl rfl ?_
    refine own_iconst W0 (3 : Int32) 103 at_102 rfl rfl ?_
    refine own_icmpN W0 106 at_103 ((teq (rfl : (3 : Int32) = (3 : Int32))).2) rfl ?_
    refine own_iconst W0 (3 : Int32) 107 at_106 rfl rfl ?_
    refine own_newarray W0 3 3 109 at_107 (wd0 hw) rfl (Nat.le_refl _) (by decide) (by decide) (by decide) rfl ?_
    intro T38 h38 b W38 E38 g_b o_b V_b
    show own_Go p e below C T38 (mkF m 109 #[.val (.int p1), .val (.int p2), .val (.int p3), .val (.int cr0), .val (.int (3 : Int32)), .val (.int t0), .val (.int t1), .val (.int t2), .val (.int t3), .unset, .unset, .unset, .unset, .unset] [(.ref b)])
    refine own_dup W38 110 at_109 rfl rfl ?_
    refine own_iconst W38 (0 : Int32) 111 at_110 rfl rfl ?_
    refine own_iload W38 113 at_111 rfl rfl ?_
    refine own_bastore W38 0 114 at_113 V_b (Or.inr o_b) rfl (by decide) rfl ?_
    intro T39 h39 W39 Wr39 V_b
    show own_Go p e below C T39 (mkF m 114 #[.val (.int p1), .val (.int p2), .val (.int p3), .val (.int cr0), .val (.int (3 : Int32)), .val (.int t0), .val (.int t1), .val (.int t2), .val (.int t3), .unset, .unset, .unset, .unset, .unset] [(.ref b)])
    refine own_dup W39 115 at_114 rfl rfl ?_
    refine own_iconst W39 (1 : Int32) 116 at_115 rfl rfl ?_
    refine own_iload W39 118 at_116 rfl rfl ?_
    refine own_bastore W39 1 119 at_118 V_b (Or.inr o_b) rfl (by decide) rfl ?_
    intro T40 h40 W40 Wr40 V_b
    show own_Go p e below C T40 (mkF m 119 #[.val (.int p1), .val (.int p2), .val (.int p3), .val (.int cr0), .val (.int (3 : Int32)), .val (.int t0), .val (.int t1), .val (.int t2), .val (.int t3), .unset, .unset, .unset, .unset, .unset] [(.ref b)])
    refine own_dup W40 120 at_119 rfl rfl ?_
    refine own_iconst W40 (2 : Int32) 121 at_120 rfl rfl ?_
    refine own_iload W40 123 at_121 rfl rfl ?_
    refine own_bastore W40 2 124 at_123 V_b (Or.inr o_b) rfl (by decide) rfl ?_
    intro T41 h41 W41 Wr41 V_b
    show own_Go p e below C T41 (mkF m 124 #[.val (.int p1), .val (.int p2), .val (.int p3), .val (.int cr0), .val (.int (3 : Int32)), .val (.int t0), .val (.int t1), .val (.int t2), .val (.int t3), .unset, .unset, .unset, .unset, .unset] [(.ref b)])
    refine own_astore W41 126 #[.val (.int p1), .val (.int p2), .val (.int p3), .val (.int cr0), .val (.int (3 : Int32)), .val (.int t0), .val (.int t1), .val (.int t2), .val (.int t3), .val (.ref b), .unset, .unset, .unset, .unset] at_124 rfl rfl rfl ?_
    refine own_goto W41 154 at_126 (by decide) (by decide) ?_
    refine own_new W41 157 at_154 (wd1 hw) (wd2 hw) (wd3 hw) (by decide) (by decide) rfl ?_
    intro T42 h42 o W42 E42 g_o o_o X_o D_o
    have ne_b_o : b ≠ o := by rw [g_o]; exact Nat.ne_of_lt V_b.lt
    have V_b := V_b.ext E42
    have F_protocol_o : Fld Z h42 o "com/example/redelivery/redelivery/engine/Carriage" "protocol" "Ljava/lang/String;" .null := D_o (Or.inr (wd23 hw)) (ty := (.object "java/lang/String")) (by decide)
    have F_carriesCr_o : Fld Z h42 o "com/example/redelivery/redelivery/engine/Carriage" "carriesCr" "Z" (.int (0 : Int32)) := D_o (Or.inr (wd25 hw)) (ty := .boolean) (by decide)
    have F_maxLength_o : Fld Z h42 o "com/example/redelivery/redelivery/engine/Carriage" "maxLength" "I" (.int (0 : Int32)) := D_o (Or.inr (wd27 hw)) (ty := .int) (by decide)
    show own_Go p e below C T42 (mkF m 157 #[.val (.int p1), .val (.int p2), .val (.int p3), .val (.int cr0), .val (.int (3 : Int32)), .val (.int t0), .val (.int t1), .val (.int t2), .val (.int t3), .val (.ref b), .unset, .unset, .unset, .unset] [(.ref o)])
    refine own_dup W42 158 at_157 rfl rfl ?_
    refine own_ldcS W42 1024 160 at_158 (wd4 hw) (own_strs hw) (by decide) (by decide) (by decide) (by decide) rfl ?_
    intro vm43 n43 T43 h43 sa43 hS43 Z43 W43 E43
    have V_b := V_b.ext E43
    have X_o := X_o.ext E43
    have F_protocol_o := F_protocol_o.ext E43
    have F_carriesCr_o := F_carriesCr_o.ext E43
    have F_maxLength_o := F_maxLength_o.ext E43
    have hC43 : ∀ v L u, own_Fw (s.setVm vm43) [] L → (v = some (.int (1 : Int32)) ∧ n43 ≤ u.heap.size) → FrameEnd (s.setVm vm43) (.returned v) u L room_1.cells room_1.slots → C (.returned v) u := fun v L u q1 q2 q3 => hC v L u vm43 n43 hS43 q2.2 q1 q2.1 q3
    show own_Go p e below C T43 (mkF m 160 #[.val (.int p1), .val (.int p2), .val (.int p3), .val (.int cr0), .val (.int (3 : Int32)), .val (.int t0), .val (.int t1), .val (.int t2), .val (.int t3), .val (.ref b), .unset, .unset, .unset, .unset] [(.ref sa43), (.ref o), (.ref o)])
    refine own_iloadN W43 161 at_160 rfl rfl ?_
    refine own_iloadN W43 162 at_161 rfl rfl ?_
    refine own_callN W43 (A := [(.ref sa43), (.int cr0), (.int p1)]) (wt := 1) (pc' := 165) (st := [(.ref o)]) at_162 rfl (wd11 hw) (wd12 hw) (wd3 hw) (wd13 hw) (by decide) (own_m1 l Z a0 hw [] h43 o sa43 cr0 p1 X_o F_protocol_o F_carriesCr_o F_maxLength_o) (allS (Or.inr o_o) all0) rfl pd_1 rfl (Nat.le_of_eq rfl) (by decide) (by decide) (by decide) (by decide) rfl ?_
    rintro T44 h44 _ W44 K44 P44 ⟨rfl, ⟨F_carriesCr_o, F_maxLength_o⟩⟩
    have V_b := V_b.keep K44 (ninS ne_b_o nin0)
    have X_o := X_o.keep K44
    have Z43 := Nat.le_trans Z43 K44.1
    show own_Go p e below C T44 (mkF m 165 #[.val (.int p1), .val (.int p2), .val (.int p3), .val (.int cr0), .val (.int (3 : Int32)), .val (.int t0), .val (.int t1), .val (.int t2), .val (.int t3), .val (.ref b), .unset, .unset, .unset, .unset] [(.ref o)])
    refine own_astore W44 167 #[.val (.int p1), .val (.int p2), .val (.int p3), .val (.int cr0), .val (.int (3 : Int32)), .val (.int t0), .val (.int t1), .val (.int t2), .val (.int t3), .val (.ref b), .val (.ref o), .unset, .unset, .unset] at_165 rfl rfl rfl ?_
    refine own_aload W44 169 at_167 rfl rfl rfl ?_
    refine own_aload W44 171 at_169 rfl rfl rfl ?_
    refine own_callV W44 (A := [(.ref b)]) (wt := 0) (pc' := 174) (st := []) at_171 (wd28 hw) (wd29 hw) (own_nf W44 (wd31 hw)) (wd31 hw) (wd30 hw) (wd3 hw) (wd32 hw) (by decide) X_o (own_m4 l Z a0 hw [] h44 o b p1 (cr0 &&& 1) 3 (3 : Int32) _ (own_g t0 t1 t2 t3) F_maxLength_o F_carriesCr_o V_b (by intro j hj; rcases own_lt4 (by omega : j < 4) with rfl | rfl | rfl | rfl <;> first | exact congrArg Value.int ht0 | exact congrArg Value.int ht1 | exact congrArg Value.int ht2 | exact congrArg Value.int ht3 | (exfalso; omega)) rfl rfl (by decide)) all0 rfl pd_2 rfl (Nat.le_of_eq rfl) (by decide) (by decide) (by decide) (by decide) rfl ?_
    rintro T45 h45 _ W45 K45 P45 rfl
    rw [P45 rfl rfl] at W45
    show own_Go p e below C T45 (mkF m 174 #[.val (.int p1), .val (.int p2), .val (.int p3), .val (.int cr0), .val (.int (3 : Int32)), .val (.int t0), .val (.int t1), .val (.int t2), .val (.int t3), .val (.ref b), .val (.ref o), .unset, .unset, .unset] [(.int (own_car p1 (3 : Int32) (cr0 &&& 1) (own_cr (own_g t0 t1 t2 t3) 3 0)))])
    refine own_istore W45 176 #[.val (.int p1), .val (.int p2), .val (.int p3), .val (.int cr0), .val (.int (3 : Int32)), .val (.int t0), .val (.int t1), .val (.int t2), .val (.int t3), .val (.ref b), .val (.ref o), .val (.int (own_car p1 (3 : Int32) (cr0 &&& 1) (own_cr (own_g t0 t1 t2 t3) 3 0))), .unset, .unset] at_174 rfl rfl ?_
    refine own_iload W45 178 at_176 rfl rfl ?_
    suffices J46 : own_Go p e below C T45 (mkF m 232 #[.val (.int p1), .val (.int p2), .val (.int p3), .val (.int cr0), .val (.int (3 : Int32)), .val (.int t0), .val (.int t1), .val (.int t2), .val (.int t3), .val (.ref b), .val (.ref o), .val (.int (own_car p1 (3 : Int32) (cr0 &&& 1) (own_cr (own_g t0 t1 t2 t3) 3 0))), .unset, .unset] [(.int (if t0 = (13 : Int32) then (1 : Int32) else (if t1 = (13 : Int32) then (1 : Int32) else (if t2 = (13 : Int32) then (1 : Int32) else (0 : Int32)))))]) by
      refine own_ifN W45 181 at_178 ((if0 _ _).trans (tlt (by decide : (0 : Int32) < (3 : Int32))).2.2.2) rfl ?_
      refine own_iload W45 183 at_181 rfl rfl ?_
      refine own_bipush W45 (13 : Int32) 185 at_183 rfl rfl ?_
      by_cases c47 : t0 = (13 : Int32)
      · refine own_icmpY W45 227 at_185 ((teq c47).1) (by decide) (by decide) ?_
        refine own_iconst W45 (1 : Int32) 228 at_227 rfl rfl ?_
        refine own_goto W45 232 at_228 (by decide) (by decide) ?_
        first | (simp only [if_pos c47] at J46; exact J46) | (simp only [if_pos c47] at J46 ⊢; exact J46)
      · refine own_icmpN W45 188 at_185 ((feq c47).1) rfl ?_
        refine own_iload W45 190 at_188 rfl rfl ?_
        refine own_iconst W45 (1 : Int32) 191 at_190 rfl rfl ?_
        refine own_icmpN W45 194 at_191 ((tlt (by decide : (1 : Int32) < (3 : Int32))).2.2.2) rfl ?_
        refine own_iload W45 196 at_194 rfl rfl ?_
        refine own_bipush W45 (13 : Int32) 198 at_196 rfl rfl ?_
        by_cases c48 : t1 = (13 : Int32)
        · refine own_icmpY W45 227 at_198 ((teq c48).1) (by decide) (by decide) ?_
          refine own_iconst W45 (1 : Int32) 228 at_227 rfl rfl ?_
          refine own_goto W45 232 at_228 (by decide) (by decide) ?_
          first | (simp only [if_neg c47, if_pos c48] at J46; exact J46) | (simp only [if_neg c47, if_pos c48] at J46 ⊢; exact J46)
        · refine own_icmpN W45 201 at_198 ((feq c48).1) rfl ?_
          refine own_iload W45 203 at_201 rfl rfl ?_
          refine own_iconst W45 (2 : Int32) 204 at_203 rfl rfl ?_
          refine own_icmpN W45 207 at_204 ((tlt (by decide : (2 : Int32) < (3 : Int32))).2.2.2) rfl ?_
          refine own_iload W45 209 at_207 rfl rfl ?_
          refine own_bipush W45 (13 : Int32) 211 at_209 rfl rfl ?_
          by_cases c49 : t2 = (13 : Int32)
          · refine own_icmpY W45 227 at_211 ((teq c49).1) (by decide) (by decide) ?_
            refine own_iconst W45 (1 : Int32) 228 at_227 rfl rfl ?_
            refine own_goto W45 232 at_228 (by decide) (by decide) ?_
            first | (simp only [if_neg c47, if_neg c48, if_pos c49] at J46; exact J46) | (simp only [if_neg c47, if_neg c48, if_pos c49] at J46 ⊢; exact J46)
          · refine own_icmpN W45 214 at_211 ((feq c49).1) rfl ?_
            refine own_iload W45 216 at_214 rfl rfl ?_
            refine own_iconst W45 (3 : Int32) 217 at_216 rfl rfl ?_
            refine own_icmpY W45 231 at_217 ((flt (by decide : ¬ ((3 : Int32) < (3 : Int32)))).2.2.2) (by decide) (by decide) ?_
            refine own_iconst W45 (0 : Int32) 232 at_231 rfl rfl ?_
            first | (simp only [if_neg c47, if_neg c48, if_neg c49] at J46; exact J46) | (simp only [if_neg c47, if_neg c48, if_neg c49] at J46 ⊢; exact J46)
    refine own_istore W45 234 #[.val (.int p1), .val (.int p2), .val (.int p3), .val (.int cr0), .val (.int (3 : Int32)), .val (.int t0), .val (.int t1), .val (.int t2), .val (.int t3), .val (.ref b), .val (.ref o), .val (.int (own_car p1 (3 : Int32) (cr0 &&& 1) (own_cr (own_g t0 t1 t2 t3) 3 0))), .val (.int (if t0 = (13 : Int32) then (1 : Int32) else (if t1 = (13 : Int32) then (1 : Int32) else (if t2 = (13 : Int32) then (1 : Int32) else (0 : Int32))))), .unset] at_232 rfl rfl ?_
    refine own_iload W45 236 at_234 rfl rfl ?_
    refine own_iloadN W45 237 at_236 rfl rfl ?_
    suffices J50 : own_Go p e below C T45 (mkF m 254 #[.val (.int p1), .val (.int p2), .val (.int p3), .val (.int cr0), .val (.int (3 : Int32)), .val (.int t0), .val (.int t1), .val (.int t2), .val (.int t3), .val (.ref b), .val (.ref o), .val (.int (own_car p1 (3 : Int32) (cr0 &&& 1) (own_cr (own_g t0 t1 t2 t3) 3 0))), .val (.int (if t0 = (13 : Int32) then (1 : Int32) else (if t1 = (13 : Int32) then (1 : Int32) else (if t2 = (13 : Int32) then (1 : Int32) else (0 : Int32))))), .unset] [(.int (if p1 < (3 : Int32) then (0 : Int32) else (if cr0 = (0 : Int32) then (if (if t0 = (13 : Int32) then (1 : Int32) else (if t1 = (13 : Int32) then (1 : Int32) else (if t2 = (13 : Int32) then (1 : Int32) else (0 : Int32)))) = (0 : Int32) then (1 : Int32) else (0 : Int32)) else (1 : Int32))))]) by
      by_cases c51 : p1 < (3 : Int32)
      · refine own_icmpY W45 253 at_237 ((tlt c51).2.2.1) (by decide) (by decide) ?_
        refine own_iconst W45 (0 : Int32) 254 at_253 rfl rfl ?_
        first | (simp only [if_pos c51] at J50; exact J50) | (simp only [if_pos c51] at J50 ⊢; exact J50)
      · refine own_icmpN W45 240 at_237 ((flt c51).2.2.1) rfl ?_
        refine own_iloadN W45 241 at_240 rfl rfl ?_
        by_cases c52 : cr0 = (0 : Int32)
        · refine own_ifN W45 244 at_241 ((if0 _ _).trans (teq c52).2) rfl ?_
          refine own_iload W45 246 at_244 rfl rfl ?_
          by_cases c53 : (if t0 = (13 : Int32) then (1 : Int32) else (if t1 = (13 : Int32) then (1 : Int32) else (if t2 = (13 : Int32) then (1 : Int32) else (0 : Int32)))) = (0 : Int32)
          · refine own_ifN W45 249 at_246 ((if0 _ _).trans (teq c53).2) rfl ?_
            refine own_iconst W45 (1 : Int32) 250 at_249 rfl rfl ?_
            refine own_goto W45 254 at_250 (by decide) (by decide) ?_
            first | (simp only [if_neg c51, if_pos c52, if_pos c53] at J50; exact J50) | (simp only [if_neg c51, if_pos c52, if_pos c53] at J50 ⊢; exact J50)
          · refine own_ifY W45 253 at_246 ((if0 _ _).trans (feq c53).2) (by decide) (by decide) ?_
            refine own_iconst W45 (0 : Int32) 254 at_253 rfl rfl ?_
            first | (simp only [if_neg c51, if_pos c52, if_neg c53] at J50; exact J50) | (simp only [if_neg c51, if_pos c52, if_neg c53] at J50 ⊢; exact J50)
        · refine own_ifY W45 249 at_241 ((if0 _ _).trans (feq c52).2) (by decide) (by decide) ?_
          refine own_iconst W45 (1 : Int32) 250 at_249 rfl rfl ?_
          refine own_goto W45 254 at_250 (by decide) (by decide) ?_
          first | (simp only [if_neg c51, if_neg c52] at J50; exact J50) | (simp only [if_neg c51, if_neg c52] at J50 ⊢; exact J50)
    refine own_istore W45 256 #[.val (.int p1), .val (.int p2), .val (.int p3), .val (.int cr0), .val (.int (3 : Int32)), .val (.int t0), .val (.int t1), .val (.int t2), .val (.int t3), .val (.ref b), .val (.ref o), .val (.int (own_car p1 (3 : Int32) (cr0 &&& 1) (own_cr (own_g t0 t1 t2 t3) 3 0))), .val (.int (if t0 = (13 : Int32) then (1 : Int32) else (if t1 = (13 : Int32) then (1 : Int32) else (if t2 = (13 : Int32) then (1 : Int32) else (0 : Int32))))), .val (.int (if p1 < (3 : Int32) then (0 : Int32) else (if cr0 = (0 : Int32) then (if (if t0 = (13 : Int32) then (1 : Int32) else (if t1 = (13 : Int32) then (1 : Int32) else (if t2 = (13 : Int32) then (1 : Int32) else (0 : Int32)))) = (0 : Int32) then (1 : Int32) else (0 : Int32)) else (1 : Int32))))] at_254 rfl rfl ?_
    refine own_iload W45 258 at_256 rfl rfl ?_
    refine own_iload W45 260 at_258 rfl rfl ?_
    refine own_icmpN W45 263 at_260 ((teq (own_fin3 p1 cr0 t0 t1 t2 t3 hcr : (own_car p1 (3 : Int32) (cr0 &&& 1) (own_cr (own_g t0 t1 t2 t3) 3 0)) = (if p1 < (3 : Int32) then (0 : Int32) else (if cr0 = (0 : Int32) then (if (if t0 = (13 : Int32) then (1 : Int32) else (if t1 = (13 : Int32) then (1 : Int32) else (if t2 = (13 : Int32) then (1 : Int32) else (0 : Int32)))) = (0 : Int32) then (1 : Int32) else (0 : Int32)) else (1 : Int32))))).2) rfl ?_
    refine own_iconst W45 (1 : Int32) 264 at_263 rfl rfl ?_
    refine own_goto W45 268 at_264 (by decide) (by decide) ?_
    refine own_retZ (Q := fun v h => v = some (.int (1 : Int32)) ∧ n43 ≤ h.size) W45 hC43 (by decide) (by decide) at_268 ?_
    exact ⟨rfl, Z43⟩
  · obtain rfl : off = (4 : Int32) := own_ofN hk (by decide)
    show own_Go p e below C T0 (mkF m 46 #[.val (.int p1), .val (.int p2), .val (.int p3), .val (.int cr0), .val (.int (4 : Int32)), .val (.int t0), .val (.int t1), .val (.int t2), .val (.int t3), .unset, .unset, .unset, .unset, .unset] [(.int (4 : Int32))])
    refine own_ifY W0 57 at_46 ((if0 _ _).trans (feq (by decide : ¬ ((4 : Int32) = (0 : Int32)))).2) (by decide) (by decide) ?_
    refine own_iload W0 59 at_57 rfl rfl ?_
    refine own_iconst W0 (1 : Int32) 60 at_59 rfl rfl ?_
    refine own_icmpY W0 76 at_60 ((feq (by decide : ¬ ((4 : Int32) = (1 : Int32)))).2) (by decide) (by decide) ?_
    refine own_iload W0 78 at_76 rfl rfl ?_
    refine own_iconst W0 (2 : Int32) 79 at_78 rfl rfl ?_
    refine own_icmpY W0 100 at_79 ((feq (by decide : ¬ ((4 : Int32) = (2 : Int32)))).2) (by decide) (by decide) ?_
    refine own_iload W0 102 at_100 rfl rfl ?_
    refine own_iconst W0 (3 : Int32) 103 at_102 rfl rfl ?_
    refine own_icmpY W0 129 at_103 ((feq (by decide : ¬ ((4 : Int32) = (3 : Int32)))).2) (by decide) (by decide) ?_
    refine own_iconst W0 (4 : Int32) 130 at_129 rfl rfl ?_
    refine own_newarray W0 4 4 132 at_130 (wd0 hw) rfl (Nat.le_refl _) (by decide) (by decide) (by decide) rfl ?_
    intro T54 h54 b W54 E54 g_b o_b V_b
    show own_Go p e below C T54 (mkF m 132 #[.val (.int p1), .val (.int p2), .val (.int p3), .val (.int cr0), .val (.int (4 : Int32)), .val (.int t0), .val (.int t1), .val (.int t2), .val (.int t3), .unset, .unset, .unset, .unset, .unset] [(.ref b)])
    refine own_dup W54 133 at_132 rfl rfl ?_
    refine own_iconst W54 (0 : Int32) 134 at_133 rfl rfl ?_
    refine own_iload W54 136 at_134 rfl rfl ?_
    refine own_bastore W54 0 137 at_136 V_b (Or.inr o_b) rfl (by decide) rfl ?_
    intro T55 h55 W55 Wr55 V_b
    show own_Go p e below C T55 (mkF m 137 #[.val (.int p1), .val (.int p2), .val (.int p3), .val (.int cr0), .val (.int (4 : Int32)), .val (.int t0), .val (.int t1), .val (.int t2), .val (.int t3), .unset, .unset, .unset, .unset, .unset] [(.ref b)])
    refine own_dup W55 138 at_137 rfl rfl ?_
    refine own_iconst W55 (1 : Int32) 139 at_138 rfl rfl ?_
    refine own_iload W55 141 at_139 rfl rfl ?_
    refine own_bastore W55 1 142 at_141 V_b (Or.inr o_b) rfl (by decide) rfl ?_
    intro T56 h56 W56 Wr56 V_b
    show own_Go p e below C T56 (mkF m 142 #[.val (.int p1), .val (.int p2), .val (.int p3), .val (.int cr0), .val (.int (4 : Int32)), .val (.int t0), .val (.int t1), .val (.int t2), .val (.int t3), .unset, .unset, .unset, .unset, .unset] [(.ref b)])
    refine own_dup W56 143 at_142 rfl rfl ?_
    refine own_iconst W56 (2 : Int32) 144 at_143 rfl rfl ?_
    refine own_iload W56 146 at_144 rfl rfl ?_
    refine own_bastore W56 2 147 at_146 V_b (Or.inr o_b) rfl (by decide) rfl ?_
    intro T57 h57 W57 Wr57 V_b
    show own_Go p e below C T57 (mkF m 147 #[.val (.int p1), .val (.int p2), .val (.int p3), .val (.int cr0), .val (.int (4 : Int32)), .val (.int t0), .val (.int t1), .val (.int t2), .val (.int t3), .unset, .unset, .unset, .unset, .unset] [(.ref b)])
    refine own_dup W57 148 at_147 rfl rfl ?_
    refine own_iconst W57 (3 : Int32) 149 at_148 rfl rfl ?_
    refine own_iload W57 151 at_149 rfl rfl ?_
    refine own_bastore W57 3 152 at_151 V_b (Or.inr o_b) rfl (by decide) rfl ?_
    intro T58 h58 W58 Wr58 V_b
    show own_Go p e below C T58 (mkF m 152 #[.val (.int p1), .val (.int p2), .val (.int p3), .val (.int cr0), .val (.int (4 : Int32)), .val (.int t0), .val (.int t1), .val (.int t2), .val (.int t3), .unset, .unset, .unset, .unset, .unset] [(.ref b)])
    refine own_astore W58 154 #[.val (.int p1), .val (.int p2), .val (.int p3), .val (.int cr0), .val (.int (4 : Int32)), .val (.int t0), .val (.int t1), .val (.int t2), .val (.int t3), .val (.ref b), .unset, .unset, .unset, .unset] at_152 rfl rfl rfl ?_
    refine own_new W58 157 at_154 (wd1 hw) (wd2 hw) (wd3 hw) (by decide) (by decide) rfl ?_
    intro T59 h59 o W59 E59 g_o o_o X_o D_o
    have ne_b_o : b ≠ o := by rw [g_o]; exact Nat.ne_of_lt V_b.lt
    have V_b := V_b.ext E59
    have F_protocol_o : Fld Z h59 o "com/example/redelivery/redelivery/engine/Carriage" "protocol" "Ljava/lang/String;" .null := D_o (Or.inr (wd23 hw)) (ty := (.object "java/lang/String")) (by decide)
    have F_carriesCr_o : Fld Z h59 o "com/example/redelivery/redelivery/engine/Carriage" "carriesCr" "Z" (.int (0 : Int32)) := D_o (Or.inr (wd25 hw)) (ty := .boolean) (by decide)
    have F_maxLength_o : Fld Z h59 o "com/example/redelivery/redelivery/engine/Carriage" "maxLength" "I" (.int (0 : Int32)) := D_o (Or.inr (wd27 hw)) (ty := .int) (by decide)
    show own_Go p e below C T59 (mkF m 157 #[.val (.int p1), .val (.int p2), .val (.int p3), .val (.int cr0), .val (.int (4 : Int32)), .val (.int t0), .val (.int t1), .val (.int t2), .val (.int t3), .val (.ref b), .unset, .unset, .unset, .unset] [(.ref o)])
    refine own_dup W59 158 at_157 rfl rfl ?_
    refine own_ldcS W59 1024 160 at_158 (wd4 hw) (own_strs hw) (by decide) (by decide) (by decide) (by decide) rfl ?_
    intro vm60 n60 T60 h60 sa60 hS60 Z60 W60 E60
    have V_b := V_b.ext E60
    have X_o := X_o.ext E60
    have F_protocol_o := F_protocol_o.ext E60
    have F_carriesCr_o := F_carriesCr_o.ext E60
    have F_maxLength_o := F_maxLength_o.ext E60
    have hC60 : ∀ v L u, own_Fw (s.setVm vm60) [] L → (v = some (.int (1 : Int32)) ∧ n60 ≤ u.heap.size) → FrameEnd (s.setVm vm60) (.returned v) u L room_1.cells room_1.slots → C (.returned v) u := fun v L u q1 q2 q3 => hC v L u vm60 n60 hS60 q2.2 q1 q2.1 q3
    show own_Go p e below C T60 (mkF m 160 #[.val (.int p1), .val (.int p2), .val (.int p3), .val (.int cr0), .val (.int (4 : Int32)), .val (.int t0), .val (.int t1), .val (.int t2), .val (.int t3), .val (.ref b), .unset, .unset, .unset, .unset] [(.ref sa60), (.ref o), (.ref o)])
    refine own_iloadN W60 161 at_160 rfl rfl ?_
    refine own_iloadN W60 162 at_161 rfl rfl ?_
    refine own_callN W60 (A := [(.ref sa60), (.int cr0), (.int p1)]) (wt := 1) (pc' := 165) (st := [(.ref o)]) at_162 rfl (wd11 hw) (wd12 hw) (wd3 hw) (wd13 hw) (by decide) (own_m1 l Z a0 hw [] h60 o sa60 cr0 p1 X_o F_protocol_o F_carriesCr_o F_maxLength_o) (allS (Or.inr o_o) all0) rfl pd_1 rfl (Nat.le_of_eq rfl) (by decide) (by decide) (by decide) (by decide) rfl ?_
    rintro T61 h61 _ W61 K61 P61 ⟨rfl, ⟨F_carriesCr_o, F_maxLength_o⟩⟩
    have V_b := V_b.keep K61 (ninS ne_b_o nin0)
    have X_o := X_o.keep K61
    have Z60 := Nat.le_trans Z60 K61.1
    show own_Go p e below C T61 (mkF m 165 #[.val (.int p1), .val (.int p2), .val (.int p3), .val (.int cr0), .val (.int (4 : Int32)), .val (.int t0), .val (.int t1), .val (.int t2), .val (.int t3), .val (.ref b), .unset, .unset, .unset, .unset] [(.ref o)])
    refine own_astore W61 167 #[.val (.int p1), .val (.int p2), .val (.int p3), .val (.int cr0), .val (.int (4 : Int32)), .val (.int t0), .val (.int t1), .val (.int t2), .val (.int t3), .val (.ref b), .val (.ref o), .unset, .unset, .unset] at_165 rfl rfl rfl ?_
    refine own_aload W61 169 at_167 rfl rfl rfl ?_
    refine own_aload W61 171 at_169 rfl rfl rfl ?_
    refine own_callV W61 (A := [(.ref b)]) (wt := 0) (pc' := 174) (st := []) at_171 (wd28 hw) (wd29 hw) (own_nf W61 (wd31 hw)) (wd31 hw) (wd30 hw) (wd3 hw) (wd32 hw) (by decide) X_o (own_m4 l Z a0 hw [] h61 o b p1 (cr0 &&& 1) 4 (4 : Int32) _ (own_g t0 t1 t2 t3) F_maxLength_o F_carriesCr_o V_b (by intro j hj; rcases own_lt4 (by omega : j < 4) with rfl | rfl | rfl | rfl <;> first | exact congrArg Value.int ht0 | exact congrArg Value.int ht1 | exact congrArg Value.int ht2 | exact congrArg Value.int ht3 | (exfalso; omega)) rfl rfl (by decide)) all0 rfl pd_2 rfl (Nat.le_of_eq rfl) (by decide) (by decide) (by decide) (by decide) rfl ?_
    rintro T62 h62 _ W62 K62 P62 rfl
    rw [P62 rfl rfl] at W62
    show own_Go p e below C T62 (mkF m 174 #[.val (.int p1), .val (.int p2), .val (.int p3), .val (.int cr0), .val (.int (4 : Int32)), .val (.int t0), .val (.int t1), .val (.int t2), .val (.int t3), .val (.ref b), .val (.ref o), .unset, .unset, .unset] [(.int (own_car p1 (4 : Int32) (cr0 &&& 1) (own_cr (own_g t0 t1 t2 t3) 4 0)))])
    refine own_istore W62 176 #[.val (.int p1), .val (.int p2), .val (.int p3), .val (.int cr0), .val (.int (4 : Int32)), .val (.int t0), .val (.int t1), .val (.int t2), .val (.int t3), .val (.ref b), .val (.ref o), .val (.int (own_car p1 (4 : Int32) (cr0 &&& 1) (own_cr (own_g t0 t1 t2 t3) 4 0))), .unset, .unset] at_174 rfl rfl ?_
    refine own_iload W62 178 at_176 rfl rfl ?_
    suffices J63 : own_Go p e below C T62 (mkF m 232 #[.val (.int p1), .val (.int p2), .val (.int p3), .val (.int cr0), .val (.int (4 : Int32)), .val (.int t0), .val (.int t1), .val (.int t2), .val (.int t3), .val (.ref b), .val (.ref o), .val (.int (own_car p1 (4 : Int32) (cr0 &&& 1) (own_cr (own_g t0 t1 t2 t3) 4 0))), .unset, .unset] [(.int (if t0 = (13 : Int32) then (1 : Int32) else (if t1 = (13 : Int32) then (1 : Int32) else (if t2 = (13 : Int32) then (1 : Int32) else (if t3 = (13 : Int32) then (1 : Int32) else (0 : Int32))))))]) by
      refine own_ifN W62 181 at_178 ((if0 _ _).trans (tlt (by decide : (0 : Int32) < (4 : Int32))).2.2.2) rfl ?_
      refine own_iload W62 183 at_181 rfl rfl ?_
      refine own_bipush W62 (13 : Int32) 185 at_183 rfl rfl ?_
      by_cases c64 : t0 = (13 : Int32)
      · refine own_icmpY W62 227 at_185 ((teq c64).1) (by decide) (by decide) ?_
        refine own_iconst W62 (1 : Int32) 228 at_227 rfl rfl ?_
        refine own_goto W62 232 at_228 (by decide) (by decide) ?_
        first | (simp only [if_pos c64] at J63; exact J63) | (simp only [if_pos c64] at J63 ⊢; exact J63)
      · refine own_icmpN W62 188 at_185 ((feq c64).1) rfl ?_
        refine own_iload W62 190 at_188 rfl rfl ?_
        refine own_iconst W62 (1 : Int32) 191 at_190 rfl rfl ?_
        refine own_icmpN W62 194 at_191 ((tlt (by decide : (1 : Int32) < (4 : Int32))).2.2.2) rfl ?_
        refine own_iload W62 196 at_194 rfl rfl ?_
        refine own_bipush W62 (13 : Int32) 198 at_196 rfl rfl ?_
        by_cases c65 : t1 = (13 : Int32)
        · refine own_icmpY W62 227 at_198 ((teq c65).1) (by decide) (by decide) ?_
          refine own_iconst W62 (1 : Int32) 228 at_227 rfl rfl ?_
          refine own_goto W62 232 at_228 (by decide) (by decide) ?_
          first | (simp only [if_neg c64, if_pos c65] at J63; exact J63) | (simp only [if_neg c64, if_pos c65] at J63 ⊢; exact J63)
        · refine own_icmpN W62 201 at_198 ((feq c65).1) rfl ?_
          refine own_iload W62 203 at_201 rfl rfl ?_
          refine own_iconst W62 (2 : Int32) 204 at_203 rfl rfl ?_
          refine own_icmpN W62 207 at_204 ((tlt (by decide : (2 : Int32) < (4 : Int32))).2.2.2) rfl ?_
          refine own_iload W62 209 at_207 rfl rfl ?_
          refine own_bipush W62 (13 : Int32) 211 at_209 rfl rfl ?_
          by_cases c66 : t2 = (13 : Int32)
          · refine own_icmpY W62 227 at_211 ((teq c66).1) (by decide) (by decide) ?_
            refine own_iconst W62 (1 : Int32) 228 at_227 rfl rfl ?_
            refine own_goto W62 232 at_228 (by decide) (by decide) ?_
            first | (simp only [if_neg c64, if_neg c65, if_pos c66] at J63; exact J63) | (simp only [if_neg c64, if_neg c65, if_pos c66] at J63 ⊢; exact J63)
          · refine own_icmpN W62 214 at_211 ((feq c66).1) rfl ?_
            refine own_iload W62 216 at_214 rfl rfl ?_
            refine own_iconst W62 (3 : Int32) 217 at_216 rfl rfl ?_
            refine own_icmpN W62 220 at_217 ((tlt (by decide : (3 : Int32) < (4 : Int32))).2.2.2) rfl ?_
            refine own_iload W62 222 at_220 rfl rfl ?_
            refine own_bipush W62 (13 : Int32) 224 at_222 rfl rfl ?_
            by_cases c67 : t3 = (13 : Int32)
            · refine own_icmpN W62 227 at_224 ((teq c67).2) rfl ?_
              refine own_iconst W62 (1 : Int32) 228 at_227 rfl rfl ?_
              refine own_goto W62 232 at_228 (by decide) (by decide) ?_
              first | (simp only [if_neg c64, if_neg c65, if_neg c66, if_pos c67] at J63; exact J63) | (simp only [if_neg c64, if_neg c65, if_neg c66, if_pos c67] at J63 ⊢; exact J63)
            · refine own_icmpY W62 231 at_224 ((feq c67).2) (by decide) (by decide) ?_
              refine own_iconst W62 (0 : Int32) 232 at_231 rfl rfl ?_
              first | (simp only [if_neg c64, if_neg c65, if_neg c66, if_neg c67] at J63; exact J63) | (simp only [if_neg c64, if_neg c65, if_neg c66, if_neg c67] at J63 ⊢; exact J63)
    refine own_istore W62 234 #[.val (.int p1), .val (.int p2), .val (.int p3), .val (.int cr0), .val (.int (4 : Int32)), .val (.int t0), .val (.int t1), .val (.int t2), .val (.int t3), .val (.ref b), .val (.ref o), .val (.int (own_car p1 (4 : Int32) (cr0 &&& 1) (own_cr (own_g t0 t1 t2 t3) 4 0))), .val (.int (if t0 = (13 : Int32) then (1 : Int32) else (if t1 = (13 : Int32) then (1 : Int32) else (if t2 = (13 : Int32) then (1 : Int32) else (if t3 = (13 : Int32) then (1 : Int32) else (0 : Int32)))))), .unset] at_232 rfl rfl ?_
    refine own_iload W62 236 at_234 rfl rfl ?_
    refine own_iloadN W62 237 at_236 rfl rfl ?_
    suffices J68 : own_Go p e below C T62 (mkF m 254 #[.val (.int p1), .val (.int p2), .val (.int p3), .val (.int cr0), .val (.int (4 : Int32)), .val (.int t0), .val (.int t1), .val (.int t2), .val (.int t3), .val (.ref b), .val (.ref o), .val (.int (own_car p1 (4 : Int32) (cr0 &&& 1) (own_cr (own_g t0 t1 t2 t3) 4 0))), .val (.int (if t0 = (13 : Int32) then (1 : Int32) else (if t1 = (13 : Int32) then (1 : Int32) else (if t2 = (13 : Int32) then (1 : Int32) else (if t3 = (13 : Int32) then (1 : Int32) else (0 : Int32)))))), .unset] [(.int (if p1 < (4 : Int32) then (0 : Int32) else (if cr0 = (0 : Int32) then (if (if t0 = (13 : Int32) then (1 : Int32) else (if t1 = (13 : Int32) then (1 : Int32) else (if t2 = (13 : Int32) then (1 : Int32) else (if t3 = (13 : Int32) then (1 : Int32) else (0 : Int32))))) = (0 : Int32) then (1 : Int32) else (0 : Int32)) else (1 : Int32))))]) by
      by_cases c69 : p1 < (4 : Int32)
      · refine own_icmpY W62 253 at_237 ((tlt c69).2.2.1) (by decide) (by decide) ?_
        refine own_iconst W62 (0 : Int32) 254 at_253 rfl rfl ?_
        first | (simp only [if_pos c69] at J68; exact J68) | (simp only [if_pos c69] at J68 ⊢; exact J68)
      · refine own_icmpN W62 240 at_237 ((flt c69).2.2.1) rfl ?_
        refine own_iloadN W62 241 at_240 rfl rfl ?_
        by_cases c70 : cr0 = (0 : Int32)
        · refine own_ifN W62 244 at_241 ((if0 _ _).trans (teq c70).2) rfl ?_
          refine own_iload W62 246 at_244 rfl rfl ?_
          by_cases c71 : (if t0 = (13 : Int32) then (1 : Int32) else (if t1 = (13 : Int32) then (1 : Int32) else (if t2 = (13 : Int32) then (1 : Int32) else (if t3 = (13 : Int32) then (1 : Int32) else (0 : Int32))))) = (0 : Int32)
          · refine own_ifN W62 249 at_246 ((if0 _ _).trans (teq c71).2) rfl ?_
            refine own_iconst W62 (1 : Int32) 250 at_249 rfl rfl ?_
            refine own_goto W62 254 at_250 (by decide) (by decide) ?_
            first | (simp only [if_neg c69, if_pos c70, if_pos c71] at J68; exact J68) | (simp only [if_neg c69, if_pos c70, if_pos c71] at J68 ⊢; exact J68)
          · refine own_ifY W62 253 at_246 ((if0 _ _).trans (feq c71).2) (by decide) (by decide) ?_
            refine own_iconst W62 (0 : Int32) 254 at_253 rfl rfl ?_
            first | (simp only [if_neg c69, if_pos c70, if_neg c71] at J68; exact J68) | (simp only [if_neg c69, if_pos c70, if_neg c71] at J68 ⊢; exact J68)
        · refine own_ifY W62 249 at_241 ((if0 _ _).trans (feq c70).2) (by decide) (by decide) ?_
          refine own_iconst W62 (1 : Int32) 250 at_249 rfl rfl ?_
          refine own_goto W62 254 at_250 (by decide) (by decide) ?_
          first | (simp only [if_neg c69, if_neg c70] at J68; exact J68) | (simp only [if_neg c69, if_neg c70] at J68 ⊢; exact J68)
    refine own_istore W62 256 #[.val (.int p1), .val (.int p2), .val (.int p3), .val (.int cr0), .val (.int (4 : Int32)), .val (.int t0), .val (.int t1), .val (.int t2), .val (.int t3), .val (.ref b), .val (.ref o), .val (.int (own_car p1 (4 : Int32) (cr0 &&& 1) (own_cr (own_g t0 t1 t2 t3) 4 0))), .val (.int (if t0 = (13 : Int32) then (1 : Int32) else (if t1 = (13 : Int32) then (1 : Int32) else (if t2 = (13 : Int32) then (1 : Int32) else (if t3 = (13 : Int32) then (1 : Int32) else (0 : Int32)))))), .val (.int (if p1 < (4 : Int32) then (0 : Int32) else (if cr0 = (0 : Int32) then (if (if t0 = (13 : Int32) then (1 : Int32) else (if t1 = (13 : Int32) then (1 : Int32) else (if t2 = (13 : Int32) then (1 : Int32) else (if t3 = (13 : Int32) then (1 : Int32) else (0 : Int32))))) = (0 : Int32) then (1 : Int32) else (0 : Int32)) else (1 : Int32))))] at_254 rfl rfl ?_
    refine own_iload W62 258 at_256 rfl rfl ?_
    refine own_iload W62 260 at_258 rfl rfl ?_
    refine own_icmpN W62 263 at_260 ((teq (own_fin4 p1 cr0 t0 t1 t2 t3 hcr : (own_car p1 (4 : Int32) (cr0 &&& 1) (own_cr (own_g t0 t1 t2 t3) 4 0)) = (if p1 < (4 : Int32) then (0 : Int32) else (if cr0 = (0 : Int32) then (if (if t0 = (13 : Int32) then (1 : Int32) else (if t1 = (13 : Int32) then (1 : Int32) else (if t2 = (13 : Int32) then (1 : Int32) else (if t3 = (13 : Int32) then (1 : Int32) else (0 : Int32))))) = (0 : Int32) then (1 : Int32) else (0 : Int32)) else (1 : Int32))))).2) rfl ?_
    refine own_iconst W62 (1 : Int32) 264 at_263 rfl rfl ?_
    refine own_goto W62 268 at_264 (by decide) (by decide) ?_
    refine own_retZ (Q := fun v h => v = some (.int (1 : Int32)) ∧ n60 ≤ h.size) W62 hC60 (by decide) (by decide) at_268 ?_
    exact ⟨rfl, Z60⟩
set_option maxRecDepth 65536 in
set_option maxHeartbeats 40000000 in
theorem comes_1 {Post : Tables → Env → Array Value → State → Outcome → State → Prop} (hpost : ∀ tb e args s v u, (limb_1_1.after args s (.returned v) u = true ∧ limb_1_2.after args s (.returned v) u = true ∧ True) → ReturnedEndW s (.returned v) u (Jvm.fieldLocs frame_1_writes args s ++ Jvm.arrayLocs frame_1_arrays args s ++ Jvm.staticLocs frame_1_statics s) 16 1152 → Post tb e args s (.returned v) u) :
    ArmFor flags0 classFile x code maxLocals ret World_1 tables_1 room_1 Calls_1 rest_1 Pre_1 Post := by
  intro l hfl _ _ p e ha hc hk s m args below hf hA hF happ hP
  obtain ⟨hcalls, hrest, hpre⟩ := hP
  obtain ⟨-, -, -, hnamed, -, -, -, hat⟩ := (Spec.applies_iff hf).mp happ
  obtain ⟨hg, hn⟩ := and_e (Cond.before_iff.mp (show (Jvm.Cond.and given_1 narrow_1).before args s = true from hpre))
  obtain ⟨g1, g2⟩ := and_e hg
  obtain ⟨g3, g4⟩ := and_e g2
  obtain ⟨g5, g6⟩ := and_e g4
  obtain ⟨w0, w1, w2, rfl⟩ : ∃ w0 w1 w2 : Value, args = #[w0, w1, w2] := by
    have hs : args.size = 3 := by simpa [Cond.value, given_1] using g1
    obtain ⟨L⟩ := args
    match L, hs with
    | [w0, w1, w2], _ => exact ⟨w0, w1, w2, rfl⟩
  have hw := fun d (hd : d ∈ tables_1) => atoms_spec (ws := Jvm.Cond.code x code maxLocals ret :: tables_1) hat d (List.mem_cons_of_mem _ hd)
  have hfit : Fit s := fun {y c} hc i hi => by
    obtain ⟨ha, rfl⟩ := Array.getElem?_eq_some_iff.mp hc
    have q := List.all_eq_true.mp ((Array.all_eq_true_iff_forall_mem.mp hF) _ (Array.getElem_mem ha)) i (List.mem_range.mpr hi)
    simpa [Array.getElem?_eq_getElem hi] using q
  obtain ⟨i0, ei0⟩ := is_v g3
  obtain rfl : w0 = (.int i0) := Option.some.inj ei0
  obtain ⟨i1, ei1⟩ := is_v g5
  obtain rfl : w1 = (.int i1) := Option.some.inj ei1
  obtain ⟨i2, ei2⟩ := is_v g6
  obtain rfl : w2 = (.int i2) := Option.some.inj ei2
  obtain ⟨n, o, h1, h2, h3, _, L, rfl, ⟨N, rfl⟩, hq⟩ := own_m0 l s _ hw tables_1 s.heap i0 i1 i2  p e ha hc hk s m _ below hf ((Spec.applies_iff_loose hf).mp happ).1 ⟨rfl, State.Warmed39.refl s, rfl⟩ trivial
  refine ⟨n, _, h1, h2, h3, hpost _ _ _ _ _ _ ⟨Cond.after_iff.mpr rfl, Cond.after_iff.mpr (eq_i res_at (Term.int_eval (1)) rfl), trivial⟩ ⟨hq.1, hq.2.1, hq.2.2.1, (hq.2.2.2.sift fun y hy => Or.inr (N y hy)).mono (by decide) (by decide)⟩⟩
theorem main_1_1 : Claimed_1_1 := comes_1 fun _ _ _ _ _ _ h hF => ⟨h.1, hF⟩
theorem main_1_2 : Claimed_1_2 := comes_1 fun _ _ _ _ _ _ h hF => ⟨h.2.1, hF⟩
end Jvm.Pilot.@@N@@
namespace Jvm.Pilot.@@N@@
open Jvm Jvm.ClassFile Sem Op Lib Jvm.Free Jvm.Stand Jvm.Pilot.@@N@@.Jvm.D
/-! MADE BY PROGRAM (witnessworld.py) out of the Statement's table words and the real class files: 15 classes; the members and pool entries that the words name. The judged class is class 1, her method 1. -/
namespace start1
open Jvm.ClassFile
def u (s : String) : CpInfo := .utf8 (stringToUtf16 s)
/-- a pool by its gaps: so many unusable entries, then the entry; so many at the end -/
def gap : Nat → List CpInfo → List CpInfo
  | 0, r => r
  | n + 1, r => .unusable :: gap n r
def poolList (es : List (Nat × CpInfo)) (last : Nat) : List CpInfo := es.foldr (fun e r => gap e.1 (e.2 :: r)) (gap last [])
def pool (es : List (Nat × CpInfo)) (last : Nat) : Array CpInfo := ⟨poolList es last⟩
def fileOf (pool : Array CpInfo) (this : Nat) (attrs : Array Attribute := #[]) (ms : Array MethodInfo := #[]) (fl : Nat := 33) (sup : Nat := 0) (ifs : Array Nat := #[]) (fds : Array FieldInfo := #[]) : ClassFile where
  minorVersion := 0
  majorVersion := 65
  constantPool := pool
  accessFlags := fl
  thisClass := this
  superClass := sup
  interfaces := ifs
  fields := fds
  methods := ms
  attributes := attrs
def plain (name : String) (sup : Option ClassId) : Class where
  name := name
  kind := .ordinary
  loader := none
  accessFlags := 33
  super := sup
  interfaces := #[]
  cf := none
  fields := #[]
  methods := #[]
  instanceTypes := #[]
  staticTypes := #[]
  resolved := #[]
  callSites := []
  init := .initialized
  statics := none
  mirror := none

def pool0 : Array CpInfo := pool [(5, u "<init>"), (0, u "()V"), (1, .class_ 10), (1, u "java/lang/Object")] 113

def k0c0 : Code := { maxStack := 0, maxLocals := 1, code := object_method_1_code, exceptionTable := #[], attributes := #[] }
def k0m0 : Method := { name := "<init>", desc := "()V", sig := { parameters := [], returnType := none }, accessFlags := 1, code := some k0c0 }
/-- java/lang/Object -/
def k0 : Class := { plain "java/lang/Object" none with
  accessFlags := 33
  interfaces := #[]
  cf := some (fileOf pool0 8 #[] #[{ accessFlags := 1, nameIndex := 5, descriptorIndex := 6, attributes := #[] }] 33 0 #[] #[])
  fields := #[]
  methods := #[k0m0]
  instanceTypes := #[]
  staticTypes := #[]
  resolved := Array.replicate 124 none
  statics := none }

def pool1 : Array CpInfo := pool [(2, .class_ 4), (1, u "java/lang/Object"), (0, u "<init>"), (0, u "()V"), (0, .class_ 8), (0, u "com/example/redelivery/redelivery/engine/Carriage"), (0, .string 10), (0, u "p"), (0, .methodref 7 12), (0, .nameAndType 5 13), (0, u "(Ljava/lang/String;ZI)V"), (0, .methodref 7 15), (0, .nameAndType 16 17), (0, u "carries"), (0, u "([B)Z"), (0, .class_ 19), (0, u "com/example/redelivery/redelivery/engine/CarriageCarriesPinLaw"), (2, u "law"), (0, u "(III)Z")] 5

def k1m0 : Method := { name := "<init>", desc := "()V", sig := { parameters := [], returnType := none }, accessFlags := 1, code := none }
def k1c1 : Code := { maxStack := 5, maxLocals := 14, code := code, exceptionTable := #[], attributes := #[] }
def k1m1 : Method := { name := "law", desc := "(III)Z", sig := { parameters := [.int, .int, .int], returnType := some .boolean }, accessFlags := 9, code := some k1c1 }
/-- com/example/redelivery/redelivery/engine/CarriageCarriesPinLaw -/
def k1 : Class := { plain "com/example/redelivery/redelivery/engine/CarriageCarriesPinLaw" (some 0) with
  accessFlags := 49
  interfaces := #[]
  cf := some (fileOf pool1 18 #[] #[{ accessFlags := 1, nameIndex := 5, descriptorIndex := 6, attributes := #[] }, { accessFlags := 9, nameIndex := 22, descriptorIndex := 23, attributes := #[] }] 49 2 #[] #[])
  fields := #[]
  methods := #[k1m0, k1m1]
  instanceTypes := #[]
  staticTypes := #[]
  resolved := Array.replicate 29 none
  statics := none }

def pool2 : Array CpInfo := pool [(1, .methodref 2 3), (0, .class_ 4), (0, .nameAndType 5 6), (0, u "java/lang/Object"), (0, u "<init>"), (0, u "()V"), (0, .class_ 8), (0, u "java/lang/Record")] 13

def k2c0 : Code := { maxStack := 1, maxLocals := 1, code := jdk_30_method_1_code, exceptionTable := #[], attributes := #[] }
def k2m0 : Method := { name := "<init>", desc := "()V", sig := { parameters := [], returnType := none }, accessFlags := 4, code := some k2c0 }
/-- java/lang/Record -/
def k2 : Class := { plain "java/lang/Record" (some 0) with
  accessFlags := 1057
  interfaces := #[]
  cf := some (fileOf pool2 7 #[] #[{ accessFlags := 4, nameIndex := 5, descriptorIndex := 6, attributes := #[] }] 1057 2 #[] #[])
  fields := #[]
  methods := #[k2m0]
  instanceTypes := #[]
  staticTypes := #[]
  resolved := Array.replicate 22 none
  statics := none }

def pool3 : Array CpInfo := pool [(1, .methodref 2 3), (0, .class_ 4), (0, .nameAndType 5 6), (0, u "java/lang/Record"), (0, u "<init>"), (0, u "()V"), (0, .fieldref 8 9), (0, .class_ 10), (0, .nameAndType 11 12), (0, u "com/example/redelivery/redelivery/engine/Carriage"), (0, u "protocol"), (0, u "Ljava/lang/String;"), (0, .fieldref 8 14), (0, .nameAndType 15 16), (0, u "carriesCr"), (0, u "Z"), (0, .fieldref 8 18), (0, .nameAndType 19 20), (0, u "maxLength"), (0, u "I"), (26, u "CR"), (0, u "B"), (2, u "SPACE"), (1, u "UTF8_CONTINUATION_MASK"), (1, u "UTF8_CONTINUATION"), (1, u "UTF8_MAX_CONTINUATIONS"), (1, u "(Ljava/lang/String;ZI)V"), (3, u "carries"), (0, u "([B)Z")] 30

def k3c0 : Code := { maxStack := 2, maxLocals := 4, code := prog_4_method_1_code, exceptionTable := #[], attributes := #[] }
def k3m0 : Method := { name := "<init>", desc := "(Ljava/lang/String;ZI)V", sig := { parameters := [(.object "java/lang/String"), .boolean, .int], returnType := none }, accessFlags := 1, code := some k3c0 }
def k3c1 : Code := { maxStack := 2, maxLocals := 4, code := prog_4_method_2_code, exceptionTable := #[], attributes := #[] }
def k3m1 : Method := { name := "carries", desc := "([B)Z", sig := { parameters := [(.array .byte)], returnType := some .boolean }, accessFlags := 1, code := some k3c1 }
/-- com/example/redelivery/redelivery/engine/Carriage -/
def k3 : Class := { plain "com/example/redelivery/redelivery/engine/Carriage" (some 2) with
  accessFlags := 49
  interfaces := #[]
  cf := some (fileOf pool3 8 #[] #[{ accessFlags := 1, nameIndex := 5, descriptorIndex := 59, attributes := #[] }, { accessFlags := 1, nameIndex := 63, descriptorIndex := 64, attributes := #[] }] 49 2 #[] #[{ accessFlags := 18, nameIndex := 11, descriptorIndex := 12, attributes := #[] }, { accessFlags := 18, nameIndex := 15, descriptorIndex := 16, attributes := #[] }, { accessFlags := 18, nameIndex := 19, descriptorIndex := 20, attributes := #[] }, { accessFlags := 26, nameIndex := 47, descriptorIndex := 48, attributes := #[] }, { accessFlags := 26, nameIndex := 51, descriptorIndex := 48, attributes := #[] }, { accessFlags := 26, nameIndex := 53, descriptorIndex := 20, attributes := #[] }, { accessFlags := 26, nameIndex := 55, descriptorIndex := 20, attributes := #[] }, { accessFlags := 26, nameIndex := 57, descriptorIndex := 20, attributes := #[] }])
  fields := #[{ name := "protocol", type := (.object "java/lang/String"), accessFlags := 18, slot := 0, constantValue := 0 }, { name := "carriesCr", type := .boolean, accessFlags := 18, slot := 1, constantValue := 0 }, { name := "maxLength", type := .int, accessFlags := 18, slot := 2, constantValue := 0 }, { name := "CR", type := .byte, accessFlags := 26, slot := 0, constantValue := 0 }, { name := "SPACE", type := .byte, accessFlags := 26, slot := 1, constantValue := 0 }, { name := "UTF8_CONTINUATION_MASK", type := .int, accessFlags := 26, slot := 2, constantValue := 0 }, { name := "UTF8_CONTINUATION", type := .int, accessFlags := 26, slot := 3, constantValue := 0 }, { name := "UTF8_MAX_CONTINUATIONS", type := .int, accessFlags := 26, slot := 4, constantValue := 0 }]
  methods := #[k3m0, k3m1]
  instanceTypes := #[(.object "java/lang/String"), .boolean, .int]
  staticTypes := #[.byte, .byte, .int, .int, .int]
  resolved := Array.replicate 95 none
  statics := none }

def pool4 : Array CpInfo := pool [(1, .class_ 2), (0, u "java/io/Serializable"), (0, .class_ 4), (0, u "java/lang/Object")] 2

/-- java/io/Serializable -/
def k4 : Class := { plain "java/io/Serializable" (some 0) with
  accessFlags := 1537
  interfaces := #[]
  cf := some (fileOf pool4 1 #[] #[] 1537 3 #[] #[])
  fields := #[]
  methods := #[]
  instanceTypes := #[]
  staticTypes := #[]
  resolved := Array.replicate 7 none
  statics := none }

def pool5 : Array CpInfo := pool [(1, .class_ 2), (0, u "java/lang/Comparable"), (0, .class_ 4), (0, u "java/lang/Object")] 7

/-- java/lang/Comparable -/
def k5 : Class := { plain "java/lang/Comparable" (some 0) with
  accessFlags := 1537
  interfaces := #[]
  cf := some (fileOf pool5 1 #[] #[] 1537 3 #[] #[])
  fields := #[]
  methods := #[]
  instanceTypes := #[]
  staticTypes := #[]
  resolved := Array.replicate 12 none
  statics := none }

def pool6 : Array CpInfo := pool [(2, .class_ 4), (1, u "java/lang/CharSequence"), (42, .class_ 48), (0, u "java/lang/CharSequence$1CodePointIterator"), (10, .class_ 60), (0, u "java/lang/CharSequence$1CharIterator"), (5, .class_ 67), (0, u "java/lang/Object")] 63

/-- java/lang/CharSequence -/
def k6 : Class := { plain "java/lang/CharSequence" (some 0) with
  accessFlags := 1537
  interfaces := #[]
  cf := some (fileOf pool6 2 #[.nestMembers #[47, 59]] #[] 1537 66 #[] #[])
  fields := #[]
  methods := #[]
  instanceTypes := #[]
  staticTypes := #[]
  resolved := Array.replicate 131 none
  statics := none }

def pool7 : Array CpInfo := pool [(1, .class_ 2), (0, u "java/lang/constant/Constable"), (0, .class_ 4), (0, u "java/lang/Object")] 6

/-- java/lang/constant/Constable -/
def k7 : Class := { plain "java/lang/constant/Constable" (some 0) with
  accessFlags := 1537
  interfaces := #[]
  cf := some (fileOf pool7 1 #[] #[] 1537 3 #[] #[])
  fields := #[]
  methods := #[]
  instanceTypes := #[]
  staticTypes := #[]
  resolved := Array.replicate 11 none
  statics := none }

def pool8 : Array CpInfo := pool [(1, .class_ 2), (0, u "java/lang/constant/ConstantDesc"), (0, .class_ 4), (0, u "java/lang/Object")] 32

/-- java/lang/constant/ConstantDesc -/
def k8 : Class := { plain "java/lang/constant/ConstantDesc" (some 0) with
  accessFlags := 1537
  interfaces := #[]
  cf := some (fileOf pool8 1 #[] #[] 1537 3 #[] #[])
  fields := #[]
  methods := #[]
  instanceTypes := #[]
  staticTypes := #[]
  resolved := Array.replicate 37 none
  statics := none }

def pool9 : Array CpInfo := pool [(2, .class_ 4), (1, u "java/lang/Object"), (0, u "<init>"), (0, u "()V"), (3, .class_ 12), (1, u "java/lang/String"), (0, u "value"), (0, u "[B"), (2, u "coder"), (0, u "B"), (2, u "hash"), (0, u "I"), (2, u "hashIsZero"), (0, u "Z"), (13, u "COMPACT_STRINGS"), (534, .class_ 576), (0, u "java/lang/CharSequence"), (22, u "CASE_INSENSITIVE_ORDER"), (0, u "Ljava/util/Comparator;"), (500, u "serialPersistentFields"), (0, u "[Ljava/io/ObjectStreamField;"), (0, .class_ 1104), (0, u "java/lang/String$CaseInsensitiveComparator"), (1, .class_ 1107), (0, u "java/io/Serializable"), (0, .class_ 1109), (0, u "java/lang/Comparable"), (0, .class_ 1111), (0, u "java/lang/constant/Constable"), (0, .class_ 1113), (0, u "java/lang/constant/ConstantDesc"), (2, u "serialVersionUID"), (0, u "J"), (3, u "REPL"), (0, u "C"), (2, u "LATIN1"), (1, u "UTF16")] 323

def k9m0 : Method := { name := "<init>", desc := "()V", sig := { parameters := [], returnType := none }, accessFlags := 1, code := none }
/-- java/lang/String -/
def k9 : Class := { plain "java/lang/String" (some 0) with
  accessFlags := 49
  interfaces := #[4, 5, 6, 7, 8]
  cf := some (fileOf pool9 10 #[.nestMembers #[1103]] #[{ accessFlags := 1, nameIndex := 5, descriptorIndex := 6, attributes := #[] }] 49 2 #[1106, 1108, 575, 1110, 1112] #[{ accessFlags := 18, nameIndex := 13, descriptorIndex := 14, attributes := #[] }, { accessFlags := 18, nameIndex := 17, descriptorIndex := 18, attributes := #[] }, { accessFlags := 2, nameIndex := 21, descriptorIndex := 22, attributes := #[] }, { accessFlags := 2, nameIndex := 25, descriptorIndex := 26, attributes := #[] }, { accessFlags := 26, nameIndex := 1116, descriptorIndex := 1117, attributes := #[] }, { accessFlags := 24, nameIndex := 40, descriptorIndex := 26, attributes := #[] }, { accessFlags := 26, nameIndex := 1101, descriptorIndex := 1102, attributes := #[] }, { accessFlags := 26, nameIndex := 1121, descriptorIndex := 1122, attributes := #[] }, { accessFlags := 25, nameIndex := 599, descriptorIndex := 600, attributes := #[] }, { accessFlags := 24, nameIndex := 1125, descriptorIndex := 18, attributes := #[] }, { accessFlags := 24, nameIndex := 1127, descriptorIndex := 18, attributes := #[] }])
  fields := #[{ name := "value", type := (.array .byte), accessFlags := 18, slot := 0, constantValue := 0 }, { name := "coder", type := .byte, accessFlags := 18, slot := 1, constantValue := 0 }, { name := "hash", type := .int, accessFlags := 2, slot := 2, constantValue := 0 }, { name := "hashIsZero", type := .boolean, accessFlags := 2, slot := 3, constantValue := 0 }, { name := "serialVersionUID", type := .long, accessFlags := 26, slot := 0, constantValue := 0 }, { name := "COMPACT_STRINGS", type := .boolean, accessFlags := 24, slot := 1, constantValue := 0 }, { name := "serialPersistentFields", type := (.array (.object "java/io/ObjectStreamField")), accessFlags := 26, slot := 2, constantValue := 0 }, { name := "REPL", type := .char, accessFlags := 26, slot := 3, constantValue := 0 }, { name := "CASE_INSENSITIVE_ORDER", type := (.object "java/util/Comparator"), accessFlags := 25, slot := 4, constantValue := 0 }, { name := "LATIN1", type := .byte, accessFlags := 24, slot := 5, constantValue := 0 }, { name := "UTF16", type := .byte, accessFlags := 24, slot := 6, constantValue := 0 }]
  methods := #[k9m0]
  instanceTypes := #[(.array .byte), .byte, .int, .boolean]
  staticTypes := #[.long, .boolean, (.array (.object "java/io/ObjectStreamField")), .char, (.object "java/util/Comparator"), .byte, .byte]
  resolved := Array.replicate 1451 none
  statics := none }

def pool10 : Array CpInfo := pool [(1, u "java/lang/Cloneable"), (0, .class_ 1), (0, u "java/lang/Object"), (0, .class_ 3)] 3

/-- java/lang/Cloneable -/
def k10 : Class := { plain "java/lang/Cloneable" (some 0) with
  accessFlags := 1537
  interfaces := #[]
  cf := some (fileOf pool10 2 #[] #[] 1537 4 #[] #[])
  fields := #[]
  methods := #[]
  instanceTypes := #[]
  staticTypes := #[]
  resolved := Array.replicate 8 none
  statics := none }

/-- the primitive byte -/
def k11 : Class := { plain "byte" none with kind := .primitive 'B', accessFlags := 0x411 }
/-- [B -/
def k12 : Class := { plain "[B" (some 0) with kind := .array 11 .byte, interfaces := #[10, 4], accessFlags := 1041 }

/-- the primitive int -/
def k13 : Class := { plain "int" none with kind := .primitive 'I', accessFlags := 0x411 }
/-- [I -/
def k14 : Class := { plain "[I" (some 0) with kind := .array 13 .int, interfaces := #[10, 4], accessFlags := 1041 }

def heap : Heap := #[]
def classes : Array Class := #[k0, k1, k2, k3, k4, k5, k6, k7, k8, k9, k10, k11, k12, k13, k14]
def interned : List (Array UInt16 × Addr) := []
def slotsUsed : Nat := 0
def theMethod : MethodId := ⟨1, 1⟩
def args0 : Array Value := #[.int 5, .int 7, .int 3]
def aboutOver (below : List Frame) : State where
  vm := { classes := classes, interned := interned.toArray }
  heap := heap
  slotsUsed := slotsUsed
  threads := #[{ frames := .invoking theMethod args0 :: below }]
def below0 : List Frame := [.native { method := ⟨0, 0⟩, args := #[] }]
def about1 : State := aboutOver below0
def p0 : Program := .bare "" "" ""
def e0 : Env := launch0.env 0 0 0
theorem w_frames : about1.frames = Frame.invoking theMethod args0 :: below0 := rfl
set_option maxRecDepth 65536 in
theorem w_args : argsFit about1.vm theMethod args0 = true := by decide +kernel
set_option maxRecDepth 65536 in
theorem w_heap : heapFits about1 = true := by decide +kernel
set_option maxRecDepth 65536 in
theorem w_runnable : about1.curStatus? = some .runnable := by decide +kernel
set_option maxRecDepth 65536 in
theorem w_alone : about1.alone = true := by decide +kernel
set_option maxRecDepth 65536 in
theorem w_named : about1.methodNamed? x = some theMethod := by decide +kernel
set_option maxRecDepth 65536 in
theorem w_hears : about1.hears theMethod below0 = true := by decide +kernel
set_option maxRecDepth 65536 in
theorem w_ripe : about1.ripe theMethod args0 below0 = true := by decide +kernel
theorem w_running : about1.status = .running := rfl
set_option maxRecDepth 65536 in
theorem w_room : about1.hasRoom e0.platform room_1 = true :=
  launch0.hasRoom_least _ room_1 (by decide +kernel) (by decide +kernel) (by decide +kernel) (by decide +kernel) (by decide +kernel) (by decide +kernel)
theorem allAtoms_all (ts : List Jvm.Cond) (a : Array Jvm.Value) (st : Jvm.State) : (allAtoms ts).before a st = ts.all (fun c => c.before a st) := by
  induction ts with
  | nil => rfl
  | cons c t ih =>
    show (Jvm.Cond.and c (allAtoms t)).before a st = _
    rw [Jvm.Cond.before_and, ih, List.all_cons]
def words1 : List Jvm.Cond := Jvm.Cond.code x code maxLocals ret :: tables_1
/-- a 'code' word, met by the world's own term for the bytes: nothing is compared byte by byte -/
theorem code_word {y : MethodName} {bytes : ByteArray} {mx : Nat} {rt : Option FieldType} {a : Array Value} {s : State} {m : MethodId} {meth : Method} {c : Code} (h1 : s.methodNamed? y = some m) (h2 : s.vm.method? m = some meth) (h3 : meth.code = some c) (h4 : c.code = bytes)
    (h5 : (c.maxLocals == mx && c.exceptionTable.isEmpty && decide (c.maxStack ≤ mostOperands) && decide (meth.sig.returnType = rt) && !meth.locks && decide (parseMethodDescriptor y.desc = some meth.sig)) = true) : (Jvm.Cond.code y bytes mx rt).before a s = true := by
  simp only [Bool.and_eq_true, beq_iff_eq, Bool.not_eq_true', decide_eq_true_eq] at h5
  obtain ⟨⟨⟨⟨⟨g1, g2⟩, g3⟩, g4⟩, g5⟩, g6⟩ := h5
  simp [Cond.before, Cond.holds, Cond.value, h1, h2, h3, h4, g1, g2, g3, g4, g5, g6]
def isCode : Jvm.Cond → Bool
  | .code _ _ _ _ => true
  | _ => false
theorem all_split {L : List Jvm.Cond} {P : Jvm.Cond → Bool} (h1 : L.all (fun c => isCode c || P c) = true) (h2 : ∀ c ∈ L.filter isCode, P c = true) : L.all P = true := by
  refine List.all_eq_true.mpr fun c hc => ?_
  have h := List.all_eq_true.mp h1 c hc
  rcases Bool.eq_false_or_eq_true (isCode c) with hi | hi
  · exact h2 c (List.mem_filter.mpr ⟨hc, hi⟩)
  · simpa [hi] using h
set_option maxRecDepth 65536 in
theorem w_c0 : (Jvm.Cond.code x code maxLocals ret).before args0 about1 = true := code_word (m := ⟨1, 1⟩) (meth := k1m1) (c := k1c1) (by decide +kernel) rfl rfl rfl (by decide +kernel)
set_option maxRecDepth 65536 in
theorem w_c1 : (Jvm.Cond.code ({ cls := "com/example/redelivery/redelivery/engine/Carriage", name := "<init>", desc := "(Ljava/lang/String;ZI)V" } : Jvm.MethodName) prog_4_method_1_code (4 : Nat) (Option.none : Option Jvm.ClassFile.FieldType)).before args0 about1 = true := code_word (m := ⟨3, 0⟩) (meth := k3m0) (c := k3c0) (by decide +kernel) rfl rfl rfl (by decide +kernel)
set_option maxRecDepth 65536 in
theorem w_c2 : (Jvm.Cond.code ({ cls := "java/lang/Record", name := "<init>", desc := "()V" } : Jvm.MethodName) jdk_30_method_1_code (1 : Nat) (Option.none : Option Jvm.ClassFile.FieldType)).before args0 about1 = true := code_word (m := ⟨2, 0⟩) (meth := k2m0) (c := k2c0) (by decide +kernel) rfl rfl rfl (by decide +kernel)
set_option maxRecDepth 65536 in
theorem w_c3 : (Jvm.Cond.code ({ cls := "java/lang/Object", name := "<init>", desc := "()V" } : Jvm.MethodName) object_method_1_code (1 : Nat) (Option.none : Option Jvm.ClassFile.FieldType)).before args0 about1 = true := code_word (m := ⟨0, 0⟩) (meth := k0m0) (c := k0c0) (by decide +kernel) rfl rfl rfl (by decide +kernel)
set_option maxRecDepth 65536 in
theorem w_c4 : (Jvm.Cond.code ({ cls := "com/example/redelivery/redelivery/engine/Carriage", name := "carries", desc := "([B)Z" } : Jvm.MethodName) prog_4_method_2_code (4 : Nat) (Option.some Jvm.ClassFile.FieldType.boolean)).before args0 about1 = true := code_word (m := ⟨3, 1⟩) (meth := k3m1) (c := k3c1) (by decide +kernel) rfl rfl rfl (by decide +kernel)
def codes1 : List Jvm.Cond := [Jvm.Cond.code x code maxLocals ret, Jvm.Cond.code ({ cls := "com/example/redelivery/redelivery/engine/Carriage", name := "<init>", desc := "(Ljava/lang/String;ZI)V" } : Jvm.MethodName) prog_4_method_1_code (4 : Nat) (Option.none : Option Jvm.ClassFile.FieldType), Jvm.Cond.code ({ cls := "java/lang/Record", name := "<init>", desc := "()V" } : Jvm.MethodName) jdk_30_method_1_code (1 : Nat) (Option.none : Option Jvm.ClassFile.FieldType), Jvm.Cond.code ({ cls := "java/lang/Object", name := "<init>", desc := "()V" } : Jvm.MethodName) object_method_1_code (1 : Nat) (Option.none : Option Jvm.ClassFile.FieldType), Jvm.Cond.code ({ cls := "com/example/redelivery/redelivery/engine/Carriage", name := "carries", desc := "([B)Z" } : Jvm.MethodName) prog_4_method_2_code (4 : Nat) (Option.some Jvm.ClassFile.FieldType.boolean)]
set_option maxRecDepth 65536 in
theorem codes_eq : words1.filter isCode = codes1 := rfl
theorem w_codes : ∀ c ∈ words1.filter isCode, c.before args0 about1 = true := by
  rw [codes_eq]
  intro c hc
  simp only [codes1, List.mem_cons, List.not_mem_nil, or_false] at hc
  rcases hc with rfl | rfl | rfl | rfl | rfl
  · exact w_c0
  · exact w_c1
  · exact w_c2
  · exact w_c3
  · exact w_c4
set_option maxRecDepth 65536 in
theorem w_t1 : (words1.take 24).all (fun c => isCode c || c.before args0 about1) = true := by decide +kernel
set_option maxRecDepth 65536 in
theorem w_t2 : (words1.drop 24).all (fun c => isCode c || c.before args0 about1) = true := by decide +kernel
theorem w_tables : (allAtoms (Jvm.Cond.code x code maxLocals ret :: tables_1)).before args0 about1 = true := by
  rw [allAtoms_all]
  show words1.all (fun c => c.before args0 about1) = true
  refine all_split ?_ w_codes
  rw [← List.take_append_drop 24 words1, List.all_append, w_t1, w_t2]
  rfl
set_option maxRecDepth 65536 in
theorem w_case : (Jvm.Cond.and given_1 narrow_1).before args0 about1 = true := by decide +kernel
theorem w_applies : (headSpec (Jvm.Cond.code x code maxLocals ret :: tables_1) room_1).applies x e0.platform about1 = true :=
  (Spec.applies_iff w_frames).mpr ⟨w_running, w_runnable, w_alone, w_named, w_hears, w_ripe, w_room, w_tables⟩
theorem atStart : AtStart classFile x code maxLocals ret World_1 tables_1 room_1 Calls_1 rest_1 Pre_1 launch0 p0 e0 about1 theMethod args0 below0 :=
  ⟨lists_1, trivial, launch0.admits_env _ _ _, launch0.least_env, fairChoices_fair.cas, fairChoices_fair.clock, w_frames, w_args, w_heap, w_applies, trivial, trivial, w_case⟩
end start1
theorem witness_1 : WitnessClaimed_1 := ⟨start1.p0, start1.e0, start1.about1, start1.theMethod, start1.args0, start1.below0, start1.atStart⟩
end Jvm.Pilot.@@N@@
