import JvmDerived
import JvmDerived.Pilot.@@N@@Statement
import JvmDerived.Pilot.@@N@@Code
set_option linter.unusedVariables false
set_option linter.unusedSimpArgs false
namespace Jvm.Pilot.@@N@@
open Jvm Jvm.ClassFile Sem Op Lib Jvm.Free Jvm.Stand Jvm.LawKit Jvm.RoadKit Bundle Jvm.Pilot.@@N@@.Jvm.D
section OwnKit
variable {p : Program} {l : Launch} {e : Env} {R : Room} {s : State} {m : MethodId} {args : Array Value} {below : List Frame} {meth : Method} {c : Code} {Z : State} {y : MethodName} {ret : Option FieldType} {code : ByteArray} {ml : Nat} {ws : List Addr} {T : State} {h : Heap} {cells slots : Nat} {C : Outcome → State → Prop} {a0 : Array Value}
/-- the run goes on from this frame to an end that C allows -/
def own_Go (p : Program) (e : Env) (below : List Frame) (C : Outcome → State → Prop) (T : State) (g : JFrame) : Prop :=
  ∃ u o, Steps p.tables e below (T.setTop g) u ∧ u.status = .running ∧ Ended u below o ∧ C o u
/-- what was written lies at one of ws, or is new since s -/
def own_Fw (s : State) (ws : List Addr) (L : List Loc) : Prop := ∀ y ∈ L, y.base ∈ ws ∨ s.heap.size ≤ y.base
/-- where the walk stands: what is fixed of this body; the heap h; nothing old written but at ws -/
def own_W (p : Program) (l : Launch) (e : Env) (R : Room) (s : State) (m : MethodId) (args : Array Value) (below : List Frame) (meth : Method) (c : Code) (Z : State) (y : MethodName) (ret : Option FieldType) (code : ByteArray) (ml : Nat) (ws : List Addr) (T : State) (h : Heap) (cells slots : Nat) : Prop :=
  (p.tables.exec = Jvm.exec ∧ c.code = code ∧ c.maxLocals = ml ∧ s.vm.findClass y.cls = some m.cls ∧ meth.name = y.name ∧ meth.sig.returnType = ret ∧ meth.locks = false ∧ Z.Warmed39 s.vm) ∧ ∃ locs, Stand p l e R s m args below meth c T locs cells slots ∧ T.heap = h ∧ own_Fw s ws locs
/-- what a call leaves: written at ws or new alone; all else kept; where nothing is made or written the heap itself; and Q -/
def own_Q (ws : List Addr) (rm : Room) (h0 : Heap) (Q : Option Value → Heap → Prop) (v : Option Value) (h : Heap) (L : List Loc) : Prop := (∀ y ∈ L, y.base ∈ ws ∨ h0.size ≤ y.base) ∧ Keep h0 h ws ∧ (rm.cells = 0 → ws = [] → h = h0) ∧ Q v h
/-- a body's contract: called with A at the heap h0 it returns, Q holds of what it returns and of the heap, nothing old is written but at ws -/
def own_M (l : Launch) (Z : State) (wo : List Jvm.Cond) (y : MethodName) (bytes : ByteArray) (maxL : Nat) (ret : Option FieldType) (rm : Room) (ws : List Addr) (A : Array Value) (h0 : Heap) (Q : Option Value → Heap → Prop) : Prop :=
  MetFree l y (head1 (Jvm.Cond.code y bytes maxL ret :: wo) rm) (fun a U => a = A ∧ Z.Warmed39 U.vm ∧ U.heap = h0) (fun _ _ _ _ _ => True) (fun _ U o U' => ∃ v L, o = .returned v ∧ own_Q ws rm h0 Q v U'.heap L ∧ FrameEnd U o U' L rm.cells rm.slots)
theorem own_keep {u : State} {L : List Loc} {k n : Nat} (q : s.sameButNew ({ u with vm := s.vm } : State) L k n) (F : own_Fw s ws L) : Keep s.heap u.heap ws := by
  obtain ⟨-, q2, -, -, -, q6⟩ := q
  refine ⟨q2, fun x c hx hn => ?_, fun x c hx => ?_⟩
  · obtain ⟨c', h1, h2, h3, h4⟩ := q6 x c hx
    have h5 : c'.slots = c.slots := by
      apply Array.ext_getElem?
      intro i
      refine h4 i fun hm => ?_
      rcases F _ hm with w | w
      · exact hn w
      · exact absurd (Array.getElem?_eq_some_iff.mp hx).1 (Nat.not_lt.mpr w)
    rw [h5] at h2
    rw [h2] at h1
    exact h1
  · obtain ⟨c', h1, h2, h3, h4⟩ := q6 x c hx
    exact ⟨c', h1, by rw [h2], by rw [h2], h3⟩
theorem own_same0 {u : State} {L : List Loc} {n : Nat} (q : s.sameButNew ({ u with vm := s.vm } : State) L 0 n) (K : Keep s.heap u.heap []) : u.heap = s.heap := by
  obtain ⟨-, q2, q3, -⟩ := q
  apply Array.ext_getElem?
  intro i
  rcases Nat.lt_or_ge i s.heap.size with hi | hi
  · have hs : s.heap[i]? = some s.heap[i] := Array.getElem?_eq_getElem hi
    rw [hs]
    exact K.2.1 i _ hs nin0
  · have h1 : u.heap.size ≤ i := Nat.le_trans q3 hi
    rw [Array.getElem?_eq_none hi, Array.getElem?_eq_none h1]
theorem own_st {T' : State} {g g' : JFrame} (q : ∀ t, Steps p.tables e below (T'.setTop g') t → Steps p.tables e below (T.setTop g) t) (k : own_Go p e below C T' g') : own_Go p e below C T g := by
  obtain ⟨u, o, h1, h2⟩ := k
  exact ⟨u, o, q _ h1, h2⟩
theorem own_tr {T' : State} {g g' : JFrame} (q : Steps p.tables e below (T.setTop g) (T'.setTop g')) (k : own_Go p e below C T' g') : own_Go p e below C T g := by
  obtain ⟨u, o, h1, h2⟩ := k
  exact ⟨u, o, q.trans h1, h2⟩
theorem own_body {wo : List Jvm.Cond} {maxL : Nat} {rm : Room} {A : Array Value} {h0 : Heap} {Q : Option Value → Heap → Prop} {L0 : Array Slot} (hpl : plainFor y = true) (hef : ∀ m, entryFrame m A maxL = mkF m 0 L0 [])
    (body : ∀ p e s m below meth c (C : Outcome → State → Prop) (_ : ∀ v L u, own_Fw s ws L → Q v u.heap → FrameEnd s (.returned v) u L rm.cells rm.slots → C (.returned v) u) T0,
      own_W p l e rm s m A below meth c Z y ret code maxL ws T0 h0 0 0 → own_Go p e below C T0 (mkF m 0 L0 [])) :
    own_M l Z wo y code maxL ret rm ws A h0 Q := by
  refine MetFree.of_bodySF hpl hisR ?_
  intro p e s m args below meth c s₁ Bd hml0 hP hK
  obtain ⟨rfl, hZ, rfl⟩ := hP
  have X0 : Stand p l e rm s m _ below meth c s₁ [] 0 0 := Stand.of_body Bd
  have e0 : s₁.heap = s.heap := by rw [Bd.state]; rfl
  have hlk : meth.locks = false := BodyLoose.notSynchronized Bd
  have k := body p e s m below meth c (fun o U' => ∃ v L, o = .returned v ∧ own_Q ws rm s.heap Q v U'.heap L ∧ FrameEnd s o U' L rm.cells rm.slots)
    (fun v L u h1 h2 h3 => by
      have K := own_keep h3.2.2 h1
      refine ⟨v, L, rfl, ⟨h1, K, fun hc hw => ?_, h2⟩, h3⟩
      subst hw
      have h4 := h3.2.2
      rw [hc] at h4
      exact own_same0 h4 K) s₁
    ⟨⟨Bd.exec, Bd.bytes, hml0, findClass_of_methodNamed Bd.named, (name_of_methodNamed Bd.named Bd.method).1, Bd.returns, hlk, hZ⟩, [], X0, e0, fun _ hy => nomatch hy⟩
  obtain ⟨u, o, h1, h2⟩ := k
  exact ⟨u, o, castTop (hef m) h1, h2⟩
theorem own_Fw_snoc {L : List Loc} {a : Addr} {sl : Nat} (N : own_Fw s ws L) (q : a ∈ ws ∨ s.heap.size ≤ a) : own_Fw s ws (L ++ [⟨a, sl⟩]) := fun y hy => by
  rcases List.mem_append.mp hy with w | w
  · exact N y w
  · cases List.mem_singleton.mp w; exact q
theorem own_Fw_app {L L' : List Loc} {wc' : List Addr} (N : own_Fw s ws L) (q : ∀ y ∈ L', y.base ∈ wc' ∨ h.size ≤ y.base) (r : ∀ b ∈ wc', b ∈ ws ∨ s.heap.size ≤ b) (z : s.heap.size ≤ h.size) : own_Fw s ws (L ++ L') := fun y hy => by
  rcases List.mem_append.mp hy with w | w
  · exact N y w
  · rcases q y w with u | u
    · exact r _ u
    · exact Or.inr (Nat.le_trans z u)
theorem own_le (W : own_W p l e R s m args below meth c Z y ret code ml ws T h cells slots) : s.heap.size ≤ h.size := by
  obtain ⟨-, locs, X, rfl, -⟩ := W
  exact X.same.2.1
theorem own_iadd (W : own_W p l e R s m args below meth c Z y ret code ml ws T h cells slots) {u v : Int32} {pc : Nat} (pc' : Nat) {L : Array Slot} {st : List Value} (hd : decode code pc = .ok (.iadd, 1))  (hp : pc + 1 = pc') (k : own_Go p e below C T (mkF m pc' L (.int (u + v) :: st))) : own_Go p e below C T (mkF m pc L (.int v :: .int u :: st)) := by
  have hsz := own_le W
  obtain ⟨⟨hx, hby, hml, hown, hnm, hrt, hlk, hZ⟩, locs, X, eT, N⟩ := W
  subst hp
  exact own_st (fun _ k => XS.iadd X.here hx rfl (hb hby hd) rfl k) k
theorem own_ladd (W : own_W p l e R s m args below meth c Z y ret code ml ws T h cells slots) {u v : Int64} {pc : Nat} (pc' : Nat) {L : Array Slot} {st : List Value} (hd : decode code pc = .ok (.ladd, 1))  (hp : pc + 1 = pc') (k : own_Go p e below C T (mkF m pc' L (.long (u + v) :: st))) : own_Go p e below C T (mkF m pc L (.long v :: .long u :: st)) := by
  have hsz := own_le W
  obtain ⟨⟨hx, hby, hml, hown, hnm, hrt, hlk, hZ⟩, locs, X, eT, N⟩ := W
  subst hp
  exact own_st (fun _ k => XS.ladd X.here hx rfl (hb hby hd) rfl k) k
theorem own_isub (W : own_W p l e R s m args below meth c Z y ret code ml ws T h cells slots) {u v : Int32} {pc : Nat} (pc' : Nat) {L : Array Slot} {st : List Value} (hd : decode code pc = .ok (.isub, 1))  (hp : pc + 1 = pc') (k : own_Go p e below C T (mkF m pc' L (.int (u - v) :: st))) : own_Go p e below C T (mkF m pc L (.int v :: .int u :: st)) := by
  have hsz := own_le W
  obtain ⟨⟨hx, hby, hml, hown, hnm, hrt, hlk, hZ⟩, locs, X, eT, N⟩ := W
  subst hp
  exact own_st (fun _ k => XS.isub X.here hx rfl (hb hby hd) rfl k) k
theorem own_lsub (W : own_W p l e R s m args below meth c Z y ret code ml ws T h cells slots) {u v : Int64} {pc : Nat} (pc' : Nat) {L : Array Slot} {st : List Value} (hd : decode code pc = .ok (.lsub, 1))  (hp : pc + 1 = pc') (k : own_Go p e below C T (mkF m pc' L (.long (u - v) :: st))) : own_Go p e below C T (mkF m pc L (.long v :: .long u :: st)) := by
  have hsz := own_le W
  obtain ⟨⟨hx, hby, hml, hown, hnm, hrt, hlk, hZ⟩, locs, X, eT, N⟩ := W
  subst hp
  exact own_st (fun _ k => XS.lsub X.here hx rfl (hb hby hd) rfl k) k
theorem own_imul (W : own_W p l e R s m args below meth c Z y ret code ml ws T h cells slots) {u v : Int32} {pc : Nat} (pc' : Nat) {L : Array Slot} {st : List Value} (hd : decode code pc = .ok (.imul, 1))  (hp : pc + 1 = pc') (k : own_Go p e below C T (mkF m pc' L (.int (u * v) :: st))) : own_Go p e below C T (mkF m pc L (.int v :: .int u :: st)) := by
  have hsz := own_le W
  obtain ⟨⟨hx, hby, hml, hown, hnm, hrt, hlk, hZ⟩, locs, X, eT, N⟩ := W
  subst hp
  exact own_st (fun _ k => XS.imul X.here hx rfl (hb hby hd) rfl k) k
theorem own_lmul (W : own_W p l e R s m args below meth c Z y ret code ml ws T h cells slots) {u v : Int64} {pc : Nat} (pc' : Nat) {L : Array Slot} {st : List Value} (hd : decode code pc = .ok (.lmul, 1))  (hp : pc + 1 = pc') (k : own_Go p e below C T (mkF m pc' L (.long (u * v) :: st))) : own_Go p e below C T (mkF m pc L (.long v :: .long u :: st)) := by
  have hsz := own_le W
  obtain ⟨⟨hx, hby, hml, hown, hnm, hrt, hlk, hZ⟩, locs, X, eT, N⟩ := W
  subst hp
  exact own_st (fun _ k => XS.lmul X.here hx rfl (hb hby hd) rfl k) k
theorem own_iand (W : own_W p l e R s m args below meth c Z y ret code ml ws T h cells slots) {u v : Int32} {pc : Nat} (pc' : Nat) {L : Array Slot} {st : List Value} (hd : decode code pc = .ok (.iand, 1))  (hp : pc + 1 = pc') (k : own_Go p e below C T (mkF m pc' L (.int (u &&& v) :: st))) : own_Go p e below C T (mkF m pc L (.int v :: .int u :: st)) := by
  have hsz := own_le W
  obtain ⟨⟨hx, hby, hml, hown, hnm, hrt, hlk, hZ⟩, locs, X, eT, N⟩ := W
  subst hp
  exact own_st (fun _ k => XS.iand X.here hx rfl (hb hby hd) rfl k) k
theorem own_land (W : own_W p l e R s m args below meth c Z y ret code ml ws T h cells slots) {u v : Int64} {pc : Nat} (pc' : Nat) {L : Array Slot} {st : List Value} (hd : decode code pc = .ok (.land, 1))  (hp : pc + 1 = pc') (k : own_Go p e below C T (mkF m pc' L (.long (u &&& v) :: st))) : own_Go p e below C T (mkF m pc L (.long v :: .long u :: st)) := by
  have hsz := own_le W
  obtain ⟨⟨hx, hby, hml, hown, hnm, hrt, hlk, hZ⟩, locs, X, eT, N⟩ := W
  subst hp
  exact own_st (fun _ k => XS.land X.here hx rfl (hb hby hd) rfl k) k
theorem own_ior (W : own_W p l e R s m args below meth c Z y ret code ml ws T h cells slots) {u v : Int32} {pc : Nat} (pc' : Nat) {L : Array Slot} {st : List Value} (hd : decode code pc = .ok (.ior, 1))  (hp : pc + 1 = pc') (k : own_Go p e below C T (mkF m pc' L (.int (u ||| v) :: st))) : own_Go p e below C T (mkF m pc L (.int v :: .int u :: st)) := by
  have hsz := own_le W
  obtain ⟨⟨hx, hby, hml, hown, hnm, hrt, hlk, hZ⟩, locs, X, eT, N⟩ := W
  subst hp
  exact own_st (fun _ k => XS.ior X.here hx rfl (hb hby hd) rfl k) k
theorem own_lor (W : own_W p l e R s m args below meth c Z y ret code ml ws T h cells slots) {u v : Int64} {pc : Nat} (pc' : Nat) {L : Array Slot} {st : List Value} (hd : decode code pc = .ok (.lor, 1))  (hp : pc + 1 = pc') (k : own_Go p e below C T (mkF m pc' L (.long (u ||| v) :: st))) : own_Go p e below C T (mkF m pc L (.long v :: .long u :: st)) := by
  have hsz := own_le W
  obtain ⟨⟨hx, hby, hml, hown, hnm, hrt, hlk, hZ⟩, locs, X, eT, N⟩ := W
  subst hp
  exact own_st (fun _ k => XS.lor X.here hx rfl (hb hby hd) rfl k) k
theorem own_ixor (W : own_W p l e R s m args below meth c Z y ret code ml ws T h cells slots) {u v : Int32} {pc : Nat} (pc' : Nat) {L : Array Slot} {st : List Value} (hd : decode code pc = .ok (.ixor, 1))  (hp : pc + 1 = pc') (k : own_Go p e below C T (mkF m pc' L (.int (u ^^^ v) :: st))) : own_Go p e below C T (mkF m pc L (.int v :: .int u :: st)) := by
  have hsz := own_le W
  obtain ⟨⟨hx, hby, hml, hown, hnm, hrt, hlk, hZ⟩, locs, X, eT, N⟩ := W
  subst hp
  exact own_st (fun _ k => XS.ixor X.here hx rfl (hb hby hd) rfl k) k
theorem own_lxor (W : own_W p l e R s m args below meth c Z y ret code ml ws T h cells slots) {u v : Int64} {pc : Nat} (pc' : Nat) {L : Array Slot} {st : List Value} (hd : decode code pc = .ok (.lxor, 1))  (hp : pc + 1 = pc') (k : own_Go p e below C T (mkF m pc' L (.long (u ^^^ v) :: st))) : own_Go p e below C T (mkF m pc L (.long v :: .long u :: st)) := by
  have hsz := own_le W
  obtain ⟨⟨hx, hby, hml, hown, hnm, hrt, hlk, hZ⟩, locs, X, eT, N⟩ := W
  subst hp
  exact own_st (fun _ k => XS.lxor X.here hx rfl (hb hby hd) rfl k) k
theorem own_ishl (W : own_W p l e R s m args below meth c Z y ret code ml ws T h cells slots) {u v : Int32} {pc : Nat} (pc' : Nat) {L : Array Slot} {st : List Value} (hd : decode code pc = .ok (.ishl, 1))  (hp : pc + 1 = pc') (k : own_Go p e below C T (mkF m pc' L (.int (u <<< (v &&& 31)) :: st))) : own_Go p e below C T (mkF m pc L (.int v :: .int u :: st)) := by
  have hsz := own_le W
  obtain ⟨⟨hx, hby, hml, hown, hnm, hrt, hlk, hZ⟩, locs, X, eT, N⟩ := W
  subst hp
  exact own_st (fun _ k => XS.ishl X.here hx rfl (hb hby hd) rfl k) k
theorem own_ishr (W : own_W p l e R s m args below meth c Z y ret code ml ws T h cells slots) {u v : Int32} {pc : Nat} (pc' : Nat) {L : Array Slot} {st : List Value} (hd : decode code pc = .ok (.ishr, 1))  (hp : pc + 1 = pc') (k : own_Go p e below C T (mkF m pc' L (.int (u >>> (v &&& 31)) :: st))) : own_Go p e below C T (mkF m pc L (.int v :: .int u :: st)) := by
  have hsz := own_le W
  obtain ⟨⟨hx, hby, hml, hown, hnm, hrt, hlk, hZ⟩, locs, X, eT, N⟩ := W
  subst hp
  exact own_st (fun _ k => XS.ishr X.here hx rfl (hb hby hd) rfl k) k
theorem own_iushr (W : own_W p l e R s m args below meth c Z y ret code ml ws T h cells slots) {u v : Int32} {pc : Nat} (pc' : Nat) {L : Array Slot} {st : List Value} (hd : decode code pc = .ok (.iushr, 1))  (hp : pc + 1 = pc') (k : own_Go p e below C T (mkF m pc' L (.int ((u.toUInt32 >>> (v &&& 31).toUInt32).toInt32) :: st))) : own_Go p e below C T (mkF m pc L (.int v :: .int u :: st)) := by
  have hsz := own_le W
  obtain ⟨⟨hx, hby, hml, hown, hnm, hrt, hlk, hZ⟩, locs, X, eT, N⟩ := W
  subst hp
  exact own_st (fun _ k => XS.iushr X.here hx rfl (hb hby hd) rfl k) k
theorem own_lshl (W : own_W p l e R s m args below meth c Z y ret code ml ws T h cells slots) {u : Int64} {v : Int32} {pc : Nat} (pc' : Nat) {L : Array Slot} {st : List Value} (hd : decode code pc = .ok (.lshl, 1))  (hp : pc + 1 = pc') (k : own_Go p e below C T (mkF m pc' L (.long (u <<< (v &&& 0x3f).toInt64) :: st))) : own_Go p e below C T (mkF m pc L (.int v :: .long u :: st)) := by
  have hsz := own_le W
  obtain ⟨⟨hx, hby, hml, hown, hnm, hrt, hlk, hZ⟩, locs, X, eT, N⟩ := W
  subst hp
  exact own_st (fun _ k => XS.lshl X.here hx rfl (hb hby hd) rfl k) k
theorem own_lshr (W : own_W p l e R s m args below meth c Z y ret code ml ws T h cells slots) {u : Int64} {v : Int32} {pc : Nat} (pc' : Nat) {L : Array Slot} {st : List Value} (hd : decode code pc = .ok (.lshr, 1))  (hp : pc + 1 = pc') (k : own_Go p e below C T (mkF m pc' L (.long (u >>> (v &&& 0x3f).toInt64) :: st))) : own_Go p e below C T (mkF m pc L (.int v :: .long u :: st)) := by
  have hsz := own_le W
  obtain ⟨⟨hx, hby, hml, hown, hnm, hrt, hlk, hZ⟩, locs, X, eT, N⟩ := W
  subst hp
  exact own_st (fun _ k => XS.lshr X.here hx rfl (hb hby hd) rfl k) k
theorem own_lushr (W : own_W p l e R s m args below meth c Z y ret code ml ws T h cells slots) {u : Int64} {v : Int32} {pc : Nat} (pc' : Nat) {L : Array Slot} {st : List Value} (hd : decode code pc = .ok (.lushr, 1))  (hp : pc + 1 = pc') (k : own_Go p e below C T (mkF m pc' L (.long ((u.toUInt64 >>> (v &&& 0x3f).toInt64.toUInt64).toInt64) :: st))) : own_Go p e below C T (mkF m pc L (.int v :: .long u :: st)) := by
  have hsz := own_le W
  obtain ⟨⟨hx, hby, hml, hown, hnm, hrt, hlk, hZ⟩, locs, X, eT, N⟩ := W
  subst hp
  exact own_st (fun _ k => XS.lushr X.here hx rfl (hb hby hd) rfl k) k
theorem own_ineg (W : own_W p l e R s m args below meth c Z y ret code ml ws T h cells slots) {u : Int32} {pc : Nat} (pc' : Nat) {L : Array Slot} {st : List Value} (hd : decode code pc = .ok (.ineg, 1))  (hp : pc + 1 = pc') (k : own_Go p e below C T (mkF m pc' L (.int (-u) :: st))) : own_Go p e below C T (mkF m pc L (.int u :: st)) := by
  have hsz := own_le W
  obtain ⟨⟨hx, hby, hml, hown, hnm, hrt, hlk, hZ⟩, locs, X, eT, N⟩ := W
  subst hp
  exact own_st (fun _ k => XS.ineg X.here hx rfl (hb hby hd) rfl k) k
theorem own_lneg (W : own_W p l e R s m args below meth c Z y ret code ml ws T h cells slots) {u : Int64} {pc : Nat} (pc' : Nat) {L : Array Slot} {st : List Value} (hd : decode code pc = .ok (.lneg, 1))  (hp : pc + 1 = pc') (k : own_Go p e below C T (mkF m pc' L (.long (-u) :: st))) : own_Go p e below C T (mkF m pc L (.long u :: st)) := by
  have hsz := own_le W
  obtain ⟨⟨hx, hby, hml, hown, hnm, hrt, hlk, hZ⟩, locs, X, eT, N⟩ := W
  subst hp
  exact own_st (fun _ k => XS.lneg X.here hx rfl (hb hby hd) rfl k) k
theorem own_i2l (W : own_W p l e R s m args below meth c Z y ret code ml ws T h cells slots) {u : Int32} {pc : Nat} (pc' : Nat) {L : Array Slot} {st : List Value} (hd : decode code pc = .ok (.i2l, 1))  (hp : pc + 1 = pc') (k : own_Go p e below C T (mkF m pc' L (.long u.toInt64 :: st))) : own_Go p e below C T (mkF m pc L (.int u :: st)) := by
  have hsz := own_le W
  obtain ⟨⟨hx, hby, hml, hown, hnm, hrt, hlk, hZ⟩, locs, X, eT, N⟩ := W
  subst hp
  exact own_st (fun _ k => XS.i2l X.here hx rfl (hb hby hd) rfl k) k
theorem own_l2i (W : own_W p l e R s m args below meth c Z y ret code ml ws T h cells slots) {u : Int64} {pc : Nat} (pc' : Nat) {L : Array Slot} {st : List Value} (hd : decode code pc = .ok (.l2i, 1))  (hp : pc + 1 = pc') (k : own_Go p e below C T (mkF m pc' L (.int u.toInt32 :: st))) : own_Go p e below C T (mkF m pc L (.long u :: st)) := by
  have hsz := own_le W
  obtain ⟨⟨hx, hby, hml, hown, hnm, hrt, hlk, hZ⟩, locs, X, eT, N⟩ := W
  subst hp
  exact own_st (fun _ k => XS.l2i X.here hx rfl (hb hby hd) rfl k) k
theorem own_i2b (W : own_W p l e R s m args below meth c Z y ret code ml ws T h cells slots) {u : Int32} {pc : Nat} (pc' : Nat) {L : Array Slot} {st : List Value} (hd : decode code pc = .ok (.i2b, 1))  (hp : pc + 1 = pc') (k : own_Go p e below C T (mkF m pc' L (.int u.toInt8.toInt32 :: st))) : own_Go p e below C T (mkF m pc L (.int u :: st)) := by
  have hsz := own_le W
  obtain ⟨⟨hx, hby, hml, hown, hnm, hrt, hlk, hZ⟩, locs, X, eT, N⟩ := W
  subst hp
  exact own_st (fun _ k => XS.i2b X.here hx rfl (hb hby hd) rfl k) k
theorem own_i2c (W : own_W p l e R s m args below meth c Z y ret code ml ws T h cells slots) {u : Int32} {pc : Nat} (pc' : Nat) {L : Array Slot} {st : List Value} (hd : decode code pc = .ok (.i2c, 1))  (hp : pc + 1 = pc') (k : own_Go p e below C T (mkF m pc' L (.int u.toUInt32.toUInt16.toUInt32.toInt32 :: st))) : own_Go p e below C T (mkF m pc L (.int u :: st)) := by
  have hsz := own_le W
  obtain ⟨⟨hx, hby, hml, hown, hnm, hrt, hlk, hZ⟩, locs, X, eT, N⟩ := W
  subst hp
  exact own_st (fun _ k => XS.i2c X.here hx rfl (hb hby hd) rfl k) k
theorem own_lcmp (W : own_W p l e R s m args below meth c Z y ret code ml ws T h cells slots) {u v : Int64} {pc : Nat} (pc' : Nat) {L : Array Slot} {st : List Value} (hd : decode code pc = .ok (.lcmp, 1))  (hp : pc + 1 = pc') (k : own_Go p e below C T (mkF m pc' L (.int (lcmpW u v) :: st))) : own_Go p e below C T (mkF m pc L (.long v :: .long u :: st)) := by
  have hsz := own_le W
  obtain ⟨⟨hx, hby, hml, hown, hnm, hrt, hlk, hZ⟩, locs, X, eT, N⟩ := W
  subst hp
  exact own_st (fun _ k => XS.lcmp X.here hx rfl (hb hby hd) rfl k) k
theorem own_idiv (W : own_W p l e R s m args below meth c Z y ret code ml ws T h cells slots) {u v : Int32} {pc : Nat} (pc' : Nat) {L : Array Slot} {st : List Value} (hd : decode code pc = .ok (.idiv, 1)) (hv : v ≠ 0) (hp : pc + 1 = pc') (k : own_Go p e below C T (mkF m pc' L (.int (u / v) :: st))) : own_Go p e below C T (mkF m pc L (.int v :: .int u :: st)) := by
  have hsz := own_le W
  obtain ⟨⟨hx, hby, hml, hown, hnm, hrt, hlk, hZ⟩, locs, X, eT, N⟩ := W
  subst hp
  exact own_st (fun _ k => XS.idiv X.here hx rfl (hb hby hd) rfl hv k) k
theorem own_ldiv (W : own_W p l e R s m args below meth c Z y ret code ml ws T h cells slots) {u v : Int64} {pc : Nat} (pc' : Nat) {L : Array Slot} {st : List Value} (hd : decode code pc = .ok (.ldiv, 1)) (hv : v ≠ 0) (hp : pc + 1 = pc') (k : own_Go p e below C T (mkF m pc' L (.long (u / v) :: st))) : own_Go p e below C T (mkF m pc L (.long v :: .long u :: st)) := by
  have hsz := own_le W
  obtain ⟨⟨hx, hby, hml, hown, hnm, hrt, hlk, hZ⟩, locs, X, eT, N⟩ := W
  subst hp
  exact own_st (fun _ k => XS.ldiv X.here hx rfl (hb hby hd) rfl hv k) k
theorem own_lrem (W : own_W p l e R s m args below meth c Z y ret code ml ws T h cells slots) {u v : Int64} {pc : Nat} (pc' : Nat) {L : Array Slot} {st : List Value} (hd : decode code pc = .ok (.lrem, 1)) (hv : v ≠ 0) (hp : pc + 1 = pc') (k : own_Go p e below C T (mkF m pc' L (.long (u - (u / v) * v) :: st))) : own_Go p e below C T (mkF m pc L (.long v :: .long u :: st)) := by
  have hsz := own_le W
  obtain ⟨⟨hx, hby, hml, hown, hnm, hrt, hlk, hZ⟩, locs, X, eT, N⟩ := W
  subst hp
  exact own_st (fun _ k => XS.lrem X.here hx rfl (hb hby hd) rfl hv k) k
theorem own_irem (W : own_W p l e R s m args below meth c Z y ret code ml ws T h cells slots) {u v : Int32} {pc : Nat} (pc' : Nat) {L : Array Slot} {st : List Value} (hd : decode code pc = .ok (.irem, 1)) (hv : v ≠ 0) (hp : pc + 1 = pc') (k : own_Go p e below C T (mkF m pc' L (.int (u % v) :: st))) : own_Go p e below C T (mkF m pc L (.int v :: .int u :: st)) := by
  have hsz := own_le W
  obtain ⟨⟨hx, hby, hml, hown, hnm, hrt, hlk, hZ⟩, locs, X, eT, N⟩ := W
  subst hp
  exact own_st (fun _ k => iremM X hx rfl (hb hby hd) rfl hv k) k
theorem own_iconst (W : own_W p l e R s m args below meth c Z y ret code ml ws T h cells slots) {i : Int} (v : Int32) {pc : Nat} (pc' : Nat) {L : Array Slot} {st : List Value} (hd : decode code pc = .ok (.iconst i, 1)) (hv : Int32.ofInt i = v) (hp : pc + 1 = pc') (k : own_Go p e below C T (mkF m pc' L (.int v :: st))) : own_Go p e below C T (mkF m pc L st) := by
  have hsz := own_le W
  obtain ⟨⟨hx, hby, hml, hown, hnm, hrt, hlk, hZ⟩, locs, X, eT, N⟩ := W
  subst hp hv
  exact own_st (fun _ k => XS.iconst X.here hx rfl (hb hby hd) k) k
theorem own_bipush (W : own_W p l e R s m args below meth c Z y ret code ml ws T h cells slots) {i : Int} (v : Int32) {pc : Nat} (pc' : Nat) {L : Array Slot} {st : List Value} (hd : decode code pc = .ok (.bipush i, 2)) (hv : (Int8.ofInt i).toInt32 = v) (hp : pc + 2 = pc') (k : own_Go p e below C T (mkF m pc' L (.int v :: st))) : own_Go p e below C T (mkF m pc L st) := by
  have hsz := own_le W
  obtain ⟨⟨hx, hby, hml, hown, hnm, hrt, hlk, hZ⟩, locs, X, eT, N⟩ := W
  subst hp hv
  exact own_st (fun _ k => XS.bipush X.here hx rfl (hb hby hd) k) k
theorem own_sipush (W : own_W p l e R s m args below meth c Z y ret code ml ws T h cells slots) {i : Int} (v : Int32) {pc : Nat} (pc' : Nat) {L : Array Slot} {st : List Value} (hd : decode code pc = .ok (.sipush i, 3)) (hv : (Int16.ofInt i).toInt32 = v) (hp : pc + 3 = pc') (k : own_Go p e below C T (mkF m pc' L (.int v :: st))) : own_Go p e below C T (mkF m pc L st) := by
  have hsz := own_le W
  obtain ⟨⟨hx, hby, hml, hown, hnm, hrt, hlk, hZ⟩, locs, X, eT, N⟩ := W
  subst hp hv
  exact own_st (fun _ k => XS.sipush X.here hx rfl (hb hby hd) k) k
theorem own_lconst (W : own_W p l e R s m args below meth c Z y ret code ml ws T h cells slots) {i : Fin 2} (v : Int64) {pc : Nat} (pc' : Nat) {L : Array Slot} {st : List Value} (hd : decode code pc = .ok (.lconst i, 1)) (hv : Int64.ofNat i.val = v) (hp : pc + 1 = pc') (k : own_Go p e below C T (mkF m pc' L (.long v :: st))) : own_Go p e below C T (mkF m pc L st) := by
  have hsz := own_le W
  obtain ⟨⟨hx, hby, hml, hown, hnm, hrt, hlk, hZ⟩, locs, X, eT, N⟩ := W
  subst hp hv
  exact own_st (fun _ k => XS.lconst X.here hx rfl (hb hby hd) k) k
theorem own_aconst_null (W : own_W p l e R s m args below meth c Z y ret code ml ws T h cells slots) {pc : Nat} (pc' : Nat) {L : Array Slot} {st : List Value} (hd : decode code pc = .ok (.aconst_null, 1)) (hp : pc + 1 = pc') (k : own_Go p e below C T (mkF m pc' L (.null :: st))) : own_Go p e below C T (mkF m pc L st) := by
  have hsz := own_le W
  obtain ⟨⟨hx, hby, hml, hown, hnm, hrt, hlk, hZ⟩, locs, X, eT, N⟩ := W
  subst hp
  exact own_st (fun _ k => XS.aconstNull X.here hx rfl (hb hby hd) k) k
theorem own_ldcInt (W : own_W p l e R s m args below meth c Z y ret code ml ws T h cells slots) {i : Nat} {v : Int32} {pc : Nat} (pc' : Nat) {L : Array Slot} {st : List Value} (hd : decode code pc = .ok (.ldc i, 2)) (w : (Jvm.Cond.constant y.cls i v).before a0 Z = true) (hp : pc + 2 = pc') (k : own_Go p e below C T (mkF m pc' L (.int v :: st))) : own_Go p e below C T (mkF m pc L st) := by
  have hsz := own_le W
  obtain ⟨⟨hx, hby, hml, hown, hnm, hrt, hlk, hZ⟩, locs, X, eT, N⟩ := W
  subst hp
  exact own_st (fun _ k => X.ldcInt hx hown (mvT hZ w) (g := mkF m pc L st) rfl (hb hby hd) _ k) k
theorem own_ldc2Long (W : own_W p l e R s m args below meth c Z y ret code ml ws T h cells slots) {i : Nat} {v : Int64} {pc : Nat} (pc' : Nat) {L : Array Slot} {st : List Value} (hd : decode code pc = .ok (.ldc2_w i, 3)) (w : (Jvm.Cond.constantLong y.cls i v).before a0 Z = true) (hp : pc + 3 = pc') (k : own_Go p e below C T (mkF m pc' L (.long v :: st))) : own_Go p e below C T (mkF m pc L st) := by
  have hsz := own_le W
  obtain ⟨⟨hx, hby, hml, hown, hnm, hrt, hlk, hZ⟩, locs, X, eT, N⟩ := W
  subst hp
  exact own_st (fun _ k => X.ldc2Long hx hown (mvT hZ w) (g := mkF m pc L st) rfl (hb hby hd) _ k) k
theorem own_iloadN (W : own_W p l e R s m args below meth c Z y ret code ml ws T h cells slots) {i : Fin 4} {v : Int32} {pc : Nat} (pc' : Nat) {L : Array Slot} {st : List Value} (hd : decode code pc = .ok (.iload_n i, 1)) (hl : L[i.val]? = some (.val (.int v))) (hp : pc + 1 = pc') (k : own_Go p e below C T (mkF m pc' L (.int v :: st))) : own_Go p e below C T (mkF m pc L st) := by
  have hsz := own_le W
  obtain ⟨⟨hx, hby, hml, hown, hnm, hrt, hlk, hZ⟩, locs, X, eT, N⟩ := W
  subst hp
  exact own_st (fun _ k => XS.iloadN X.here hx rfl (hb hby hd) hl k) k
theorem own_iload (W : own_W p l e R s m args below meth c Z y ret code ml ws T h cells slots) {i : Nat} {v : Int32} {pc : Nat} (pc' : Nat) {L : Array Slot} {st : List Value} (hd : decode code pc = .ok (.iload i, 2)) (hl : L[i]? = some (.val (.int v))) (hp : pc + 2 = pc') (k : own_Go p e below C T (mkF m pc' L (.int v :: st))) : own_Go p e below C T (mkF m pc L st) := by
  have hsz := own_le W
  obtain ⟨⟨hx, hby, hml, hown, hnm, hrt, hlk, hZ⟩, locs, X, eT, N⟩ := W
  subst hp
  exact own_st (fun _ k => XS.iload X.here hx rfl (hb hby hd) hl k) k
theorem own_lloadN (W : own_W p l e R s m args below meth c Z y ret code ml ws T h cells slots) {i : Fin 4} {v : Int64} {pc : Nat} (pc' : Nat) {L : Array Slot} {st : List Value} (hd : decode code pc = .ok (.lload_n i, 1)) (hl : L[i.val]? = some (.val (.long v))) (hp : pc + 1 = pc') (k : own_Go p e below C T (mkF m pc' L (.long v :: st))) : own_Go p e below C T (mkF m pc L st) := by
  have hsz := own_le W
  obtain ⟨⟨hx, hby, hml, hown, hnm, hrt, hlk, hZ⟩, locs, X, eT, N⟩ := W
  subst hp
  exact own_st (fun _ k => XS.lloadN X.here hx rfl (hb hby hd) hl k) k
theorem own_lload (W : own_W p l e R s m args below meth c Z y ret code ml ws T h cells slots) {i : Nat} {v : Int64} {pc : Nat} (pc' : Nat) {L : Array Slot} {st : List Value} (hd : decode code pc = .ok (.lload i, 2)) (hl : L[i]? = some (.val (.long v))) (hp : pc + 2 = pc') (k : own_Go p e below C T (mkF m pc' L (.long v :: st))) : own_Go p e below C T (mkF m pc L st) := by
  have hsz := own_le W
  obtain ⟨⟨hx, hby, hml, hown, hnm, hrt, hlk, hZ⟩, locs, X, eT, N⟩ := W
  subst hp
  exact own_st (fun _ k => XS.lload X.here hx rfl (hb hby hd) hl k) k
theorem own_aloadN (W : own_W p l e R s m args below meth c Z y ret code ml ws T h cells slots) {i : Fin 4} {v : Value} {pc : Nat} (pc' : Nat) {L : Array Slot} {st : List Value} (hd : decode code pc = .ok (.aload_n i, 1)) (hl : L[i.val]? = some (.val v)) (hv : v.isRef = true) (hp : pc + 1 = pc') (k : own_Go p e below C T (mkF m pc' L (v :: st))) : own_Go p e below C T (mkF m pc L st) := by
  have hsz := own_le W
  obtain ⟨⟨hx, hby, hml, hown, hnm, hrt, hlk, hZ⟩, locs, X, eT, N⟩ := W
  subst hp
  exact own_st (fun _ k => XS.aloadN X.here hx rfl (hb hby hd) hl hv k) k
theorem own_aload (W : own_W p l e R s m args below meth c Z y ret code ml ws T h cells slots) {i : Nat} {v : Value} {pc : Nat} (pc' : Nat) {L : Array Slot} {st : List Value} (hd : decode code pc = .ok (.aload i, 2)) (hl : L[i]? = some (.val v)) (hv : v.isRef = true) (hp : pc + 2 = pc') (k : own_Go p e below C T (mkF m pc' L (v :: st))) : own_Go p e below C T (mkF m pc L st) := by
  have hsz := own_le W
  obtain ⟨⟨hx, hby, hml, hown, hnm, hrt, hlk, hZ⟩, locs, X, eT, N⟩ := W
  subst hp
  exact own_st (fun _ k => XS.aload X.here hx rfl (hb hby hd) hl hv k) k
theorem own_istoreN (W : own_W p l e R s m args below meth c Z y ret code ml ws T h cells slots) {i : Fin 4} {v : Int32} {pc : Nat} (pc' : Nat) {L : Array Slot} (L' : Array Slot) {st : List Value} (hd : decode code pc = .ok (.istore_n i, 1)) (hl : storeLocals L i.val (.int v) = some L') (hp : pc + 1 = pc') (k : own_Go p e below C T (mkF m pc' L' st)) : own_Go p e below C T (mkF m pc L (.int v :: st)) := by
  have hsz := own_le W
  obtain ⟨⟨hx, hby, hml, hown, hnm, hrt, hlk, hZ⟩, locs, X, eT, N⟩ := W
  subst hp
  exact own_st (fun _ k => XS.istoreN X.here hx rfl (hb hby hd) rfl hl k) k
theorem own_istore (W : own_W p l e R s m args below meth c Z y ret code ml ws T h cells slots) {i : Nat} {v : Int32} {pc : Nat} (pc' : Nat) {L : Array Slot} (L' : Array Slot) {st : List Value} (hd : decode code pc = .ok (.istore i, 2)) (hl : storeLocals L i (.int v) = some L') (hp : pc + 2 = pc') (k : own_Go p e below C T (mkF m pc' L' st)) : own_Go p e below C T (mkF m pc L (.int v :: st)) := by
  have hsz := own_le W
  obtain ⟨⟨hx, hby, hml, hown, hnm, hrt, hlk, hZ⟩, locs, X, eT, N⟩ := W
  subst hp
  exact own_st (fun _ k => XS.istore X.here hx rfl (hb hby hd) rfl hl k) k
theorem own_lstoreN (W : own_W p l e R s m args below meth c Z y ret code ml ws T h cells slots) {i : Fin 4} {v : Int64} {pc : Nat} (pc' : Nat) {L : Array Slot} (L' : Array Slot) {st : List Value} (hd : decode code pc = .ok (.lstore_n i, 1)) (hl : storeLocals L i.val (.long v) = some L') (hp : pc + 1 = pc') (k : own_Go p e below C T (mkF m pc' L' st)) : own_Go p e below C T (mkF m pc L (.long v :: st)) := by
  have hsz := own_le W
  obtain ⟨⟨hx, hby, hml, hown, hnm, hrt, hlk, hZ⟩, locs, X, eT, N⟩ := W
  subst hp
  exact own_st (fun _ k => XS.lstoreN X.here hx rfl (hb hby hd) rfl hl k) k
theorem own_lstore (W : own_W p l e R s m args below meth c Z y ret code ml ws T h cells slots) {i : Nat} {v : Int64} {pc : Nat} (pc' : Nat) {L : Array Slot} (L' : Array Slot) {st : List Value} (hd : decode code pc = .ok (.lstore i, 2)) (hl : storeLocals L i (.long v) = some L') (hp : pc + 2 = pc') (k : own_Go p e below C T (mkF m pc' L' st)) : own_Go p e below C T (mkF m pc L (.long v :: st)) := by
  have hsz := own_le W
  obtain ⟨⟨hx, hby, hml, hown, hnm, hrt, hlk, hZ⟩, locs, X, eT, N⟩ := W
  subst hp
  exact own_st (fun _ k => XS.lstore X.here hx rfl (hb hby hd) rfl hl k) k
theorem own_astoreN (W : own_W p l e R s m args below meth c Z y ret code ml ws T h cells slots) {i : Fin 4} {v : Value} {pc : Nat} (pc' : Nat) {L : Array Slot} (L' : Array Slot) {st : List Value} (hd : decode code pc = .ok (.astore_n i, 1)) (hv : v.isRef = true) (hl : storeLocals L i.val v = some L') (hp : pc + 1 = pc') (k : own_Go p e below C T (mkF m pc' L' st)) : own_Go p e below C T (mkF m pc L (v :: st)) := by
  have hsz := own_le W
  obtain ⟨⟨hx, hby, hml, hown, hnm, hrt, hlk, hZ⟩, locs, X, eT, N⟩ := W
  subst hp
  exact own_st (fun _ k => XS.astoreN X.here hx rfl (hb hby hd) rfl hv hl k) k
theorem own_astore (W : own_W p l e R s m args below meth c Z y ret code ml ws T h cells slots) {i : Nat} {v : Value} {pc : Nat} (pc' : Nat) {L : Array Slot} (L' : Array Slot) {st : List Value} (hd : decode code pc = .ok (.astore i, 2)) (hv : v.isRef = true) (hl : storeLocals L i v = some L') (hp : pc + 2 = pc') (k : own_Go p e below C T (mkF m pc' L' st)) : own_Go p e below C T (mkF m pc L (v :: st)) := by
  have hsz := own_le W
  obtain ⟨⟨hx, hby, hml, hown, hnm, hrt, hlk, hZ⟩, locs, X, eT, N⟩ := W
  subst hp
  exact own_st (fun _ k => XS.astore X.here hx rfl (hb hby hd) rfl hv hl k) k
theorem own_iinc (W : own_W p l e R s m args below meth c Z y ret code ml ws T h cells slots) {i : Nat} {cst : Int} {v : Int32} (v' : Int32) {pc : Nat} (pc' : Nat) {L : Array Slot} (L' : Array Slot) {st : List Value} (hd : decode code pc = .ok (.iinc i cst, 3)) (hv : L[i]? = some (.val (.int v))) (hv' : v + Int32.ofInt cst = v') (hl : storeLocals L i (.int v') = some L') (hp : pc + 3 = pc') (k : own_Go p e below C T (mkF m pc' L' st)) : own_Go p e below C T (mkF m pc L st) := by
  have hsz := own_le W
  obtain ⟨⟨hx, hby, hml, hown, hnm, hrt, hlk, hZ⟩, locs, X, eT, N⟩ := W
  subst hp hv'
  exact own_st (fun _ k => XS.iinc X.here hx rfl (hb hby hd) hv hl k) k
theorem own_dup (W : own_W p l e R s m args below meth c Z y ret code ml ws T h cells slots) {v : Value} {pc : Nat} (pc' : Nat) {L : Array Slot} {st : List Value} (hd : decode code pc = .ok (.dup, 1)) (hc : v.category = 1) (hp : pc + 1 = pc') (k : own_Go p e below C T (mkF m pc' L (v :: v :: st))) : own_Go p e below C T (mkF m pc L (v :: st)) := by
  have hsz := own_le W
  obtain ⟨⟨hx, hby, hml, hown, hnm, hrt, hlk, hZ⟩, locs, X, eT, N⟩ := W
  subst hp
  exact own_st (fun _ k => XS.dup X.here hx rfl (hb hby hd) rfl hc k) k
theorem own_pop (W : own_W p l e R s m args below meth c Z y ret code ml ws T h cells slots) {v : Value} {pc : Nat} (pc' : Nat) {L : Array Slot} {st : List Value} (hd : decode code pc = .ok (.pop, 1)) (hc : v.category = 1) (hp : pc + 1 = pc') (k : own_Go p e below C T (mkF m pc' L st)) : own_Go p e below C T (mkF m pc L (v :: st)) := by
  have hsz := own_le W
  obtain ⟨⟨hx, hby, hml, hown, hnm, hrt, hlk, hZ⟩, locs, X, eT, N⟩ := W
  subst hp
  exact own_st (fun _ k => XS.pop X.here hx rfl (hb hby hd) rfl hc k) k
theorem own_dup_x1 (W : own_W p l e R s m args below meth c Z y ret code ml ws T h cells slots) {u v : Value} {pc : Nat} (pc' : Nat) {L : Array Slot} {st : List Value} (hd : decode code pc = .ok (.dup_x1, 1)) (hc : v.category = 1) (hc' : u.category = 1) (hp : pc + 1 = pc') (k : own_Go p e below C T (mkF m pc' L (v :: u :: v :: st))) : own_Go p e below C T (mkF m pc L (v :: u :: st)) := by
  have hsz := own_le W
  obtain ⟨⟨hx, hby, hml, hown, hnm, hrt, hlk, hZ⟩, locs, X, eT, N⟩ := W
  subst hp
  exact own_st (fun _ k => XS.dupX1 X.here hx rfl (hb hby hd) rfl hc hc' k) k
theorem own_goto (W : own_W p l e R s m args below meth c Z y ret code ml ws T h cells slots) {o : Int} {pc : Nat} (pc' : Nat) {L : Array Slot} {st : List Value} (hd : decode code pc = .ok (.goto o, 3)) (ho : 0 ≤ (pc : Int) + o) (hp : ((pc : Int) + o).toNat = pc') (k : own_Go p e below C T (mkF m pc' L st)) : own_Go p e below C T (mkF m pc L st) := by
  have hsz := own_le W
  obtain ⟨⟨hx, hby, hml, hown, hnm, hrt, hlk, hZ⟩, locs, X, eT, N⟩ := W
  exact own_st (fun _ k => XS.goto X.here hx rfl rfl (hb hby hd) ho hp k) k
theorem own_ifY (W : own_W p l e R s m args below meth c Z y ret code ml ws T h cells slots) {cd : ClassFile.Cond} {o : Int} {u : Int32} {pc : Nat} (pc' : Nat) {L : Array Slot} {st : List Value} (hd : decode code pc = .ok (.ifCond cd o, 3)) (hc : ifCond.holds cd u = true) (ho : 0 ≤ (pc : Int) + o) (hp : ((pc : Int) + o).toNat = pc') (k : own_Go p e below C T (mkF m pc' L st)) : own_Go p e below C T (mkF m pc L (.int u :: st)) := by
  have hsz := own_le W
  obtain ⟨⟨hx, hby, hml, hown, hnm, hrt, hlk, hZ⟩, locs, X, eT, N⟩ := W
  exact own_st (fun _ k => XS.ifYes X.here hx rfl rfl (hb hby hd) rfl hc ho hp k) k
theorem own_ifN (W : own_W p l e R s m args below meth c Z y ret code ml ws T h cells slots) {cd : ClassFile.Cond} {o : Int} {u : Int32} {pc : Nat} (pc' : Nat) {L : Array Slot} {st : List Value} (hd : decode code pc = .ok (.ifCond cd o, 3)) (hc : ifCond.holds cd u = false) (hp : pc + 3 = pc') (k : own_Go p e below C T (mkF m pc' L st)) : own_Go p e below C T (mkF m pc L (.int u :: st)) := by
  have hsz := own_le W
  obtain ⟨⟨hx, hby, hml, hown, hnm, hrt, hlk, hZ⟩, locs, X, eT, N⟩ := W
  subst hp
  exact own_st (fun _ k => XS.ifNo X.here hx rfl (hb hby hd) rfl hc k) k
theorem own_icmpY (W : own_W p l e R s m args below meth c Z y ret code ml ws T h cells slots) {cd : ClassFile.Cond} {o : Int} {u v : Int32} {pc : Nat} (pc' : Nat) {L : Array Slot} {st : List Value} (hd : decode code pc = .ok (.if_icmp cd o, 3)) (hc : if_icmp.holds cd u v = true) (ho : 0 ≤ (pc : Int) + o) (hp : ((pc : Int) + o).toNat = pc') (k : own_Go p e below C T (mkF m pc' L st)) : own_Go p e below C T (mkF m pc L (.int v :: .int u :: st)) := by
  have hsz := own_le W
  obtain ⟨⟨hx, hby, hml, hown, hnm, hrt, hlk, hZ⟩, locs, X, eT, N⟩ := W
  exact own_st (fun _ k => XS.icmpYes X.here hx rfl rfl (hb hby hd) rfl hc ho hp k) k
theorem own_icmpN (W : own_W p l e R s m args below meth c Z y ret code ml ws T h cells slots) {cd : ClassFile.Cond} {o : Int} {u v : Int32} {pc : Nat} (pc' : Nat) {L : Array Slot} {st : List Value} (hd : decode code pc = .ok (.if_icmp cd o, 3)) (hc : if_icmp.holds cd u v = false) (hp : pc + 3 = pc') (k : own_Go p e below C T (mkF m pc' L st)) : own_Go p e below C T (mkF m pc L (.int v :: .int u :: st)) := by
  have hsz := own_le W
  obtain ⟨⟨hx, hby, hml, hown, hnm, hrt, hlk, hZ⟩, locs, X, eT, N⟩ := W
  subst hp
  exact own_st (fun _ k => XS.icmpNo X.here hx rfl (hb hby hd) rfl hc k) k
theorem own_ifnullY (W : own_W p l e R s m args below meth c Z y ret code ml ws T h cells slots) {o : Int} {b : Addr} {pc : Nat} (pc' : Nat) {L : Array Slot} {st : List Value} (hd : decode code pc = .ok (.ifnull o, 3)) (ho : 0 ≤ (pc : Int) + o) (hp : ((pc : Int) + o).toNat = pc') (k : own_Go p e below C T (mkF m pc' L st)) : own_Go p e below C T (mkF m pc L (.null :: st)) := by
  have hsz := own_le W
  obtain ⟨⟨hx, hby, hml, hown, hnm, hrt, hlk, hZ⟩, locs, X, eT, N⟩ := W
  exact own_st (fun _ k => XS.ifnullYes X.here hx rfl rfl (hb hby hd) rfl ho hp k) k
theorem own_ifnullN (W : own_W p l e R s m args below meth c Z y ret code ml ws T h cells slots) {o : Int} {b : Addr} {pc : Nat} (pc' : Nat) {L : Array Slot} {st : List Value} (hd : decode code pc = .ok (.ifnull o, 3)) (hp : pc + 3 = pc') (k : own_Go p e below C T (mkF m pc' L st)) : own_Go p e below C T (mkF m pc L (.ref b :: st)) := by
  have hsz := own_le W
  obtain ⟨⟨hx, hby, hml, hown, hnm, hrt, hlk, hZ⟩, locs, X, eT, N⟩ := W
  subst hp
  exact own_st (fun _ k => XS.ifnullNo X.here hx rfl (hb hby hd) rfl k) k
theorem own_ifnonnullY (W : own_W p l e R s m args below meth c Z y ret code ml ws T h cells slots) {o : Int} {b : Addr} {pc : Nat} (pc' : Nat) {L : Array Slot} {st : List Value} (hd : decode code pc = .ok (.ifnonnull o, 3)) (ho : 0 ≤ (pc : Int) + o) (hp : ((pc : Int) + o).toNat = pc') (k : own_Go p e below C T (mkF m pc' L st)) : own_Go p e below C T (mkF m pc L (.ref b :: st)) := by
  have hsz := own_le W
  obtain ⟨⟨hx, hby, hml, hown, hnm, hrt, hlk, hZ⟩, locs, X, eT, N⟩ := W
  exact own_st (fun _ k => XS.ifnonnullYes X.here hx rfl rfl (hb hby hd) rfl ho hp k) k
theorem own_ifnonnullN (W : own_W p l e R s m args below meth c Z y ret code ml ws T h cells slots) {o : Int} {b : Addr} {pc : Nat} (pc' : Nat) {L : Array Slot} {st : List Value} (hd : decode code pc = .ok (.ifnonnull o, 3)) (hp : pc + 3 = pc') (k : own_Go p e below C T (mkF m pc' L st)) : own_Go p e below C T (mkF m pc L (.null :: st)) := by
  have hsz := own_le W
  obtain ⟨⟨hx, hby, hml, hown, hnm, hrt, hlk, hZ⟩, locs, X, eT, N⟩ := W
  subst hp
  exact own_st (fun _ k => XS.ifnonnullNo X.here hx rfl (hb hby hd) rfl k) k
theorem own_acmp (W : own_W p l e R s m args below meth c Z y ret code ml ws T h cells slots) {cd : ACond} {o : Int} {u v : Value} {same : Bool} {pc : Nat} (pc' : Nat) {L : Array Slot} {st : List Value} (hd : decode code pc = .ok (.if_acmp cd o, 3)) (h1 : u.isRef = true) (h2 : v.isRef = true) (hq : decide (u = v) = same) (ho : 0 ≤ (pc : Int) + o) (hp : pc' = if acV cd same = true then ((pc : Int) + o).toNat else pc + 3) (k : own_Go p e below C T (mkF m pc' L st)) : own_Go p e below C T (mkF m pc L (v :: u :: st)) := by
  have hsz := own_le W
  obtain ⟨⟨hx, hby, hml, hown, hnm, hrt, hlk, hZ⟩, locs, X, eT, N⟩ := W
  exact own_st (fun _ k => Jvm.RoadKit.acmp X hx rfl h1 h2 rfl (hb hby hd) rfl hq ho hp k) k
theorem own_retI {Q : Option Value → Heap → Prop} {kc ks : Nat} {z : Int32}  (W : own_W p l e R s m args below meth c Z y (some .int) code ml ws T h cells slots) (hC : ∀ v L u, own_Fw s ws L → Q v u.heap → FrameEnd s (.returned v) u L kc ks → C (.returned v) u) (hcl : cells ≤ kc) (hsl : slots ≤ ks) {pc : Nat} {L : Array Slot} {st : List Value} (hd : decode code pc = .ok (.ireturn, 1)) (hq : Q (some (.int z)) h) : own_Go p e below C T (mkF m pc L (.int z :: st)) := by
  have hsz := own_le W
  obtain ⟨⟨hx, hby, hml, hown, hnm, hrt, hlk, hZ⟩, locs, X, eT, N⟩ := W
  subst eT
  obtain ⟨fs, hr, hrun, hended, hW, hsame⟩ := X.leave (v := (some (.int z))) (fun h => by rw [hrt] at h; cases h) hlk
  refine ⟨_, _, ?_, hrun, hended, hC _ _ _ N hq ⟨⟨_, rfl⟩, hW, hsame.mono hcl hsl⟩⟩
  have hn : narrow .int (.int z) = .int z := rfl
  show Steps p.tables e below (T.setTop { method := m, pc := pc, locals := L, stack := _ :: st, locked := none }) _
  have hm' := X.method'
  jvm_step X.here [X.here.top, hx, (hb hby hd), hm', hrt, hn]
  first | (intro acts; rw [hr _ acts rfl rfl rfl]) | rw [hr _ _ rfl rfl rfl]
  exact Steps.refl _
theorem own_retZ {Q : Option Value → Heap → Prop} {kc ks : Nat} {z : Int32}  (W : own_W p l e R s m args below meth c Z y (some .boolean) code ml ws T h cells slots) (hC : ∀ v L u, own_Fw s ws L → Q v u.heap → FrameEnd s (.returned v) u L kc ks → C (.returned v) u) (hcl : cells ≤ kc) (hsl : slots ≤ ks) {pc : Nat} {L : Array Slot} {st : List Value} (hd : decode code pc = .ok (.ireturn, 1)) (hq : Q (some (.int (z &&& 1))) h) : own_Go p e below C T (mkF m pc L (.int z :: st)) := by
  have hsz := own_le W
  obtain ⟨⟨hx, hby, hml, hown, hnm, hrt, hlk, hZ⟩, locs, X, eT, N⟩ := W
  subst eT
  obtain ⟨fs, hr, hrun, hended, hW, hsame⟩ := X.leave (v := (some (.int (z &&& 1)))) (fun h => by rw [hrt] at h; cases h) hlk
  refine ⟨_, _, ?_, hrun, hended, hC _ _ _ N hq ⟨⟨_, rfl⟩, hW, hsame.mono hcl hsl⟩⟩
  exact retN X hx (t := .boolean) hrt (by simp) (hb hby hd) hr
theorem own_retB {Q : Option Value → Heap → Prop} {kc ks : Nat} {z : Int32}  (W : own_W p l e R s m args below meth c Z y (some .byte) code ml ws T h cells slots) (hC : ∀ v L u, own_Fw s ws L → Q v u.heap → FrameEnd s (.returned v) u L kc ks → C (.returned v) u) (hcl : cells ≤ kc) (hsl : slots ≤ ks) {pc : Nat} {L : Array Slot} {st : List Value} (hd : decode code pc = .ok (.ireturn, 1)) (hq : Q (some (.int z.toInt8.toInt32)) h) : own_Go p e below C T (mkF m pc L (.int z :: st)) := by
  have hsz := own_le W
  obtain ⟨⟨hx, hby, hml, hown, hnm, hrt, hlk, hZ⟩, locs, X, eT, N⟩ := W
  subst eT
  obtain ⟨fs, hr, hrun, hended, hW, hsame⟩ := X.leave (v := (some (.int z.toInt8.toInt32))) (fun h => by rw [hrt] at h; cases h) hlk
  refine ⟨_, _, ?_, hrun, hended, hC _ _ _ N hq ⟨⟨_, rfl⟩, hW, hsame.mono hcl hsl⟩⟩
  exact retN X hx (t := .byte) hrt (by simp) (hb hby hd) hr
theorem own_retC {Q : Option Value → Heap → Prop} {kc ks : Nat} {z : Int32}  (W : own_W p l e R s m args below meth c Z y (some .char) code ml ws T h cells slots) (hC : ∀ v L u, own_Fw s ws L → Q v u.heap → FrameEnd s (.returned v) u L kc ks → C (.returned v) u) (hcl : cells ≤ kc) (hsl : slots ≤ ks) {pc : Nat} {L : Array Slot} {st : List Value} (hd : decode code pc = .ok (.ireturn, 1)) (hq : Q (some (.int z.toUInt32.toUInt16.toUInt32.toInt32)) h) : own_Go p e below C T (mkF m pc L (.int z :: st)) := by
  have hsz := own_le W
  obtain ⟨⟨hx, hby, hml, hown, hnm, hrt, hlk, hZ⟩, locs, X, eT, N⟩ := W
  subst eT
  obtain ⟨fs, hr, hrun, hended, hW, hsame⟩ := X.leave (v := (some (.int z.toUInt32.toUInt16.toUInt32.toInt32))) (fun h => by rw [hrt] at h; cases h) hlk
  refine ⟨_, _, ?_, hrun, hended, hC _ _ _ N hq ⟨⟨_, rfl⟩, hW, hsame.mono hcl hsl⟩⟩
  exact retN X hx (t := .char) hrt (by simp) (hb hby hd) hr
theorem own_retJ {Q : Option Value → Heap → Prop} {kc ks : Nat} {z : Int64}  (W : own_W p l e R s m args below meth c Z y (some .long) code ml ws T h cells slots) (hC : ∀ v L u, own_Fw s ws L → Q v u.heap → FrameEnd s (.returned v) u L kc ks → C (.returned v) u) (hcl : cells ≤ kc) (hsl : slots ≤ ks) {pc : Nat} {L : Array Slot} {st : List Value} (hd : decode code pc = .ok (.lreturn, 1)) (hq : Q (some (.long z)) h) : own_Go p e below C T (mkF m pc L (.long z :: st)) := by
  have hsz := own_le W
  obtain ⟨⟨hx, hby, hml, hown, hnm, hrt, hlk, hZ⟩, locs, X, eT, N⟩ := W
  subst eT
  obtain ⟨fs, hr, hrun, hended, hW, hsame⟩ := X.leave (v := (some (.long z))) (fun h => by rw [hrt] at h; cases h) hlk
  refine ⟨_, _, ?_, hrun, hended, hC _ _ _ N hq ⟨⟨_, rfl⟩, hW, hsame.mono hcl hsl⟩⟩
  have hn : narrow .long (.long z) = .long z := rfl
  show Steps p.tables e below (T.setTop { method := m, pc := pc, locals := L, stack := _ :: st, locked := none }) _
  have hm' := X.method'
  jvm_step X.here [X.here.top, hx, (hb hby hd), hm', hrt, hn]
  first | (intro acts; rw [hr _ acts rfl rfl rfl]) | rw [hr _ _ rfl rfl rfl]
  exact Steps.refl _
theorem own_retV {Q : Option Value → Heap → Prop} {kc ks : Nat}  (W : own_W p l e R s m args below meth c Z y none code ml ws T h cells slots) (hC : ∀ v L u, own_Fw s ws L → Q v u.heap → FrameEnd s (.returned v) u L kc ks → C (.returned v) u) (hcl : cells ≤ kc) (hsl : slots ≤ ks) {pc : Nat} {L : Array Slot} (hd : decode code pc = .ok (.return_, 1)) (hq : Q none h) : own_Go p e below C T (mkF m pc L []) := by
  have hsz := own_le W
  obtain ⟨⟨hx, hby, hml, hown, hnm, hrt, hlk, hZ⟩, locs, X, eT, N⟩ := W
  subst eT
  obtain ⟨fs, hr, hrun, hended, hW, hsame⟩ := X.leave (v := none) (fun _ => rfl) hlk
  refine ⟨_, _, ?_, hrun, hended, hC _ _ _ N hq ⟨⟨_, rfl⟩, hW, hsame.mono hcl hsl⟩⟩
  exact X.returnOut hx hrt (hb hby hd) hr
theorem own_retA {Q : Option Value → Heap → Prop} {kc ks : Nat} {rt : FieldType} {z : Value} (W : own_W p l e R s m args below meth c Z y (some rt) code ml ws T h cells slots) (hC : ∀ v L u, own_Fw s ws L → Q v u.heap → FrameEnd s (.returned v) u L kc ks → C (.returned v) u) (hcl : cells ≤ kc) (hsl : slots ≤ ks) (hrr : rt.isReference = true) (hzr : z.isRef = true) {pc : Nat} {L : Array Slot} {st : List Value} (hd : decode code pc = .ok (.areturn, 1)) (hn : narrow rt z = z) (hq : Q (some z) h) : own_Go p e below C T (mkF m pc L (z :: st)) := by
  have hsz := own_le W
  obtain ⟨⟨hx, hby, hml, hown, hnm, hrt, hlk, hZ⟩, locs, X, eT, N⟩ := W
  subst eT
  obtain ⟨fs, hr, hrun, hended, hW, hsame⟩ := X.leave (v := some z) (fun h => by rw [hrt] at h; cases h) hlk
  refine ⟨_, _, ?_, hrun, hended, hC _ _ _ N hq ⟨⟨_, rfl⟩, hW, hsame.mono hcl hsl⟩⟩
  exact retOut X hx hrt hn (Or.inr (Or.inr (Or.inr (Or.inr ⟨rfl, hrr, hzr⟩)))) (hb hby hd) hr
/-- an array by its places: n of them, place j holds f j -/
def own_A (Z : State) (h : Heap) (a : Addr) (ty : FieldType) (n : Nat) (f : Nat → Value) : Prop := ∃ cl : Cell, Arr Z h a cl ty ∧ cl.slots.size = n ∧ ∀ j, j < n → cl.slots[j]? = some (f j)
def own_upd (f : Nat → Value) (k : Nat) (v : Value) : Nat → Value := fun j => if j = k then v else f j
theorem own_A.lt {a : Addr} {ty : FieldType} {n : Nat} {f : Nat → Value} (F : own_A Z h a ty n f) : a < h.size := by obtain ⟨cl, A, -⟩ := F; exact A.lt
theorem own_A.ext {h' : Heap} {a : Addr} {ty : FieldType} {n : Nat} {f : Nat → Value} (F : own_A Z h a ty n f) (E : Ext h h') : own_A Z h' a ty n f := by obtain ⟨cl, A, r⟩ := F; exact ⟨cl, A.ext E, r⟩
theorem own_A.other {h' : Heap} {a b : Addr} {sl : Nat} {v : Value} {ty : FieldType} {n : Nat} {f : Nat → Value} (F : own_A Z h b ty n f) (q : Wr h h' a sl v) (ne : b ≠ a) : own_A Z h' b ty n f := by obtain ⟨cl, A, r⟩ := F; exact ⟨cl, A.other q ne, r⟩
theorem own_A.keep {h' : Heap} {ws : List Addr} {a : Addr} {ty : FieldType} {n : Nat} {f : Nat → Value} (F : own_A Z h a ty n f) (K : Keep h h' ws) (q : a ∉ ws) : own_A Z h' a ty n f := by obtain ⟨cl, A, r⟩ := F; exact ⟨cl, ⟨K.2.1 a cl A.1 q, A.2⟩, r⟩
theorem own_A.congr {a : Addr} {ty : FieldType} {n : Nat} {f g : Nat → Value} (F : own_A Z h a ty n f) (q : ∀ j, j < n → f j = g j) : own_A Z h a ty n g := by obtain ⟨cl, A, r1, r2⟩ := F; exact ⟨cl, A, r1, fun j hj => by rw [r2 j hj, q j hj]⟩
theorem own_nn {z : Int32} {k : Nat} (hz : z.toInt = (k : Int)) : ¬ z < 0 := by rw [Int32.lt_iff_toInt_lt]; have : (0 : Int32).toInt = 0 := rfl; omega
theorem own_cl {z : Int32} {k : Nat} (hz : z.toInt = (k : Int)) : z.toNatClampNeg = k := by
  have h := nat_of (own_nn hz)
  omega
theorem own_in {z : Int32} {k n : Nat} {cl : Cell} (hz : z.toInt = (k : Int)) (hs : cl.slots.size = n) (hk : k < n) : ¬ (z < 0 ∨ cl.slots.size ≤ z.toNatClampNeg) := by
  rintro (q | q)
  · exact own_nn hz q
  · rw [own_cl hz] at q; omega
theorem own_A.set {h' : Heap} {a : Addr} {ty : FieldType} {n k : Nat} {f : Nat → Value} {v : Value} (F : own_A Z h a ty n f) (q : Wr h h' a k v) (hk : k < n) : own_A Z h' a ty n (own_upd f k v) := by
  obtain ⟨cl, A, r1, r2⟩ := F
  refine ⟨cl.setSlot k v, Arr.same q A, by rw [sz_set]; exact r1, fun j hj => ?_⟩
  by_cases e : j = k
  · subst e; simp [own_upd, Cell.setSlot, r1, hj]
  · simp only [own_upd, if_neg e, Cell.setSlot]
    rw [Array.getElem?_setIfInBounds_ne (Ne.symm e)]; exact r2 j hj
theorem own_newarray (W : own_W p l e R s m args below meth c Z y ret code ml ws T h cells slots) {aty : ArrayType} {z : Int32} (N cap : Nat) {pc : Nat} (pc' : Nat) {L : Array Slot} {st : List Value} (hd : decode code pc = .ok (.newarray aty, 2)) (w : (Jvm.Cond.arrayClass (newarray.typeOf aty)).before a0 Z = true) (hz : z.toInt = (N : Int)) (hcap : N ≤ cap) (hb8 : cap * 8 ≤ 536870912) (hc : cells + 1 ≤ R.cells) (hl : slots + cap ≤ R.slots) (hp : pc + 2 = pc') (k : ∀ T' h' a, own_W p l e R s m args below meth c Z y ret code ml ws T' h' (cells + 1) (slots + cap) → Ext h h' → a = h.size → s.heap.size ≤ a → own_A Z h' a (newarray.typeOf aty) N (fun _ => defaultValue (newarray.typeOf aty)) → own_Go p e below C T' (mkF m pc' L (.ref a :: st))) : own_Go p e below C T (mkF m pc L (.int z :: st)) := by
  have hsz := own_le W
  obtain ⟨⟨hx, hby, hml, hown, hnm, hrt, hlk, hZ⟩, locs, X, eT, Nf⟩ := W
  subst hp
  have hcl := own_cl hz
  obtain ⟨T', h', cA, X', e', E', A', st'⟩ := newP X hx hZ w eT (g := mkF m pc L (.int z :: st)) rfl (hb hby hd) rfl (own_nn hz) (cap := cap) (by rw [hcl]; exact hcap) hb8 hc hl
  refine own_st st' (k T' h' h.size ⟨⟨hx, hby, hml, hown, hnm, hrt, hlk, hZ⟩, locs, X', e', Nf⟩ E' rfl hsz ⟨_, A', by rw [sz_new, hcl], fun j hj => ?_⟩)
  simp [newA, hcl, hj]
theorem own_baload (W : own_W p l e R s m args below meth c Z y ret code ml ws T h cells slots) {a : Addr} {z : Int32} {n : Nat} {f : Nat → Value} (k : Nat) (v : Int32) {pc : Nat} (pc' : Nat) {L : Array Slot} {st : List Value} (hd : decode code pc = .ok (.baload, 1)) (F : own_A Z h a .byte n f) (hz : z.toInt = (k : Int)) (hk : k < n) (hv : f k = (.int v)) (hp : pc + 1 = pc') (kk : own_Go p e below C T (mkF m pc' L ((.int v) :: st))) : own_Go p e below C T (mkF m pc L (.int z :: .ref a :: st)) := by
  have hsz := own_le W
  obtain ⟨⟨hx, hby, hml, hown, hnm, hrt, hlk, hZ⟩, locs, X, eT, N⟩ := W
  subst hp eT
  obtain ⟨cl, A, hs, hf⟩ := F
  have hat : cl.slots[z.toNatClampNeg]? = some (.int v) := by rw [own_cl hz, hf k hk, hv]
  exact own_st (fun t q => X.baloadBytes hx A.1 (State.isArrayOf_alike hZ.alike A.2.1) A.2.2 (own_in hz hs hk) hat (g := mkF m pc L (.int z :: .ref a :: st)) rfl rfl (hb hby hd) t q) kk
theorem own_iaload (W : own_W p l e R s m args below meth c Z y ret code ml ws T h cells slots) {a : Addr} {z : Int32} {n : Nat} {f : Nat → Value} (k : Nat) (v : Int32) {pc : Nat} (pc' : Nat) {L : Array Slot} {st : List Value} (hd : decode code pc = .ok (.iaload, 1)) (F : own_A Z h a .int n f) (hz : z.toInt = (k : Int)) (hk : k < n) (hv : f k = (.int v)) (hp : pc + 1 = pc') (kk : own_Go p e below C T (mkF m pc' L ((.int v) :: st))) : own_Go p e below C T (mkF m pc L (.int z :: .ref a :: st)) := by
  have hsz := own_le W
  obtain ⟨⟨hx, hby, hml, hown, hnm, hrt, hlk, hZ⟩, locs, X, eT, N⟩ := W
  subst hp eT
  obtain ⟨cl, A, hs, hf⟩ := F
  have hat : cl.slots[z.toNatClampNeg]? = some (.int v) := by rw [own_cl hz, hf k hk, hv]
  exact own_st (fun t q => X.iaload hx A.1 (State.isArrayOf_alike hZ.alike A.2.1) A.2.2 (own_in hz hs hk) hat (g := mkF m pc L (.int z :: .ref a :: st)) rfl rfl (hb hby hd) t q) kk
theorem own_laload (W : own_W p l e R s m args below meth c Z y ret code ml ws T h cells slots) {a : Addr} {z : Int32} {n : Nat} {f : Nat → Value} (k : Nat) (v : Int64) {pc : Nat} (pc' : Nat) {L : Array Slot} {st : List Value} (hd : decode code pc = .ok (.laload, 1)) (F : own_A Z h a .long n f) (hz : z.toInt = (k : Int)) (hk : k < n) (hv : f k = (.long v)) (hp : pc + 1 = pc') (kk : own_Go p e below C T (mkF m pc' L ((.long v) :: st))) : own_Go p e below C T (mkF m pc L (.int z :: .ref a :: st)) := by
  have hsz := own_le W
  obtain ⟨⟨hx, hby, hml, hown, hnm, hrt, hlk, hZ⟩, locs, X, eT, N⟩ := W
  subst hp eT
  obtain ⟨cl, A, hs, hf⟩ := F
  have hat : cl.slots[z.toNatClampNeg]? = some (.long v) := by rw [own_cl hz, hf k hk, hv]
  exact own_st (fun t q => X.laload hx A.1 (State.isArrayOf_alike hZ.alike A.2.1) A.2.2 (own_in hz hs hk) hat (g := mkF m pc L (.int z :: .ref a :: st)) rfl rfl (hb hby hd) t q) kk
theorem own_caload (W : own_W p l e R s m args below meth c Z y ret code ml ws T h cells slots) {a : Addr} {z : Int32} {n : Nat} {f : Nat → Value} (k : Nat) (v : Int32) {pc : Nat} (pc' : Nat) {L : Array Slot} {st : List Value} (hd : decode code pc = .ok (.caload, 1)) (F : own_A Z h a .char n f) (hz : z.toInt = (k : Int)) (hk : k < n) (hv : f k = (.int v)) (hp : pc + 1 = pc') (kk : own_Go p e below C T (mkF m pc' L ((.int v) :: st))) : own_Go p e below C T (mkF m pc L (.int z :: .ref a :: st)) := by
  have hsz := own_le W
  obtain ⟨⟨hx, hby, hml, hown, hnm, hrt, hlk, hZ⟩, locs, X, eT, N⟩ := W
  subst hp eT
  obtain ⟨cl, A, hs, hf⟩ := F
  have hat : cl.slots[z.toNatClampNeg]? = some (.int v) := by rw [own_cl hz, hf k hk, hv]
  exact own_st (fun t q => X.caload hx A.1 (State.isArrayOf_alike hZ.alike A.2.1) A.2.2 (own_in hz hs hk) hat (g := mkF m pc L (.int z :: .ref a :: st)) rfl rfl (hb hby hd) t q) kk
theorem own_bastore (W : own_W p l e R s m args below meth c Z y ret code ml ws T h cells slots) {a : Addr} {z : Int32} {n : Nat} {f : Nat → Value} {xx : Int32} (k : Nat) {pc : Nat} (pc' : Nat) {L : Array Slot} {st : List Value} (hd : decode code pc = .ok (.bastore, 1)) (F : own_A Z h a .byte n f) (ha : a ∈ ws ∨ s.heap.size ≤ a) (hz : z.toInt = (k : Int)) (hk : k < n) (hp : pc + 1 = pc') (kk : ∀ T' h', own_W p l e R s m args below meth c Z y ret code ml ws T' h' cells slots → Wr h h' a k (.int xx.toInt8.toInt32) → own_A Z h' a .byte n (own_upd f k (.int xx.toInt8.toInt32)) → own_Go p e below C T' (mkF m pc' L st)) : own_Go p e below C T (mkF m pc L (.int xx :: .int z :: .ref a :: st)) := by
  have hsz := own_le W
  obtain ⟨⟨hx, hby, hml, hown, hnm, hrt, hlk, hZ⟩, locs, X, eT, N⟩ := W
  subst hp
  have F' := F
  obtain ⟨cl, A, hs, hf⟩ := F
  obtain ⟨T', h', X', e', W', st'⟩ := stB X hx hZ eT A (j := z) (own_in hz hs hk) (g := mkF m pc L (.int xx :: .int z :: .ref a :: st)) rfl rfl (hb hby hd)
  rw [own_cl hz] at W'
  exact own_st st' (kk T' h' ⟨⟨hx, hby, hml, hown, hnm, hrt, hlk, hZ⟩, _, X', e', own_Fw_snoc N ha⟩ W' (F'.set W' hk))
theorem own_iastore (W : own_W p l e R s m args below meth c Z y ret code ml ws T h cells slots) {a : Addr} {z : Int32} {n : Nat} {f : Nat → Value} {xx : Int32} (k : Nat) {pc : Nat} (pc' : Nat) {L : Array Slot} {st : List Value} (hd : decode code pc = .ok (.iastore, 1)) (F : own_A Z h a .int n f) (ha : a ∈ ws ∨ s.heap.size ≤ a) (hz : z.toInt = (k : Int)) (hk : k < n) (hp : pc + 1 = pc') (kk : ∀ T' h', own_W p l e R s m args below meth c Z y ret code ml ws T' h' cells slots → Wr h h' a k (.int xx) → own_A Z h' a .int n (own_upd f k (.int xx)) → own_Go p e below C T' (mkF m pc' L st)) : own_Go p e below C T (mkF m pc L (.int xx :: .int z :: .ref a :: st)) := by
  have hsz := own_le W
  obtain ⟨⟨hx, hby, hml, hown, hnm, hrt, hlk, hZ⟩, locs, X, eT, N⟩ := W
  subst hp
  have F' := F
  obtain ⟨cl, A, hs, hf⟩ := F
  obtain ⟨T', h', X', e', W', st'⟩ := stI X hx hZ eT A (j := z) (own_in hz hs hk) (g := mkF m pc L (.int xx :: .int z :: .ref a :: st)) rfl rfl (hb hby hd)
  rw [own_cl hz] at W'
  exact own_st st' (kk T' h' ⟨⟨hx, hby, hml, hown, hnm, hrt, hlk, hZ⟩, _, X', e', own_Fw_snoc N ha⟩ W' (F'.set W' hk))
theorem own_lastore (W : own_W p l e R s m args below meth c Z y ret code ml ws T h cells slots) {a : Addr} {z : Int32} {n : Nat} {f : Nat → Value} {xx : Int64} (k : Nat) {pc : Nat} (pc' : Nat) {L : Array Slot} {st : List Value} (hd : decode code pc = .ok (.lastore, 1)) (F : own_A Z h a .long n f) (ha : a ∈ ws ∨ s.heap.size ≤ a) (hz : z.toInt = (k : Int)) (hk : k < n) (hp : pc + 1 = pc') (kk : ∀ T' h', own_W p l e R s m args below meth c Z y ret code ml ws T' h' cells slots → Wr h h' a k (.long xx) → own_A Z h' a .long n (own_upd f k (.long xx)) → own_Go p e below C T' (mkF m pc' L st)) : own_Go p e below C T (mkF m pc L (.long xx :: .int z :: .ref a :: st)) := by
  have hsz := own_le W
  obtain ⟨⟨hx, hby, hml, hown, hnm, hrt, hlk, hZ⟩, locs, X, eT, N⟩ := W
  subst hp
  have F' := F
  obtain ⟨cl, A, hs, hf⟩ := F
  obtain ⟨T', h', X', e', W', st'⟩ := stJ X hx hZ eT A (j := z) (own_in hz hs hk) (g := mkF m pc L (.long xx :: .int z :: .ref a :: st)) rfl rfl (hb hby hd)
  rw [own_cl hz] at W'
  exact own_st st' (kk T' h' ⟨⟨hx, hby, hml, hown, hnm, hrt, hlk, hZ⟩, _, X', e', own_Fw_snoc N ha⟩ W' (F'.set W' hk))
theorem own_castore (W : own_W p l e R s m args below meth c Z y ret code ml ws T h cells slots) {a : Addr} {z : Int32} {n : Nat} {f : Nat → Value} {xx : Int32} (k : Nat) {pc : Nat} (pc' : Nat) {L : Array Slot} {st : List Value} (hd : decode code pc = .ok (.castore, 1)) (F : own_A Z h a .char n f) (ha : a ∈ ws ∨ s.heap.size ≤ a) (hz : z.toInt = (k : Int)) (hk : k < n) (hp : pc + 1 = pc') (kk : ∀ T' h', own_W p l e R s m args below meth c Z y ret code ml ws T' h' cells slots → Wr h h' a k (.int xx.toUInt32.toUInt16.toUInt32.toInt32) → own_A Z h' a .char n (own_upd f k (.int xx.toUInt32.toUInt16.toUInt32.toInt32)) → own_Go p e below C T' (mkF m pc' L st)) : own_Go p e below C T (mkF m pc L (.int xx :: .int z :: .ref a :: st)) := by
  have hsz := own_le W
  obtain ⟨⟨hx, hby, hml, hown, hnm, hrt, hlk, hZ⟩, locs, X, eT, N⟩ := W
  subst hp
  have F' := F
  obtain ⟨cl, A, hs, hf⟩ := F
  obtain ⟨T', h', X', e', W', st'⟩ := stC X hx hZ eT A (j := z) (own_in hz hs hk) (g := mkF m pc L (.int xx :: .int z :: .ref a :: st)) rfl rfl (hb hby hd)
  rw [own_cl hz] at W'
  exact own_st st' (kk T' h' ⟨⟨hx, hby, hml, hown, hnm, hrt, hlk, hZ⟩, _, X', e', own_Fw_snoc N ha⟩ W' (F'.set W' hk))
theorem own_arraylength (W : own_W p l e R s m args below meth c Z y ret code ml ws T h cells slots) {a : Addr} {ty : FieldType} {n : Nat} {f : Nat → Value} (z : Int32) {pc : Nat} (pc' : Nat) {L : Array Slot} {st : List Value} (hd : decode code pc = .ok (.arraylength, 1)) (F : own_A Z h a ty n f) (hz : n.toInt32 = z) (hp : pc + 1 = pc') (k : own_Go p e below C T (mkF m pc' L (.int z :: st))) : own_Go p e below C T (mkF m pc L (.ref a :: st)) := by
  have hsz := own_le W
  obtain ⟨⟨hx, hby, hml, hown, hnm, hrt, hlk, hZ⟩, locs, X, eT, N⟩ := W
  subst hp eT
  obtain ⟨cl, A, hs, hf⟩ := F
  subst hs hz
  exact own_st (fun t q => X.arraylength hx A.1 (State.isArrayOf_alike hZ.alike A.2.1) (g := mkF m pc L (.ref a :: st)) rfl rfl (hb hby hd) t q) k
/-- an array of references to objects of C (and of what may be stored there) -/
def own_R (Z : State) (h : Heap) (a : Addr) (C0 : String) (n : Nat) (f : Nat → Value) : Prop := ∃ cl : Cell, Arr Z h a cl (.object C0) ∧ Ovr Z cl.cls C0 ∧ cl.slots.size = n ∧ ∀ j, j < n → cl.slots[j]? = some (f j)
theorem own_R.lt {a : Addr} {C0 : String} {n : Nat} {f : Nat → Value} (F : own_R Z h a C0 n f) : a < h.size := by obtain ⟨cl, A, -⟩ := F; exact A.lt
theorem own_R.ext {h' : Heap} {a : Addr} {C0 : String} {n : Nat} {f : Nat → Value} (F : own_R Z h a C0 n f) (E : Ext h h') : own_R Z h' a C0 n f := by obtain ⟨cl, A, r⟩ := F; exact ⟨cl, A.ext E, r⟩
theorem own_R.other {h' : Heap} {a b : Addr} {sl : Nat} {v : Value} {C0 : String} {n : Nat} {f : Nat → Value} (F : own_R Z h b C0 n f) (q : Wr h h' a sl v) (ne : b ≠ a) : own_R Z h' b C0 n f := by obtain ⟨cl, A, r⟩ := F; exact ⟨cl, A.other q ne, r⟩
theorem own_R.keep {h' : Heap} {ws : List Addr} {a : Addr} {C0 : String} {n : Nat} {f : Nat → Value} (F : own_R Z h a C0 n f) (K : Keep h h' ws) (q : a ∉ ws) : own_R Z h' a C0 n f := by obtain ⟨cl, A, r⟩ := F; exact ⟨cl, ⟨K.2.1 a cl A.1 q, A.2⟩, r⟩
theorem own_R.set {h' : Heap} {a : Addr} {C0 : String} {n k : Nat} {f : Nat → Value} {v : Value} (F : own_R Z h a C0 n f) (q : Wr h h' a k v) (hk : k < n) : own_R Z h' a C0 n (own_upd f k v) := by
  obtain ⟨cl, A, O, r1, r2⟩ := F
  refine ⟨cl.setSlot k v, Arr.same q A, O, by rw [sz_set]; exact r1, fun j hj => ?_⟩
  by_cases e : j = k
  · subst e; simp [own_upd, Cell.setSlot, r1, hj]
  · simp only [own_upd, if_neg e, Cell.setSlot]
    rw [Array.getElem?_setIfInBounds_ne (Ne.symm e)]; exact r2 j hj
theorem own_anewarray (W : own_W p l e R s m args below meth c Z y ret code ml ws T h cells slots) {C0 : String} {i : Nat} {z : Int32} (N cap : Nat) {pc : Nat} (pc' : Nat) {L : Array Slot} {st : List Value} (hd : decode code pc = .ok (.anewarray i, 3)) (w1 : (Jvm.Cond.classLink y.cls i C0).before a0 Z = true) (w2 : (Jvm.Cond.arrayOver (.object C0)).before a0 Z = true) (hz : z.toInt = (N : Int)) (hcap : N ≤ cap) (hb8 : cap * 8 ≤ 536870912) (hc : cells + 1 ≤ R.cells) (hl : slots + cap ≤ R.slots) (hp : pc + 3 = pc') (k : ∀ T' h' a, own_W p l e R s m args below meth c Z y ret code ml ws T' h' (cells + 1) (slots + cap) → Ext h h' → a = h.size → s.heap.size ≤ a → own_R Z h' a C0 N (fun _ => .null) → own_Go p e below C T' (mkF m pc' L (.ref a :: st))) : own_Go p e below C T (mkF m pc L (.int z :: st)) := by
  have hsz := own_le W
  obtain ⟨⟨hx, hby, hml, hown, hnm, hrt, hlk, hZ⟩, locs, X, eT, Nf⟩ := W
  subst hp
  have hcl := own_cl hz
  obtain ⟨T', h', cA, X', e', E', A', O', st'⟩ := newR X hx hZ hown w1 w2 eT (g := mkF m pc L (.int z :: st)) rfl (hb hby hd) rfl (own_nn hz) (cap := cap) (by rw [hcl]; exact hcap) hb8 hc hl
  refine own_st st' (k T' h' h.size ⟨⟨hx, hby, hml, hown, hnm, hrt, hlk, hZ⟩, locs, X', e', Nf⟩ E' rfl hsz ⟨_, A', O', by rw [sz_new, hcl], fun j hj => ?_⟩)
  simp [newA, hcl, hj, defaultValue]
theorem own_aastore (W : own_W p l e R s m args below meth c Z y ret code ml ws T h cells slots) {a b : Addr} {C0 : String} {z : Int32} {n : Nat} {f : Nat → Value} (k : Nat) {pc : Nat} (pc' : Nat) {L : Array Slot} {st : List Value} (hd : decode code pc = .ok (.aastore, 1)) (F : own_R Z h a C0 n f) (I : Ins Z h b C0 true) (ha : a ∈ ws ∨ s.heap.size ≤ a) (hz : z.toInt = (k : Int)) (hk : k < n) (hp : pc + 1 = pc') (kk : ∀ T' h', own_W p l e R s m args below meth c Z y ret code ml ws T' h' cells slots → Wr h h' a k (.ref b) → own_R Z h' a C0 n (own_upd f k (.ref b)) → own_Go p e below C T' (mkF m pc' L st)) : own_Go p e below C T (mkF m pc L (.ref b :: .int z :: .ref a :: st)) := by
  have hsz := own_le W
  obtain ⟨⟨hx, hby, hml, hown, hnm, hrt, hlk, hZ⟩, locs, X, eT, N⟩ := W
  subst hp
  have F' := F
  obtain ⟨cl, A, O, hs, hf⟩ := F
  obtain ⟨T', h', X', e', W', st'⟩ := stR X hx hZ eT A (j := z) (own_in hz hs hk) rfl (Sto.of A O I) (g := mkF m pc L (.ref b :: .int z :: .ref a :: st)) rfl rfl (hb hby hd)
  rw [own_cl hz] at W'
  exact own_st st' (kk T' h' ⟨⟨hx, hby, hml, hown, hnm, hrt, hlk, hZ⟩, _, X', e', own_Fw_snoc N ha⟩ W' (F'.set W' hk))
theorem own_aaload (W : own_W p l e R s m args below meth c Z y ret code ml ws T h cells slots) {a : Addr} {C0 : String} {z : Int32} {n : Nat} {f : Nat → Value} (k : Nat) (v : Value) {pc : Nat} (pc' : Nat) {L : Array Slot} {st : List Value} (hd : decode code pc = .ok (.aaload, 1)) (F : own_R Z h a C0 n f) (hz : z.toInt = (k : Int)) (hk : k < n) (hv : f k = v) (hp : pc + 1 = pc') (kk : own_Go p e below C T (mkF m pc' L (v :: st))) : own_Go p e below C T (mkF m pc L (.int z :: .ref a :: st)) := by
  have hsz := own_le W
  obtain ⟨⟨hx, hby, hml, hown, hnm, hrt, hlk, hZ⟩, locs, X, eT, N⟩ := W
  subst hp eT
  obtain ⟨cl, A, O, hs, hf⟩ := F
  have hat : cl.slots[z.toNatClampNeg]? = some v := by rw [own_cl hz, hf k hk, hv]
  exact own_st (fun t q => X.aaload hx A.1 (State.isArrayOf_alike hZ.alike A.2.1) rfl A.2.2 (own_in hz hs hk) hat (g := mkF m pc L (.int z :: .ref a :: st)) rfl rfl (hb hby hd) t q) kk
theorem own_dup2 (W : own_W p l e R s m args below meth c Z y ret code ml ws T h cells slots) {a : Addr} {z : Int32} {pc : Nat} (pc' : Nat) {L : Array Slot} {st : List Value} (hd : decode code pc = .ok (.dup2, 1)) (hp : pc + 1 = pc') (k : own_Go p e below C T (mkF m pc' L (.int z :: .ref a :: .int z :: .ref a :: st))) : own_Go p e below C T (mkF m pc L (.int z :: .ref a :: st)) := by
  have hsz := own_le W
  obtain ⟨⟨hx, hby, hml, hown, hnm, hrt, hlk, hZ⟩, locs, X, eT, N⟩ := W
  subst hp
  refine own_st (fun t q => ?_) k
  show Steps p.tables e below (T.setTop { method := m, pc := pc, locals := L, stack := .int z :: .ref a :: st, locked := none }) _
  jvm_step X.here [X.here.top, hx, (hb hby hd), Value.category]
  exact q
theorem own_gd {n k : Nat} {f : Nat → Value} {d : Value} (hk : k < n) : ((List.range n).map f).getD k d = f k := by simp [List.getD, hk]
theorem own_A.arv {a : Addr} {ty : FieldType} {n : Nat} {f : Nat → Value} (F : own_A Z h a ty n f) (hn : n < 2147483648) (hf : ∀ j, j < n → fits ty (f j) = true) (d : Value) : ∃ k, Arv Z h a k ty n.toInt32 ((List.range n).map f) d := by
  obtain ⟨cl, A, r1, r2⟩ := F
  have hz : n.toInt32.toInt = (n : Int) := len_toInt hn
  refine ⟨cl.cls, cl, A, rfl, by rw [r1, own_cl hz], own_nn hz, fun k hk => ?_, fun i hi => ?_⟩
  · rw [r1] at hk
    rw [r2 k hk, own_gd hk]
  · rw [r1] at hi
    rw [own_gd hi]; exact hf i hi
theorem own_A.of_arv {a : Addr} {k : ClassId} {ty : FieldType} {z : Int32} {n : Nat} {vs : List Value} {d : Value} (F : Arv Z h a k ty z vs d) (hz : z.toInt = (n : Int)) : own_A Z h a ty n (fun j => vs.getD j d) := by
  obtain ⟨cl, A, -, r2, -, H, -⟩ := F
  rw [own_cl hz] at r2
  exact ⟨cl, A, r2, fun j hj => H j (by rw [r2]; exact hj)⟩
theorem own_cpl (f f' : Nat → Value) (n n' i j k : Nat) (d : Value) (h4 : i + k ≤ n) (h5 : j + k ≤ n') (q : Nat) (hq : q < n') :
    (((List.range n').map f').take j ++ (List.range k).map (fun t => ((List.range n).map f).getD (i + t) d) ++ ((List.range n').map f').drop (j + k)).getD q d = if j ≤ q ∧ q < j + k then f (i + (q - j)) else f' q := by
  have hl : (((List.range n').map f').take j).length = j := by simp; omega
  have hm : ((List.range k).map (fun t => ((List.range n).map f).getD (i + t) d)).length = k := by simp
  rw [List.getD_eq_getElem?_getD, List.append_assoc]
  rcases Nat.lt_or_ge q j with h1 | h1
  · rw [List.getElem?_append_left (by omega), if_neg (by omega)]
    simp [List.getElem?_take, h1, hq]
  · rw [List.getElem?_append_right (by omega), hl]
    rcases Nat.lt_or_ge q (j + k) with h2 | h2
    · rw [List.getElem?_append_left (by omega), if_pos ⟨h1, h2⟩, List.getElem?_map, List.getElem?_range (by omega)]
      simp only [Option.map_some, Option.getD_some]
      rw [own_gd (by omega)]
    · rw [List.getElem?_append_right (by omega), hm, if_neg (by omega), List.getElem?_drop]
      rw [show j + k + (q - j - k) = q by omega]
      simp [hq]
theorem own_arraycopy (W : own_W p l e R s m args below meth c Z y ret code ml [] T h cells slots) {i : Nat} {a b : Addr} {ty : FieldType} {n n' : Nat} {f f' : Nat → Value} {sp dp nn : Int32} (i1 j1 k1 wt : Nat) {pc : Nat} (pc' : Nat) {L : Array Slot} {st : List Value} (hd : decode code pc = .ok (.invokestatic i, 3)) (w1 : (Jvm.Cond.methodLink y.cls i Jvm.Stand.acN).before a0 Z = true) (w2 : (Jvm.Cond.native Jvm.Stand.acN).before a0 Z = true) (w3 : (Jvm.Cond.static Jvm.Stand.acN).before a0 Z = true) (w4 : (Jvm.Cond.initialized "java/lang/System").before a0 Z = true) (F : own_A Z h a ty n f) (G : own_A Z h b ty n' f') (hff : ∀ j, j < n → fits ty (f j) = true) (hfg : ∀ j, j < n' → fits ty (f' j) = true) (hn : n < 2147483648) (hn' : n' < 2147483648) (hrk : refKind ty = false) (hsp : sp.toInt = (i1 : Int)) (hdp : dp.toInt = (j1 : Int)) (hnn : nn.toInt = (k1 : Int)) (h4 : i1 + k1 ≤ n) (h5 : j1 + k1 ≤ n') (hob : s.heap.size ≤ b) (hL : L.size = ml) (hwt : (st.map fun v => v.category).sum ≤ wt) (hf : 1 ≤ R.frames) (hlo : wt + (nativeFrameWords "java/lang/System" "arraycopy" 5 + 11) ≤ R.locals) (hp : pc + 3 = pc') (k : ∀ T' h', own_W p l e R s m args below meth c Z y ret code ml [] T' h' cells slots → Keep h h' [b] → own_A Z h' b ty n' (fun q => if j1 ≤ q ∧ q < j1 + k1 then f (i1 + (q - j1)) else f' q) → own_Go p e below C T' (mkF m pc' L st)) : own_Go p e below C T (mkF m pc L (.int nn :: .int dp :: .ref b :: .int sp :: .ref a :: st)) := by
  have hsz := own_le W
  obtain ⟨⟨hx, hby, hml, hown, hnm, hrt, hlk, hZ⟩, locs, X, eT, N⟩ := W
  subst hp
  have NF : Fr s.heap.size locs := fun y hy => (N y hy).resolve_left (fun q => nomatch q)
  obtain ⟨ka, A⟩ := F.arv hn hff (.int 0)
  obtain ⟨kb, B⟩ := G.arv hn' hfg (.int 0)
  have ez : n.toInt32.toNatClampNeg = n := own_cl (len_toInt hn)
  have ez' : n'.toInt32.toNatClampNeg = n' := own_cl (len_toInt hn')
  obtain ⟨T', h', L', X', e', N', K', B', st'⟩ := cpA X hx hZ hown w1 w2 w3 w4 eT A B (Or.inl ⟨rfl, hrk⟩) (own_nn hsp) (own_nn hdp) (own_nn hnn) (by rw [own_cl hsp, own_cl hnn, ez]; exact h4) (by rw [own_cl hdp, own_cl hnn, ez']; exact h5) rfl (by rw [own_cl hdp, own_cl hnn]; simpa using h5) NF hob (g := mkF m pc L (.int nn :: .int dp :: .ref b :: .int sp :: .ref a :: st)) rfl (by rw [hml]; exact hL) rfl (hb hby hd) hf (W := wt) (by show 2 * 0 + _ ≤ _; omega) hlo
  refine own_st st' (k T' h' ⟨⟨hx, hby, hml, hown, hnm, hrt, hlk, hZ⟩, L', X', e', fun y hy => Or.inr (N' y hy)⟩ K' ((own_A.of_arv B' (len_toInt hn')).congr fun q hq => ?_))
  rw [own_cl hsp, own_cl hdp, own_cl hnn]
  exact own_cpl f f' n n' i1 j1 k1 _ h4 h5 q hq
theorem own_new (W : own_W p l e R s m args below meth c Z y ret code ml ws T h cells slots) {C0 : String} {i nn : Nat} {pc : Nat} (pc' : Nat) {L : Array Slot} {st : List Value} (hd : decode code pc = .ok (.new i, 3)) (w : (Jvm.Cond.classLink y.cls i C0).before a0 Z = true) (wi : (Jvm.Cond.instantiable C0 nn).before a0 Z = true) (wz : (Jvm.Cond.initialized C0).before a0 Z = true) (hc : cells + 1 ≤ R.cells) (hl : slots + nn ≤ R.slots) (hp : pc + 3 = pc') (k : ∀ T' h' a, own_W p l e R s m args below meth c Z y ret code ml ws T' h' (cells + 1) (slots + nn) → Ext h h' → a = h.size → s.heap.size ≤ a → Exa Z h' a C0 → (∀ {O nm d : String} {ty : FieldType}, Laid Z a0 C0 O nm d → parseFieldDescriptor d = some ty → Fld Z h' a O nm d (defaultValue ty)) → own_Go p e below C T' (mkF m pc' L (.ref a :: st))) : own_Go p e below C T (mkF m pc L st) := by
  have hsz := own_le W
  obtain ⟨⟨hx, hby, hml, hown, hnm, hrt, hlk, hZ⟩, locs, X, eT, N⟩ := W
  subst hp
  obtain ⟨T', h', X', e', E', A', D', -, st'⟩ := newO X hx hZ hown w wi wz eT (g := mkF m pc L st) rfl (hb hby hd) hc hl
  exact own_st st' (k T' h' h.size ⟨⟨hx, hby, hml, hown, hnm, hrt, hlk, hZ⟩, locs, X', e', N⟩ E' rfl hsz A' D')
theorem own_getfield (W : own_W p l e R s m args below meth c Z y ret code ml ws T h cells slots) {O n d : String} {i : Nat} {a : Addr} {v : Value} {pc : Nat} (pc' : Nat) {L : Array Slot} {st : List Value} (hd : decode code pc = .ok (.getfield i, 3)) (w : (Jvm.Cond.fieldLink y.cls i O n d).before a0 Z = true) (F : Fld Z h a O n d v) (hp : pc + 3 = pc') (k : ∀ T', own_W p l e R s m args below meth c Z y ret code ml ws T' h cells slots → own_Go p e below C T' (mkF m pc' L (v :: st))) : own_Go p e below C T (mkF m pc L (.ref a :: st)) := by
  have hsz := own_le W
  obtain ⟨⟨hx, hby, hml, hown, hnm, hrt, hlk, hZ⟩, locs, X, eT, N⟩ := W
  subst hp
  obtain ⟨T', X', e', st'⟩ := getF X hx hZ hown (host := "") (Or.inl w) Via.refl eT F (g := mkF m pc L (.ref a :: st)) rfl rfl (hb hby hd)
  exact own_st st' (k T' ⟨⟨hx, hby, hml, hown, hnm, hrt, hlk, hZ⟩, locs, X', e', N⟩)
theorem own_getfieldN (W : own_W p l e R s m args below meth c Z y ret code ml ws T h cells slots) {O n d host : String} {i : Nat} {a : Addr} {v : Value} {pc : Nat} (pc' : Nat) {L : Array Slot} {st : List Value} (hd : decode code pc = .ok (.getfield i, 3)) (w : (Jvm.Cond.fieldLinkNest y.cls i O n d host).before a0 Z = true) (F : Fld Z h a O n d v) (hp : pc + 3 = pc') (k : ∀ T', own_W p l e R s m args below meth c Z y ret code ml ws T' h cells slots → own_Go p e below C T' (mkF m pc' L (v :: st))) : own_Go p e below C T (mkF m pc L (.ref a :: st)) := by
  have hsz := own_le W
  obtain ⟨⟨hx, hby, hml, hown, hnm, hrt, hlk, hZ⟩, locs, X, eT, N⟩ := W
  subst hp
  obtain ⟨T', X', e', st'⟩ := getF X hx hZ hown (host := host) (Or.inr w) Via.refl eT F (g := mkF m pc L (.ref a :: st)) rfl rfl (hb hby hd)
  exact own_st st' (k T' ⟨⟨hx, hby, hml, hown, hnm, hrt, hlk, hZ⟩, locs, X', e', N⟩)
theorem own_getstatic (W : own_W p l e R s m args below meth c Z y ret code ml ws T h cells slots) {O n d : String} {i : Nat} {v : Value} {pc : Nat} (pc' : Nat) {L : Array Slot} {st : List Value} (hd : decode code pc = .ok (.getstatic i, 3)) (w : (Jvm.Cond.fieldLink y.cls i O n d).before a0 Z = true) (F : Sta Z h O n d v) (hp : pc + 3 = pc') (k : ∀ T', own_W p l e R s m args below meth c Z y ret code ml ws T' h cells slots → own_Go p e below C T' (mkF m pc' L (v :: st))) : own_Go p e below C T (mkF m pc L st) := by
  have hsz := own_le W
  obtain ⟨⟨hx, hby, hml, hown, hnm, hrt, hlk, hZ⟩, locs, X, eT, N⟩ := W
  subst hp
  obtain ⟨T', X', e', st'⟩ := getS X hx hZ hown (host := "") w Via.refl eT F (g := mkF m pc L st) rfl (hb hby hd)
  exact own_st st' (k T' ⟨⟨hx, hby, hml, hown, hnm, hrt, hlk, hZ⟩, locs, X', e', N⟩)
theorem own_putfield (W : own_W p l e R s m args below meth c Z y ret code ml ws T h cells slots) {O n d C0 : String} {i kk : Nat} {ty : FieldType} {a : Addr} {v old : Value} (v' : Value) {pc : Nat} (pc' : Nat) {L : Array Slot} {st : List Value} (hd : decode code pc = .ok (.putfield i, 3)) (w : (Jvm.Cond.fieldLink y.cls i O n d).before a0 Z = true) (F : Fld Z h a O n d old) (E : Exa Z h a C0) (La : (Jvm.Cond.lays C0 O n d).before a0 Z = true ∨ ((Jvm.Cond.laysFinal C0 O n d).before a0 Z = true ∧ y.cls = O ∧ y.name = "<init>")) (wi : (Jvm.Cond.instantiable C0 kk).before a0 Z = true) (ha : a ∈ ws ∨ s.heap.size ≤ a) (hty : parseFieldDescriptor d = some ty) (hn : narrow ty v = v') (hf : fits ty v' = true) (hp : pc + 3 = pc') (k : ∀ T' h', own_W p l e R s m args below meth c Z y ret code ml ws T' h' cells slots → Wr h h' a (Jvm.RoadKit.slotOf Z O n d) v' → Fld Z h' a O n d v' → own_Go p e below C T' (mkF m pc' L st)) : own_Go p e below C T (mkF m pc L (v :: .ref a :: st)) := by
  have hsz := own_le W
  obtain ⟨⟨hx, hby, hml, hown, hnm, hrt, hlk, hZ⟩, locs, X, eT, N⟩ := W
  subst hp
  obtain ⟨T', h', X', e', W', st'⟩ := putFN X hx hZ hown w Via.refl eT F E (by rw [hnm]; exact La) wi hty hn hf (g := mkF m pc L (v :: .ref a :: st)) rfl rfl (hb hby hd)
  exact own_st st' (k T' h' ⟨⟨hx, hby, hml, hown, hnm, hrt, hlk, hZ⟩, _, X', e', own_Fw_snoc N ha⟩ W' (F.same W'))
theorem own_callS (W : own_W p l e R s m args below meth c Z y ret code ml ws T h cells slots) {i : Nat} {yc : MethodName} {bytes : ByteArray} {maxL : Nat} {rt : Option FieldType} {rm : Room} {Q : Option Value → Heap → Prop} {ps : List FieldType} {rr : Option FieldType} {wc' : List Addr} (A : List Value) (wt : Nat) {pc : Nat} (pc' : Nat) {L : Array Slot} {st : List Value} (hd : decode code pc = .ok (.invokestatic i, 3)) (wl : (Jvm.Cond.methodLink y.cls i yc).before a0 Z = true) (wst : (Jvm.Cond.static yc).before a0 Z = true) (wz : (Jvm.Cond.initialized yc.cls).before a0 Z = true) (wc : (Jvm.Cond.code yc bytes maxL rt).before a0 Z = true) (hy : yc.cls ≠ "java/lang/invoke/MethodHandle" ∧ yc.cls ≠ "java/lang/invoke/VarHandle") (hM : own_M l Z [] yc bytes maxL rt rm wc' A.toArray h Q) (hws : ∀ b ∈ wc', b ∈ ws ∨ s.heap.size ≤ b) (hL : L.size = ml) (hds : parseMethodDescriptor yc.desc = some ⟨ps, rr⟩) (hA : A.length = ps.length) (hwt : (st.map fun v => v.category).sum ≤ wt) (hf : rm.frames + 1 ≤ R.frames) (hlo : wt + (maxL + 11) + rm.locals ≤ R.locals) (hc : cells + rm.cells ≤ R.cells) (hs : slots + rm.slots ≤ R.slots) (hp : pc + 3 = pc') (k : ∀ T' h' v, own_W p l e R s m args below meth c Z y ret code ml ws T' h' (cells + rm.cells) (slots + rm.slots) → Keep h h' wc' → (rm.cells = 0 → wc' = [] → h' = h) → Q v h' → own_Go p e below C T' (mkF m pc' L (v.toList ++ st))) : own_Go p e below C T (mkF m pc L (A.reverse ++ st)) := by
  have hsz := own_le W
  obtain ⟨⟨hx, hby, hml, hown, hnm, hrt, hlk, hZ⟩, locs, X, eT, N⟩ := W
  subst hp
  obtain ⟨_, _, ⟨T', L', k', n'⟩, -, X', ⟨Lc', hQ', l', y', z'⟩, st'⟩ := Jvm.LawKit.callS X hx (y := yc) hown (mvT hZ wl) (mvT hZ wst) (mvT hZ wz) (mvT hZ wc) hy (backOf (W := wt) hM hZ wc wz hf hlo) (g := mkF m pc L (A.reverse ++ st)) rfl (by rw [hml]; exact hL) (argsL := A) (rest := st) (lenOf hds hA) rfl (by show 2 * 0 + _ ≤ _; omega) (hb hby hd) (fun _ _ => ⟨rfl, eT, hc, hs⟩)
  dsimp only [Pt.U, Pt.locs, Pt.cells, Pt.slots] at X' l' y' z' st' hQ'
  subst l' y' z'
  exact own_st st' (k T' _ _ ⟨⟨hx, hby, hml, hown, hnm, hrt, hlk, hZ⟩, _, X', rfl, own_Fw_app N hQ'.1 hws hsz⟩ hQ'.2.1 hQ'.2.2.1 hQ'.2.2.2)
theorem own_callN (W : own_W p l e R s m args below meth c Z y ret code ml ws T h cells slots) {i : Nat} {yc : MethodName} {bytes : ByteArray} {maxL : Nat} {rm : Room} {Q : Option Value → Heap → Prop} {ps : List FieldType} {rr : Option FieldType} {a : Addr} {wc' : List Addr} (A : List Value) (wt : Nat) {pc : Nat} (pc' : Nat) {L : Array Slot} {st : List Value} (hd : decode code pc = .ok (.invokespecial i, 3)) (hi : yc.name = "<init>") (wl : (Jvm.Cond.methodLink y.cls i yc).before a0 Z = true) (wst : (Jvm.Cond.instanceMethod yc).before a0 Z = true) (wz : (Jvm.Cond.initialized yc.cls).before a0 Z = true) (wc : (Jvm.Cond.code yc bytes maxL none).before a0 Z = true) (hy : yc.cls ≠ "java/lang/invoke/MethodHandle" ∧ yc.cls ≠ "java/lang/invoke/VarHandle") (hM : own_M l Z [] yc bytes maxL none rm wc' (.ref a :: A).toArray h Q) (hws : ∀ b ∈ wc', b ∈ ws ∨ s.heap.size ≤ b) (hL : L.size = ml) (hds : parseMethodDescriptor yc.desc = some ⟨ps, rr⟩) (hA : A.length = ps.length) (hwt : (st.map fun v => v.category).sum ≤ wt) (hf : rm.frames + 1 ≤ R.frames) (hlo : wt + (maxL + 11) + rm.locals ≤ R.locals) (hc : cells + rm.cells ≤ R.cells) (hs : slots + rm.slots ≤ R.slots) (hp : pc + 3 = pc') (k : ∀ T' h' v, own_W p l e R s m args below meth c Z y ret code ml ws T' h' (cells + rm.cells) (slots + rm.slots) → Keep h h' wc' → (rm.cells = 0 → wc' = [] → h' = h) → Q v h' → own_Go p e below C T' (mkF m pc' L (v.toList ++ st))) : own_Go p e below C T (mkF m pc L (A.reverse ++ .ref a :: st)) := by
  have hsz := own_le W
  obtain ⟨⟨hx, hby, hml, hown, hnm, hrt, hlk, hZ⟩, locs, X, eT, N⟩ := W
  subst hp
  obtain ⟨_, _, ⟨T', L', k', n'⟩, -, X', ⟨Lc', hQ', l', y', z'⟩, st'⟩ := X.specialBack hx (y := yc) hi hown (mvT hZ wl) (mvT hZ wst) (mvT hZ wc) hy (backOf (W := wt) hM hZ wc wz hf hlo) (g := mkF m pc L (A.reverse ++ .ref a :: st)) rfl (by rw [hml]; exact hL) (Steps.refl _) (a := a) (argsL := A) (rest := st) (lenOf hds hA) rfl (by show 2 * 0 + _ ≤ _; omega) (hb hby hd) (fun _ _ => ⟨rfl, eT, hc, hs⟩)
  dsimp only [Pt.U, Pt.locs, Pt.cells, Pt.slots] at X' l' y' z' st' hQ'
  subst l' y' z'
  exact own_tr st' (k T' _ _ ⟨⟨hx, hby, hml, hown, hnm, hrt, hlk, hZ⟩, _, X', rfl, own_Fw_app N hQ'.1 hws hsz⟩ hQ'.2.1 hQ'.2.2.1 hQ'.2.2.2)
theorem own_callV (W : own_W p l e R s m args below meth c Z y ret code ml ws T h cells slots) {C0 : String} {i : Nat} {yc zc : MethodName} {bytes : ByteArray} {maxL : Nat} {rt : Option FieldType} {rm : Room} {Q : Option Value → Heap → Prop} {ps : List FieldType} {rr : Option FieldType} {a : Addr} {wc' : List Addr} (A : List Value) (wt : Nat) {pc : Nat} (pc' : Nat) {L : Array Slot} {st : List Value} (hd : decode code pc = .ok (.invokevirtual i, 3)) (wl : (Jvm.Cond.methodLink y.cls i yc).before a0 Z = true) (wd : (Jvm.Cond.declares yc).before a0 Z = true) (nf : NotFace s yc) (wse : (Jvm.Cond.selects C0 yc zc).before a0 Z = true) (wst : (Jvm.Cond.instanceMethod zc).before a0 Z = true) (wz : (Jvm.Cond.initialized zc.cls).before a0 Z = true) (wc : (Jvm.Cond.code zc bytes maxL rt).before a0 Z = true) (hy : yc.cls ≠ "java/lang/invoke/MethodHandle" ∧ yc.cls ≠ "java/lang/invoke/VarHandle") (E : Exa Z h a C0) (hM : own_M l Z [] zc bytes maxL rt rm wc' (.ref a :: A).toArray h Q) (hws : ∀ b ∈ wc', b ∈ ws ∨ s.heap.size ≤ b) (hL : L.size = ml) (hds : parseMethodDescriptor yc.desc = some ⟨ps, rr⟩) (hA : A.length = ps.length) (hwt : (st.map fun v => v.category).sum ≤ wt) (hf : rm.frames + 1 ≤ R.frames) (hlo : wt + (maxL + 11) + rm.locals ≤ R.locals) (hc : cells + rm.cells ≤ R.cells) (hs : slots + rm.slots ≤ R.slots) (hp : pc + 3 = pc') (k : ∀ T' h' v, own_W p l e R s m args below meth c Z y ret code ml ws T' h' (cells + rm.cells) (slots + rm.slots) → Keep h h' wc' → (rm.cells = 0 → wc' = [] → h' = h) → Q v h' → own_Go p e below C T' (mkF m pc' L (v.toList ++ st))) : own_Go p e below C T (mkF m pc L (A.reverse ++ .ref a :: st)) := by
  have hsz := own_le W
  obtain ⟨⟨hx, hby, hml, hown, hnm, hrt, hlk, hZ⟩, locs, X, eT, N⟩ := W
  subst hp
  obtain ⟨cq, kq, qa, qb, qc⟩ := isOf hZ eT E
  obtain ⟨_, _, ⟨T', L', k', n'⟩, -, X', ⟨Lc', hQ', l', y', z'⟩, st'⟩ := X.virtualBack hx (y := yc) (z := zc) hown (mvT hZ wl) (mvT hZ wd) nf (mvT hZ wse) (mvT hZ wst) hy (backOf (W := wt) hM hZ wc wz hf hlo) qa qc (g := mkF m pc L (A.reverse ++ .ref a :: st)) rfl (by rw [hml]; exact hL) (Steps.refl _) (argsL := A) (rest := st) (lenOf hds hA) rfl (by show 2 * 0 + _ ≤ _; omega) (hb hby hd) (fun _ _ => ⟨rfl, eT, hc, hs⟩)
  dsimp only [Pt.U, Pt.locs, Pt.cells, Pt.slots] at X' l' y' z' st' hQ'
  subst l' y' z'
  exact own_tr st' (k T' _ _ ⟨⟨hx, hby, hml, hown, hnm, hrt, hlk, hZ⟩, _, X', rfl, own_Fw_app N hQ'.1 hws hsz⟩ hQ'.2.1 hQ'.2.2.1 hQ'.2.2.2)
theorem own_nf (W : own_W p l e R s m args below meth c Z y ret code ml ws T h cells slots) {C0 : String} {yc : MethodName} (wse : (Jvm.Cond.selects C0 yc yc).before a0 Z = true) : NotFace s yc := by
  have hsz := own_le W
  obtain ⟨⟨hx, hby, hml, hown, hnm, hrt, hlk, hZ⟩, locs, X, eT, N⟩ := W
  exact notFace_of_selects (args := #[]) (mvT hZ wse)
theorem own_initO (W : own_W p l e R s m args below meth c Z y ret code ml ws T h cells slots) {i : Nat} {a : Addr} (wt : Nat) {pc : Nat} (pc' : Nat) {L : Array Slot} {st : List Value} (hd : decode code pc = .ok (.invokespecial i, 3)) (w1 : (Jvm.Cond.methodLink y.cls i Lib.objectInit).before a0 Z = true) (w2 : (Jvm.Cond.instanceMethod Lib.objectInit).before a0 Z = true) (w3 : (Jvm.Cond.code Lib.objectInit ⟨#[0xb1]⟩ 1 none).before a0 Z = true) (hL : L.size = ml) (hwt : (st.map fun v => v.category).sum ≤ wt) (hf : 1 ≤ R.frames) (hlo : wt + 12 ≤ R.locals) (hp : pc + 3 = pc') (k : ∀ T', own_W p l e R s m args below meth c Z y ret code ml ws T' h cells slots → own_Go p e below C T' (mkF m pc' L st)) : own_Go p e below C T (mkF m pc L (.ref a :: st)) := by
  have hsz := own_le W
  obtain ⟨⟨hx, hby, hml, hown, hnm, hrt, hlk, hZ⟩, locs, X, eT, N⟩ := W
  subst hp
  obtain ⟨T', X', e', st'⟩ := initO X hx hZ hown w1 w2 w3 eT (g := mkF m pc L (.ref a :: st)) rfl (by rw [hml]; exact hL) rfl (hb hby hd) hf (W := wt) (by show 2 * 0 + _ ≤ _; omega) hlo
  exact own_st st' (k T' ⟨⟨hx, hby, hml, hown, hnm, hrt, hlk, hZ⟩, locs, X', e', N⟩)
theorem own_b1 {P : Prop} [Decidable P] (q : P) : ¬ (if P then (1 : Int32) else 0) = 0 := by rw [if_pos q]; decide
theorem own_b0 {P : Prop} [Decidable P] (q : ¬ P) : (if P then (1 : Int32) else 0) = 0 := if_neg q
theorem own_bz {P : Prop} [Decidable P] : (if P then (1 : Int32) else 0) &&& 1 = if P then (1 : Int32) else 0 := by split <;> rfl
end OwnKit

theorem wd0 {a0 : Array Value} {Z : State} (hw : ∀ d ∈ tables_1, d.before a0 Z = true) : (Jvm.Cond.constantLong "com/example/queueloom/queueloom/engine/LongPairHeapSiftDownPinLaw" (39 : Nat) (15 : Int64)).before a0 Z = true := hw _ (List.mem_of_getElem? (i := 0) rfl)
theorem wd1 {a0 : Array Value} {Z : State} (hw : ∀ d ∈ tables_1, d.before a0 Z = true) : (Jvm.Cond.constantLong "com/example/queueloom/queueloom/engine/LongPairHeapSiftDownPinLaw" (41 : Nat) (7 : Int64)).before a0 Z = true := hw _ (List.mem_of_getElem? (i := 1) rfl)
theorem wd2 {a0 : Array Value} {Z : State} (hw : ∀ d ∈ tables_1, d.before a0 Z = true) : (Jvm.Cond.arrayClass Jvm.ClassFile.FieldType.long).before a0 Z = true := hw _ (List.mem_of_getElem? (i := 2) rfl)
theorem wd3 {a0 : Array Value} {Z : State} (hw : ∀ d ∈ tables_1, d.before a0 Z = true) : (Jvm.Cond.methodLink "com/example/queueloom/queueloom/engine/LongPairHeapSiftDownPinLaw" (43 : Nat) ({ cls := "com/example/queueloom/queueloom/engine/LongPairHeapSiftDownPinLaw", name := "keyOf", desc := "(I)J" } : Jvm.MethodName)).before a0 Z = true := hw _ (List.mem_of_getElem? (i := 3) rfl)
theorem wd4 {a0 : Array Value} {Z : State} (hw : ∀ d ∈ tables_1, d.before a0 Z = true) : (Jvm.Cond.static ({ cls := "com/example/queueloom/queueloom/engine/LongPairHeapSiftDownPinLaw", name := "keyOf", desc := "(I)J" } : Jvm.MethodName)).before a0 Z = true := hw _ (List.mem_of_getElem? (i := 4) rfl)
theorem wd5 {a0 : Array Value} {Z : State} (hw : ∀ d ∈ tables_1, d.before a0 Z = true) : (Jvm.Cond.initialized "com/example/queueloom/queueloom/engine/LongPairHeapSiftDownPinLaw").before a0 Z = true := hw _ (List.mem_of_getElem? (i := 5) rfl)
theorem wd6 {a0 : Array Value} {Z : State} (hw : ∀ d ∈ tables_1, d.before a0 Z = true) : (Jvm.Cond.code ({ cls := "com/example/queueloom/queueloom/engine/LongPairHeapSiftDownPinLaw", name := "keyOf", desc := "(I)J" } : Jvm.MethodName) method_2_code (1 : Nat) (Option.some Jvm.ClassFile.FieldType.long)).before a0 Z = true := hw _ (List.mem_of_getElem? (i := 6) rfl)
theorem wd7 {a0 : Array Value} {Z : State} (hw : ∀ d ∈ tables_1, d.before a0 Z = true) : (Jvm.Cond.constantLong "com/example/queueloom/queueloom/engine/LongPairHeapSiftDownPinLaw" (13 : Nat) (-1 : Int64)).before a0 Z = true := hw _ (List.mem_of_getElem? (i := 7) rfl)
theorem wd8 {a0 : Array Value} {Z : State} (hw : ∀ d ∈ tables_1, d.before a0 Z = true) : (Jvm.Cond.methodLink "com/example/queueloom/queueloom/engine/LongPairHeapSiftDownPinLaw" (47 : Nat) ({ cls := "com/example/queueloom/queueloom/engine/LongPairHeapSiftDownPinLaw", name := "valOf", desc := "(I)J" } : Jvm.MethodName)).before a0 Z = true := hw _ (List.mem_of_getElem? (i := 8) rfl)
theorem wd9 {a0 : Array Value} {Z : State} (hw : ∀ d ∈ tables_1, d.before a0 Z = true) : (Jvm.Cond.static ({ cls := "com/example/queueloom/queueloom/engine/LongPairHeapSiftDownPinLaw", name := "valOf", desc := "(I)J" } : Jvm.MethodName)).before a0 Z = true := hw _ (List.mem_of_getElem? (i := 9) rfl)
theorem wd10 {a0 : Array Value} {Z : State} (hw : ∀ d ∈ tables_1, d.before a0 Z = true) : (Jvm.Cond.code ({ cls := "com/example/queueloom/queueloom/engine/LongPairHeapSiftDownPinLaw", name := "valOf", desc := "(I)J" } : Jvm.MethodName) method_3_code (1 : Nat) (Option.some Jvm.ClassFile.FieldType.long)).before a0 Z = true := hw _ (List.mem_of_getElem? (i := 10) rfl)
theorem wd11 {a0 : Array Value} {Z : State} (hw : ∀ d ∈ tables_1, d.before a0 Z = true) : (Jvm.Cond.constantLong "com/example/queueloom/queueloom/engine/LongPairHeapSiftDownPinLaw" (9 : Nat) (-9223372036854775808 : Int64)).before a0 Z = true := hw _ (List.mem_of_getElem? (i := 11) rfl)
theorem wd12 {a0 : Array Value} {Z : State} (hw : ∀ d ∈ tables_1, d.before a0 Z = true) : (Jvm.Cond.constantLong "com/example/queueloom/queueloom/engine/LongPairHeapSiftDownPinLaw" (19 : Nat) (9223372036854775807 : Int64)).before a0 Z = true := hw _ (List.mem_of_getElem? (i := 12) rfl)
theorem wd13 {a0 : Array Value} {Z : State} (hw : ∀ d ∈ tables_1, d.before a0 Z = true) : (Jvm.Cond.methodLink "com/example/queueloom/queueloom/engine/LongPairHeapSiftDownPinLaw" (52 : Nat) ({ cls := "com/example/queueloom/queueloom/engine/LongPairHeap", name := "siftDown", desc := "([J[JII)V" } : Jvm.MethodName)).before a0 Z = true := hw _ (List.mem_of_getElem? (i := 13) rfl)
theorem wd14 {a0 : Array Value} {Z : State} (hw : ∀ d ∈ tables_1, d.before a0 Z = true) : (Jvm.Cond.static ({ cls := "com/example/queueloom/queueloom/engine/LongPairHeap", name := "siftDown", desc := "([J[JII)V" } : Jvm.MethodName)).before a0 Z = true := hw _ (List.mem_of_getElem? (i := 14) rfl)
theorem wd15 {a0 : Array Value} {Z : State} (hw : ∀ d ∈ tables_1, d.before a0 Z = true) : (Jvm.Cond.initialized "com/example/queueloom/queueloom/engine/LongPairHeap").before a0 Z = true := hw _ (List.mem_of_getElem? (i := 15) rfl)
theorem wd16 {a0 : Array Value} {Z : State} (hw : ∀ d ∈ tables_1, d.before a0 Z = true) : (Jvm.Cond.code ({ cls := "com/example/queueloom/queueloom/engine/LongPairHeap", name := "siftDown", desc := "([J[JII)V" } : Jvm.MethodName) prog_60_method_9_code (14 : Nat) (Option.none : Option Jvm.ClassFile.FieldType)).before a0 Z = true := hw _ (List.mem_of_getElem? (i := 16) rfl)
theorem wd17 {a0 : Array Value} {Z : State} (hw : ∀ d ∈ tables_1, d.before a0 Z = true) : (Jvm.Cond.methodLink "com/example/queueloom/queueloom/engine/LongPairHeapSiftDownPinLaw" (58 : Nat) ({ cls := "com/example/queueloom/queueloom/engine/LongPairHeapSiftDownPinLaw", name := "edgeOk", desc := "([J[JIIII)Z" } : Jvm.MethodName)).before a0 Z = true := hw _ (List.mem_of_getElem? (i := 17) rfl)
theorem wd18 {a0 : Array Value} {Z : State} (hw : ∀ d ∈ tables_1, d.before a0 Z = true) : (Jvm.Cond.static ({ cls := "com/example/queueloom/queueloom/engine/LongPairHeapSiftDownPinLaw", name := "edgeOk", desc := "([J[JIIII)Z" } : Jvm.MethodName)).before a0 Z = true := hw _ (List.mem_of_getElem? (i := 18) rfl)
theorem wd19 {a0 : Array Value} {Z : State} (hw : ∀ d ∈ tables_1, d.before a0 Z = true) : (Jvm.Cond.code ({ cls := "com/example/queueloom/queueloom/engine/LongPairHeapSiftDownPinLaw", name := "edgeOk", desc := "([J[JIIII)Z" } : Jvm.MethodName) method_5_code (6 : Nat) (Option.some Jvm.ClassFile.FieldType.boolean)).before a0 Z = true := hw _ (List.mem_of_getElem? (i := 19) rfl)
theorem wd20 {a0 : Array Value} {Z : State} (hw : ∀ d ∈ tables_1, d.before a0 Z = true) : (Jvm.Cond.methodLink "com/example/queueloom/queueloom/engine/LongPairHeapSiftDownPinLaw" (21 : Nat) ({ cls := "com/example/queueloom/queueloom/engine/LongPairHeapSiftDownPinLaw", name := "le", desc := "(JJJJ)Z" } : Jvm.MethodName)).before a0 Z = true := hw _ (List.mem_of_getElem? (i := 20) rfl)
theorem wd21 {a0 : Array Value} {Z : State} (hw : ∀ d ∈ tables_1, d.before a0 Z = true) : (Jvm.Cond.static ({ cls := "com/example/queueloom/queueloom/engine/LongPairHeapSiftDownPinLaw", name := "le", desc := "(JJJJ)Z" } : Jvm.MethodName)).before a0 Z = true := hw _ (List.mem_of_getElem? (i := 21) rfl)
theorem wd22 {a0 : Array Value} {Z : State} (hw : ∀ d ∈ tables_1, d.before a0 Z = true) : (Jvm.Cond.code ({ cls := "com/example/queueloom/queueloom/engine/LongPairHeapSiftDownPinLaw", name := "le", desc := "(JJJJ)Z" } : Jvm.MethodName) method_4_code (8 : Nat) (Option.some Jvm.ClassFile.FieldType.boolean)).before a0 Z = true := hw _ (List.mem_of_getElem? (i := 22) rfl)
theorem wd23 {a0 : Array Value} {Z : State} (hw : ∀ d ∈ tables_1, d.before a0 Z = true) : (Jvm.Cond.methodLink "com/example/queueloom/queueloom/engine/LongPairHeapSiftDownPinLaw" (62 : Nat) ({ cls := "com/example/queueloom/queueloom/engine/LongPairHeapSiftDownPinLaw", name := "keptOk", desc := "([J[J[J[JIII)Z" } : Jvm.MethodName)).before a0 Z = true := hw _ (List.mem_of_getElem? (i := 23) rfl)
theorem wd24 {a0 : Array Value} {Z : State} (hw : ∀ d ∈ tables_1, d.before a0 Z = true) : (Jvm.Cond.static ({ cls := "com/example/queueloom/queueloom/engine/LongPairHeapSiftDownPinLaw", name := "keptOk", desc := "([J[J[J[JIII)Z" } : Jvm.MethodName)).before a0 Z = true := hw _ (List.mem_of_getElem? (i := 24) rfl)
theorem wd25 {a0 : Array Value} {Z : State} (hw : ∀ d ∈ tables_1, d.before a0 Z = true) : (Jvm.Cond.code ({ cls := "com/example/queueloom/queueloom/engine/LongPairHeapSiftDownPinLaw", name := "keptOk", desc := "([J[J[J[JIII)Z" } : Jvm.MethodName) method_7_code (7 : Nat) (Option.some Jvm.ClassFile.FieldType.boolean)).before a0 Z = true := hw _ (List.mem_of_getElem? (i := 25) rfl)
theorem wd26 {a0 : Array Value} {Z : State} (hw : ∀ d ∈ tables_1, d.before a0 Z = true) : (Jvm.Cond.methodLink "com/example/queueloom/queueloom/engine/LongPairHeapSiftDownPinLaw" (27 : Nat) ({ cls := "com/example/queueloom/queueloom/engine/LongPairHeapSiftDownPinLaw", name := "inSub", desc := "(II)Z" } : Jvm.MethodName)).before a0 Z = true := hw _ (List.mem_of_getElem? (i := 26) rfl)
theorem wd27 {a0 : Array Value} {Z : State} (hw : ∀ d ∈ tables_1, d.before a0 Z = true) : (Jvm.Cond.static ({ cls := "com/example/queueloom/queueloom/engine/LongPairHeapSiftDownPinLaw", name := "inSub", desc := "(II)Z" } : Jvm.MethodName)).before a0 Z = true := hw _ (List.mem_of_getElem? (i := 27) rfl)
theorem wd28 {a0 : Array Value} {Z : State} (hw : ∀ d ∈ tables_1, d.before a0 Z = true) : (Jvm.Cond.code ({ cls := "com/example/queueloom/queueloom/engine/LongPairHeapSiftDownPinLaw", name := "inSub", desc := "(II)Z" } : Jvm.MethodName) method_6_code (2 : Nat) (Option.some Jvm.ClassFile.FieldType.boolean)).before a0 Z = true := hw _ (List.mem_of_getElem? (i := 28) rfl)
theorem wd29 {a0 : Array Value} {Z : State} (hw : ∀ d ∈ tables_1, d.before a0 Z = true) : (Jvm.Cond.methodLink "com/example/queueloom/queueloom/engine/LongPairHeapSiftDownPinLaw" (66 : Nat) ({ cls := "com/example/queueloom/queueloom/engine/LongPairHeapSiftDownPinLaw", name := "sumK", desc := "([J)J" } : Jvm.MethodName)).before a0 Z = true := hw _ (List.mem_of_getElem? (i := 29) rfl)
theorem wd30 {a0 : Array Value} {Z : State} (hw : ∀ d ∈ tables_1, d.before a0 Z = true) : (Jvm.Cond.static ({ cls := "com/example/queueloom/queueloom/engine/LongPairHeapSiftDownPinLaw", name := "sumK", desc := "([J)J" } : Jvm.MethodName)).before a0 Z = true := hw _ (List.mem_of_getElem? (i := 30) rfl)
theorem wd31 {a0 : Array Value} {Z : State} (hw : ∀ d ∈ tables_1, d.before a0 Z = true) : (Jvm.Cond.code ({ cls := "com/example/queueloom/queueloom/engine/LongPairHeapSiftDownPinLaw", name := "sumK", desc := "([J)J" } : Jvm.MethodName) method_9_code (1 : Nat) (Option.some Jvm.ClassFile.FieldType.long)).before a0 Z = true := hw _ (List.mem_of_getElem? (i := 31) rfl)
theorem wd32 {a0 : Array Value} {Z : State} (hw : ∀ d ∈ tables_1, d.before a0 Z = true) : (Jvm.Cond.methodLink "com/example/queueloom/queueloom/engine/LongPairHeapSiftDownPinLaw" (70 : Nat) ({ cls := "com/example/queueloom/queueloom/engine/LongPairHeapSiftDownPinLaw", name := "sumMix", desc := "([J[J)J" } : Jvm.MethodName)).before a0 Z = true := hw _ (List.mem_of_getElem? (i := 32) rfl)
theorem wd33 {a0 : Array Value} {Z : State} (hw : ∀ d ∈ tables_1, d.before a0 Z = true) : (Jvm.Cond.static ({ cls := "com/example/queueloom/queueloom/engine/LongPairHeapSiftDownPinLaw", name := "sumMix", desc := "([J[J)J" } : Jvm.MethodName)).before a0 Z = true := hw _ (List.mem_of_getElem? (i := 33) rfl)
theorem wd34 {a0 : Array Value} {Z : State} (hw : ∀ d ∈ tables_1, d.before a0 Z = true) : (Jvm.Cond.code ({ cls := "com/example/queueloom/queueloom/engine/LongPairHeapSiftDownPinLaw", name := "sumMix", desc := "([J[J)J" } : Jvm.MethodName) method_10_code (2 : Nat) (Option.some Jvm.ClassFile.FieldType.long)).before a0 Z = true := hw _ (List.mem_of_getElem? (i := 34) rfl)
theorem wd35 {a0 : Array Value} {Z : State} (hw : ∀ d ∈ tables_1, d.before a0 Z = true) : (Jvm.Cond.methodLink "com/example/queueloom/queueloom/engine/LongPairHeapSiftDownPinLaw" (35 : Nat) ({ cls := "com/example/queueloom/queueloom/engine/LongPairHeapSiftDownPinLaw", name := "mix", desc := "(JJ)J" } : Jvm.MethodName)).before a0 Z = true := hw _ (List.mem_of_getElem? (i := 35) rfl)
theorem wd36 {a0 : Array Value} {Z : State} (hw : ∀ d ∈ tables_1, d.before a0 Z = true) : (Jvm.Cond.static ({ cls := "com/example/queueloom/queueloom/engine/LongPairHeapSiftDownPinLaw", name := "mix", desc := "(JJ)J" } : Jvm.MethodName)).before a0 Z = true := hw _ (List.mem_of_getElem? (i := 36) rfl)
theorem wd37 {a0 : Array Value} {Z : State} (hw : ∀ d ∈ tables_1, d.before a0 Z = true) : (Jvm.Cond.code ({ cls := "com/example/queueloom/queueloom/engine/LongPairHeapSiftDownPinLaw", name := "mix", desc := "(JJ)J" } : Jvm.MethodName) method_8_code (4 : Nat) (Option.some Jvm.ClassFile.FieldType.long)).before a0 Z = true := hw _ (List.mem_of_getElem? (i := 37) rfl)
theorem wd38 {a0 : Array Value} {Z : State} (hw : ∀ d ∈ tables_1, d.before a0 Z = true) : (Jvm.Cond.constantLong "com/example/queueloom/queueloom/engine/LongPairHeapSiftDownPinLaw" (31 : Nat) (-7046029254386353131 : Int64)).before a0 Z = true := hw _ (List.mem_of_getElem? (i := 38) rfl)
theorem wd39 {a0 : Array Value} {Z : State} (hw : ∀ d ∈ tables_1, d.before a0 Z = true) : (Jvm.Cond.constantLong "com/example/queueloom/queueloom/engine/LongPairHeapSiftDownPinLaw" (33 : Nat) (-4658895280553007687 : Int64)).before a0 Z = true := hw _ (List.mem_of_getElem? (i := 39) rfl)
theorem wd40 {a0 : Array Value} {Z : State} (hw : ∀ d ∈ tables_1, d.before a0 Z = true) : (Jvm.Cond.constantLong "com/example/queueloom/queueloom/engine/LongPairHeapSiftDownPinLaw" (11 : Nat) (-9223372036854775807 : Int64)).before a0 Z = true := hw _ (List.mem_of_getElem? (i := 40) rfl)
theorem wd41 {a0 : Array Value} {Z : State} (hw : ∀ d ∈ tables_1, d.before a0 Z = true) : (Jvm.Cond.constantLong "com/example/queueloom/queueloom/engine/LongPairHeapSiftDownPinLaw" (15 : Nat) (2 : Int64)).before a0 Z = true := hw _ (List.mem_of_getElem? (i := 41) rfl)
theorem wd42 {a0 : Array Value} {Z : State} (hw : ∀ d ∈ tables_1, d.before a0 Z = true) : (Jvm.Cond.constantLong "com/example/queueloom/queueloom/engine/LongPairHeapSiftDownPinLaw" (50 : Nat) (3 : Int64)).before a0 Z = true := hw _ (List.mem_of_getElem? (i := 42) rfl)
theorem wd43 {a0 : Array Value} {Z : State} (hw : ∀ d ∈ tables_1, d.before a0 Z = true) : (Jvm.Cond.constantLong "com/example/queueloom/queueloom/engine/LongPairHeapSiftDownPinLaw" (17 : Nat) (9223372036854775806 : Int64)).before a0 Z = true := hw _ (List.mem_of_getElem? (i := 43) rfl)
theorem d1_0 : decode method_2_code 0 = .ok (.iload_n 0, 1) := by decide +kernel
theorem d1_1 : decode method_2_code 1 = .ok (.ifCond .ne 7, 3) := by decide +kernel
theorem d1_4 : decode method_2_code 4 = .ok (.ldc2_w 9, 3) := by decide +kernel
theorem d1_7 : decode method_2_code 7 = .ok (.lreturn, 1) := by decide +kernel
theorem d1_8 : decode method_2_code 8 = .ok (.iload_n 0, 1) := by decide +kernel
theorem d1_9 : decode method_2_code 9 = .ok (.iconst 1, 1) := by decide +kernel
theorem d1_10 : decode method_2_code 10 = .ok (.if_icmp .ne 7, 3) := by decide +kernel
theorem d1_13 : decode method_2_code 13 = .ok (.ldc2_w 11, 3) := by decide +kernel
theorem d1_16 : decode method_2_code 16 = .ok (.lreturn, 1) := by decide +kernel
theorem d1_17 : decode method_2_code 17 = .ok (.iload_n 0, 1) := by decide +kernel
theorem d1_18 : decode method_2_code 18 = .ok (.iconst 2, 1) := by decide +kernel
theorem d1_19 : decode method_2_code 19 = .ok (.if_icmp .ne 7, 3) := by decide +kernel
theorem d1_22 : decode method_2_code 22 = .ok (.ldc2_w 13, 3) := by decide +kernel
theorem d1_25 : decode method_2_code 25 = .ok (.lreturn, 1) := by decide +kernel
theorem d1_26 : decode method_2_code 26 = .ok (.iload_n 0, 1) := by decide +kernel
theorem d1_27 : decode method_2_code 27 = .ok (.iconst 3, 1) := by decide +kernel
theorem d1_28 : decode method_2_code 28 = .ok (.if_icmp .ne 5, 3) := by decide +kernel
theorem d1_31 : decode method_2_code 31 = .ok (.lconst 0, 1) := by decide +kernel
theorem d1_32 : decode method_2_code 32 = .ok (.lreturn, 1) := by decide +kernel
theorem d1_33 : decode method_2_code 33 = .ok (.iload_n 0, 1) := by decide +kernel
theorem d1_34 : decode method_2_code 34 = .ok (.iconst 4, 1) := by decide +kernel
theorem d1_35 : decode method_2_code 35 = .ok (.if_icmp .ne 5, 3) := by decide +kernel
theorem d1_38 : decode method_2_code 38 = .ok (.lconst 1, 1) := by decide +kernel
theorem d1_39 : decode method_2_code 39 = .ok (.lreturn, 1) := by decide +kernel
theorem d1_40 : decode method_2_code 40 = .ok (.iload_n 0, 1) := by decide +kernel
theorem d1_41 : decode method_2_code 41 = .ok (.iconst 5, 1) := by decide +kernel
theorem d1_42 : decode method_2_code 42 = .ok (.if_icmp .ne 7, 3) := by decide +kernel
theorem d1_45 : decode method_2_code 45 = .ok (.ldc2_w 15, 3) := by decide +kernel
theorem d1_48 : decode method_2_code 48 = .ok (.lreturn, 1) := by decide +kernel
theorem d1_49 : decode method_2_code 49 = .ok (.iload_n 0, 1) := by decide +kernel
theorem d1_50 : decode method_2_code 50 = .ok (.bipush 6, 2) := by decide +kernel
theorem d1_52 : decode method_2_code 52 = .ok (.if_icmp .ne 7, 3) := by decide +kernel
theorem d1_55 : decode method_2_code 55 = .ok (.ldc2_w 17, 3) := by decide +kernel
theorem d1_58 : decode method_2_code 58 = .ok (.lreturn, 1) := by decide +kernel
theorem d1_59 : decode method_2_code 59 = .ok (.ldc2_w 19, 3) := by decide +kernel
theorem d1_62 : decode method_2_code 62 = .ok (.lreturn, 1) := by decide +kernel
theorem pn_1 : plainName "com/example/queueloom/queueloom/engine/LongPairHeapSiftDownPinLaw" = true := by first | (simp [plainName, overriddenIn]; done) | decide +kernel
theorem d2_0 : decode method_3_code 0 = .ok (.iload_n 0, 1) := by decide +kernel
theorem d2_1 : decode method_3_code 1 = .ok (.ifCond .ne 7, 3) := by decide +kernel
theorem d2_4 : decode method_3_code 4 = .ok (.ldc2_w 9, 3) := by decide +kernel
theorem d2_7 : decode method_3_code 7 = .ok (.lreturn, 1) := by decide +kernel
theorem d2_8 : decode method_3_code 8 = .ok (.iload_n 0, 1) := by decide +kernel
theorem d2_9 : decode method_3_code 9 = .ok (.iconst 1, 1) := by decide +kernel
theorem d2_10 : decode method_3_code 10 = .ok (.if_icmp .ne 7, 3) := by decide +kernel
theorem d2_13 : decode method_3_code 13 = .ok (.ldc2_w 13, 3) := by decide +kernel
theorem d2_16 : decode method_3_code 16 = .ok (.lreturn, 1) := by decide +kernel
theorem d2_17 : decode method_3_code 17 = .ok (.iload_n 0, 1) := by decide +kernel
theorem d2_18 : decode method_3_code 18 = .ok (.iconst 2, 1) := by decide +kernel
theorem d2_19 : decode method_3_code 19 = .ok (.if_icmp .ne 5, 3) := by decide +kernel
theorem d2_22 : decode method_3_code 22 = .ok (.lconst 0, 1) := by decide +kernel
theorem d2_23 : decode method_3_code 23 = .ok (.lreturn, 1) := by decide +kernel
theorem d2_24 : decode method_3_code 24 = .ok (.ldc2_w 19, 3) := by decide +kernel
theorem d2_27 : decode method_3_code 27 = .ok (.lreturn, 1) := by decide +kernel
theorem pn_2 : plainName "com/example/queueloom/queueloom/engine/LongPairHeapSiftDownPinLaw" = true := by first | (simp [plainName, overriddenIn]; done) | decide +kernel
theorem d3_0 : decode prog_60_method_9_code 0 = .ok (.aload_n 0, 1) := by decide +kernel
theorem d3_1 : decode prog_60_method_9_code 1 = .ok (.iload_n 3, 1) := by decide +kernel
theorem d3_2 : decode prog_60_method_9_code 2 = .ok (.laload, 1) := by decide +kernel
theorem d3_3 : decode prog_60_method_9_code 3 = .ok (.lstore 4, 2) := by decide +kernel
theorem d3_5 : decode prog_60_method_9_code 5 = .ok (.aload_n 1, 1) := by decide +kernel
theorem d3_6 : decode prog_60_method_9_code 6 = .ok (.iload_n 3, 1) := by decide +kernel
theorem d3_7 : decode prog_60_method_9_code 7 = .ok (.laload, 1) := by decide +kernel
theorem d3_8 : decode prog_60_method_9_code 8 = .ok (.lstore 6, 2) := by decide +kernel
theorem d3_10 : decode prog_60_method_9_code 10 = .ok (.iload_n 3, 1) := by decide +kernel
theorem d3_11 : decode prog_60_method_9_code 11 = .ok (.istore 8, 2) := by decide +kernel
theorem d3_13 : decode prog_60_method_9_code 13 = .ok (.iconst 2, 1) := by decide +kernel
theorem d3_14 : decode prog_60_method_9_code 14 = .ok (.iload 8, 2) := by decide +kernel
theorem d3_16 : decode prog_60_method_9_code 16 = .ok (.imul, 1) := by decide +kernel
theorem d3_17 : decode prog_60_method_9_code 17 = .ok (.iconst 1, 1) := by decide +kernel
theorem d3_18 : decode prog_60_method_9_code 18 = .ok (.iadd, 1) := by decide +kernel
theorem d3_19 : decode prog_60_method_9_code 19 = .ok (.istore 9, 2) := by decide +kernel
theorem d3_144 : decode prog_60_method_9_code 144 = .ok (.aload_n 0, 1) := by decide +kernel
theorem d3_145 : decode prog_60_method_9_code 145 = .ok (.iload 8, 2) := by decide +kernel
theorem d3_147 : decode prog_60_method_9_code 147 = .ok (.lload 4, 2) := by decide +kernel
theorem d3_149 : decode prog_60_method_9_code 149 = .ok (.lastore, 1) := by decide +kernel
theorem d3_150 : decode prog_60_method_9_code 150 = .ok (.aload_n 1, 1) := by decide +kernel
theorem d3_151 : decode prog_60_method_9_code 151 = .ok (.iload 8, 2) := by decide +kernel
theorem d3_153 : decode prog_60_method_9_code 153 = .ok (.lload 6, 2) := by decide +kernel
theorem d3_155 : decode prog_60_method_9_code 155 = .ok (.lastore, 1) := by decide +kernel
theorem d3_156 : decode prog_60_method_9_code 156 = .ok (.return_, 1) := by decide +kernel
theorem d3_21 : decode prog_60_method_9_code 21 = .ok (.iload 9, 2) := by decide +kernel
theorem d3_23 : decode prog_60_method_9_code 23 = .ok (.iload_n 2, 1) := by decide +kernel
theorem d3_24 : decode prog_60_method_9_code 24 = .ok (.if_icmp .ge 120, 3) := by decide +kernel
theorem d3_115 : decode prog_60_method_9_code 115 = .ok (.aload_n 0, 1) := by decide +kernel
theorem d3_116 : decode prog_60_method_9_code 116 = .ok (.iload 8, 2) := by decide +kernel
theorem d3_118 : decode prog_60_method_9_code 118 = .ok (.lload 10, 2) := by decide +kernel
theorem d3_120 : decode prog_60_method_9_code 120 = .ok (.lastore, 1) := by decide +kernel
theorem d3_121 : decode prog_60_method_9_code 121 = .ok (.aload_n 1, 1) := by decide +kernel
theorem d3_122 : decode prog_60_method_9_code 122 = .ok (.iload 8, 2) := by decide +kernel
theorem d3_124 : decode prog_60_method_9_code 124 = .ok (.aload_n 1, 1) := by decide +kernel
theorem d3_125 : decode prog_60_method_9_code 125 = .ok (.iload 9, 2) := by decide +kernel
theorem d3_127 : decode prog_60_method_9_code 127 = .ok (.laload, 1) := by decide +kernel
theorem d3_128 : decode prog_60_method_9_code 128 = .ok (.lastore, 1) := by decide +kernel
theorem d3_129 : decode prog_60_method_9_code 129 = .ok (.iload 9, 2) := by decide +kernel
theorem d3_131 : decode prog_60_method_9_code 131 = .ok (.istore 8, 2) := by decide +kernel
theorem d3_133 : decode prog_60_method_9_code 133 = .ok (.iconst 2, 1) := by decide +kernel
theorem d3_134 : decode prog_60_method_9_code 134 = .ok (.iload 8, 2) := by decide +kernel
theorem d3_136 : decode prog_60_method_9_code 136 = .ok (.imul, 1) := by decide +kernel
theorem d3_137 : decode prog_60_method_9_code 137 = .ok (.iconst 1, 1) := by decide +kernel
theorem d3_138 : decode prog_60_method_9_code 138 = .ok (.iadd, 1) := by decide +kernel
theorem d3_139 : decode prog_60_method_9_code 139 = .ok (.istore 9, 2) := by decide +kernel
theorem d3_141 : decode prog_60_method_9_code 141 = .ok (.goto (-120), 3) := by decide +kernel
theorem d3_86 : decode prog_60_method_9_code 86 = .ok (.lload 10, 2) := by decide +kernel
theorem d3_88 : decode prog_60_method_9_code 88 = .ok (.lload 4, 2) := by decide +kernel
theorem d3_90 : decode prog_60_method_9_code 90 = .ok (.lcmp, 1) := by decide +kernel
theorem d3_91 : decode prog_60_method_9_code 91 = .ok (.ifCond .gt 53, 3) := by decide +kernel
theorem d3_94 : decode prog_60_method_9_code 94 = .ok (.lload 10, 2) := by decide +kernel
theorem d3_96 : decode prog_60_method_9_code 96 = .ok (.lload 4, 2) := by decide +kernel
theorem d3_98 : decode prog_60_method_9_code 98 = .ok (.lcmp, 1) := by decide +kernel
theorem d3_99 : decode prog_60_method_9_code 99 = .ok (.ifCond .ne 16, 3) := by decide +kernel
theorem d3_102 : decode prog_60_method_9_code 102 = .ok (.aload_n 1, 1) := by decide +kernel
theorem d3_103 : decode prog_60_method_9_code 103 = .ok (.iload 9, 2) := by decide +kernel
theorem d3_105 : decode prog_60_method_9_code 105 = .ok (.laload, 1) := by decide +kernel
theorem d3_106 : decode prog_60_method_9_code 106 = .ok (.lload 6, 2) := by decide +kernel
theorem d3_108 : decode prog_60_method_9_code 108 = .ok (.lcmp, 1) := by decide +kernel
theorem d3_109 : decode prog_60_method_9_code 109 = .ok (.ifCond .lt 6, 3) := by decide +kernel
theorem d3_112 : decode prog_60_method_9_code 112 = .ok (.goto 32, 3) := by decide +kernel
theorem d3_27 : decode prog_60_method_9_code 27 = .ok (.aload_n 0, 1) := by decide +kernel
theorem d3_28 : decode prog_60_method_9_code 28 = .ok (.iload 9, 2) := by decide +kernel
theorem d3_30 : decode prog_60_method_9_code 30 = .ok (.laload, 1) := by decide +kernel
theorem d3_31 : decode prog_60_method_9_code 31 = .ok (.lstore 10, 2) := by decide +kernel
theorem d3_33 : decode prog_60_method_9_code 33 = .ok (.iload 9, 2) := by decide +kernel
theorem d3_35 : decode prog_60_method_9_code 35 = .ok (.iconst 1, 1) := by decide +kernel
theorem d3_36 : decode prog_60_method_9_code 36 = .ok (.iadd, 1) := by decide +kernel
theorem d3_37 : decode prog_60_method_9_code 37 = .ok (.iload_n 2, 1) := by decide +kernel
theorem d3_38 : decode prog_60_method_9_code 38 = .ok (.if_icmp .ge 48, 3) := by decide +kernel
theorem d3_41 : decode prog_60_method_9_code 41 = .ok (.aload_n 0, 1) := by decide +kernel
theorem d3_42 : decode prog_60_method_9_code 42 = .ok (.iload 9, 2) := by decide +kernel
theorem d3_44 : decode prog_60_method_9_code 44 = .ok (.iconst 1, 1) := by decide +kernel
theorem d3_45 : decode prog_60_method_9_code 45 = .ok (.iadd, 1) := by decide +kernel
theorem d3_46 : decode prog_60_method_9_code 46 = .ok (.laload, 1) := by decide +kernel
theorem d3_47 : decode prog_60_method_9_code 47 = .ok (.lstore 12, 2) := by decide +kernel
theorem d3_49 : decode prog_60_method_9_code 49 = .ok (.lload 12, 2) := by decide +kernel
theorem d3_51 : decode prog_60_method_9_code 51 = .ok (.lload 10, 2) := by decide +kernel
theorem d3_53 : decode prog_60_method_9_code 53 = .ok (.lcmp, 1) := by decide +kernel
theorem d3_54 : decode prog_60_method_9_code 54 = .ok (.ifCond .lt 25, 3) := by decide +kernel
theorem d3_79 : decode prog_60_method_9_code 79 = .ok (.iinc 9 1, 3) := by decide +kernel
theorem d3_82 : decode prog_60_method_9_code 82 = .ok (.lload 12, 2) := by decide +kernel
theorem d3_84 : decode prog_60_method_9_code 84 = .ok (.lstore 10, 2) := by decide +kernel
theorem d3_57 : decode prog_60_method_9_code 57 = .ok (.lload 12, 2) := by decide +kernel
theorem d3_59 : decode prog_60_method_9_code 59 = .ok (.lload 10, 2) := by decide +kernel
theorem d3_61 : decode prog_60_method_9_code 61 = .ok (.lcmp, 1) := by decide +kernel
theorem d3_62 : decode prog_60_method_9_code 62 = .ok (.ifCond .ne 24, 3) := by decide +kernel
theorem d3_65 : decode prog_60_method_9_code 65 = .ok (.aload_n 1, 1) := by decide +kernel
theorem d3_66 : decode prog_60_method_9_code 66 = .ok (.iload 9, 2) := by decide +kernel
theorem d3_68 : decode prog_60_method_9_code 68 = .ok (.iconst 1, 1) := by decide +kernel
theorem d3_69 : decode prog_60_method_9_code 69 = .ok (.iadd, 1) := by decide +kernel
theorem d3_70 : decode prog_60_method_9_code 70 = .ok (.laload, 1) := by decide +kernel
theorem d3_71 : decode prog_60_method_9_code 71 = .ok (.aload_n 1, 1) := by decide +kernel
theorem d3_72 : decode prog_60_method_9_code 72 = .ok (.iload 9, 2) := by decide +kernel
theorem d3_74 : decode prog_60_method_9_code 74 = .ok (.laload, 1) := by decide +kernel
theorem d3_75 : decode prog_60_method_9_code 75 = .ok (.lcmp, 1) := by decide +kernel
theorem d3_76 : decode prog_60_method_9_code 76 = .ok (.ifCond .ge 10, 3) := by decide +kernel
theorem pn_3 : plainName "com/example/queueloom/queueloom/engine/LongPairHeap" = true := by first | (simp [plainName, overriddenIn]; done) | decide +kernel
theorem d5_0 : decode method_4_code 0 = .ok (.lload_n 0, 1) := by decide +kernel
theorem d5_1 : decode method_4_code 1 = .ok (.lload 4, 2) := by decide +kernel
theorem d5_3 : decode method_4_code 3 = .ok (.lcmp, 1) := by decide +kernel
theorem d5_4 : decode method_4_code 4 = .ok (.ifCond .lt 17, 3) := by decide +kernel
theorem d5_21 : decode method_4_code 21 = .ok (.iconst 1, 1) := by decide +kernel
theorem d5_22 : decode method_4_code 22 = .ok (.goto 4, 3) := by decide +kernel
theorem d5_26 : decode method_4_code 26 = .ok (.ireturn, 1) := by decide +kernel
theorem d5_7 : decode method_4_code 7 = .ok (.lload_n 0, 1) := by decide +kernel
theorem d5_8 : decode method_4_code 8 = .ok (.lload 4, 2) := by decide +kernel
theorem d5_10 : decode method_4_code 10 = .ok (.lcmp, 1) := by decide +kernel
theorem d5_11 : decode method_4_code 11 = .ok (.ifCond .ne 14, 3) := by decide +kernel
theorem d5_14 : decode method_4_code 14 = .ok (.lload_n 2, 1) := by decide +kernel
theorem d5_15 : decode method_4_code 15 = .ok (.lload 6, 2) := by decide +kernel
theorem d5_17 : decode method_4_code 17 = .ok (.lcmp, 1) := by decide +kernel
theorem d5_18 : decode method_4_code 18 = .ok (.ifCond .gt 7, 3) := by decide +kernel
theorem pn_5 : plainName "com/example/queueloom/queueloom/engine/LongPairHeapSiftDownPinLaw" = true := by first | (simp [plainName, overriddenIn]; done) | decide +kernel
theorem d4_0 : decode method_5_code 0 = .ok (.iload_n 2, 1) := by decide +kernel
theorem d4_1 : decode method_5_code 1 = .ok (.iload 5, 2) := by decide +kernel
theorem d4_3 : decode method_5_code 3 = .ok (.if_icmp .lt 9, 3) := by decide +kernel
theorem d4_12 : decode method_5_code 12 = .ok (.iconst 1, 1) := by decide +kernel
theorem d4_13 : decode method_5_code 13 = .ok (.ireturn, 1) := by decide +kernel
theorem d4_6 : decode method_5_code 6 = .ok (.iload_n 3, 1) := by decide +kernel
theorem d4_7 : decode method_5_code 7 = .ok (.iload 4, 2) := by decide +kernel
theorem d4_9 : decode method_5_code 9 = .ok (.if_icmp .lt 5, 3) := by decide +kernel
theorem d4_14 : decode method_5_code 14 = .ok (.aload_n 0, 1) := by decide +kernel
theorem d4_15 : decode method_5_code 15 = .ok (.iload_n 2, 1) := by decide +kernel
theorem d4_16 : decode method_5_code 16 = .ok (.laload, 1) := by decide +kernel
theorem d4_17 : decode method_5_code 17 = .ok (.aload_n 1, 1) := by decide +kernel
theorem d4_18 : decode method_5_code 18 = .ok (.iload_n 2, 1) := by decide +kernel
theorem d4_19 : decode method_5_code 19 = .ok (.laload, 1) := by decide +kernel
theorem d4_20 : decode method_5_code 20 = .ok (.aload_n 0, 1) := by decide +kernel
theorem d4_21 : decode method_5_code 21 = .ok (.iload_n 3, 1) := by decide +kernel
theorem d4_22 : decode method_5_code 22 = .ok (.laload, 1) := by decide +kernel
theorem d4_23 : decode method_5_code 23 = .ok (.aload_n 1, 1) := by decide +kernel
theorem d4_24 : decode method_5_code 24 = .ok (.iload_n 3, 1) := by decide +kernel
theorem d4_25 : decode method_5_code 25 = .ok (.laload, 1) := by decide +kernel
theorem pd_0 : parseMethodDescriptor "(JJJJ)Z" = some ⟨[.long, .long, .long, .long], some .boolean⟩ := by decide +kernel
theorem d4_26 : decode method_5_code 26 = .ok (.invokestatic 21, 3) := by decide +kernel
theorem d4_29 : decode method_5_code 29 = .ok (.ireturn, 1) := by decide +kernel
theorem pn_4 : plainName "com/example/queueloom/queueloom/engine/LongPairHeapSiftDownPinLaw" = true := by first | (simp [plainName, overriddenIn]; done) | decide +kernel
theorem d7_0 : decode method_6_code 0 = .ok (.iload_n 1, 1) := by decide +kernel
theorem d7_1 : decode method_6_code 1 = .ok (.ifCond .ne 5, 3) := by decide +kernel
theorem d7_4 : decode method_6_code 4 = .ok (.iconst 1, 1) := by decide +kernel
theorem d7_5 : decode method_6_code 5 = .ok (.ireturn, 1) := by decide +kernel
theorem d7_6 : decode method_6_code 6 = .ok (.iload_n 1, 1) := by decide +kernel
theorem d7_7 : decode method_6_code 7 = .ok (.iconst 1, 1) := by decide +kernel
theorem d7_8 : decode method_6_code 8 = .ok (.if_icmp .ne 24, 3) := by decide +kernel
theorem d7_11 : decode method_6_code 11 = .ok (.iload_n 0, 1) := by decide +kernel
theorem d7_12 : decode method_6_code 12 = .ok (.iconst 1, 1) := by decide +kernel
theorem d7_13 : decode method_6_code 13 = .ok (.if_icmp .eq 13, 3) := by decide +kernel
theorem d7_26 : decode method_6_code 26 = .ok (.iconst 1, 1) := by decide +kernel
theorem d7_27 : decode method_6_code 27 = .ok (.goto 4, 3) := by decide +kernel
theorem d7_16 : decode method_6_code 16 = .ok (.iload_n 0, 1) := by decide +kernel
theorem d7_17 : decode method_6_code 17 = .ok (.iconst 3, 1) := by decide +kernel
theorem d7_18 : decode method_6_code 18 = .ok (.if_icmp .eq 8, 3) := by decide +kernel
theorem d7_21 : decode method_6_code 21 = .ok (.iload_n 0, 1) := by decide +kernel
theorem d7_22 : decode method_6_code 22 = .ok (.iconst 4, 1) := by decide +kernel
theorem d7_23 : decode method_6_code 23 = .ok (.if_icmp .ne 7, 3) := by decide +kernel
theorem d7_30 : decode method_6_code 30 = .ok (.iconst 0, 1) := by decide +kernel
theorem d7_31 : decode method_6_code 31 = .ok (.ireturn, 1) := by decide +kernel
theorem d7_32 : decode method_6_code 32 = .ok (.iload_n 0, 1) := by decide +kernel
theorem d7_33 : decode method_6_code 33 = .ok (.iconst 2, 1) := by decide +kernel
theorem d7_34 : decode method_6_code 34 = .ok (.if_icmp .eq 14, 3) := by decide +kernel
theorem d7_48 : decode method_6_code 48 = .ok (.iconst 1, 1) := by decide +kernel
theorem d7_49 : decode method_6_code 49 = .ok (.goto 4, 3) := by decide +kernel
theorem d7_37 : decode method_6_code 37 = .ok (.iload_n 0, 1) := by decide +kernel
theorem d7_38 : decode method_6_code 38 = .ok (.iconst 5, 1) := by decide +kernel
theorem d7_39 : decode method_6_code 39 = .ok (.if_icmp .eq 9, 3) := by decide +kernel
theorem d7_42 : decode method_6_code 42 = .ok (.iload_n 0, 1) := by decide +kernel
theorem d7_43 : decode method_6_code 43 = .ok (.bipush 6, 2) := by decide +kernel
theorem d7_45 : decode method_6_code 45 = .ok (.if_icmp .ne 7, 3) := by decide +kernel
theorem d7_52 : decode method_6_code 52 = .ok (.iconst 0, 1) := by decide +kernel
theorem d7_53 : decode method_6_code 53 = .ok (.ireturn, 1) := by decide +kernel
theorem pn_7 : plainName "com/example/queueloom/queueloom/engine/LongPairHeapSiftDownPinLaw" = true := by first | (simp [plainName, overriddenIn]; done) | decide +kernel
theorem d6_0 : decode method_7_code 0 = .ok (.iload 4, 2) := by decide +kernel
theorem d6_2 : decode method_7_code 2 = .ok (.iload 5, 2) := by decide +kernel
theorem d6_4 : decode method_7_code 4 = .ok (.if_icmp .ge 15, 3) := by decide +kernel
theorem d6_7 : decode method_7_code 7 = .ok (.iload 4, 2) := by decide +kernel
theorem d6_9 : decode method_7_code 9 = .ok (.iload 6, 2) := by decide +kernel
theorem pd_1 : parseMethodDescriptor "(II)Z" = some ⟨[.int, .int], some .boolean⟩ := by decide +kernel
theorem d6_11 : decode method_7_code 11 = .ok (.invokestatic 27, 3) := by decide +kernel
theorem d6_14 : decode method_7_code 14 = .ok (.ifCond .eq 5, 3) := by decide +kernel
theorem d6_19 : decode method_7_code 19 = .ok (.aload_n 0, 1) := by decide +kernel
theorem d6_20 : decode method_7_code 20 = .ok (.iload 4, 2) := by decide +kernel
theorem d6_22 : decode method_7_code 22 = .ok (.laload, 1) := by decide +kernel
theorem d6_23 : decode method_7_code 23 = .ok (.aload_n 2, 1) := by decide +kernel
theorem d6_24 : decode method_7_code 24 = .ok (.iload 4, 2) := by decide +kernel
theorem d6_26 : decode method_7_code 26 = .ok (.laload, 1) := by decide +kernel
theorem d6_27 : decode method_7_code 27 = .ok (.lcmp, 1) := by decide +kernel
theorem d6_28 : decode method_7_code 28 = .ok (.ifCond .ne 19, 3) := by decide +kernel
theorem d6_31 : decode method_7_code 31 = .ok (.aload_n 1, 1) := by decide +kernel
theorem d6_32 : decode method_7_code 32 = .ok (.iload 4, 2) := by decide +kernel
theorem d6_34 : decode method_7_code 34 = .ok (.laload, 1) := by decide +kernel
theorem d6_35 : decode method_7_code 35 = .ok (.aload_n 3, 1) := by decide +kernel
theorem d6_36 : decode method_7_code 36 = .ok (.iload 4, 2) := by decide +kernel
theorem d6_38 : decode method_7_code 38 = .ok (.laload, 1) := by decide +kernel
theorem d6_39 : decode method_7_code 39 = .ok (.lcmp, 1) := by decide +kernel
theorem d6_40 : decode method_7_code 40 = .ok (.ifCond .ne 7, 3) := by decide +kernel
theorem d6_43 : decode method_7_code 43 = .ok (.iconst 1, 1) := by decide +kernel
theorem d6_44 : decode method_7_code 44 = .ok (.goto 4, 3) := by decide +kernel
theorem d6_48 : decode method_7_code 48 = .ok (.ireturn, 1) := by decide +kernel
theorem d6_17 : decode method_7_code 17 = .ok (.iconst 1, 1) := by decide +kernel
theorem d6_18 : decode method_7_code 18 = .ok (.ireturn, 1) := by decide +kernel
theorem pn_6 : plainName "com/example/queueloom/queueloom/engine/LongPairHeapSiftDownPinLaw" = true := by first | (simp [plainName, overriddenIn]; done) | decide +kernel
theorem d8_0 : decode method_9_code 0 = .ok (.aload_n 0, 1) := by decide +kernel
theorem d8_1 : decode method_9_code 1 = .ok (.iconst 0, 1) := by decide +kernel
theorem d8_2 : decode method_9_code 2 = .ok (.laload, 1) := by decide +kernel
theorem d8_3 : decode method_9_code 3 = .ok (.aload_n 0, 1) := by decide +kernel
theorem d8_4 : decode method_9_code 4 = .ok (.iconst 1, 1) := by decide +kernel
theorem d8_5 : decode method_9_code 5 = .ok (.laload, 1) := by decide +kernel
theorem d8_6 : decode method_9_code 6 = .ok (.ladd, 1) := by decide +kernel
theorem d8_7 : decode method_9_code 7 = .ok (.aload_n 0, 1) := by decide +kernel
theorem d8_8 : decode method_9_code 8 = .ok (.iconst 2, 1) := by decide +kernel
theorem d8_9 : decode method_9_code 9 = .ok (.laload, 1) := by decide +kernel
theorem d8_10 : decode method_9_code 10 = .ok (.ladd, 1) := by decide +kernel
theorem d8_11 : decode method_9_code 11 = .ok (.aload_n 0, 1) := by decide +kernel
theorem d8_12 : decode method_9_code 12 = .ok (.iconst 3, 1) := by decide +kernel
theorem d8_13 : decode method_9_code 13 = .ok (.laload, 1) := by decide +kernel
theorem d8_14 : decode method_9_code 14 = .ok (.ladd, 1) := by decide +kernel
theorem d8_15 : decode method_9_code 15 = .ok (.aload_n 0, 1) := by decide +kernel
theorem d8_16 : decode method_9_code 16 = .ok (.iconst 4, 1) := by decide +kernel
theorem d8_17 : decode method_9_code 17 = .ok (.laload, 1) := by decide +kernel
theorem d8_18 : decode method_9_code 18 = .ok (.ladd, 1) := by decide +kernel
theorem d8_19 : decode method_9_code 19 = .ok (.aload_n 0, 1) := by decide +kernel
theorem d8_20 : decode method_9_code 20 = .ok (.iconst 5, 1) := by decide +kernel
theorem d8_21 : decode method_9_code 21 = .ok (.laload, 1) := by decide +kernel
theorem d8_22 : decode method_9_code 22 = .ok (.ladd, 1) := by decide +kernel
theorem d8_23 : decode method_9_code 23 = .ok (.aload_n 0, 1) := by decide +kernel
theorem d8_24 : decode method_9_code 24 = .ok (.bipush 6, 2) := by decide +kernel
theorem d8_26 : decode method_9_code 26 = .ok (.laload, 1) := by decide +kernel
theorem d8_27 : decode method_9_code 27 = .ok (.ladd, 1) := by decide +kernel
theorem d8_28 : decode method_9_code 28 = .ok (.lreturn, 1) := by decide +kernel
theorem pn_8 : plainName "com/example/queueloom/queueloom/engine/LongPairHeapSiftDownPinLaw" = true := by first | (simp [plainName, overriddenIn]; done) | decide +kernel
theorem d10_0 : decode method_8_code 0 = .ok (.lload_n 0, 1) := by decide +kernel
theorem d10_1 : decode method_8_code 1 = .ok (.ldc2_w 31, 3) := by decide +kernel
theorem d10_4 : decode method_8_code 4 = .ok (.lmul, 1) := by decide +kernel
theorem d10_5 : decode method_8_code 5 = .ok (.lload_n 2, 1) := by decide +kernel
theorem d10_6 : decode method_8_code 6 = .ok (.lxor, 1) := by decide +kernel
theorem d10_7 : decode method_8_code 7 = .ok (.ldc2_w 33, 3) := by decide +kernel
theorem d10_10 : decode method_8_code 10 = .ok (.lmul, 1) := by decide +kernel
theorem d10_11 : decode method_8_code 11 = .ok (.lload_n 0, 1) := by decide +kernel
theorem d10_12 : decode method_8_code 12 = .ok (.lload_n 2, 1) := by decide +kernel
theorem d10_13 : decode method_8_code 13 = .ok (.lmul, 1) := by decide +kernel
theorem d10_14 : decode method_8_code 14 = .ok (.ladd, 1) := by decide +kernel
theorem d10_15 : decode method_8_code 15 = .ok (.lreturn, 1) := by decide +kernel
theorem pn_10 : plainName "com/example/queueloom/queueloom/engine/LongPairHeapSiftDownPinLaw" = true := by first | (simp [plainName, overriddenIn]; done) | decide +kernel
theorem d9_0 : decode method_10_code 0 = .ok (.aload_n 0, 1) := by decide +kernel
theorem d9_1 : decode method_10_code 1 = .ok (.iconst 0, 1) := by decide +kernel
theorem d9_2 : decode method_10_code 2 = .ok (.laload, 1) := by decide +kernel
theorem d9_3 : decode method_10_code 3 = .ok (.aload_n 1, 1) := by decide +kernel
theorem d9_4 : decode method_10_code 4 = .ok (.iconst 0, 1) := by decide +kernel
theorem d9_5 : decode method_10_code 5 = .ok (.laload, 1) := by decide +kernel
theorem pd_2 : parseMethodDescriptor "(JJ)J" = some ⟨[.long, .long], some .long⟩ := by decide +kernel
theorem d9_6 : decode method_10_code 6 = .ok (.invokestatic 35, 3) := by decide +kernel
theorem d9_9 : decode method_10_code 9 = .ok (.aload_n 0, 1) := by decide +kernel
theorem d9_10 : decode method_10_code 10 = .ok (.iconst 1, 1) := by decide +kernel
theorem d9_11 : decode method_10_code 11 = .ok (.laload, 1) := by decide +kernel
theorem d9_12 : decode method_10_code 12 = .ok (.aload_n 1, 1) := by decide +kernel
theorem d9_13 : decode method_10_code 13 = .ok (.iconst 1, 1) := by decide +kernel
theorem d9_14 : decode method_10_code 14 = .ok (.laload, 1) := by decide +kernel
theorem d9_15 : decode method_10_code 15 = .ok (.invokestatic 35, 3) := by decide +kernel
theorem d9_18 : decode method_10_code 18 = .ok (.ladd, 1) := by decide +kernel
theorem d9_19 : decode method_10_code 19 = .ok (.aload_n 0, 1) := by decide +kernel
theorem d9_20 : decode method_10_code 20 = .ok (.iconst 2, 1) := by decide +kernel
theorem d9_21 : decode method_10_code 21 = .ok (.laload, 1) := by decide +kernel
theorem d9_22 : decode method_10_code 22 = .ok (.aload_n 1, 1) := by decide +kernel
theorem d9_23 : decode method_10_code 23 = .ok (.iconst 2, 1) := by decide +kernel
theorem d9_24 : decode method_10_code 24 = .ok (.laload, 1) := by decide +kernel
theorem d9_25 : decode method_10_code 25 = .ok (.invokestatic 35, 3) := by decide +kernel
theorem d9_28 : decode method_10_code 28 = .ok (.ladd, 1) := by decide +kernel
theorem d9_29 : decode method_10_code 29 = .ok (.aload_n 0, 1) := by decide +kernel
theorem d9_30 : decode method_10_code 30 = .ok (.iconst 3, 1) := by decide +kernel
theorem d9_31 : decode method_10_code 31 = .ok (.laload, 1) := by decide +kernel
theorem d9_32 : decode method_10_code 32 = .ok (.aload_n 1, 1) := by decide +kernel
theorem d9_33 : decode method_10_code 33 = .ok (.iconst 3, 1) := by decide +kernel
theorem d9_34 : decode method_10_code 34 = .ok (.laload, 1) := by decide +kernel
theorem d9_35 : decode method_10_code 35 = .ok (.invokestatic 35, 3) := by decide +kernel
theorem d9_38 : decode method_10_code 38 = .ok (.ladd, 1) := by decide +kernel
theorem d9_39 : decode method_10_code 39 = .ok (.aload_n 0, 1) := by decide +kernel
theorem d9_40 : decode method_10_code 40 = .ok (.iconst 4, 1) := by decide +kernel
theorem d9_41 : decode method_10_code 41 = .ok (.laload, 1) := by decide +kernel
theorem d9_42 : decode method_10_code 42 = .ok (.aload_n 1, 1) := by decide +kernel
theorem d9_43 : decode method_10_code 43 = .ok (.iconst 4, 1) := by decide +kernel
theorem d9_44 : decode method_10_code 44 = .ok (.laload, 1) := by decide +kernel
theorem d9_45 : decode method_10_code 45 = .ok (.invokestatic 35, 3) := by decide +kernel
theorem d9_48 : decode method_10_code 48 = .ok (.ladd, 1) := by decide +kernel
theorem d9_49 : decode method_10_code 49 = .ok (.aload_n 0, 1) := by decide +kernel
theorem d9_50 : decode method_10_code 50 = .ok (.iconst 5, 1) := by decide +kernel
theorem d9_51 : decode method_10_code 51 = .ok (.laload, 1) := by decide +kernel
theorem d9_52 : decode method_10_code 52 = .ok (.aload_n 1, 1) := by decide +kernel
theorem d9_53 : decode method_10_code 53 = .ok (.iconst 5, 1) := by decide +kernel
theorem d9_54 : decode method_10_code 54 = .ok (.laload, 1) := by decide +kernel
theorem d9_55 : decode method_10_code 55 = .ok (.invokestatic 35, 3) := by decide +kernel
theorem d9_58 : decode method_10_code 58 = .ok (.ladd, 1) := by decide +kernel
theorem d9_59 : decode method_10_code 59 = .ok (.aload_n 0, 1) := by decide +kernel
theorem d9_60 : decode method_10_code 60 = .ok (.bipush 6, 2) := by decide +kernel
theorem d9_62 : decode method_10_code 62 = .ok (.laload, 1) := by decide +kernel
theorem d9_63 : decode method_10_code 63 = .ok (.aload_n 1, 1) := by decide +kernel
theorem d9_64 : decode method_10_code 64 = .ok (.bipush 6, 2) := by decide +kernel
theorem d9_66 : decode method_10_code 66 = .ok (.laload, 1) := by decide +kernel
theorem d9_67 : decode method_10_code 67 = .ok (.invokestatic 35, 3) := by decide +kernel
theorem d9_70 : decode method_10_code 70 = .ok (.ladd, 1) := by decide +kernel
theorem d9_71 : decode method_10_code 71 = .ok (.lreturn, 1) := by decide +kernel
theorem pn_9 : plainName "com/example/queueloom/queueloom/engine/LongPairHeapSiftDownPinLaw" = true := by first | (simp [plainName, overriddenIn]; done) | decide +kernel
theorem pd_3 : parseMethodDescriptor "(I)J" = some ⟨[.int], some .long⟩ := by decide +kernel
theorem pd_4 : parseMethodDescriptor "([J[JII)V" = some ⟨[(.array .long), (.array .long), .int, .int], none⟩ := by decide +kernel
theorem pd_5 : parseMethodDescriptor "([J[JIIII)Z" = some ⟨[(.array .long), (.array .long), .int, .int, .int, .int], some .boolean⟩ := by decide +kernel
theorem pd_6 : parseMethodDescriptor "([J[J[J[JIII)Z" = some ⟨[(.array .long), (.array .long), (.array .long), (.array .long), .int, .int, .int], some .boolean⟩ := by decide +kernel
theorem pd_7 : parseMethodDescriptor "([J)J" = some ⟨[(.array .long)], some .long⟩ := by decide +kernel
theorem pd_8 : parseMethodDescriptor "([J[J)J" = some ⟨[(.array .long), (.array .long)], some .long⟩ := by decide +kernel
theorem pn_0 : plainName "com/example/queueloom/queueloom/engine/LongPairHeapSiftDownPinLaw" = true := by first | (simp [plainName, overriddenIn]; done) | decide +kernel
theorem own_off (u : Int32) : ∃ k : Nat, ((u &&& (2147483647 : Int32)) % (5 : Int32)).toInt = (k : Int) ∧ k < 5 := by
  have h1 := c_mask u 2147483647 31 (by decide) (by decide)
  have h2 := (c_irem (u &&& 2147483647) 5 5 rfl).1
  have h3 : 0 ≤ (u &&& 2147483647).toInt := by rw [h1]; omega
  have h4 := h2 h3
  exact ⟨((u &&& 2147483647) % 5).toInt.toNat, by omega, by omega⟩
theorem own_ofN {u : Int32} {k : Nat} (h : u.toInt = (k : Int)) (hk : k < 2147483648) : u = Int32.ofNat k := by
  have h1 := (back32 (own_nn h)).1
  rw [own_cl h] at h1
  exact h1.symm
theorem own_inc {u : Int32} {k : Nat} (h : u.toInt = (k : Int)) (hk : k < 2000000000) : (u + (1 : Int32)).toInt = ((k + 1 : Nat) : Int) := by
  have h1 := c_iadd u 1
  have h2 := rng32 (u + 1)
  have h3 : (1 : Int32).toInt = 1 := rfl
  omega
theorem own_ltN {u v : Int32} {i j : Nat} (hu : u.toInt = (i : Int)) (hv : v.toInt = (j : Int)) : u < v ↔ i < j := by
  rw [Int32.lt_iff_toInt_lt]; omega
theorem own_lt0 {u : Int32} : u < 0 ↔ u.toInt < 0 := by
  rw [Int32.lt_iff_toInt_lt]; have : (0 : Int32).toInt = 0 := rfl
  rw [this]
theorem own_lt5 {n : Nat} (h : n < 5) : n = 0 ∨ n = 1 ∨ n = 2 ∨ n = 3 ∨ n = 4 := by omega
theorem own_lt4 {n : Nat} (h : n < 4) : n = 0 ∨ n = 1 ∨ n = 2 ∨ n = 3 := by omega
def own_g (x0 x1 x2 x3 : Int32) (j : Nat) : Int32 := if j = 0 then x0 else if j = 1 then x1 else if j = 2 then x2 else x3
def own_upL (g : Nat → Int64) (k : Nat) (v : Int64) : Nat → Int64 := fun j => if j = k then v else g j
theorem own_upLe (g : Nat → Int64) (k : Nat) (v : Int64) (j : Nat) : own_upd (fun j => .long (g j)) k (.long v) j = .long (own_upL g k v j) := by
  unfold own_upd own_upL
  split <;> rfl
def own_Two (a b : Slot) : Prop := (a = .unset ∧ b = .unset) ∨ ∃ z, a = .val (.long z) ∧ b = .second
def own_sift : Nat → (Nat → Int64) → (Nat → Int64) → Nat → Nat → Int64 → Int64 → (Nat → Int64) × (Nat → Int64)
  | 0, K, V, _, i, key, val => (own_upL K i key, own_upL V i val)
  | f + 1, K, V, n, i, key, val =>
    if 2 * i + 1 < n then
      if 2 * i + 1 + 1 < n ∧ (K (2 * i + 1 + 1) < K (2 * i + 1) ∨ (K (2 * i + 1 + 1) = K (2 * i + 1) ∧ V (2 * i + 1 + 1) < V (2 * i + 1))) then
        if key < K (2 * i + 1 + 1) ∨ (K (2 * i + 1 + 1) = key ∧ ¬ V (2 * i + 1 + 1) < val) then (own_upL K i key, own_upL V i val)
        else own_sift f (own_upL K i (K (2 * i + 1 + 1))) (own_upL V i (V (2 * i + 1 + 1))) n (2 * i + 1 + 1) key val
      else
        if key < K (2 * i + 1) ∨ (K (2 * i + 1) = key ∧ ¬ V (2 * i + 1) < val) then (own_upL K i key, own_upL V i val)
        else own_sift f (own_upL K i (K (2 * i + 1))) (own_upL V i (V (2 * i + 1))) n (2 * i + 1) key val
    else (own_upL K i key, own_upL V i val)
theorem own_ch {u : Int32} {k : Nat} (h : u.toInt = (k : Int)) (hk : k < 1000) : (((2 : Int32) * u) + (1 : Int32)).toInt = ((2 * k + 1 : Nat) : Int) := by
  have h1 := c_imul 2 u
  have h2 := rng32 ((2 : Int32) * u)
  have h3 := c_iadd ((2 : Int32) * u) 1
  have h4 := rng32 ((2 : Int32) * u + 1)
  have h5 : (2 : Int32).toInt = 2 := rfl
  have h6 : (1 : Int32).toInt = 1 := rfl
  rw [h5, h] at h1
  omega
def own_key (p : Int32) : Int64 := if p = (0 : Int32) then (-9223372036854775808 : Int64) else if p = (1 : Int32) then (-9223372036854775807 : Int64) else if p = (2 : Int32) then (-1 : Int64) else if p = (3 : Int32) then (0 : Int64) else if p = (4 : Int32) then (1 : Int64) else if p = (5 : Int32) then (2 : Int64) else if p = (6 : Int32) then (9223372036854775806 : Int64) else (9223372036854775807 : Int64)
def own_val (p : Int32) : Int64 := if p = (0 : Int32) then (-9223372036854775808 : Int64) else if p = (1 : Int32) then (-1 : Int64) else if p = (2 : Int32) then (0 : Int64) else (9223372036854775807 : Int64)
def own_leP (k1 v1 k2 v2 : Int64) : Prop := k1 < k2 ∨ (k1 = k2 ∧ ¬ v2 < v1)
def own_mix (k v : Int64) : Int64 := ((k * (-7046029254386353131 : Int64)) ^^^ v) * (-4658895280553007687 : Int64) + k * v
def own_sK (K : Nat → Int64) : Int64 := ((((((K 0 + K 1) + K 2) + K 3) + K 4) + K 5) + K 6)
def own_sM (K V : Nat → Int64) : Int64 := ((((((own_mix (K 0) (V 0) + own_mix (K 1) (V 1)) + own_mix (K 2) (V 2)) + own_mix (K 3) (V 3)) + own_mix (K 4) (V 4)) + own_mix (K 5) (V 5)) + own_mix (K 6) (V 6))
def own_inS (i hole : Int32) : Int32 := if hole = (0 : Int32) then (1 : Int32) else if hole = (1 : Int32) then (if i = (1 : Int32) then (1 : Int32) else if i = (3 : Int32) then (1 : Int32) else if i = (4 : Int32) then (1 : Int32) else (0 : Int32)) else (if i = (2 : Int32) then (1 : Int32) else if i = (5 : Int32) then (1 : Int32) else if i = (6 : Int32) then (1 : Int32) else (0 : Int32))
theorem own_inSz (i hole : Int32) : own_inS i hole &&& 1 = own_inS i hole := by
  unfold own_inS
  repeat' split
  all_goals rfl
theorem ef_m1 (m : MethodId) (x0 : Int32) : entryFrame m #[(.int x0)] 1 = mkF m 0 #[.val (.int x0)] [] := by first | (simp [entryFrame, mkF, argsToLocals, Value.category]; done) | rfl
set_option maxRecDepth 65536 in
set_option maxHeartbeats 40000000 in
theorem own_m1 (l : Launch) (Z : State) (a0 : Array Value) (hw : ∀ d ∈ tables_1, d.before a0 Z = true) (wo : List Jvm.Cond) (h0 : Heap) (p1 : Int32) :
    own_M l Z wo (⟨"com/example/queueloom/queueloom/engine/LongPairHeapSiftDownPinLaw", "keyOf", "(I)J"⟩ : MethodName) method_2_code 1 (some .long) ({ frames := 0, cells := 0, slots := 0, locals := 0 } : Room) [] #[(.int p1)] h0 (fun v h => v = some (.long (own_key p1))) := by
  refine own_body (plainFor_of_name pn_1) (fun m => ef_m1 m p1) ?_
  intro p e s m below meth c C hC T0 W0
  refine own_iloadN W0 1 d1_0 rfl rfl ?_
  by_cases c1 : p1 = (0 : Int32)
  · refine own_ifN W0 4 d1_1 ((if0 _ _).trans (teq c1).2) rfl ?_
    refine own_ldc2Long W0 7 d1_4 (wd11 hw) rfl ?_
    refine own_retJ (Q := fun v h => v = some (.long (own_key p1))) W0 hC (by decide) (by decide) d1_7 ?_
    exact by rw [own_key, if_pos c1]
  · refine own_ifY W0 8 d1_1 ((if0 _ _).trans (feq c1).2) (by decide) (by decide) ?_
    refine own_iloadN W0 9 d1_8 rfl rfl ?_
    refine own_iconst W0 (1 : Int32) 10 d1_9 rfl rfl ?_
    by_cases c2 : p1 = (1 : Int32)
    · refine own_icmpN W0 13 d1_10 ((teq c2).2) rfl ?_
      refine own_ldc2Long W0 16 d1_13 (wd40 hw) rfl ?_
      refine own_retJ (Q := fun v h => v = some (.long (own_key p1))) W0 hC (by decide) (by decide) d1_16 ?_
      exact by rw [own_key, if_neg c1, if_pos c2]
    · refine own_icmpY W0 17 d1_10 ((feq c2).2) (by decide) (by decide) ?_
      refine own_iloadN W0 18 d1_17 rfl rfl ?_
      refine own_iconst W0 (2 : Int32) 19 d1_18 rfl rfl ?_
      by_cases c3 : p1 = (2 : Int32)
      · refine own_icmpN W0 22 d1_19 ((teq c3).2) rfl ?_
        refine own_ldc2Long W0 25 d1_22 (wd7 hw) rfl ?_
        refine own_retJ (Q := fun v h => v = some (.long (own_key p1))) W0 hC (by decide) (by decide) d1_25 ?_
        exact by rw [own_key, if_neg c1, if_neg c2, if_pos c3]
      · refine own_icmpY W0 26 d1_19 ((feq c3).2) (by decide) (by decide) ?_
        refine own_iloadN W0 27 d1_26 rfl rfl ?_
        refine own_iconst W0 (3 : Int32) 28 d1_27 rfl rfl ?_
        by_cases c4 : p1 = (3 : Int32)
        · refine own_icmpN W0 31 d1_28 ((teq c4).2) rfl ?_
          refine own_lconst W0 (0 : Int64) 32 d1_31 rfl rfl ?_
          refine own_retJ (Q := fun v h => v = some (.long (own_key p1))) W0 hC (by decide) (by decide) d1_32 ?_
          exact by rw [own_key, if_neg c1, if_neg c2, if_neg c3, if_pos c4]
        · refine own_icmpY W0 33 d1_28 ((feq c4).2) (by decide) (by decide) ?_
          refine own_iloadN W0 34 d1_33 rfl rfl ?_
          refine own_iconst W0 (4 : Int32) 35 d1_34 rfl rfl ?_
          by_cases c5 : p1 = (4 : Int32)
          · refine own_icmpN W0 38 d1_35 ((teq c5).2) rfl ?_
            refine own_lconst W0 (1 : Int64) 39 d1_38 rfl rfl ?_
            refine own_retJ (Q := fun v h => v = some (.long (own_key p1))) W0 hC (by decide) (by decide) d1_39 ?_
            exact by rw [own_key, if_neg c1, if_neg c2, if_neg c3, if_neg c4, if_pos c5]
          · refine own_icmpY W0 40 d1_35 ((feq c5).2) (by decide) (by decide) ?_
            refine own_iloadN W0 41 d1_40 rfl rfl ?_
            refine own_iconst W0 (5 : Int32) 42 d1_41 rfl rfl ?_
            by_cases c6 : p1 = (5 : Int32)
            · refine own_icmpN W0 45 d1_42 ((teq c6).2) rfl ?_
              refine own_ldc2Long W0 48 d1_45 (wd41 hw) rfl ?_
              refine own_retJ (Q := fun v h => v = some (.long (own_key p1))) W0 hC (by decide) (by decide) d1_48 ?_
              exact by rw [own_key, if_neg c1, if_neg c2, if_neg c3, if_neg c4, if_neg c5, if_pos c6]
            · refine own_icmpY W0 49 d1_42 ((feq c6).2) (by decide) (by decide) ?_
              refine own_iloadN W0 50 d1_49 rfl rfl ?_
              refine own_bipush W0 (6 : Int32) 52 d1_50 rfl rfl ?_
              by_cases c7 : p1 = (6 : Int32)
              · refine own_icmpN W0 55 d1_52 ((teq c7).2) rfl ?_
                refine own_ldc2Long W0 58 d1_55 (wd43 hw) rfl ?_
                refine own_retJ (Q := fun v h => v = some (.long (own_key p1))) W0 hC (by decide) (by decide) d1_58 ?_
                exact by rw [own_key, if_neg c1, if_neg c2, if_neg c3, if_neg c4, if_neg c5, if_neg c6, if_pos c7]
              · refine own_icmpY W0 59 d1_52 ((feq c7).2) (by decide) (by decide) ?_
                refine own_ldc2Long W0 62 d1_59 (wd12 hw) rfl ?_
                refine own_retJ (Q := fun v h => v = some (.long (own_key p1))) W0 hC (by decide) (by decide) d1_62 ?_
                exact by rw [own_key, if_neg c1, if_neg c2, if_neg c3, if_neg c4, if_neg c5, if_neg c6, if_neg c7]
theorem ef_m2 (m : MethodId) (x0 : Int32) : entryFrame m #[(.int x0)] 1 = mkF m 0 #[.val (.int x0)] [] := by first | (simp [entryFrame, mkF, argsToLocals, Value.category]; done) | rfl
set_option maxRecDepth 65536 in
set_option maxHeartbeats 40000000 in
theorem own_m2 (l : Launch) (Z : State) (a0 : Array Value) (hw : ∀ d ∈ tables_1, d.before a0 Z = true) (wo : List Jvm.Cond) (h0 : Heap) (p1 : Int32) :
    own_M l Z wo (⟨"com/example/queueloom/queueloom/engine/LongPairHeapSiftDownPinLaw", "valOf", "(I)J"⟩ : MethodName) method_3_code 1 (some .long) ({ frames := 0, cells := 0, slots := 0, locals := 0 } : Room) [] #[(.int p1)] h0 (fun v h => v = some (.long (own_val p1))) := by
  refine own_body (plainFor_of_name pn_2) (fun m => ef_m2 m p1) ?_
  intro p e s m below meth c C hC T0 W0
  refine own_iloadN W0 1 d2_0 rfl rfl ?_
  by_cases c1 : p1 = (0 : Int32)
  · refine own_ifN W0 4 d2_1 ((if0 _ _).trans (teq c1).2) rfl ?_
    refine own_ldc2Long W0 7 d2_4 (wd11 hw) rfl ?_
    refine own_retJ (Q := fun v h => v = some (.long (own_val p1))) W0 hC (by decide) (by decide) d2_7 ?_
    exact by rw [own_val, if_pos c1]
  · refine own_ifY W0 8 d2_1 ((if0 _ _).trans (feq c1).2) (by decide) (by decide) ?_
    refine own_iloadN W0 9 d2_8 rfl rfl ?_
    refine own_iconst W0 (1 : Int32) 10 d2_9 rfl rfl ?_
    by_cases c2 : p1 = (1 : Int32)
    · refine own_icmpN W0 13 d2_10 ((teq c2).2) rfl ?_
      refine own_ldc2Long W0 16 d2_13 (wd7 hw) rfl ?_
      refine own_retJ (Q := fun v h => v = some (.long (own_val p1))) W0 hC (by decide) (by decide) d2_16 ?_
      exact by rw [own_val, if_neg c1, if_pos c2]
    · refine own_icmpY W0 17 d2_10 ((feq c2).2) (by decide) (by decide) ?_
      refine own_iloadN W0 18 d2_17 rfl rfl ?_
      refine own_iconst W0 (2 : Int32) 19 d2_18 rfl rfl ?_
      by_cases c3 : p1 = (2 : Int32)
      · refine own_icmpN W0 22 d2_19 ((teq c3).2) rfl ?_
        refine own_lconst W0 (0 : Int64) 23 d2_22 rfl rfl ?_
        refine own_retJ (Q := fun v h => v = some (.long (own_val p1))) W0 hC (by decide) (by decide) d2_23 ?_
        exact by rw [own_val, if_neg c1, if_neg c2, if_pos c3]
      · refine own_icmpY W0 24 d2_19 ((feq c3).2) (by decide) (by decide) ?_
        refine own_ldc2Long W0 27 d2_24 (wd12 hw) rfl ?_
        refine own_retJ (Q := fun v h => v = some (.long (own_val p1))) W0 hC (by decide) (by decide) d2_27 ?_
        exact by rw [own_val, if_neg c1, if_neg c2, if_neg c3]
theorem ef_m3 (m : MethodId) (x0 : Addr) (x1 : Addr) (x2 : Int32) (x3 : Int32) : entryFrame m #[(.ref x0), (.ref x1), (.int x2), (.int x3)] 14 = mkF m 0 #[.val (.ref x0), .val (.ref x1), .val (.int x2), .val (.int x3), .unset, .unset, .unset, .unset, .unset, .unset, .unset, .unset, .unset, .unset] [] := by first | (simp [entryFrame, mkF, argsToLocals, Value.category]; done) | rfl
set_option maxRecDepth 65536 in
set_option maxHeartbeats 40000000 in
theorem own_m3 (l : Launch) (Z : State) (a0 : Array Value) (hw : ∀ d ∈ tables_1, d.before a0 Z = true) (wo : List Jvm.Cond) (h0 : Heap) (a1 : Addr) (a2 : Addr) (p3 : Int32) (p4 : Int32) (N : Nat) (K : Nat → Int64) (Vv : Nat → Int64) (n : Nat) (hole : Nat) (fuel0 : Nat) (V_a1 : own_A Z h0 a1 .long N (fun j => .long (K j))) (V_a2 : own_A Z h0 a2 .long N (fun j => .long (Vv j))) (hne : a1 ≠ a2) (hn : p3.toInt = (n : Int)) (hh : p4.toInt = (hole : Int)) (hhN : hole < N) (hnN : n ≤ N) (hN : N < 100) (hfu : n ≤ hole + 1 + fuel0) :
    own_M l Z wo (⟨"com/example/queueloom/queueloom/engine/LongPairHeap", "siftDown", "([J[JII)V"⟩ : MethodName) prog_60_method_9_code 14 none ({ frames := 0, cells := 0, slots := 0, locals := 0 } : Room) [a1, a2] #[(.ref a1), (.ref a2), (.int p3), (.int p4)] h0 (fun v h => v = none ∧ (own_A Z h a1 .long N (fun j => .long ((own_sift fuel0 K Vv n hole (K hole) (Vv hole)).1 j)) ∧ own_A Z h a2 .long N (fun j => .long ((own_sift fuel0 K Vv n hole (K hole) (Vv hole)).2 j)))) := by
  refine own_body (plainFor_of_name pn_3) (fun m => ef_m3 m a1 a2 p3 p4) ?_
  intro p e s m below meth c C hC T0 W0
  refine own_aloadN W0 1 d3_0 rfl rfl rfl ?_
  refine own_iloadN W0 2 d3_1 rfl rfl ?_
  refine own_laload W0 hole (K hole) 3 d3_2 V_a1 hh hhN rfl rfl ?_
  refine own_lstore W0 5 #[.val (.ref a1), .val (.ref a2), .val (.int p3), .val (.int p4), .val (.long (K hole)), .second, .unset, .unset, .unset, .unset, .unset, .unset, .unset, .unset] d3_3 rfl rfl ?_
  refine own_aloadN W0 6 d3_5 rfl rfl rfl ?_
  refine own_iloadN W0 7 d3_6 rfl rfl ?_
  refine own_laload W0 hole (Vv hole) 8 d3_7 V_a2 hh hhN rfl rfl ?_
  refine own_lstore W0 10 #[.val (.ref a1), .val (.ref a2), .val (.int p3), .val (.int p4), .val (.long (K hole)), .second, .val (.long (Vv hole)), .second, .unset, .unset, .unset, .unset, .unset, .unset] d3_8 rfl rfl ?_
  refine own_iloadN W0 11 d3_10 rfl rfl ?_
  refine own_istore W0 13 #[.val (.ref a1), .val (.ref a2), .val (.int p3), .val (.int p4), .val (.long (K hole)), .second, .val (.long (Vv hole)), .second, .val (.int p4), .unset, .unset, .unset, .unset, .unset] d3_11 rfl rfl ?_
  refine own_iconst W0 (2 : Int32) 14 d3_13 rfl rfl ?_
  refine own_iload W0 16 d3_14 rfl rfl ?_
  refine own_imul W0 17 d3_16 rfl ?_
  refine own_iconst W0 (1 : Int32) 18 d3_17 rfl rfl ?_
  refine own_iadd W0 19 d3_18 rfl ?_
  refine own_istore W0 21 #[.val (.ref a1), .val (.ref a2), .val (.int p3), .val (.int p4), .val (.long (K hole)), .second, .val (.long (Vv hole)), .second, .val (.int p4), .val (.int (((2 : Int32) * p4) + (1 : Int32))), .unset, .unset, .unset, .unset] d3_19 rfl rfl ?_
  have out : ∀ (i : Nat) (K1 V1 : Nat → Int64) (u8 u9 : Int32) (T : State) (h : Heap) (s10 s11 s12 s13 : Slot), own_W p l e ({ frames := 0, cells := 0, slots := 0, locals := 0 } : Room) s m #[(.ref a1), (.ref a2), (.int p3), (.int p4)] below meth c Z (⟨"com/example/queueloom/queueloom/engine/LongPairHeap", "siftDown", "([J[JII)V"⟩ : MethodName) none prog_60_method_9_code 14 [a1, a2] T h (0) (0) → own_A Z h a1 .long N (fun j => .long (K1 j)) → own_A Z h a2 .long N (fun j => .long (V1 j)) → u8.toInt = (i : Int) → i < N → own_sift fuel0 K Vv n hole (K hole) (Vv hole) = (own_upL K1 i (K hole), own_upL V1 i (Vv hole)) → own_Go p e below C T (mkF m 144 #[.val (.ref a1), .val (.ref a2), .val (.int p3), .val (.int p4), .val (.long (K hole)), .second, .val (.long (Vv hole)), .second, .val (.int u8), .val (.int u9), s10, s11, s12, s13] []) := by
    intro i K1 V1 u8 u9 T h s10 s11 s12 s13 W V_a1 V_a2 hi hiN hres
    refine own_aloadN W 145 d3_144 rfl rfl rfl ?_
    refine own_iload W 147 d3_145 rfl rfl ?_
    refine own_lload W 149 d3_147 rfl rfl ?_
    refine own_lastore W i 150 d3_149 V_a1 (Or.inl (List.mem_of_getElem? (i := 0) rfl)) hi hiN rfl ?_
    intro T1 h1 W1 Wr1 V_a1
    have V_a2 := V_a2.other Wr1 (Ne.symm hne)
    show own_Go p e below C T1 (mkF m 150 #[.val (.ref a1), .val (.ref a2), .val (.int p3), .val (.int p4), .val (.long (K hole)), .second, .val (.long (Vv hole)), .second, .val (.int u8), .val (.int u9), s10, s11, s12, s13] [])
    refine own_aloadN W1 151 d3_150 rfl rfl rfl ?_
    refine own_iload W1 153 d3_151 rfl rfl ?_
    refine own_lload W1 155 d3_153 rfl rfl ?_
    refine own_lastore W1 i 156 d3_155 V_a2 (Or.inl (List.mem_of_getElem? (i := 1) rfl)) hi hiN rfl ?_
    intro T2 h2 W2 Wr2 V_a2
    have V_a1 := V_a1.other Wr2 hne
    show own_Go p e below C T2 (mkF m 156 #[.val (.ref a1), .val (.ref a2), .val (.int p3), .val (.int p4), .val (.long (K hole)), .second, .val (.long (Vv hole)), .second, .val (.int u8), .val (.int u9), s10, s11, s12, s13] [])
    refine own_retV (Q := fun v h => v = none ∧ (own_A Z h a1 .long N (fun j => .long ((own_sift fuel0 K Vv n hole (K hole) (Vv hole)).1 j)) ∧ own_A Z h a2 .long N (fun j => .long ((own_sift fuel0 K Vv n hole (K hole) (Vv hole)).2 j)))) W2 hC (by decide) (by decide) d3_156 ?_
    exact ⟨rfl, by rw [hres]; exact ⟨V_a1.congr (fun j _ => own_upLe _ _ _ j), V_a2.congr (fun j _ => own_upLe _ _ _ j)⟩⟩
  have loop : ∀ (f : Nat) (i : Nat) (K1 V1 : Nat → Int64) (u8 u9 : Int32) (T : State) (h : Heap) (s10 s11 s12 s13 : Slot), own_W p l e ({ frames := 0, cells := 0, slots := 0, locals := 0 } : Room) s m #[(.ref a1), (.ref a2), (.int p3), (.int p4)] below meth c Z (⟨"com/example/queueloom/queueloom/engine/LongPairHeap", "siftDown", "([J[JII)V"⟩ : MethodName) none prog_60_method_9_code 14 [a1, a2] T h (0) (0) → own_A Z h a1 .long N (fun j => .long (K1 j)) → own_A Z h a2 .long N (fun j => .long (V1 j)) → u8.toInt = (i : Int) → i < N → u9.toInt = ((2 * i + 1 : Nat) : Int) → n ≤ i + 1 + f → own_sift fuel0 K Vv n hole (K hole) (Vv hole) = own_sift f K1 V1 n i (K hole) (Vv hole) → own_Two s10 s11 → own_Two s12 s13 → own_Go p e below C T (mkF m 21 #[.val (.ref a1), .val (.ref a2), .val (.int p3), .val (.int p4), .val (.long (K hole)), .second, .val (.long (Vv hole)), .second, .val (.int u8), .val (.int u9), s10, s11, s12, s13] []) := by
    intro f
    induction f with
    | zero =>
      intro i K1 V1 u8 u9 T h s10 s11 s12 s13 W V_a1 V_a2 hi hiN hu hf hres t1 t2
      have hlt : ¬ (u9 < p3) := by rw [own_ltN hu hn]; omega
      refine own_iload W 23 d3_21 rfl rfl ?_
      refine own_iloadN W 24 d3_23 rfl rfl ?_
      refine own_icmpY W 144 d3_24 ((flt (hlt : ¬ (u9 < p3))).2.1) (by decide) (by decide) ?_
      exact out i K1 V1 u8 u9 T h s10 s11 s12 s13 W V_a1 V_a2 hi hiN (by rw [hres]; rfl)
    | succ f ih =>
      intro i K1 V1 u8 u9 T h s10 s11 s12 s13 W V_a1 V_a2 hi hiN hu hf hres t1 t2
      refine own_iload W 23 d3_21 rfl rfl ?_
      refine own_iloadN W 24 d3_23 rfl rfl ?_
      by_cases c3 : u9 < p3
      · refine own_icmpN W 27 d3_24 ((tlt c3).2.1) rfl ?_
        have hc1 : 2 * i + 1 < n := by have h8 := c3; rw [own_ltN hu hn] at h8; exact h8
        rw [own_sift, if_pos hc1] at hres
        have J86 : ∀ (j : Nat) (v9 : Int32) (t12 t13 : Slot), v9.toInt = (j : Int) → i < j → j < n → own_Two t12 t13 → own_sift fuel0 K Vv n hole (K hole) (Vv hole) = (if K hole < K1 j ∨ (K1 j = K hole ∧ ¬ V1 j < Vv hole) then (own_upL K1 i (K hole), own_upL V1 i (Vv hole)) else own_sift f (own_upL K1 i (K1 j)) (own_upL V1 i (V1 j)) n j (K hole) (Vv hole)) → own_Go p e below C T (mkF m 86 #[.val (.ref a1), .val (.ref a2), .val (.int p3), .val (.int p4), .val (.long (K hole)), .second, .val (.long (Vv hole)), .second, .val (.int u8), .val (.int v9), .val (.long (K1 j)), .second, t12, t13] []) := by
          intro j v9 t12 t13 hv9 hij hjn tt hr2
          have mv : ¬ (K hole < K1 j ∨ (K1 j = K hole ∧ ¬ V1 j < Vv hole)) → own_Go p e below C T (mkF m 115 #[.val (.ref a1), .val (.ref a2), .val (.int p3), .val (.int p4), .val (.long (K hole)), .second, .val (.long (Vv hole)), .second, .val (.int u8), .val (.int v9), .val (.long (K1 j)), .second, t12, t13] []) := by
            intro hns
            rw [if_neg hns] at hr2
            refine own_aloadN W 116 d3_115 rfl rfl rfl ?_
            refine own_iload W 118 d3_116 rfl rfl ?_
            refine own_lload W 120 d3_118 rfl rfl ?_
            refine own_lastore W i 121 d3_120 V_a1 (Or.inl (List.mem_of_getElem? (i := 0) rfl)) hi hiN rfl ?_
            intro T4 h4 W4 Wr4 V_a1
            have V_a2 := V_a2.other Wr4 (Ne.symm hne)
            show own_Go p e below C T4 (mkF m 121 #[.val (.ref a1), .val (.ref a2), .val (.int p3), .val (.int p4), .val (.long (K hole)), .second, .val (.long (Vv hole)), .second, .val (.int u8), .val (.int v9), .val (.long (K1 j)), .second, t12, t13] [])
            refine own_aloadN W4 122 d3_121 rfl rfl rfl ?_
            refine own_iload W4 124 d3_122 rfl rfl ?_
            refine own_aloadN W4 125 d3_124 rfl rfl rfl ?_
            refine own_iload W4 127 d3_125 rfl rfl ?_
            refine own_laload W4 j (V1 j) 128 d3_127 V_a2 hv9 (by omega) rfl rfl ?_
            refine own_lastore W4 i 129 d3_128 V_a2 (Or.inl (List.mem_of_getElem? (i := 1) rfl)) hi hiN rfl ?_
            intro T5 h5 W5 Wr5 V_a2
            have V_a1 := V_a1.other Wr5 hne
            show own_Go p e below C T5 (mkF m 129 #[.val (.ref a1), .val (.ref a2), .val (.int p3), .val (.int p4), .val (.long (K hole)), .second, .val (.long (Vv hole)), .second, .val (.int u8), .val (.int v9), .val (.long (K1 j)), .second, t12, t13] [])
            refine own_iload W5 131 d3_129 rfl rfl ?_
            refine own_istore W5 133 #[.val (.ref a1), .val (.ref a2), .val (.int p3), .val (.int p4), .val (.long (K hole)), .second, .val (.long (Vv hole)), .second, .val (.int v9), .val (.int v9), .val (.long (K1 j)), .second, t12, t13] d3_131 rfl rfl ?_
            refine own_iconst W5 (2 : Int32) 134 d3_133 rfl rfl ?_
            refine own_iload W5 136 d3_134 rfl rfl ?_
            refine own_imul W5 137 d3_136 rfl ?_
            refine own_iconst W5 (1 : Int32) 138 d3_137 rfl rfl ?_
            refine own_iadd W5 139 d3_138 rfl ?_
            refine own_istore W5 141 #[.val (.ref a1), .val (.ref a2), .val (.int p3), .val (.int p4), .val (.long (K hole)), .second, .val (.long (Vv hole)), .second, .val (.int v9), .val (.int (((2 : Int32) * v9) + (1 : Int32))), .val (.long (K1 j)), .second, t12, t13] d3_139 rfl rfl ?_
            refine own_goto W5 21 d3_141 (by decide) (by decide) ?_
            exact ih j _ _ v9 _ T5 h5 _ _ t12 t13 W5 (V_a1.congr (fun q _ => own_upLe _ _ _ q)) (V_a2.congr (fun q _ => own_upLe _ _ _ q)) hv9 (by omega) (own_ch hv9 (by omega)) (by omega) hr2 (Or.inr ⟨_, rfl, rfl⟩) tt
          refine own_lload W 88 d3_86 rfl rfl ?_
          refine own_lload W 90 d3_88 rfl rfl ?_
          refine own_lcmp W 91 d3_90 rfl ?_
          by_cases c6 : (K hole) < (K1 j)
          · refine own_ifY W 144 d3_91 ((if0 _ _).trans (tlt ((lw_gt (K1 j) (K hole)).mpr c6)).2.2.1) (by decide) (by decide) ?_
            exact out i K1 V1 u8 v9 T h _ _ t12 t13 W V_a1 V_a2 hi hiN (by rw [hr2, if_pos (Or.inl c6)])
          · refine own_ifN W 94 d3_91 ((if0 _ _).trans (flt (mt (lw_gt (K1 j) (K hole)).mp c6)).2.2.1) rfl ?_
            refine own_lload W 96 d3_94 rfl rfl ?_
            refine own_lload W 98 d3_96 rfl rfl ?_
            refine own_lcmp W 99 d3_98 rfl ?_
            by_cases c7 : (K1 j) = (K hole)
            · refine own_ifN W 102 d3_99 ((if0 _ _).trans (teq ((lw_eq (K1 j) (K hole)).mpr c7)).2) rfl ?_
              refine own_aloadN W 103 d3_102 rfl rfl rfl ?_
              refine own_iload W 105 d3_103 rfl rfl ?_
              refine own_laload W j (V1 j) 106 d3_105 V_a2 hv9 (by omega) rfl rfl ?_
              refine own_lload W 108 d3_106 rfl rfl ?_
              refine own_lcmp W 109 d3_108 rfl ?_
              by_cases c8 : (V1 j) < (Vv hole)
              · refine own_ifY W 115 d3_109 ((if0 _ _).trans (tlt ((lw_lt (V1 j) (Vv hole)).mpr c8)).1) (by decide) (by decide) ?_
                exact mv (fun r => r.elim c6 (fun r => r.2 c8))
              · refine own_ifN W 112 d3_109 ((if0 _ _).trans (flt (mt (lw_lt (V1 j) (Vv hole)).mp c8)).1) rfl ?_
                refine own_goto W 144 d3_112 (by decide) (by decide) ?_
                exact out i K1 V1 u8 v9 T h _ _ t12 t13 W V_a1 V_a2 hi hiN (by rw [hr2, if_pos (Or.inr ⟨c7, c8⟩)])
            · refine own_ifY W 115 d3_99 ((if0 _ _).trans (feq (mt (lw_eq (K1 j) (K hole)).mp c7)).2) (by decide) (by decide) ?_
              exact mv (fun r => r.elim c6 (fun r => c7 r.1))
        refine own_aloadN W 28 d3_27 rfl rfl rfl ?_
        refine own_iload W 30 d3_28 rfl rfl ?_
        refine own_laload W (2 * i + 1) (K1 (2 * i + 1)) 31 d3_30 V_a1 hu (by omega) rfl rfl ?_
        refine own_lstore W 33 #[.val (.ref a1), .val (.ref a2), .val (.int p3), .val (.int p4), .val (.long (K hole)), .second, .val (.long (Vv hole)), .second, .val (.int u8), .val (.int u9), .val (.long (K1 (2 * i + 1))), .second, s12, s13] d3_31 (by rcases t1 with ⟨rfl, rfl⟩ | ⟨_, rfl, rfl⟩ <;> rfl) rfl ?_
        refine own_iload W 35 d3_33 rfl rfl ?_
        refine own_iconst W (1 : Int32) 36 d3_35 rfl rfl ?_
        refine own_iadd W 37 d3_36 rfl ?_
        refine own_iloadN W 38 d3_37 rfl rfl ?_
        have hu1 := own_inc hu (by omega)
        by_cases c9 : (u9 + (1 : Int32)) < p3
        · refine own_icmpN W 41 d3_38 ((tlt c9).2.1) rfl ?_
          have hc2 : 2 * i + 1 + 1 < n := by have h8 := c9; rw [own_ltN hu1 hn] at h8; exact h8
          refine own_aloadN W 42 d3_41 rfl rfl rfl ?_
          refine own_iload W 44 d3_42 rfl rfl ?_
          refine own_iconst W (1 : Int32) 45 d3_44 rfl rfl ?_
          refine own_iadd W 46 d3_45 rfl ?_
          refine own_laload W (2 * i + 1 + 1) (K1 (2 * i + 1 + 1)) 47 d3_46 V_a1 hu1 (by omega) rfl rfl ?_
          refine own_lstore W 49 #[.val (.ref a1), .val (.ref a2), .val (.int p3), .val (.int p4), .val (.long (K hole)), .second, .val (.long (Vv hole)), .second, .val (.int u8), .val (.int u9), .val (.long (K1 (2 * i + 1))), .second, .val (.long (K1 (2 * i + 1 + 1))), .second] d3_47 (by rcases t2 with ⟨rfl, rfl⟩ | ⟨_, rfl, rfl⟩ <;> rfl) rfl ?_
          refine own_lload W 51 d3_49 rfl rfl ?_
          refine own_lload W 53 d3_51 rfl rfl ?_
          refine own_lcmp W 54 d3_53 rfl ?_
          by_cases c10 : (K1 (2 * i + 1 + 1)) < (K1 (2 * i + 1))
          · refine own_ifY W 79 d3_54 ((if0 _ _).trans (tlt ((lw_lt (K1 (2 * i + 1 + 1)) (K1 (2 * i + 1))).mpr c10)).1) (by decide) (by decide) ?_
            refine own_iinc W (u9 + (1 : Int32)) 82 #[.val (.ref a1), .val (.ref a2), .val (.int p3), .val (.int p4), .val (.long (K hole)), .second, .val (.long (Vv hole)), .second, .val (.int u8), .val (.int (u9 + (1 : Int32))), .val (.long (K1 (2 * i + 1))), .second, .val (.long (K1 (2 * i + 1 + 1))), .second] d3_79 rfl rfl rfl rfl ?_
            refine own_lload W 84 d3_82 rfl rfl ?_
            refine own_lstore W 86 #[.val (.ref a1), .val (.ref a2), .val (.int p3), .val (.int p4), .val (.long (K hole)), .second, .val (.long (Vv hole)), .second, .val (.int u8), .val (.int (u9 + (1 : Int32))), .val (.long (K1 (2 * i + 1 + 1))), .second, .val (.long (K1 (2 * i + 1 + 1))), .second] d3_84 rfl rfl ?_
            exact J86 (2 * i + 1 + 1) _ _ _ hu1 (by omega) hc2 (Or.inr ⟨_, rfl, rfl⟩) (by rw [hres, if_pos ⟨hc2, Or.inl c10⟩])
          · refine own_ifN W 57 d3_54 ((if0 _ _).trans (flt (mt (lw_lt (K1 (2 * i + 1 + 1)) (K1 (2 * i + 1))).mp c10)).1) rfl ?_
            refine own_lload W 59 d3_57 rfl rfl ?_
            refine own_lload W 61 d3_59 rfl rfl ?_
            refine own_lcmp W 62 d3_61 rfl ?_
            by_cases c11 : (K1 (2 * i + 1 + 1)) = (K1 (2 * i + 1))
            · refine own_ifN W 65 d3_62 ((if0 _ _).trans (teq ((lw_eq (K1 (2 * i + 1 + 1)) (K1 (2 * i + 1))).mpr c11)).2) rfl ?_
              refine own_aloadN W 66 d3_65 rfl rfl rfl ?_
              refine own_iload W 68 d3_66 rfl rfl ?_
              refine own_iconst W (1 : Int32) 69 d3_68 rfl rfl ?_
              refine own_iadd W 70 d3_69 rfl ?_
              refine own_laload W (2 * i + 1 + 1) (V1 (2 * i + 1 + 1)) 71 d3_70 V_a2 hu1 (by omega) rfl rfl ?_
              refine own_aloadN W 72 d3_71 rfl rfl rfl ?_
              refine own_iload W 74 d3_72 rfl rfl ?_
              refine own_laload W (2 * i + 1) (V1 (2 * i + 1)) 75 d3_74 V_a2 hu (by omega) rfl rfl ?_
              refine own_lcmp W 76 d3_75 rfl ?_
              by_cases c12 : (V1 (2 * i + 1 + 1)) < (V1 (2 * i + 1))
              · refine own_ifN W 79 d3_76 ((if0 _ _).trans (tlt ((lw_lt (V1 (2 * i + 1 + 1)) (V1 (2 * i + 1))).mpr c12)).2.1) rfl ?_
                refine own_iinc W (u9 + (1 : Int32)) 82 #[.val (.ref a1), .val (.ref a2), .val (.int p3), .val (.int p4), .val (.long (K hole)), .second, .val (.long (Vv hole)), .second, .val (.int u8), .val (.int (u9 + (1 : Int32))), .val (.long (K1 (2 * i + 1))), .second, .val (.long (K1 (2 * i + 1 + 1))), .second] d3_79 rfl rfl rfl rfl ?_
                refine own_lload W 84 d3_82 rfl rfl ?_
                refine own_lstore W 86 #[.val (.ref a1), .val (.ref a2), .val (.int p3), .val (.int p4), .val (.long (K hole)), .second, .val (.long (Vv hole)), .second, .val (.int u8), .val (.int (u9 + (1 : Int32))), .val (.long (K1 (2 * i + 1 + 1))), .second, .val (.long (K1 (2 * i + 1 + 1))), .second] d3_84 rfl rfl ?_
                exact J86 (2 * i + 1 + 1) _ _ _ hu1 (by omega) hc2 (Or.inr ⟨_, rfl, rfl⟩) (by rw [hres, if_pos ⟨hc2, Or.inr ⟨c11, c12⟩⟩])
              · refine own_ifY W 86 d3_76 ((if0 _ _).trans (flt (mt (lw_lt (V1 (2 * i + 1 + 1)) (V1 (2 * i + 1))).mp c12)).2.1) (by decide) (by decide) ?_
                exact J86 (2 * i + 1) u9 _ _ hu (by omega) hc1 (Or.inr ⟨_, rfl, rfl⟩) (by rw [hres, if_neg (fun r => r.2.elim c10 (fun r => c12 r.2))])
            · refine own_ifY W 86 d3_62 ((if0 _ _).trans (feq (mt (lw_eq (K1 (2 * i + 1 + 1)) (K1 (2 * i + 1))).mp c11)).2) (by decide) (by decide) ?_
              exact J86 (2 * i + 1) u9 _ _ hu (by omega) hc1 (Or.inr ⟨_, rfl, rfl⟩) (by rw [hres, if_neg (fun r => r.2.elim c10 (fun r => c11 r.1))])
        · refine own_icmpY W 86 d3_38 ((flt c9).2.1) (by decide) (by decide) ?_
          exact J86 (2 * i + 1) u9 s12 s13 hu (by omega) hc1 t2 (by rw [hres, if_neg (fun r => c9 (by rw [own_ltN hu1 hn]; exact r.1))])
      · refine own_icmpY W 144 d3_24 ((flt c3).2.1) (by decide) (by decide) ?_
        exact out i K1 V1 u8 u9 T h s10 s11 s12 s13 W V_a1 V_a2 hi hiN (by rw [hres, own_sift, if_neg (by have h8 := c3; rw [own_ltN hu hn] at h8; exact h8)])
  exact loop fuel0 hole K Vv p4 _ T0 h0 .unset .unset .unset .unset W0 V_a1 V_a2 hh hhN (own_ch hh (by omega)) (by omega) rfl (Or.inl ⟨rfl, rfl⟩) (Or.inl ⟨rfl, rfl⟩)
theorem ef_m5 (m : MethodId) (x0 : Int64) (x1 : Int64) (x2 : Int64) (x3 : Int64) : entryFrame m #[(.long x0), (.long x1), (.long x2), (.long x3)] 8 = mkF m 0 #[.val (.long x0), .second, .val (.long x1), .second, .val (.long x2), .second, .val (.long x3), .second] [] := by first | (simp [entryFrame, mkF, argsToLocals, Value.category]; done) | rfl
set_option maxRecDepth 65536 in
set_option maxHeartbeats 40000000 in
theorem own_m5 (l : Launch) (Z : State) (a0 : Array Value) (hw : ∀ d ∈ tables_1, d.before a0 Z = true) (wo : List Jvm.Cond) (h0 : Heap) (q1 : Int64) (q2 : Int64) (q3 : Int64) (q4 : Int64) (hle : own_leP q1 q2 q3 q4) :
    own_M l Z wo (⟨"com/example/queueloom/queueloom/engine/LongPairHeapSiftDownPinLaw", "le", "(JJJJ)Z"⟩ : MethodName) method_4_code 8 (some .boolean) ({ frames := 0, cells := 0, slots := 0, locals := 0 } : Room) [] #[(.long q1), (.long q2), (.long q3), (.long q4)] h0 (fun v h => v = some (.int (1 : Int32))) := by
  refine own_body (plainFor_of_name pn_5) (fun m => ef_m5 m q1 q2 q3 q4) ?_
  intro p e s m below meth c C hC T0 W0
  refine own_lloadN W0 1 d5_0 rfl rfl ?_
  refine own_lload W0 3 d5_1 rfl rfl ?_
  refine own_lcmp W0 4 d5_3 rfl ?_
  by_cases c1 : q1 < q3
  · refine own_ifY W0 21 d5_4 ((if0 _ _).trans (tlt ((lw_lt q1 q3).mpr c1)).1) (by decide) (by decide) ?_
    refine own_iconst W0 (1 : Int32) 22 d5_21 rfl rfl ?_
    refine own_goto W0 26 d5_22 (by decide) (by decide) ?_
    refine own_retZ (Q := fun v h => v = some (.int (1 : Int32))) W0 hC (by decide) (by decide) d5_26 ?_
    exact rfl
  · refine own_ifN W0 7 d5_4 ((if0 _ _).trans (flt (mt (lw_lt q1 q3).mp c1)).1) rfl ?_
    refine own_lloadN W0 8 d5_7 rfl rfl ?_
    refine own_lload W0 10 d5_8 rfl rfl ?_
    refine own_lcmp W0 11 d5_10 rfl ?_
    by_cases c2 : q1 = q3
    · refine own_ifN W0 14 d5_11 ((if0 _ _).trans (teq ((lw_eq q1 q3).mpr c2)).2) rfl ?_
      refine own_lloadN W0 15 d5_14 rfl rfl ?_
      refine own_lload W0 17 d5_15 rfl rfl ?_
      refine own_lcmp W0 18 d5_17 rfl ?_
      by_cases c3 : q4 < q2
      · refine own_ifY W0 25 d5_18 ((if0 _ _).trans (tlt ((lw_gt q2 q4).mpr c3)).2.2.1) (by decide) (by decide) ?_
        exact (hle.elim c1 (fun q => q.2 c3)).elim
      · refine own_ifN W0 21 d5_18 ((if0 _ _).trans (flt (mt (lw_gt q2 q4).mp c3)).2.2.1) rfl ?_
        refine own_iconst W0 (1 : Int32) 22 d5_21 rfl rfl ?_
        refine own_goto W0 26 d5_22 (by decide) (by decide) ?_
        refine own_retZ (Q := fun v h => v = some (.int (1 : Int32))) W0 hC (by decide) (by decide) d5_26 ?_
        exact rfl
    · refine own_ifY W0 25 d5_11 ((if0 _ _).trans (feq (mt (lw_eq q1 q3).mp c2)).2) (by decide) (by decide) ?_
      exact (hle.elim c1 (fun q => c2 q.1)).elim
theorem ef_m4 (m : MethodId) (x0 : Addr) (x1 : Addr) (x2 : Int32) (x3 : Int32) (x4 : Int32) (x5 : Int32) : entryFrame m #[(.ref x0), (.ref x1), (.int x2), (.int x3), (.int x4), (.int x5)] 6 = mkF m 0 #[.val (.ref x0), .val (.ref x1), .val (.int x2), .val (.int x3), .val (.int x4), .val (.int x5)] [] := by first | (simp [entryFrame, mkF, argsToLocals, Value.category]; done) | rfl
set_option maxRecDepth 65536 in
set_option maxHeartbeats 40000000 in
theorem own_m4 (l : Launch) (Z : State) (a0 : Array Value) (hw : ∀ d ∈ tables_1, d.before a0 Z = true) (wo : List Jvm.Cond) (h0 : Heap) (a1 : Addr) (a2 : Addr) (p3 : Int32) (p4 : Int32) (p5 : Int32) (p6 : Int32) (K : Nat → Int64) (Vv : Nat → Int64) (ip : Nat) (ic : Nat) (V_a1 : own_A Z h0 a1 .long 7 (fun j => .long (K j))) (V_a2 : own_A Z h0 a2 .long 7 (fun j => .long (Vv j))) (hp : p3.toInt = (ip : Int)) (hc : p4.toInt = (ic : Int)) (hp7 : ip < 7) (hc7 : ic < 7) (hE : ¬ (p3 < p6) → p4 < p5 → own_leP (K ip) (Vv ip) (K ic) (Vv ic)) :
    own_M l Z wo (⟨"com/example/queueloom/queueloom/engine/LongPairHeapSiftDownPinLaw", "edgeOk", "([J[JIIII)Z"⟩ : MethodName) method_5_code 6 (some .boolean) ({ frames := 1, cells := 0, slots := 0, locals := 19 } : Room) [] #[(.ref a1), (.ref a2), (.int p3), (.int p4), (.int p5), (.int p6)] h0 (fun v h => v = some (.int (1 : Int32))) := by
  refine own_body (plainFor_of_name pn_4) (fun m => ef_m4 m a1 a2 p3 p4 p5 p6) ?_
  intro p e s m below meth c C hC T0 W0
  refine own_iloadN W0 1 d4_0 rfl rfl ?_
  refine own_iload W0 3 d4_1 rfl rfl ?_
  by_cases c1 : p3 < p6
  · refine own_icmpY W0 12 d4_3 ((tlt c1).1) (by decide) (by decide) ?_
    refine own_iconst W0 (1 : Int32) 13 d4_12 rfl rfl ?_
    refine own_retZ (Q := fun v h => v = some (.int (1 : Int32))) W0 hC (by decide) (by decide) d4_13 ?_
    exact rfl
  · refine own_icmpN W0 6 d4_3 ((flt c1).1) rfl ?_
    refine own_iloadN W0 7 d4_6 rfl rfl ?_
    refine own_iload W0 9 d4_7 rfl rfl ?_
    by_cases c2 : p4 < p5
    · refine own_icmpY W0 14 d4_9 ((tlt c2).1) (by decide) (by decide) ?_
      refine own_aloadN W0 15 d4_14 rfl rfl rfl ?_
      refine own_iloadN W0 16 d4_15 rfl rfl ?_
      refine own_laload W0 ip (K ip) 17 d4_16 V_a1 hp hp7 rfl rfl ?_
      refine own_aloadN W0 18 d4_17 rfl rfl rfl ?_
      refine own_iloadN W0 19 d4_18 rfl rfl ?_
      refine own_laload W0 ip (Vv ip) 20 d4_19 V_a2 hp hp7 rfl rfl ?_
      refine own_aloadN W0 21 d4_20 rfl rfl rfl ?_
      refine own_iloadN W0 22 d4_21 rfl rfl ?_
      refine own_laload W0 ic (K ic) 23 d4_22 V_a1 hc hc7 rfl rfl ?_
      refine own_aloadN W0 24 d4_23 rfl rfl rfl ?_
      refine own_iloadN W0 25 d4_24 rfl rfl ?_
      refine own_laload W0 ic (Vv ic) 26 d4_25 V_a2 hc hc7 rfl rfl ?_
      refine own_callS W0 (A := [(.long (K ip)), (.long (Vv ip)), (.long (K ic)), (.long (Vv ic))]) (wt := 0) (pc' := 29) (st := []) d4_26 (wd20 hw) (wd21 hw) (wd5 hw) (wd22 hw) (by decide) (own_m5 l Z a0 hw [] h0 (K ip) (Vv ip) (K ic) (Vv ic) (hE c1 c2)) all0 rfl pd_0 rfl (Nat.le_of_eq rfl) (by decide) (by decide) (by decide) (by decide) rfl ?_
      rintro T3 h3 _ W3 K3 P3 rfl
      rw [P3 rfl rfl] at W3
      show own_Go p e below C T3 (mkF m 29 #[.val (.ref a1), .val (.ref a2), .val (.int p3), .val (.int p4), .val (.int p5), .val (.int p6)] [(.int (1 : Int32))])
      refine own_retZ (Q := fun v h => v = some (.int (1 : Int32))) W3 hC (by decide) (by decide) d4_29 ?_
      exact rfl
    · refine own_icmpN W0 12 d4_9 ((flt c2).1) rfl ?_
      refine own_iconst W0 (1 : Int32) 13 d4_12 rfl rfl ?_
      refine own_retZ (Q := fun v h => v = some (.int (1 : Int32))) W0 hC (by decide) (by decide) d4_13 ?_
      exact rfl
theorem ef_m7 (m : MethodId) (x0 : Int32) (x1 : Int32) : entryFrame m #[(.int x0), (.int x1)] 2 = mkF m 0 #[.val (.int x0), .val (.int x1)] [] := by first | (simp [entryFrame, mkF, argsToLocals, Value.category]; done) | rfl
set_option maxRecDepth 65536 in
set_option maxHeartbeats 40000000 in
theorem own_m7 (l : Launch) (Z : State) (a0 : Array Value) (hw : ∀ d ∈ tables_1, d.before a0 Z = true) (wo : List Jvm.Cond) (h0 : Heap) (p1 : Int32) (p2 : Int32) :
    own_M l Z wo (⟨"com/example/queueloom/queueloom/engine/LongPairHeapSiftDownPinLaw", "inSub", "(II)Z"⟩ : MethodName) method_6_code 2 (some .boolean) ({ frames := 0, cells := 0, slots := 0, locals := 0 } : Room) [] #[(.int p1), (.int p2)] h0 (fun v h => v = some (.int (own_inS p1 p2))) := by
  refine own_body (plainFor_of_name pn_7) (fun m => ef_m7 m p1 p2) ?_
  intro p e s m below meth c C hC T0 W0
  refine own_iloadN W0 1 d7_0 rfl rfl ?_
  by_cases c1 : p2 = (0 : Int32)
  · refine own_ifN W0 4 d7_1 ((if0 _ _).trans (teq c1).2) rfl ?_
    refine own_iconst W0 (1 : Int32) 5 d7_4 rfl rfl ?_
    refine own_retZ (Q := fun v h => v = some (.int (own_inS p1 p2))) W0 hC (by decide) (by decide) d7_5 ?_
    exact by rw [own_inS, if_pos c1]; rfl
  · refine own_ifY W0 6 d7_1 ((if0 _ _).trans (feq c1).2) (by decide) (by decide) ?_
    refine own_iloadN W0 7 d7_6 rfl rfl ?_
    refine own_iconst W0 (1 : Int32) 8 d7_7 rfl rfl ?_
    by_cases c2 : p2 = (1 : Int32)
    · refine own_icmpN W0 11 d7_8 ((teq c2).2) rfl ?_
      refine own_iloadN W0 12 d7_11 rfl rfl ?_
      refine own_iconst W0 (1 : Int32) 13 d7_12 rfl rfl ?_
      suffices J3 : own_Go p e below C T0 (mkF m 31 #[.val (.int p1), .val (.int p2)] [(.int (if p1 = (1 : Int32) then (1 : Int32) else (if p1 = (3 : Int32) then (1 : Int32) else (if p1 = (4 : Int32) then (1 : Int32) else (0 : Int32)))))]) by
        by_cases c4 : p1 = (1 : Int32)
        · refine own_icmpY W0 26 d7_13 ((teq c4).1) (by decide) (by decide) ?_
          refine own_iconst W0 (1 : Int32) 27 d7_26 rfl rfl ?_
          refine own_goto W0 31 d7_27 (by decide) (by decide) ?_
          first | (simp only [if_pos c4] at J3; exact J3) | (simp only [if_pos c4] at J3 ⊢; exact J3)
        · refine own_icmpN W0 16 d7_13 ((feq c4).1) rfl ?_
          refine own_iloadN W0 17 d7_16 rfl rfl ?_
          refine own_iconst W0 (3 : Int32) 18 d7_17 rfl rfl ?_
          by_cases c5 : p1 = (3 : Int32)
          · refine own_icmpY W0 26 d7_18 ((teq c5).1) (by decide) (by decide) ?_
            refine own_iconst W0 (1 : Int32) 27 d7_26 rfl rfl ?_
            refine own_goto W0 31 d7_27 (by decide) (by decide) ?_
            first | (simp only [if_neg c4, if_pos c5] at J3; exact J3) | (simp only [if_neg c4, if_pos c5] at J3 ⊢; exact J3)
          · refine own_icmpN W0 21 d7_18 ((feq c5).1) rfl ?_
            refine own_iloadN W0 22 d7_21 rfl rfl ?_
            refine own_iconst W0 (4 : Int32) 23 d7_22 rfl rfl ?_
            by_cases c6 : p1 = (4 : Int32)
            · refine own_icmpN W0 26 d7_23 ((teq c6).2) rfl ?_
              refine own_iconst W0 (1 : Int32) 27 d7_26 rfl rfl ?_
              refine own_goto W0 31 d7_27 (by decide) (by decide) ?_
              first | (simp only [if_neg c4, if_neg c5, if_pos c6] at J3; exact J3) | (simp only [if_neg c4, if_neg c5, if_pos c6] at J3 ⊢; exact J3)
            · refine own_icmpY W0 30 d7_23 ((feq c6).2) (by decide) (by decide) ?_
              refine own_iconst W0 (0 : Int32) 31 d7_30 rfl rfl ?_
              first | (simp only [if_neg c4, if_neg c5, if_neg c6] at J3; exact J3) | (simp only [if_neg c4, if_neg c5, if_neg c6] at J3 ⊢; exact J3)
      refine own_retZ (Q := fun v h => v = some (.int (own_inS p1 p2))) W0 hC (by decide) (by decide) d7_31 ?_
      exact by rw [← own_inSz, own_inS, if_neg c1, if_pos c2]
    · refine own_icmpY W0 32 d7_8 ((feq c2).2) (by decide) (by decide) ?_
      refine own_iloadN W0 33 d7_32 rfl rfl ?_
      refine own_iconst W0 (2 : Int32) 34 d7_33 rfl rfl ?_
      suffices J7 : own_Go p e below C T0 (mkF m 53 #[.val (.int p1), .val (.int p2)] [(.int (if p1 = (2 : Int32) then (1 : Int32) else (if p1 = (5 : Int32) then (1 : Int32) else (if p1 = (6 : Int32) then (1 : Int32) else (0 : Int32)))))]) by
        by_cases c8 : p1 = (2 : Int32)
        · refine own_icmpY W0 48 d7_34 ((teq c8).1) (by decide) (by decide) ?_
          refine own_iconst W0 (1 : Int32) 49 d7_48 rfl rfl ?_
          refine own_goto W0 53 d7_49 (by decide) (by decide) ?_
          first | (simp only [if_pos c8] at J7; exact J7) | (simp only [if_pos c8] at J7 ⊢; exact J7)
        · refine own_icmpN W0 37 d7_34 ((feq c8).1) rfl ?_
          refine own_iloadN W0 38 d7_37 rfl rfl ?_
          refine own_iconst W0 (5 : Int32) 39 d7_38 rfl rfl ?_
          by_cases c9 : p1 = (5 : Int32)
          · refine own_icmpY W0 48 d7_39 ((teq c9).1) (by decide) (by decide) ?_
            refine own_iconst W0 (1 : Int32) 49 d7_48 rfl rfl ?_
            refine own_goto W0 53 d7_49 (by decide) (by decide) ?_
            first | (simp only [if_neg c8, if_pos c9] at J7; exact J7) | (simp only [if_neg c8, if_pos c9] at J7 ⊢; exact J7)
          · refine own_icmpN W0 42 d7_39 ((feq c9).1) rfl ?_
            refine own_iloadN W0 43 d7_42 rfl rfl ?_
            refine own_bipush W0 (6 : Int32) 45 d7_43 rfl rfl ?_
            by_cases c10 : p1 = (6 : Int32)
            · refine own_icmpN W0 48 d7_45 ((teq c10).2) rfl ?_
              refine own_iconst W0 (1 : Int32) 49 d7_48 rfl rfl ?_
              refine own_goto W0 53 d7_49 (by decide) (by decide) ?_
              first | (simp only [if_neg c8, if_neg c9, if_pos c10] at J7; exact J7) | (simp only [if_neg c8, if_neg c9, if_pos c10] at J7 ⊢; exact J7)
            · refine own_icmpY W0 52 d7_45 ((feq c10).2) (by decide) (by decide) ?_
              refine own_iconst W0 (0 : Int32) 53 d7_52 rfl rfl ?_
              first | (simp only [if_neg c8, if_neg c9, if_neg c10] at J7; exact J7) | (simp only [if_neg c8, if_neg c9, if_neg c10] at J7 ⊢; exact J7)
      refine own_retZ (Q := fun v h => v = some (.int (own_inS p1 p2))) W0 hC (by decide) (by decide) d7_53 ?_
      exact by rw [← own_inSz, own_inS, if_neg c1, if_neg c2]
theorem ef_m6 (m : MethodId) (x0 : Addr) (x1 : Addr) (x2 : Addr) (x3 : Addr) (x4 : Int32) (x5 : Int32) (x6 : Int32) : entryFrame m #[(.ref x0), (.ref x1), (.ref x2), (.ref x3), (.int x4), (.int x5), (.int x6)] 7 = mkF m 0 #[.val (.ref x0), .val (.ref x1), .val (.ref x2), .val (.ref x3), .val (.int x4), .val (.int x5), .val (.int x6)] [] := by first | (simp [entryFrame, mkF, argsToLocals, Value.category]; done) | rfl
set_option maxRecDepth 65536 in
set_option maxHeartbeats 40000000 in
theorem own_m6 (l : Launch) (Z : State) (a0 : Array Value) (hw : ∀ d ∈ tables_1, d.before a0 Z = true) (wo : List Jvm.Cond) (h0 : Heap) (a1 : Addr) (a2 : Addr) (a3 : Addr) (a4 : Addr) (p5 : Int32) (p6 : Int32) (p7 : Int32) (K : Nat → Int64) (Vv : Nat → Int64) (K0 : Nat → Int64) (V0 : Nat → Int64) (i : Nat) (V_a1 : own_A Z h0 a1 .long 7 (fun j => .long (K j))) (V_a2 : own_A Z h0 a2 .long 7 (fun j => .long (Vv j))) (V_a3 : own_A Z h0 a3 .long 7 (fun j => .long (K0 j))) (V_a4 : own_A Z h0 a4 .long 7 (fun j => .long (V0 j))) (hi : p5.toInt = (i : Int)) (hi7 : i < 7) (hK : ¬ (p5 < p6 ∧ ¬ own_inS p5 p7 = (0 : Int32)) → K i = K0 i ∧ Vv i = V0 i) :
    own_M l Z wo (⟨"com/example/queueloom/queueloom/engine/LongPairHeapSiftDownPinLaw", "keptOk", "([J[J[J[JIII)Z"⟩ : MethodName) method_7_code 7 (some .boolean) ({ frames := 1, cells := 0, slots := 0, locals := 13 } : Room) [] #[(.ref a1), (.ref a2), (.ref a3), (.ref a4), (.int p5), (.int p6), (.int p7)] h0 (fun v h => v = some (.int (1 : Int32))) := by
  refine own_body (plainFor_of_name pn_6) (fun m => ef_m6 m a1 a2 a3 a4 p5 p6 p7) ?_
  intro p e s m below meth c C hC T0 W0
  refine own_iload W0 2 d6_0 rfl rfl ?_
  refine own_iload W0 4 d6_2 rfl rfl ?_
  by_cases c1 : p5 < p6
  · refine own_icmpN W0 7 d6_4 ((tlt c1).2.1) rfl ?_
    refine own_iload W0 9 d6_7 rfl rfl ?_
    refine own_iload W0 11 d6_9 rfl rfl ?_
    refine own_callS W0 (A := [(.int p5), (.int p7)]) (wt := 0) (pc' := 14) (st := []) d6_11 (wd26 hw) (wd27 hw) (wd5 hw) (wd28 hw) (by decide) (own_m7 l Z a0 hw [] h0 p5 p7) all0 rfl pd_1 rfl (Nat.le_of_eq rfl) (by decide) (by decide) (by decide) (by decide) rfl ?_
    rintro T2 h2 _ W2 K2 P2 rfl
    rw [P2 rfl rfl] at W2
    show own_Go p e below C T2 (mkF m 14 #[.val (.ref a1), .val (.ref a2), .val (.ref a3), .val (.ref a4), .val (.int p5), .val (.int p6), .val (.int p7)] [(.int (own_inS p5 p7))])
    by_cases c3 : (own_inS p5 p7) = (0 : Int32)
    · refine own_ifY W2 19 d6_14 ((if0 _ _).trans (teq c3).1) (by decide) (by decide) ?_
      obtain ⟨e1, e2⟩ := hK (fun q => q.2 c3)
      refine own_aloadN W2 20 d6_19 rfl rfl rfl ?_
      refine own_iload W2 22 d6_20 rfl rfl ?_
      refine own_laload W2 i (K i) 23 d6_22 V_a1 hi hi7 rfl rfl ?_
      refine own_aloadN W2 24 d6_23 rfl rfl rfl ?_
      refine own_iload W2 26 d6_24 rfl rfl ?_
      refine own_laload W2 i (K0 i) 27 d6_26 V_a3 hi hi7 rfl rfl ?_
      refine own_lcmp W2 28 d6_27 rfl ?_
      refine own_ifN W2 31 d6_28 ((if0 _ _).trans (teq ((lw_eq (K i) (K0 i)).mpr (e1 : (K i) = (K0 i)))).2) rfl ?_
      refine own_aloadN W2 32 d6_31 rfl rfl rfl ?_
      refine own_iload W2 34 d6_32 rfl rfl ?_
      refine own_laload W2 i (Vv i) 35 d6_34 V_a2 hi hi7 rfl rfl ?_
      refine own_aloadN W2 36 d6_35 rfl rfl rfl ?_
      refine own_iload W2 38 d6_36 rfl rfl ?_
      refine own_laload W2 i (V0 i) 39 d6_38 V_a4 hi hi7 rfl rfl ?_
      refine own_lcmp W2 40 d6_39 rfl ?_
      refine own_ifN W2 43 d6_40 ((if0 _ _).trans (teq ((lw_eq (Vv i) (V0 i)).mpr (e2 : (Vv i) = (V0 i)))).2) rfl ?_
      refine own_iconst W2 (1 : Int32) 44 d6_43 rfl rfl ?_
      refine own_goto W2 48 d6_44 (by decide) (by decide) ?_
      refine own_retZ (Q := fun v h => v = some (.int (1 : Int32))) W2 hC (by decide) (by decide) d6_48 ?_
      exact rfl
    · refine own_ifN W2 17 d6_14 ((if0 _ _).trans (feq c3).1) rfl ?_
      refine own_iconst W2 (1 : Int32) 18 d6_17 rfl rfl ?_
      refine own_retZ (Q := fun v h => v = some (.int (1 : Int32))) W2 hC (by decide) (by decide) d6_18 ?_
      exact rfl
  · refine own_icmpY W0 19 d6_4 ((flt c1).2.1) (by decide) (by decide) ?_
    obtain ⟨e1, e2⟩ := hK (fun q => c1 q.1)
    refine own_aloadN W0 20 d6_19 rfl rfl rfl ?_
    refine own_iload W0 22 d6_20 rfl rfl ?_
    refine own_laload W0 i (K i) 23 d6_22 V_a1 hi hi7 rfl rfl ?_
    refine own_aloadN W0 24 d6_23 rfl rfl rfl ?_
    refine own_iload W0 26 d6_24 rfl rfl ?_
    refine own_laload W0 i (K0 i) 27 d6_26 V_a3 hi hi7 rfl rfl ?_
    refine own_lcmp W0 28 d6_27 rfl ?_
    refine own_ifN W0 31 d6_28 ((if0 _ _).trans (teq ((lw_eq (K i) (K0 i)).mpr (e1 : (K i) = (K0 i)))).2) rfl ?_
    refine own_aloadN W0 32 d6_31 rfl rfl rfl ?_
    refine own_iload W0 34 d6_32 rfl rfl ?_
    refine own_laload W0 i (Vv i) 35 d6_34 V_a2 hi hi7 rfl rfl ?_
    refine own_aloadN W0 36 d6_35 rfl rfl rfl ?_
    refine own_iload W0 38 d6_36 rfl rfl ?_
    refine own_laload W0 i (V0 i) 39 d6_38 V_a4 hi hi7 rfl rfl ?_
    refine own_lcmp W0 40 d6_39 rfl ?_
    refine own_ifN W0 43 d6_40 ((if0 _ _).trans (teq ((lw_eq (Vv i) (V0 i)).mpr (e2 : (Vv i) = (V0 i)))).2) rfl ?_
    refine own_iconst W0 (1 : Int32) 44 d6_43 rfl rfl ?_
    refine own_goto W0 48 d6_44 (by decide) (by decide) ?_
    refine own_retZ (Q := fun v h => v = some (.int (1 : Int32))) W0 hC (by decide) (by decide) d6_48 ?_
    exact rfl
theorem ef_m8 (m : MethodId) (x0 : Addr) : entryFrame m #[(.ref x0)] 1 = mkF m 0 #[.val (.ref x0)] [] := by first | (simp [entryFrame, mkF, argsToLocals, Value.category]; done) | rfl
set_option maxRecDepth 65536 in
set_option maxHeartbeats 40000000 in
theorem own_m8 (l : Launch) (Z : State) (a0 : Array Value) (hw : ∀ d ∈ tables_1, d.before a0 Z = true) (wo : List Jvm.Cond) (h0 : Heap) (a1 : Addr) (K : Nat → Int64) (V_a1 : own_A Z h0 a1 .long 7 (fun j => .long (K j))) :
    own_M l Z wo (⟨"com/example/queueloom/queueloom/engine/LongPairHeapSiftDownPinLaw", "sumK", "([J)J"⟩ : MethodName) method_9_code 1 (some .long) ({ frames := 0, cells := 0, slots := 0, locals := 0 } : Room) [] #[(.ref a1)] h0 (fun v h => v = some (.long (own_sK K))) := by
  refine own_body (plainFor_of_name pn_8) (fun m => ef_m8 m a1) ?_
  intro p e s m below meth c C hC T0 W0
  refine own_aloadN W0 1 d8_0 rfl rfl rfl ?_
  refine own_iconst W0 (0 : Int32) 2 d8_1 rfl rfl ?_
  refine own_laload W0 0 (K 0) 3 d8_2 V_a1 rfl (by decide) rfl rfl ?_
  refine own_aloadN W0 4 d8_3 rfl rfl rfl ?_
  refine own_iconst W0 (1 : Int32) 5 d8_4 rfl rfl ?_
  refine own_laload W0 1 (K 1) 6 d8_5 V_a1 rfl (by decide) rfl rfl ?_
  refine own_ladd W0 7 d8_6 rfl ?_
  refine own_aloadN W0 8 d8_7 rfl rfl rfl ?_
  refine own_iconst W0 (2 : Int32) 9 d8_8 rfl rfl ?_
  refine own_laload W0 2 (K 2) 10 d8_9 V_a1 rfl (by decide) rfl rfl ?_
  refine own_ladd W0 11 d8_10 rfl ?_
  refine own_aloadN W0 12 d8_11 rfl rfl rfl ?_
  refine own_iconst W0 (3 : Int32) 13 d8_12 rfl rfl ?_
  refine own_laload W0 3 (K 3) 14 d8_13 V_a1 rfl (by decide) rfl rfl ?_
  refine own_ladd W0 15 d8_14 rfl ?_
  refine own_aloadN W0 16 d8_15 rfl rfl rfl ?_
  refine own_iconst W0 (4 : Int32) 17 d8_16 rfl rfl ?_
  refine own_laload W0 4 (K 4) 18 d8_17 V_a1 rfl (by decide) rfl rfl ?_
  refine own_ladd W0 19 d8_18 rfl ?_
  refine own_aloadN W0 20 d8_19 rfl rfl rfl ?_
  refine own_iconst W0 (5 : Int32) 21 d8_20 rfl rfl ?_
  refine own_laload W0 5 (K 5) 22 d8_21 V_a1 rfl (by decide) rfl rfl ?_
  refine own_ladd W0 23 d8_22 rfl ?_
  refine own_aloadN W0 24 d8_23 rfl rfl rfl ?_
  refine own_bipush W0 (6 : Int32) 26 d8_24 rfl rfl ?_
  refine own_laload W0 6 (K 6) 27 d8_26 V_a1 rfl (by decide) rfl rfl ?_
  refine own_ladd W0 28 d8_27 rfl ?_
  refine own_retJ (Q := fun v h => v = some (.long (own_sK K))) W0 hC (by decide) (by decide) d8_28 ?_
  exact rfl
theorem ef_m10 (m : MethodId) (x0 : Int64) (x1 : Int64) : entryFrame m #[(.long x0), (.long x1)] 4 = mkF m 0 #[.val (.long x0), .second, .val (.long x1), .second] [] := by first | (simp [entryFrame, mkF, argsToLocals, Value.category]; done) | rfl
set_option maxRecDepth 65536 in
set_option maxHeartbeats 40000000 in
theorem own_m10 (l : Launch) (Z : State) (a0 : Array Value) (hw : ∀ d ∈ tables_1, d.before a0 Z = true) (wo : List Jvm.Cond) (h0 : Heap) (q1 : Int64) (q2 : Int64) :
    own_M l Z wo (⟨"com/example/queueloom/queueloom/engine/LongPairHeapSiftDownPinLaw", "mix", "(JJ)J"⟩ : MethodName) method_8_code 4 (some .long) ({ frames := 0, cells := 0, slots := 0, locals := 0 } : Room) [] #[(.long q1), (.long q2)] h0 (fun v h => v = some (.long (own_mix q1 q2))) := by
  refine own_body (plainFor_of_name pn_10) (fun m => ef_m10 m q1 q2) ?_
  intro p e s m below meth c C hC T0 W0
  refine own_lloadN W0 1 d10_0 rfl rfl ?_
  refine own_ldc2Long W0 4 d10_1 (wd38 hw) rfl ?_
  refine own_lmul W0 5 d10_4 rfl ?_
  refine own_lloadN W0 6 d10_5 rfl rfl ?_
  refine own_lxor W0 7 d10_6 rfl ?_
  refine own_ldc2Long W0 10 d10_7 (wd39 hw) rfl ?_
  refine own_lmul W0 11 d10_10 rfl ?_
  refine own_lloadN W0 12 d10_11 rfl rfl ?_
  refine own_lloadN W0 13 d10_12 rfl rfl ?_
  refine own_lmul W0 14 d10_13 rfl ?_
  refine own_ladd W0 15 d10_14 rfl ?_
  refine own_retJ (Q := fun v h => v = some (.long (own_mix q1 q2))) W0 hC (by decide) (by decide) d10_15 ?_
  exact rfl
theorem ef_m9 (m : MethodId) (x0 : Addr) (x1 : Addr) : entryFrame m #[(.ref x0), (.ref x1)] 2 = mkF m 0 #[.val (.ref x0), .val (.ref x1)] [] := by first | (simp [entryFrame, mkF, argsToLocals, Value.category]; done) | rfl
set_option maxRecDepth 65536 in
set_option maxHeartbeats 40000000 in
theorem own_m9 (l : Launch) (Z : State) (a0 : Array Value) (hw : ∀ d ∈ tables_1, d.before a0 Z = true) (wo : List Jvm.Cond) (h0 : Heap) (a1 : Addr) (a2 : Addr) (K : Nat → Int64) (Vv : Nat → Int64) (V_a1 : own_A Z h0 a1 .long 7 (fun j => .long (K j))) (V_a2 : own_A Z h0 a2 .long 7 (fun j => .long (Vv j))) :
    own_M l Z wo (⟨"com/example/queueloom/queueloom/engine/LongPairHeapSiftDownPinLaw", "sumMix", "([J[J)J"⟩ : MethodName) method_10_code 2 (some .long) ({ frames := 1, cells := 0, slots := 0, locals := 17 } : Room) [] #[(.ref a1), (.ref a2)] h0 (fun v h => v = some (.long (own_sM K Vv))) := by
  refine own_body (plainFor_of_name pn_9) (fun m => ef_m9 m a1 a2) ?_
  intro p e s m below meth c C hC T0 W0
  refine own_aloadN W0 1 d9_0 rfl rfl rfl ?_
  refine own_iconst W0 (0 : Int32) 2 d9_1 rfl rfl ?_
  refine own_laload W0 0 (K 0) 3 d9_2 V_a1 rfl (by decide) rfl rfl ?_
  refine own_aloadN W0 4 d9_3 rfl rfl rfl ?_
  refine own_iconst W0 (0 : Int32) 5 d9_4 rfl rfl ?_
  refine own_laload W0 0 (Vv 0) 6 d9_5 V_a2 rfl (by decide) rfl rfl ?_
  refine own_callS W0 (A := [(.long (K 0)), (.long (Vv 0))]) (wt := 0) (pc' := 9) (st := []) d9_6 (wd35 hw) (wd36 hw) (wd5 hw) (wd37 hw) (by decide) (own_m10 l Z a0 hw [] h0 (K 0) (Vv 0)) all0 rfl pd_2 rfl (Nat.le_of_eq rfl) (by decide) (by decide) (by decide) (by decide) rfl ?_
  rintro T1 h1 _ W1 K1 P1 rfl
  rw [P1 rfl rfl] at W1
  show own_Go p e below C T1 (mkF m 9 #[.val (.ref a1), .val (.ref a2)] [(.long (own_mix (K 0) (Vv 0)))])
  refine own_aloadN W1 10 d9_9 rfl rfl rfl ?_
  refine own_iconst W1 (1 : Int32) 11 d9_10 rfl rfl ?_
  refine own_laload W1 1 (K 1) 12 d9_11 V_a1 rfl (by decide) rfl rfl ?_
  refine own_aloadN W1 13 d9_12 rfl rfl rfl ?_
  refine own_iconst W1 (1 : Int32) 14 d9_13 rfl rfl ?_
  refine own_laload W1 1 (Vv 1) 15 d9_14 V_a2 rfl (by decide) rfl rfl ?_
  refine own_callS W1 (A := [(.long (K 1)), (.long (Vv 1))]) (wt := 2) (pc' := 18) (st := [(.long (own_mix (K 0) (Vv 0)))]) d9_15 (wd35 hw) (wd36 hw) (wd5 hw) (wd37 hw) (by decide) (own_m10 l Z a0 hw [] h0 (K 1) (Vv 1)) all0 rfl pd_2 rfl (Nat.le_of_eq rfl) (by decide) (by decide) (by decide) (by decide) rfl ?_
  rintro T2 h2 _ W2 K2 P2 rfl
  rw [P2 rfl rfl] at W2
  show own_Go p e below C T2 (mkF m 18 #[.val (.ref a1), .val (.ref a2)] [(.long (own_mix (K 1) (Vv 1))), (.long (own_mix (K 0) (Vv 0)))])
  refine own_ladd W2 19 d9_18 rfl ?_
  refine own_aloadN W2 20 d9_19 rfl rfl rfl ?_
  refine own_iconst W2 (2 : Int32) 21 d9_20 rfl rfl ?_
  refine own_laload W2 2 (K 2) 22 d9_21 V_a1 rfl (by decide) rfl rfl ?_
  refine own_aloadN W2 23 d9_22 rfl rfl rfl ?_
  refine own_iconst W2 (2 : Int32) 24 d9_23 rfl rfl ?_
  refine own_laload W2 2 (Vv 2) 25 d9_24 V_a2 rfl (by decide) rfl rfl ?_
  refine own_callS W2 (A := [(.long (K 2)), (.long (Vv 2))]) (wt := 2) (pc' := 28) (st := [(.long ((own_mix (K 0) (Vv 0)) + (own_mix (K 1) (Vv 1))))]) d9_25 (wd35 hw) (wd36 hw) (wd5 hw) (wd37 hw) (by decide) (own_m10 l Z a0 hw [] h0 (K 2) (Vv 2)) all0 rfl pd_2 rfl (Nat.le_of_eq rfl) (by decide) (by decide) (by decide) (by decide) rfl ?_
  rintro T3 h3 _ W3 K3 P3 rfl
  rw [P3 rfl rfl] at W3
  show own_Go p e below C T3 (mkF m 28 #[.val (.ref a1), .val (.ref a2)] [(.long (own_mix (K 2) (Vv 2))), (.long ((own_mix (K 0) (Vv 0)) + (own_mix (K 1) (Vv 1))))])
  refine own_ladd W3 29 d9_28 rfl ?_
  refine own_aloadN W3 30 d9_29 rfl rfl rfl ?_
  refine own_iconst W3 (3 : Int32) 31 d9_30 rfl rfl ?_
  refine own_laload W3 3 (K 3) 32 d9_31 V_a1 rfl (by decide) rfl rfl ?_
  refine own_aloadN W3 33 d9_32 rfl rfl rfl ?_
  refine own_iconst W3 (3 : Int32) 34 d9_33 rfl rfl ?_
  refine own_laload W3 3 (Vv 3) 35 d9_34 V_a2 rfl (by decide) rfl rfl ?_
  refine own_callS W3 (A := [(.long (K 3)), (.long (Vv 3))]) (wt := 2) (pc' := 38) (st := [(.long (((own_mix (K 0) (Vv 0)) + (own_mix (K 1) (Vv 1))) + (own_mix (K 2) (Vv 2))))]) d9_35 (wd35 hw) (wd36 hw) (wd5 hw) (wd37 hw) (by decide) (own_m10 l Z a0 hw [] h0 (K 3) (Vv 3)) all0 rfl pd_2 rfl (Nat.le_of_eq rfl) (by decide) (by decide) (by decide) (by decide) rfl ?_
  rintro T4 h4 _ W4 K4 P4 rfl
  rw [P4 rfl rfl] at W4
  show own_Go p e below C T4 (mkF m 38 #[.val (.ref a1), .val (.ref a2)] [(.long (own_mix (K 3) (Vv 3))), (.long (((own_mix (K 0) (Vv 0)) + (own_mix (K 1) (Vv 1))) + (own_mix (K 2) (Vv 2))))])
  refine own_ladd W4 39 d9_38 rfl ?_
  refine own_aloadN W4 40 d9_39 rfl rfl rfl ?_
  refine own_iconst W4 (4 : Int32) 41 d9_40 rfl rfl ?_
  refine own_laload W4 4 (K 4) 42 d9_41 V_a1 rfl (by decide) rfl rfl ?_
  refine own_aloadN W4 43 d9_42 rfl rfl rfl ?_
  refine own_iconst W4 (4 : Int32) 44 d9_43 rfl rfl ?_
  refine own_laload W4 4 (Vv 4) 45 d9_44 V_a2 rfl (by decide) rfl rfl ?_
  refine own_callS W4 (A := [(.long (K 4)), (.long (Vv 4))]) (wt := 2) (pc' := 48) (st := [(.long ((((own_mix (K 0) (Vv 0)) + (own_mix (K 1) (Vv 1))) + (own_mix (K 2) (Vv 2))) + (own_mix (K 3) (Vv 3))))]) d9_45 (wd35 hw) (wd36 hw) (wd5 hw) (wd37 hw) (by decide) (own_m10 l Z a0 hw [] h0 (K 4) (Vv 4)) all0 rfl pd_2 rfl (Nat.le_of_eq rfl) (by decide) (by decide) (by decide) (by decide) rfl ?_
  rintro T5 h5 _ W5 K5 P5 rfl
  rw [P5 rfl rfl] at W5
  show own_Go p e below C T5 (mkF m 48 #[.val (.ref a1), .val (.ref a2)] [(.long (own_mix (K 4) (Vv 4))), (.long ((((own_mix (K 0) (Vv 0)) + (own_mix (K 1) (Vv 1))) + (own_mix (K 2) (Vv 2))) + (own_mix (K 3) (Vv 3))))])
  refine own_ladd W5 49 d9_48 rfl ?_
  refine own_aloadN W5 50 d9_49 rfl rfl rfl ?_
  refine own_iconst W5 (5 : Int32) 51 d9_50 rfl rfl ?_
  refine own_laload W5 5 (K 5) 52 d9_51 V_a1 rfl (by decide) rfl rfl ?_
  refine own_aloadN W5 53 d9_52 rfl rfl rfl ?_
  refine own_iconst W5 (5 : Int32) 54 d9_53 rfl rfl ?_
  refine own_laload W5 5 (Vv 5) 55 d9_54 V_a2 rfl (by decide) rfl rfl ?_
  refine own_callS W5 (A := [(.long (K 5)), (.long (Vv 5))]) (wt := 2) (pc' := 58) (st := [(.long (((((own_mix (K 0) (Vv 0)) + (own_mix (K 1) (Vv 1))) + (own_mix (K 2) (Vv 2))) + (own_mix (K 3) (Vv 3))) + (own_mix (K 4) (Vv 4))))]) d9_55 (wd35 hw) (wd36 hw) (wd5 hw) (wd37 hw) (by decide) (own_m10 l Z a0 hw [] h0 (K 5) (Vv 5)) all0 rfl pd_2 rfl (Nat.le_of_eq rfl) (by decide) (by decide) (by decide) (by decide) rfl ?_
  rintro T6 h6 _ W6 K6 P6 rfl
  rw [P6 rfl rfl] at W6
  show own_Go p e below C T6 (mkF m 58 #[.val (.ref a1), .val (.ref a2)] [(.long (own_mix (K 5) (Vv 5))), (.long (((((own_mix (K 0) (Vv 0)) + (own_mix (K 1) (Vv 1))) + (own_mix (K 2) (Vv 2))) + (own_mix (K 3) (Vv 3))) + (own_mix (K 4) (Vv 4))))])
  refine own_ladd W6 59 d9_58 rfl ?_
  refine own_aloadN W6 60 d9_59 rfl rfl rfl ?_
  refine own_bipush W6 (6 : Int32) 62 d9_60 rfl rfl ?_
  refine own_laload W6 6 (K 6) 63 d9_62 V_a1 rfl (by decide) rfl rfl ?_
  refine own_aloadN W6 64 d9_63 rfl rfl rfl ?_
  refine own_bipush W6 (6 : Int32) 66 d9_64 rfl rfl ?_
  refine own_laload W6 6 (Vv 6) 67 d9_66 V_a2 rfl (by decide) rfl rfl ?_
  refine own_callS W6 (A := [(.long (K 6)), (.long (Vv 6))]) (wt := 2) (pc' := 70) (st := [(.long ((((((own_mix (K 0) (Vv 0)) + (own_mix (K 1) (Vv 1))) + (own_mix (K 2) (Vv 2))) + (own_mix (K 3) (Vv 3))) + (own_mix (K 4) (Vv 4))) + (own_mix (K 5) (Vv 5))))]) d9_67 (wd35 hw) (wd36 hw) (wd5 hw) (wd37 hw) (by decide) (own_m10 l Z a0 hw [] h0 (K 6) (Vv 6)) all0 rfl pd_2 rfl (Nat.le_of_eq rfl) (by decide) (by decide) (by decide) (by decide) rfl ?_
  rintro T7 h7 _ W7 K7 P7 rfl
  rw [P7 rfl rfl] at W7
  show own_Go p e below C T7 (mkF m 70 #[.val (.ref a1), .val (.ref a2)] [(.long (own_mix (K 6) (Vv 6))), (.long ((((((own_mix (K 0) (Vv 0)) + (own_mix (K 1) (Vv 1))) + (own_mix (K 2) (Vv 2))) + (own_mix (K 3) (Vv 3))) + (own_mix (K 4) (Vv 4))) + (own_mix (K 5) (Vv 5))))])
  refine own_ladd W7 71 d9_70 rfl ?_
  refine own_retJ (Q := fun v h => v = some (.long (own_sM K Vv))) W7 hC (by decide) (by decide) d9_71 ?_
  exact rfl
def own_t7 (x0 x1 x2 x3 x4 x5 x6 : Int64) (j : Nat) : Int64 := if j = 0 then x0 else if j = 1 then x1 else if j = 2 then x2 else if j = 3 then x3 else if j = 4 then x4 else if j = 5 then x5 else x6
theorem own_lt7 {n : Nat} (h : n < 7) : n = 0 ∨ n = 1 ∨ n = 2 ∨ n = 3 ∨ n = 4 ∨ n = 5 ∨ n = 6 := by omega
theorem own_c7 (x0 x1 x2 x3 x4 x5 x6 : Int64) (j : Nat) (hj : j < 7) : own_upd (own_upd (own_upd (own_upd (own_upd (own_upd (own_upd (fun _ => defaultValue (newarray.typeOf .long)) 0 (.long x0)) 1 (.long x1)) 2 (.long x2)) 3 (.long x3)) 4 (.long x4)) 5 (.long x5)) 6 (.long x6) j = .long (own_t7 x0 x1 x2 x3 x4 x5 x6 j) := by
  rcases own_lt7 hj with rfl | rfl | rfl | rfl | rfl | rfl | rfl <;> rfl
theorem own_t7e (K : Nat → Int64) (j : Nat) (hj : j < 7) : own_t7 (K 0) (K 1) (K 2) (K 3) (K 4) (K 5) (K 6) j = K j := by
  rcases own_lt7 hj with rfl | rfl | rfl | rfl | rfl | rfl | rfl <;> rfl
theorem own_updc {F : Nat → Value} {g : Nat → Int64} {k : Nat} {v : Int64} {n : Nat} (h : ∀ j, j < n → F j = .long (g j)) (j : Nat) (hj : j < n) : own_upd F k (.long v) j = .long (own_upL g k v j) := by
  unfold own_upd own_upL
  split
  · rfl
  · exact h j hj
theorem own_cnt (p : Int32) : ∃ n : Nat, (p &&& (7 : Int32)).toInt = (n : Int) ∧ n < 8 := by
  have h1 := c_mask p 7 3 (by decide) (by decide)
  simp only [Nat.reducePow] at h1
  exact ⟨(p &&& 7).toInt.toNat, by omega, by omega⟩
theorem own_hole (p ct : Int32) (n : Nat) (hn : ct.toInt = (n : Int)) : ∃ hh : Nat, (if (((p.toUInt32 >>> ((3 : Int32) &&& 31).toUInt32).toInt32) &&& (3 : Int32)) = (3 : Int32) then (0 : Int32) else (if (((p.toUInt32 >>> ((3 : Int32) &&& 31).toUInt32).toInt32) &&& (3 : Int32)) < ct then (((p.toUInt32 >>> ((3 : Int32) &&& 31).toUInt32).toInt32) &&& (3 : Int32)) else (0 : Int32))).toInt = (hh : Int) ∧ hh ≤ 2 ∧ (hh < n ∨ hh = 0) := by
  have h1 := c_mask ((p.toUInt32 >>> ((3 : Int32) &&& 31).toUInt32).toInt32) 3 2 (by decide) (by decide)
  simp only [Nat.reducePow] at h1
  generalize ((p.toUInt32 >>> ((3 : Int32) &&& 31).toUInt32).toInt32) &&& (3 : Int32) = u at *
  by_cases h2 : u = (3 : Int32)
  · rw [if_pos h2]; exact ⟨0, rfl, by omega, Or.inr rfl⟩
  · rw [if_neg h2]
    have h4 : ¬ u.toInt = 3 := fun q => h2 (Int32.toInt_inj.mp q)
    by_cases h3 : u < ct
    · rw [if_pos h3]
      rw [Int32.lt_iff_toInt_lt] at h3
      exact ⟨u.toInt.toNat, by omega, by omega, Or.inl (by omega)⟩
    · rw [if_neg h3]; exact ⟨0, rfl, by omega, Or.inr rfl⟩
theorem own_o15 (q : Int64) : ∃ m : Nat, (q &&& (15 : Int64)).toInt32.toInt = (m : Int) ∧ m < 16 := by
  have h1 := c_maskL q 15 4 (by decide) (by decide)
  have h2 := c_l2i (q &&& 15)
  have h3 := rng32 (q &&& 15).toInt32
  simp only [Nat.reducePow] at h1
  exact ⟨(q &&& 15).toInt32.toInt.toNat, by omega, by omega⟩
theorem own_o7 (o : Int32) (q : Int64) (sh : Int32) (m : Nat) (h : o.toInt = (m : Int)) (hm : m < 24) : ∃ k : Nat, (o + (((q.toUInt64 >>> (sh &&& 0x3f).toInt64.toUInt64).toInt64) &&& (7 : Int64)).toInt32).toInt = (k : Int) ∧ m ≤ k ∧ k ≤ m + 7 := by
  generalize (q.toUInt64 >>> (sh &&& 0x3f).toInt64.toUInt64).toInt64 = u
  have h1 := c_maskL u 7 3 (by decide) (by decide)
  have h2 := c_l2i (u &&& 7)
  have h3 := rng32 (u &&& 7).toInt32
  have h4 := c_iadd o (u &&& 7).toInt32
  have h5 := rng32 (o + (u &&& 7).toInt32)
  simp only [Nat.reducePow] at h1
  exact ⟨(o + (u &&& 7).toInt32).toInt.toNat, by omega, by omega, by omega⟩
theorem own_mono32 : ∀ i j : Fin 32, i ≤ j → own_leP (own_key (Int32.ofNat i.val >>> ((2 : Int32) &&& 31))) (own_val (Int32.ofNat i.val &&& (3 : Int32))) (own_key (Int32.ofNat j.val >>> ((2 : Int32) &&& 31))) (own_val (Int32.ofNat j.val &&& (3 : Int32))) := by
  unfold own_leP
  decide +kernel
theorem own_mono (a b : Int32) (m n : Nat) (ha : a.toInt = (m : Int)) (hb : b.toInt = (n : Int)) (h : m ≤ n) (hn : n < 32) : own_leP (own_key (a >>> ((2 : Int32) &&& 31))) (own_val (a &&& (3 : Int32))) (own_key (b >>> ((2 : Int32) &&& 31))) (own_val (b &&& (3 : Int32))) := by
  rw [own_ofN ha (by omega), own_ofN hb (by omega)]
  exact own_mono32 ⟨m, by omega⟩ ⟨n, hn⟩ h
def own_rk (k v : Int64) : Int := k.toInt * 18446744073709551616 + v.toInt
theorem own_leR (k1 v1 k2 v2 : Int64) : own_leP k1 v1 k2 v2 ↔ own_rk k1 v1 ≤ own_rk k2 v2 := by
  unfold own_leP own_rk
  have r1 := rng64 v1
  have r2 := rng64 v2
  rw [Int64.lt_iff_toInt_lt, Int64.lt_iff_toInt_lt, ← Int64.toInt_inj]
  constructor
  · rintro (q | ⟨q, r⟩)
    · omega
    · omega
  · intro q
    rcases Int.lt_trichotomy k1.toInt k2.toInt with w | w | w
    · exact Or.inl w
    · exact Or.inr ⟨w, by omega⟩
    · exfalso; omega
theorem own_right (k1 v1 k2 v2 : Int64) : (k1 < k2 ∨ (k1 = k2 ∧ v1 < v2)) ↔ own_rk k1 v1 < own_rk k2 v2 := by
  unfold own_rk
  have r1 := rng64 v1
  have r2 := rng64 v2
  rw [Int64.lt_iff_toInt_lt, Int64.lt_iff_toInt_lt, ← Int64.toInt_inj]
  constructor
  · rintro (q | ⟨q, r⟩)
    · omega
    · omega
  · intro q
    rcases Int.lt_trichotomy k1.toInt k2.toInt with w | w | w
    · exact Or.inl w
    · exact Or.inr ⟨w, by omega⟩
    · exfalso; omega
theorem own_stop (k1 v1 k2 v2 : Int64) : (k1 < k2 ∨ (k2 = k1 ∧ ¬ v2 < v1)) ↔ own_rk k1 v1 ≤ own_rk k2 v2 := by
  rw [← own_leR, own_leP]
  constructor
  · rintro (q | ⟨q, r⟩)
    · exact Or.inl q
    · exact Or.inr ⟨q.symm, r⟩
  · rintro (q | ⟨q, r⟩)
    · exact Or.inl q
    · exact Or.inr ⟨q.symm, r⟩
def own_sub (i hh : Nat) : Prop := hh = 0 ∨ (hh = 1 ∧ (i = 1 ∨ i = 3 ∨ i = 4)) ∨ (hh = 2 ∧ (i = 2 ∨ i = 5 ∨ i = 6))
theorem own_inS2 {u hl : Int32} {i hh : Nat} (hhl : hl.toInt = (hh : Int)) (h2 : hh ≤ 2) (hu : u.toInt = (i : Int)) (hi : i < 7) (h : own_sub i hh) : ¬ own_inS u hl = (0 : Int32) := by
  rw [own_ofN hhl (by omega), own_ofN hu (by omega)]
  rcases h with rfl | ⟨rfl, rfl | rfl | rfl⟩ | ⟨rfl, rfl | rfl | rfl⟩
  · rw [own_inS, if_pos (show Int32.ofNat 0 = (0 : Int32) from rfl)]; decide
  all_goals (unfold own_inS; decide)
def own_Res (K V : Nat → Int64) (n hh : Nat) (S : (Nat → Int64) × (Nat → Int64)) : Prop :=
  (∀ p q : Nat, (p, q) ∈ [(0, 1), (0, 2), (1, 3), (1, 4), (2, 5), (2, 6)] → hh ≤ p → q < n → own_leP (S.1 p) (S.2 p) (S.1 q) (S.2 q)) ∧ (∀ i : Nat, i < 7 → ¬ (i < n ∧ own_sub i hh) → S.1 i = K i ∧ S.2 i = V i) ∧ own_sK S.1 = own_sK K ∧ own_sK S.2 = own_sK V ∧ own_sM S.1 S.2 = own_sM K V
set_option maxHeartbeats 400000000 in
theorem own_main (K V : Nat → Int64) (n hh : Nat) (hn : n ≤ 7) (h2 : hh ≤ 2) (hhn : hh < n ∨ hh = 0) (ord : ∀ p q : Nat, ((p = 1 ∧ (q = 3 ∨ q = 4)) ∨ (p = 2 ∧ (q = 5 ∨ q = 6))) → hh ≠ p → own_leP (K p) (V p) (K q) (V q)) :
    own_Res K V n hh (own_sift 7 K V n hh (K hh) (V hh)) := by
  have f13 : hh ≠ 1 → own_rk (K 1) (V 1) ≤ own_rk (K 3) (V 3) := fun h => (own_leR _ _ _ _).mp (ord 1 3 (by omega) h)
  have f14 : hh ≠ 1 → own_rk (K 1) (V 1) ≤ own_rk (K 4) (V 4) := fun h => (own_leR _ _ _ _).mp (ord 1 4 (by omega) h)
  have f25 : hh ≠ 2 → own_rk (K 2) (V 2) ≤ own_rk (K 5) (V 5) := fun h => (own_leR _ _ _ _).mp (ord 2 5 (by omega) h)
  have f26 : hh ≠ 2 → own_rk (K 2) (V 2) ≤ own_rk (K 6) (V 6) := fun h => (own_leR _ _ _ _).mp (ord 2 6 (by omega) h)
  clear ord
  obtain ⟨S, hS⟩ : ∃ S, S = own_sift 7 K V n hh (K hh) (V hh) := ⟨_, rfl⟩
  rw [← hS]
  rcases (show hh = 0 ∨ hh = 1 ∨ hh = 2 by omega) with rfl | rfl | rfl <;>
  rcases (show n = 0 ∨ n = 1 ∨ n = 2 ∨ n = 3 ∨ n = 4 ∨ n = 5 ∨ n = 6 ∨ n = 7 by omega) with rfl | rfl | rfl | rfl | rfl | rfl | rfl | rfl <;>
  first
  | (exfalso; omega)
  | (try replace f13 := f13 (by decide)
     try replace f14 := f14 (by decide)
     try replace f25 := f25 (by decide)
     try replace f26 := f26 (by decide)
     simp only [own_sift, own_right, own_stop, Nat.reduceMul, Nat.reduceAdd, Nat.reduceLT, false_and, true_and, if_false, if_true] at hS
     repeat' split at hS
     all_goals subst hS
     all_goals refine ⟨?_, ?_, ?_, ?_, ?_⟩
     all_goals first
       | (intro p q hm hp hq
          rw [own_leR]
          simp only [List.mem_cons, Prod.mk.injEq, List.not_mem_nil, or_false] at hm
          rcases hm with ⟨rfl, rfl⟩ | ⟨rfl, rfl⟩ | ⟨rfl, rfl⟩ | ⟨rfl, rfl⟩ | ⟨rfl, rfl⟩ | ⟨rfl, rfl⟩ <;> first | omega | (simp [own_upL]; omega) | (simp [own_upL] at *; omega))
       | (intro i hi hs
          rcases own_lt7 hi with rfl | rfl | rfl | rfl | rfl | rfl | rfl <;> simp [own_upL, own_sub] at hs ⊢)
       | (simp [own_sK, own_sM, own_upL]; done)
       | (simp [own_sK, own_sM, own_upL]; ac_rfl))

theorem ef_m0 (m : MethodId) (x0 : Int64) (x1 : Int64) (x2 : Int64) (x3 : Int32) : entryFrame m #[(.long x0), (.long x1), (.long x2), (.int x3)] maxLocals = mkF m 0 #[.val (.long x0), .second, .val (.long x1), .second, .val (.long x2), .second, .val (.int x3), .unset, .unset, .unset, .unset, .unset, .unset, .unset, .unset, .unset, .unset, .unset, .unset, .unset, .unset, .unset, .unset, .unset, .unset, .unset, .unset] [] := by first | (simp [entryFrame, mkF, argsToLocals, Value.category, maxLocals]; done) | rfl
set_option maxRecDepth 65536 in
set_option maxHeartbeats 40000000 in
theorem own_m0c (l : Launch) (Z : State) (a0 : Array Value) (hw : ∀ d ∈ tables_1, d.before a0 Z = true) (h0 : Heap) (q1 : Int64) (q2 : Int64) (q3 : Int64) (p4 : Int32) (p : Program) (e : Env) (s : State) (m : MethodId) (below : List Frame) (meth : Method) (c : Code) (C : Outcome → State → Prop) (hC : ∀ v L u, own_Fw s [] L → (v = some (.int (1 : Int32))) → FrameEnd s (.returned v) u L room_1.cells room_1.slots → C (.returned v) u) (T : State) (h : Heap) (b d kc vc : Addr) (K Vv : Nat → Int64) (S : (Nat → Int64) × (Nat → Int64)) (n hh : Nat) (ct hl o0 o1 o2 o3 o4 o5 o6 : Int32) (hk hv : Int64) (W : own_W p l e room_1 s m #[(.long q1), (.long q2), (.long q3), (.int p4)] below meth c Z x ret code maxLocals [] T h (0 + 1 + 0 + 0 + 0 + 0 + 0 + 0 + 0 + 1 + 0 + 0 + 0 + 0 + 0 + 0 + 0 + 1 + 1 + 0) (0 + 7 + 0 + 0 + 0 + 0 + 0 + 0 + 0 + 7 + 0 + 0 + 0 + 0 + 0 + 0 + 0 + 7 + 7 + 0)) (V_b : own_A Z h b .long 7 (fun j => .long (S.1 j))) (V_d : own_A Z h d .long 7 (fun j => .long (S.2 j))) (V_kc : own_A Z h kc .long 7 (fun j => .long (K j))) (V_vc : own_A Z h vc .long 7 (fun j => .long (Vv j))) (hn : ct.toInt = (n : Int)) (hn8 : n < 8) (hhl : hl.toInt = (hh : Int)) (hh2 : hh ≤ 2) (ME : ∀ p q : Nat, (p, q) ∈ [(0, 1), (0, 2), (1, 3), (1, 4), (2, 5), (2, 6)] → hh ≤ p → q < n → own_leP (S.1 p) (S.2 p) (S.1 q) (S.2 q)) (MK : ∀ i : Nat, i < 7 → ¬ (i < n ∧ own_sub i hh) → S.1 i = K i ∧ S.2 i = Vv i) (MS1 : own_sK S.1 = own_sK K) (MS2 : own_sK S.2 = own_sK Vv) (MS3 : own_sM S.1 S.2 = own_sM K Vv) :
    own_Go p e below C T (mkF m 459 #[.val (.long q1), .second, .val (.long q2), .second, .val (.long q3), .second, .val (.int p4), .val (.int ct), .val (.int hl), .val (.int o0), .val (.int o1), .val (.int o2), .val (.int o3), .val (.int o4), .val (.int o5), .val (.int o6), .val (.ref b), .val (.ref d), .val (.long hk), .second, .val (.long hv), .second, .val (.ref kc), .val (.ref vc), .unset, .unset, .unset] []) := by
  refine own_aload W 461 at_459 rfl rfl rfl ?_
  refine own_aload W 463 at_461 rfl rfl rfl ?_
  refine own_iconst W (0 : Int32) 464 at_463 rfl rfl ?_
  refine own_iconst W (1 : Int32) 465 at_464 rfl rfl ?_
  refine own_iload W 467 at_465 rfl rfl ?_
  refine own_iload W 469 at_467 rfl rfl ?_
  refine own_callS W (A := [(.ref b), (.ref d), (.int (0 : Int32)), (.int (1 : Int32)), (.int ct), (.int hl)]) (wt := 0) (pc' := 472) (st := []) at_469 (wd17 hw) (wd18 hw) (wd5 hw) (wd19 hw) (by decide) (own_m4 l Z a0 hw [] h b d (0 : Int32) (1 : Int32) ct hl S.1 S.2 0 1 V_b V_d rfl rfl (by decide) (by decide) (fun r1 r2 => ME 0 1 (by decide) (by have r3 := mt (own_ltN (i := 0) rfl hhl).mpr r1; omega) ((own_ltN (i := 1) rfl hn).mp r2))) all0 rfl pd_5 rfl (Nat.le_of_eq rfl) (by decide) (by decide) (by decide) (by decide) rfl ?_
  rintro T4054 h4054 _ W4054 K4054 P4054 rfl
  rw [P4054 rfl rfl] at W4054
  show own_Go p e below C T4054 (mkF m 472 #[.val (.long q1), .second, .val (.long q2), .second, .val (.long q3), .second, .val (.int p4), .val (.int ct), .val (.int hl), .val (.int o0), .val (.int o1), .val (.int o2), .val (.int o3), .val (.int o4), .val (.int o5), .val (.int o6), .val (.ref b), .val (.ref d), .val (.long hk), .second, .val (.long hv), .second, .val (.ref kc), .val (.ref vc), .unset, .unset, .unset] [(.int (1 : Int32))])
  refine own_ifN W4054 475 at_472 ((if0 _ _).trans (feq (by decide : ¬ ((1 : Int32) = (0 : Int32)))).1) rfl ?_
  refine own_aload W4054 477 at_475 rfl rfl rfl ?_
  refine own_aload W4054 479 at_477 rfl rfl rfl ?_
  refine own_iconst W4054 (0 : Int32) 480 at_479 rfl rfl ?_
  refine own_iconst W4054 (2 : Int32) 481 at_480 rfl rfl ?_
  refine own_iload W4054 483 at_481 rfl rfl ?_
  refine own_iload W4054 485 at_483 rfl rfl ?_
  refine own_callS W4054 (A := [(.ref b), (.ref d), (.int (0 : Int32)), (.int (2 : Int32)), (.int ct), (.int hl)]) (wt := 0) (pc' := 488) (st := []) at_485 (wd17 hw) (wd18 hw) (wd5 hw) (wd19 hw) (by decide) (own_m4 l Z a0 hw [] h b d (0 : Int32) (2 : Int32) ct hl S.1 S.2 0 2 V_b V_d rfl rfl (by decide) (by decide) (fun r1 r2 => ME 0 2 (by decide) (by have r3 := mt (own_ltN (i := 0) rfl hhl).mpr r1; omega) ((own_ltN (i := 2) rfl hn).mp r2))) all0 rfl pd_5 rfl (Nat.le_of_eq rfl) (by decide) (by decide) (by decide) (by decide) rfl ?_
  rintro T4055 h4055 _ W4055 K4055 P4055 rfl
  rw [P4055 rfl rfl] at W4055
  show own_Go p e below C T4055 (mkF m 488 #[.val (.long q1), .second, .val (.long q2), .second, .val (.long q3), .second, .val (.int p4), .val (.int ct), .val (.int hl), .val (.int o0), .val (.int o1), .val (.int o2), .val (.int o3), .val (.int o4), .val (.int o5), .val (.int o6), .val (.ref b), .val (.ref d), .val (.long hk), .second, .val (.long hv), .second, .val (.ref kc), .val (.ref vc), .unset, .unset, .unset] [(.int (1 : Int32))])
  refine own_ifN W4055 491 at_488 ((if0 _ _).trans (feq (by decide : ¬ ((1 : Int32) = (0 : Int32)))).1) rfl ?_
  refine own_aload W4055 493 at_491 rfl rfl rfl ?_
  refine own_aload W4055 495 at_493 rfl rfl rfl ?_
  refine own_iconst W4055 (1 : Int32) 496 at_495 rfl rfl ?_
  refine own_iconst W4055 (3 : Int32) 497 at_496 rfl rfl ?_
  refine own_iload W4055 499 at_497 rfl rfl ?_
  refine own_iload W4055 501 at_499 rfl rfl ?_
  refine own_callS W4055 (A := [(.ref b), (.ref d), (.int (1 : Int32)), (.int (3 : Int32)), (.int ct), (.int hl)]) (wt := 0) (pc' := 504) (st := []) at_501 (wd17 hw) (wd18 hw) (wd5 hw) (wd19 hw) (by decide) (own_m4 l Z a0 hw [] h b d (1 : Int32) (3 : Int32) ct hl S.1 S.2 1 3 V_b V_d rfl rfl (by decide) (by decide) (fun r1 r2 => ME 1 3 (by decide) (by have r3 := mt (own_ltN (i := 1) rfl hhl).mpr r1; omega) ((own_ltN (i := 3) rfl hn).mp r2))) all0 rfl pd_5 rfl (Nat.le_of_eq rfl) (by decide) (by decide) (by decide) (by decide) rfl ?_
  rintro T4056 h4056 _ W4056 K4056 P4056 rfl
  rw [P4056 rfl rfl] at W4056
  show own_Go p e below C T4056 (mkF m 504 #[.val (.long q1), .second, .val (.long q2), .second, .val (.long q3), .second, .val (.int p4), .val (.int ct), .val (.int hl), .val (.int o0), .val (.int o1), .val (.int o2), .val (.int o3), .val (.int o4), .val (.int o5), .val (.int o6), .val (.ref b), .val (.ref d), .val (.long hk), .second, .val (.long hv), .second, .val (.ref kc), .val (.ref vc), .unset, .unset, .unset] [(.int (1 : Int32))])
  refine own_ifN W4056 507 at_504 ((if0 _ _).trans (feq (by decide : ¬ ((1 : Int32) = (0 : Int32)))).1) rfl ?_
  refine own_aload W4056 509 at_507 rfl rfl rfl ?_
  refine own_aload W4056 511 at_509 rfl rfl rfl ?_
  refine own_iconst W4056 (1 : Int32) 512 at_511 rfl rfl ?_
  refine own_iconst W4056 (4 : Int32) 513 at_512 rfl rfl ?_
  refine own_iload W4056 515 at_513 rfl rfl ?_
  refine own_iload W4056 517 at_515 rfl rfl ?_
  refine own_callS W4056 (A := [(.ref b), (.ref d), (.int (1 : Int32)), (.int (4 : Int32)), (.int ct), (.int hl)]) (wt := 0) (pc' := 520) (st := []) at_517 (wd17 hw) (wd18 hw) (wd5 hw) (wd19 hw) (by decide) (own_m4 l Z a0 hw [] h b d (1 : Int32) (4 : Int32) ct hl S.1 S.2 1 4 V_b V_d rfl rfl (by decide) (by decide) (fun r1 r2 => ME 1 4 (by decide) (by have r3 := mt (own_ltN (i := 1) rfl hhl).mpr r1; omega) ((own_ltN (i := 4) rfl hn).mp r2))) all0 rfl pd_5 rfl (Nat.le_of_eq rfl) (by decide) (by decide) (by decide) (by decide) rfl ?_
  rintro T4057 h4057 _ W4057 K4057 P4057 rfl
  rw [P4057 rfl rfl] at W4057
  show own_Go p e below C T4057 (mkF m 520 #[.val (.long q1), .second, .val (.long q2), .second, .val (.long q3), .second, .val (.int p4), .val (.int ct), .val (.int hl), .val (.int o0), .val (.int o1), .val (.int o2), .val (.int o3), .val (.int o4), .val (.int o5), .val (.int o6), .val (.ref b), .val (.ref d), .val (.long hk), .second, .val (.long hv), .second, .val (.ref kc), .val (.ref vc), .unset, .unset, .unset] [(.int (1 : Int32))])
  refine own_ifN W4057 523 at_520 ((if0 _ _).trans (feq (by decide : ¬ ((1 : Int32) = (0 : Int32)))).1) rfl ?_
  refine own_aload W4057 525 at_523 rfl rfl rfl ?_
  refine own_aload W4057 527 at_525 rfl rfl rfl ?_
  refine own_iconst W4057 (2 : Int32) 528 at_527 rfl rfl ?_
  refine own_iconst W4057 (5 : Int32) 529 at_528 rfl rfl ?_
  refine own_iload W4057 531 at_529 rfl rfl ?_
  refine own_iload W4057 533 at_531 rfl rfl ?_
  refine own_callS W4057 (A := [(.ref b), (.ref d), (.int (2 : Int32)), (.int (5 : Int32)), (.int ct), (.int hl)]) (wt := 0) (pc' := 536) (st := []) at_533 (wd17 hw) (wd18 hw) (wd5 hw) (wd19 hw) (by decide) (own_m4 l Z a0 hw [] h b d (2 : Int32) (5 : Int32) ct hl S.1 S.2 2 5 V_b V_d rfl rfl (by decide) (by decide) (fun r1 r2 => ME 2 5 (by decide) (by have r3 := mt (own_ltN (i := 2) rfl hhl).mpr r1; omega) ((own_ltN (i := 5) rfl hn).mp r2))) all0 rfl pd_5 rfl (Nat.le_of_eq rfl) (by decide) (by decide) (by decide) (by decide) rfl ?_
  rintro T4058 h4058 _ W4058 K4058 P4058 rfl
  rw [P4058 rfl rfl] at W4058
  show own_Go p e below C T4058 (mkF m 536 #[.val (.long q1), .second, .val (.long q2), .second, .val (.long q3), .second, .val (.int p4), .val (.int ct), .val (.int hl), .val (.int o0), .val (.int o1), .val (.int o2), .val (.int o3), .val (.int o4), .val (.int o5), .val (.int o6), .val (.ref b), .val (.ref d), .val (.long hk), .second, .val (.long hv), .second, .val (.ref kc), .val (.ref vc), .unset, .unset, .unset] [(.int (1 : Int32))])
  refine own_ifN W4058 539 at_536 ((if0 _ _).trans (feq (by decide : ¬ ((1 : Int32) = (0 : Int32)))).1) rfl ?_
  refine own_aload W4058 541 at_539 rfl rfl rfl ?_
  refine own_aload W4058 543 at_541 rfl rfl rfl ?_
  refine own_iconst W4058 (2 : Int32) 544 at_543 rfl rfl ?_
  refine own_bipush W4058 (6 : Int32) 546 at_544 rfl rfl ?_
  refine own_iload W4058 548 at_546 rfl rfl ?_
  refine own_iload W4058 550 at_548 rfl rfl ?_
  refine own_callS W4058 (A := [(.ref b), (.ref d), (.int (2 : Int32)), (.int (6 : Int32)), (.int ct), (.int hl)]) (wt := 0) (pc' := 553) (st := []) at_550 (wd17 hw) (wd18 hw) (wd5 hw) (wd19 hw) (by decide) (own_m4 l Z a0 hw [] h b d (2 : Int32) (6 : Int32) ct hl S.1 S.2 2 6 V_b V_d rfl rfl (by decide) (by decide) (fun r1 r2 => ME 2 6 (by decide) (by have r3 := mt (own_ltN (i := 2) rfl hhl).mpr r1; omega) ((own_ltN (i := 6) rfl hn).mp r2))) all0 rfl pd_5 rfl (Nat.le_of_eq rfl) (by decide) (by decide) (by decide) (by decide) rfl ?_
  rintro T4059 h4059 _ W4059 K4059 P4059 rfl
  rw [P4059 rfl rfl] at W4059
  show own_Go p e below C T4059 (mkF m 553 #[.val (.long q1), .second, .val (.long q2), .second, .val (.long q3), .second, .val (.int p4), .val (.int ct), .val (.int hl), .val (.int o0), .val (.int o1), .val (.int o2), .val (.int o3), .val (.int o4), .val (.int o5), .val (.int o6), .val (.ref b), .val (.ref d), .val (.long hk), .second, .val (.long hv), .second, .val (.ref kc), .val (.ref vc), .unset, .unset, .unset] [(.int (1 : Int32))])
  refine own_ifN W4059 556 at_553 ((if0 _ _).trans (feq (by decide : ¬ ((1 : Int32) = (0 : Int32)))).1) rfl ?_
  refine own_iconst W4059 (1 : Int32) 557 at_556 rfl rfl ?_
  refine own_goto W4059 561 at_557 (by decide) (by decide) ?_
  refine own_istore W4059 563 #[.val (.long q1), .second, .val (.long q2), .second, .val (.long q3), .second, .val (.int p4), .val (.int ct), .val (.int hl), .val (.int o0), .val (.int o1), .val (.int o2), .val (.int o3), .val (.int o4), .val (.int o5), .val (.int o6), .val (.ref b), .val (.ref d), .val (.long hk), .second, .val (.long hv), .second, .val (.ref kc), .val (.ref vc), .val (.int (1 : Int32)), .unset, .unset] at_561 rfl rfl ?_
  refine own_aload W4059 565 at_563 rfl rfl rfl ?_
  refine own_aload W4059 567 at_565 rfl rfl rfl ?_
  refine own_aload W4059 569 at_567 rfl rfl rfl ?_
  refine own_aload W4059 571 at_569 rfl rfl rfl ?_
  refine own_iconst W4059 (0 : Int32) 572 at_571 rfl rfl ?_
  refine own_iload W4059 574 at_572 rfl rfl ?_
  refine own_iload W4059 576 at_574 rfl rfl ?_
  refine own_callS W4059 (A := [(.ref b), (.ref d), (.ref kc), (.ref vc), (.int (0 : Int32)), (.int ct), (.int hl)]) (wt := 0) (pc' := 579) (st := []) at_576 (wd23 hw) (wd24 hw) (wd5 hw) (wd25 hw) (by decide) (own_m6 l Z a0 hw [] h b d kc vc (0 : Int32) ct hl S.1 S.2 K Vv 0 V_b V_d V_kc V_vc rfl (by decide) (fun r => MK 0 (by decide) (fun r2 => r ⟨(own_ltN (i := 0) rfl hn).mpr r2.1, own_inS2 (i := 0) hhl hh2 rfl (by decide) r2.2⟩))) all0 rfl pd_6 rfl (Nat.le_of_eq rfl) (by decide) (by decide) (by decide) (by decide) rfl ?_
  rintro T4060 h4060 _ W4060 K4060 P4060 rfl
  rw [P4060 rfl rfl] at W4060
  show own_Go p e below C T4060 (mkF m 579 #[.val (.long q1), .second, .val (.long q2), .second, .val (.long q3), .second, .val (.int p4), .val (.int ct), .val (.int hl), .val (.int o0), .val (.int o1), .val (.int o2), .val (.int o3), .val (.int o4), .val (.int o5), .val (.int o6), .val (.ref b), .val (.ref d), .val (.long hk), .second, .val (.long hv), .second, .val (.ref kc), .val (.ref vc), .val (.int (1 : Int32)), .unset, .unset] [(.int (1 : Int32))])
  refine own_ifN W4060 582 at_579 ((if0 _ _).trans (feq (by decide : ¬ ((1 : Int32) = (0 : Int32)))).1) rfl ?_
  refine own_aload W4060 584 at_582 rfl rfl rfl ?_
  refine own_aload W4060 586 at_584 rfl rfl rfl ?_
  refine own_aload W4060 588 at_586 rfl rfl rfl ?_
  refine own_aload W4060 590 at_588 rfl rfl rfl ?_
  refine own_iconst W4060 (1 : Int32) 591 at_590 rfl rfl ?_
  refine own_iload W4060 593 at_591 rfl rfl ?_
  refine own_iload W4060 595 at_593 rfl rfl ?_
  refine own_callS W4060 (A := [(.ref b), (.ref d), (.ref kc), (.ref vc), (.int (1 : Int32)), (.int ct), (.int hl)]) (wt := 0) (pc' := 598) (st := []) at_595 (wd23 hw) (wd24 hw) (wd5 hw) (wd25 hw) (by decide) (own_m6 l Z a0 hw [] h b d kc vc (1 : Int32) ct hl S.1 S.2 K Vv 1 V_b V_d V_kc V_vc rfl (by decide) (fun r => MK 1 (by decide) (fun r2 => r ⟨(own_ltN (i := 1) rfl hn).mpr r2.1, own_inS2 (i := 1) hhl hh2 rfl (by decide) r2.2⟩))) all0 rfl pd_6 rfl (Nat.le_of_eq rfl) (by decide) (by decide) (by decide) (by decide) rfl ?_
  rintro T4061 h4061 _ W4061 K4061 P4061 rfl
  rw [P4061 rfl rfl] at W4061
  show own_Go p e below C T4061 (mkF m 598 #[.val (.long q1), .second, .val (.long q2), .second, .val (.long q3), .second, .val (.int p4), .val (.int ct), .val (.int hl), .val (.int o0), .val (.int o1), .val (.int o2), .val (.int o3), .val (.int o4), .val (.int o5), .val (.int o6), .val (.ref b), .val (.ref d), .val (.long hk), .second, .val (.long hv), .second, .val (.ref kc), .val (.ref vc), .val (.int (1 : Int32)), .unset, .unset] [(.int (1 : Int32))])
  refine own_ifN W4061 601 at_598 ((if0 _ _).trans (feq (by decide : ¬ ((1 : Int32) = (0 : Int32)))).1) rfl ?_
  refine own_aload W4061 603 at_601 rfl rfl rfl ?_
  refine own_aload W4061 605 at_603 rfl rfl rfl ?_
  refine own_aload W4061 607 at_605 rfl rfl rfl ?_
  refine own_aload W4061 609 at_607 rfl rfl rfl ?_
  refine own_iconst W4061 (2 : Int32) 610 at_609 rfl rfl ?_
  refine own_iload W4061 612 at_610 rfl rfl ?_
  refine own_iload W4061 614 at_612 rfl rfl ?_
  refine own_callS W4061 (A := [(.ref b), (.ref d), (.ref kc), (.ref vc), (.int (2 : Int32)), (.int ct), (.int hl)]) (wt := 0) (pc' := 617) (st := []) at_614 (wd23 hw) (wd24 hw) (wd5 hw) (wd25 hw) (by decide) (own_m6 l Z a0 hw [] h b d kc vc (2 : Int32) ct hl S.1 S.2 K Vv 2 V_b V_d V_kc V_vc rfl (by decide) (fun r => MK 2 (by decide) (fun r2 => r ⟨(own_ltN (i := 2) rfl hn).mpr r2.1, own_inS2 (i := 2) hhl hh2 rfl (by decide) r2.2⟩))) all0 rfl pd_6 rfl (Nat.le_of_eq rfl) (by decide) (by decide) (by decide) (by decide) rfl ?_
  rintro T4062 h4062 _ W4062 K4062 P4062 rfl
  rw [P4062 rfl rfl] at W4062
  show own_Go p e below C T4062 (mkF m 617 #[.val (.long q1), .second, .val (.long q2), .second, .val (.long q3), .second, .val (.int p4), .val (.int ct), .val (.int hl), .val (.int o0), .val (.int o1), .val (.int o2), .val (.int o3), .val (.int o4), .val (.int o5), .val (.int o6), .val (.ref b), .val (.ref d), .val (.long hk), .second, .val (.long hv), .second, .val (.ref kc), .val (.ref vc), .val (.int (1 : Int32)), .unset, .unset] [(.int (1 : Int32))])
  refine own_ifN W4062 620 at_617 ((if0 _ _).trans (feq (by decide : ¬ ((1 : Int32) = (0 : Int32)))).1) rfl ?_
  refine own_aload W4062 622 at_620 rfl rfl rfl ?_
  refine own_aload W4062 624 at_622 rfl rfl rfl ?_
  refine own_aload W4062 626 at_624 rfl rfl rfl ?_
  refine own_aload W4062 628 at_626 rfl rfl rfl ?_
  refine own_iconst W4062 (3 : Int32) 629 at_628 rfl rfl ?_
  refine own_iload W4062 631 at_629 rfl rfl ?_
  refine own_iload W4062 633 at_631 rfl rfl ?_
  refine own_callS W4062 (A := [(.ref b), (.ref d), (.ref kc), (.ref vc), (.int (3 : Int32)), (.int ct), (.int hl)]) (wt := 0) (pc' := 636) (st := []) at_633 (wd23 hw) (wd24 hw) (wd5 hw) (wd25 hw) (by decide) (own_m6 l Z a0 hw [] h b d kc vc (3 : Int32) ct hl S.1 S.2 K Vv 3 V_b V_d V_kc V_vc rfl (by decide) (fun r => MK 3 (by decide) (fun r2 => r ⟨(own_ltN (i := 3) rfl hn).mpr r2.1, own_inS2 (i := 3) hhl hh2 rfl (by decide) r2.2⟩))) all0 rfl pd_6 rfl (Nat.le_of_eq rfl) (by decide) (by decide) (by decide) (by decide) rfl ?_
  rintro T4063 h4063 _ W4063 K4063 P4063 rfl
  rw [P4063 rfl rfl] at W4063
  show own_Go p e below C T4063 (mkF m 636 #[.val (.long q1), .second, .val (.long q2), .second, .val (.long q3), .second, .val (.int p4), .val (.int ct), .val (.int hl), .val (.int o0), .val (.int o1), .val (.int o2), .val (.int o3), .val (.int o4), .val (.int o5), .val (.int o6), .val (.ref b), .val (.ref d), .val (.long hk), .second, .val (.long hv), .second, .val (.ref kc), .val (.ref vc), .val (.int (1 : Int32)), .unset, .unset] [(.int (1 : Int32))])
  refine own_ifN W4063 639 at_636 ((if0 _ _).trans (feq (by decide : ¬ ((1 : Int32) = (0 : Int32)))).1) rfl ?_
  refine own_aload W4063 641 at_639 rfl rfl rfl ?_
  refine own_aload W4063 643 at_641 rfl rfl rfl ?_
  refine own_aload W4063 645 at_643 rfl rfl rfl ?_
  refine own_aload W4063 647 at_645 rfl rfl rfl ?_
  refine own_iconst W4063 (4 : Int32) 648 at_647 rfl rfl ?_
  refine own_iload W4063 650 at_648 rfl rfl ?_
  refine own_iload W4063 652 at_650 rfl rfl ?_
  refine own_callS W4063 (A := [(.ref b), (.ref d), (.ref kc), (.ref vc), (.int (4 : Int32)), (.int ct), (.int hl)]) (wt := 0) (pc' := 655) (st := []) at_652 (wd23 hw) (wd24 hw) (wd5 hw) (wd25 hw) (by decide) (own_m6 l Z a0 hw [] h b d kc vc (4 : Int32) ct hl S.1 S.2 K Vv 4 V_b V_d V_kc V_vc rfl (by decide) (fun r => MK 4 (by decide) (fun r2 => r ⟨(own_ltN (i := 4) rfl hn).mpr r2.1, own_inS2 (i := 4) hhl hh2 rfl (by decide) r2.2⟩))) all0 rfl pd_6 rfl (Nat.le_of_eq rfl) (by decide) (by decide) (by decide) (by decide) rfl ?_
  rintro T4064 h4064 _ W4064 K4064 P4064 rfl
  rw [P4064 rfl rfl] at W4064
  show own_Go p e below C T4064 (mkF m 655 #[.val (.long q1), .second, .val (.long q2), .second, .val (.long q3), .second, .val (.int p4), .val (.int ct), .val (.int hl), .val (.int o0), .val (.int o1), .val (.int o2), .val (.int o3), .val (.int o4), .val (.int o5), .val (.int o6), .val (.ref b), .val (.ref d), .val (.long hk), .second, .val (.long hv), .second, .val (.ref kc), .val (.ref vc), .val (.int (1 : Int32)), .unset, .unset] [(.int (1 : Int32))])
  refine own_ifN W4064 658 at_655 ((if0 _ _).trans (feq (by decide : ¬ ((1 : Int32) = (0 : Int32)))).1) rfl ?_
  refine own_aload W4064 660 at_658 rfl rfl rfl ?_
  refine own_aload W4064 662 at_660 rfl rfl rfl ?_
  refine own_aload W4064 664 at_662 rfl rfl rfl ?_
  refine own_aload W4064 666 at_664 rfl rfl rfl ?_
  refine own_iconst W4064 (5 : Int32) 667 at_666 rfl rfl ?_
  refine own_iload W4064 669 at_667 rfl rfl ?_
  refine own_iload W4064 671 at_669 rfl rfl ?_
  refine own_callS W4064 (A := [(.ref b), (.ref d), (.ref kc), (.ref vc), (.int (5 : Int32)), (.int ct), (.int hl)]) (wt := 0) (pc' := 674) (st := []) at_671 (wd23 hw) (wd24 hw) (wd5 hw) (wd25 hw) (by decide) (own_m6 l Z a0 hw [] h b d kc vc (5 : Int32) ct hl S.1 S.2 K Vv 5 V_b V_d V_kc V_vc rfl (by decide) (fun r => MK 5 (by decide) (fun r2 => r ⟨(own_ltN (i := 5) rfl hn).mpr r2.1, own_inS2 (i := 5) hhl hh2 rfl (by decide) r2.2⟩))) all0 rfl pd_6 rfl (Nat.le_of_eq rfl) (by decide) (by decide) (by decide) (by decide) rfl ?_
  rintro T4065 h4065 _ W4065 K4065 P4065 rfl
  rw [P4065 rfl rfl] at W4065
  show own_Go p e below C T4065 (mkF m 674 #[.val (.long q1), .second, .val (.long q2), .second, .val (.long q3), .second, .val (.int p4), .val (.int ct), .val (.int hl), .val (.int o0), .val (.int o1), .val (.int o2), .val (.int o3), .val (.int o4), .val (.int o5), .val (.int o6), .val (.ref b), .val (.ref d), .val (.long hk), .second, .val (.long hv), .second, .val (.ref kc), .val (.ref vc), .val (.int (1 : Int32)), .unset, .unset] [(.int (1 : Int32))])
  refine own_ifN W4065 677 at_674 ((if0 _ _).trans (feq (by decide : ¬ ((1 : Int32) = (0 : Int32)))).1) rfl ?_
  refine own_aload W4065 679 at_677 rfl rfl rfl ?_
  refine own_aload W4065 681 at_679 rfl rfl rfl ?_
  refine own_aload W4065 683 at_681 rfl rfl rfl ?_
  refine own_aload W4065 685 at_683 rfl rfl rfl ?_
  refine own_bipush W4065 (6 : Int32) 687 at_685 rfl rfl ?_
  refine own_iload W4065 689 at_687 rfl rfl ?_
  refine own_iload W4065 691 at_689 rfl rfl ?_
  refine own_callS W4065 (A := [(.ref b), (.ref d), (.ref kc), (.ref vc), (.int (6 : Int32)), (.int ct), (.int hl)]) (wt := 0) (pc' := 694) (st := []) at_691 (wd23 hw) (wd24 hw) (wd5 hw) (wd25 hw) (by decide) (own_m6 l Z a0 hw [] h b d kc vc (6 : Int32) ct hl S.1 S.2 K Vv 6 V_b V_d V_kc V_vc rfl (by decide) (fun r => MK 6 (by decide) (fun r2 => r ⟨(own_ltN (i := 6) rfl hn).mpr r2.1, own_inS2 (i := 6) hhl hh2 rfl (by decide) r2.2⟩))) all0 rfl pd_6 rfl (Nat.le_of_eq rfl) (by decide) (by decide) (by decide) (by decide) rfl ?_
  rintro T4066 h4066 _ W4066 K4066 P4066 rfl
  rw [P4066 rfl rfl] at W4066
  show own_Go p e below C T4066 (mkF m 694 #[.val (.long q1), .second, .val (.long q2), .second, .val (.long q3), .second, .val (.int p4), .val (.int ct), .val (.int hl), .val (.int o0), .val (.int o1), .val (.int o2), .val (.int o3), .val (.int o4), .val (.int o5), .val (.int o6), .val (.ref b), .val (.ref d), .val (.long hk), .second, .val (.long hv), .second, .val (.ref kc), .val (.ref vc), .val (.int (1 : Int32)), .unset, .unset] [(.int (1 : Int32))])
  refine own_ifN W4066 697 at_694 ((if0 _ _).trans (feq (by decide : ¬ ((1 : Int32) = (0 : Int32)))).1) rfl ?_
  refine own_iconst W4066 (1 : Int32) 698 at_697 rfl rfl ?_
  refine own_goto W4066 702 at_698 (by decide) (by decide) ?_
  refine own_istore W4066 704 #[.val (.long q1), .second, .val (.long q2), .second, .val (.long q3), .second, .val (.int p4), .val (.int ct), .val (.int hl), .val (.int o0), .val (.int o1), .val (.int o2), .val (.int o3), .val (.int o4), .val (.int o5), .val (.int o6), .val (.ref b), .val (.ref d), .val (.long hk), .second, .val (.long hv), .second, .val (.ref kc), .val (.ref vc), .val (.int (1 : Int32)), .val (.int (1 : Int32)), .unset] at_702 rfl rfl ?_
  refine own_aload W4066 706 at_704 rfl rfl rfl ?_
  refine own_callS W4066 (A := [(.ref b)]) (wt := 0) (pc' := 709) (st := []) at_706 (wd29 hw) (wd30 hw) (wd5 hw) (wd31 hw) (by decide) (own_m8 l Z a0 hw [] h b S.1 V_b) all0 rfl pd_7 rfl (Nat.le_of_eq rfl) (by decide) (by decide) (by decide) (by decide) rfl ?_
  rintro T4067 h4067 _ W4067 K4067 P4067 rfl
  rw [P4067 rfl rfl] at W4067
  show own_Go p e below C T4067 (mkF m 709 #[.val (.long q1), .second, .val (.long q2), .second, .val (.long q3), .second, .val (.int p4), .val (.int ct), .val (.int hl), .val (.int o0), .val (.int o1), .val (.int o2), .val (.int o3), .val (.int o4), .val (.int o5), .val (.int o6), .val (.ref b), .val (.ref d), .val (.long hk), .second, .val (.long hv), .second, .val (.ref kc), .val (.ref vc), .val (.int (1 : Int32)), .val (.int (1 : Int32)), .unset] [(.long (own_sK S.1))])
  refine own_aload W4067 711 at_709 rfl rfl rfl ?_
  refine own_callS W4067 (A := [(.ref kc)]) (wt := 2) (pc' := 714) (st := [(.long (own_sK S.1))]) at_711 (wd29 hw) (wd30 hw) (wd5 hw) (wd31 hw) (by decide) (own_m8 l Z a0 hw [] h kc K V_kc) all0 rfl pd_7 rfl (Nat.le_of_eq rfl) (by decide) (by decide) (by decide) (by decide) rfl ?_
  rintro T4068 h4068 _ W4068 K4068 P4068 rfl
  rw [P4068 rfl rfl] at W4068
  show own_Go p e below C T4068 (mkF m 714 #[.val (.long q1), .second, .val (.long q2), .second, .val (.long q3), .second, .val (.int p4), .val (.int ct), .val (.int hl), .val (.int o0), .val (.int o1), .val (.int o2), .val (.int o3), .val (.int o4), .val (.int o5), .val (.int o6), .val (.ref b), .val (.ref d), .val (.long hk), .second, .val (.long hv), .second, .val (.ref kc), .val (.ref vc), .val (.int (1 : Int32)), .val (.int (1 : Int32)), .unset] [(.long (own_sK K)), (.long (own_sK S.1))])
  refine own_lcmp W4068 715 at_714 rfl ?_
  refine own_ifN W4068 718 at_715 ((if0 _ _).trans (teq ((lw_eq (own_sK S.1) (own_sK K)).mpr (MS1 : (own_sK S.1) = (own_sK K)))).2) rfl ?_
  refine own_aload W4068 720 at_718 rfl rfl rfl ?_
  refine own_callS W4068 (A := [(.ref d)]) (wt := 0) (pc' := 723) (st := []) at_720 (wd29 hw) (wd30 hw) (wd5 hw) (wd31 hw) (by decide) (own_m8 l Z a0 hw [] h d S.2 V_d) all0 rfl pd_7 rfl (Nat.le_of_eq rfl) (by decide) (by decide) (by decide) (by decide) rfl ?_
  rintro T4069 h4069 _ W4069 K4069 P4069 rfl
  rw [P4069 rfl rfl] at W4069
  show own_Go p e below C T4069 (mkF m 723 #[.val (.long q1), .second, .val (.long q2), .second, .val (.long q3), .second, .val (.int p4), .val (.int ct), .val (.int hl), .val (.int o0), .val (.int o1), .val (.int o2), .val (.int o3), .val (.int o4), .val (.int o5), .val (.int o6), .val (.ref b), .val (.ref d), .val (.long hk), .second, .val (.long hv), .second, .val (.ref kc), .val (.ref vc), .val (.int (1 : Int32)), .val (.int (1 : Int32)), .unset] [(.long (own_sK S.2))])
  refine own_aload W4069 725 at_723 rfl rfl rfl ?_
  refine own_callS W4069 (A := [(.ref vc)]) (wt := 2) (pc' := 728) (st := [(.long (own_sK S.2))]) at_725 (wd29 hw) (wd30 hw) (wd5 hw) (wd31 hw) (by decide) (own_m8 l Z a0 hw [] h vc Vv V_vc) all0 rfl pd_7 rfl (Nat.le_of_eq rfl) (by decide) (by decide) (by decide) (by decide) rfl ?_
  rintro T4070 h4070 _ W4070 K4070 P4070 rfl
  rw [P4070 rfl rfl] at W4070
  show own_Go p e below C T4070 (mkF m 728 #[.val (.long q1), .second, .val (.long q2), .second, .val (.long q3), .second, .val (.int p4), .val (.int ct), .val (.int hl), .val (.int o0), .val (.int o1), .val (.int o2), .val (.int o3), .val (.int o4), .val (.int o5), .val (.int o6), .val (.ref b), .val (.ref d), .val (.long hk), .second, .val (.long hv), .second, .val (.ref kc), .val (.ref vc), .val (.int (1 : Int32)), .val (.int (1 : Int32)), .unset] [(.long (own_sK Vv)), (.long (own_sK S.2))])
  refine own_lcmp W4070 729 at_728 rfl ?_
  refine own_ifN W4070 732 at_729 ((if0 _ _).trans (teq ((lw_eq (own_sK S.2) (own_sK Vv)).mpr (MS2 : (own_sK S.2) = (own_sK Vv)))).2) rfl ?_
  refine own_aload W4070 734 at_732 rfl rfl rfl ?_
  refine own_aload W4070 736 at_734 rfl rfl rfl ?_
  refine own_callS W4070 (A := [(.ref b), (.ref d)]) (wt := 0) (pc' := 739) (st := []) at_736 (wd32 hw) (wd33 hw) (wd5 hw) (wd34 hw) (by decide) (own_m9 l Z a0 hw [] h b d S.1 S.2 V_b V_d) all0 rfl pd_8 rfl (Nat.le_of_eq rfl) (by decide) (by decide) (by decide) (by decide) rfl ?_
  rintro T4071 h4071 _ W4071 K4071 P4071 rfl
  rw [P4071 rfl rfl] at W4071
  show own_Go p e below C T4071 (mkF m 739 #[.val (.long q1), .second, .val (.long q2), .second, .val (.long q3), .second, .val (.int p4), .val (.int ct), .val (.int hl), .val (.int o0), .val (.int o1), .val (.int o2), .val (.int o3), .val (.int o4), .val (.int o5), .val (.int o6), .val (.ref b), .val (.ref d), .val (.long hk), .second, .val (.long hv), .second, .val (.ref kc), .val (.ref vc), .val (.int (1 : Int32)), .val (.int (1 : Int32)), .unset] [(.long (own_sM S.1 S.2))])
  refine own_aload W4071 741 at_739 rfl rfl rfl ?_
  refine own_aload W4071 743 at_741 rfl rfl rfl ?_
  refine own_callS W4071 (A := [(.ref kc), (.ref vc)]) (wt := 2) (pc' := 746) (st := [(.long (own_sM S.1 S.2))]) at_743 (wd32 hw) (wd33 hw) (wd5 hw) (wd34 hw) (by decide) (own_m9 l Z a0 hw [] h kc vc K Vv V_kc V_vc) all0 rfl pd_8 rfl (Nat.le_of_eq rfl) (by decide) (by decide) (by decide) (by decide) rfl ?_
  rintro T4072 h4072 _ W4072 K4072 P4072 rfl
  rw [P4072 rfl rfl] at W4072
  show own_Go p e below C T4072 (mkF m 746 #[.val (.long q1), .second, .val (.long q2), .second, .val (.long q3), .second, .val (.int p4), .val (.int ct), .val (.int hl), .val (.int o0), .val (.int o1), .val (.int o2), .val (.int o3), .val (.int o4), .val (.int o5), .val (.int o6), .val (.ref b), .val (.ref d), .val (.long hk), .second, .val (.long hv), .second, .val (.ref kc), .val (.ref vc), .val (.int (1 : Int32)), .val (.int (1 : Int32)), .unset] [(.long (own_sM K Vv)), (.long (own_sM S.1 S.2))])
  refine own_lcmp W4072 747 at_746 rfl ?_
  refine own_ifN W4072 750 at_747 ((if0 _ _).trans (teq ((lw_eq (own_sM S.1 S.2) (own_sM K Vv)).mpr (MS3 : (own_sM S.1 S.2) = (own_sM K Vv)))).2) rfl ?_
  refine own_iconst W4072 (1 : Int32) 751 at_750 rfl rfl ?_
  refine own_goto W4072 755 at_751 (by decide) (by decide) ?_
  refine own_istore W4072 757 #[.val (.long q1), .second, .val (.long q2), .second, .val (.long q3), .second, .val (.int p4), .val (.int ct), .val (.int hl), .val (.int o0), .val (.int o1), .val (.int o2), .val (.int o3), .val (.int o4), .val (.int o5), .val (.int o6), .val (.ref b), .val (.ref d), .val (.long hk), .second, .val (.long hv), .second, .val (.ref kc), .val (.ref vc), .val (.int (1 : Int32)), .val (.int (1 : Int32)), .val (.int (1 : Int32))] at_755 rfl rfl ?_
  refine own_iload W4072 759 at_757 rfl rfl ?_
  refine own_ifN W4072 762 at_759 ((if0 _ _).trans (feq (by decide : ¬ ((1 : Int32) = (0 : Int32)))).1) rfl ?_
  refine own_iload W4072 764 at_762 rfl rfl ?_
  refine own_ifN W4072 767 at_764 ((if0 _ _).trans (feq (by decide : ¬ ((1 : Int32) = (0 : Int32)))).1) rfl ?_
  refine own_iload W4072 769 at_767 rfl rfl ?_
  refine own_ifN W4072 772 at_769 ((if0 _ _).trans (feq (by decide : ¬ ((1 : Int32) = (0 : Int32)))).1) rfl ?_
  refine own_iconst W4072 (1 : Int32) 773 at_772 rfl rfl ?_
  refine own_goto W4072 777 at_773 (by decide) (by decide) ?_
  refine own_retZ (Q := fun v h => v = some (.int (1 : Int32))) W4072 hC (by decide) (by decide) at_777 ?_
  exact rfl
set_option maxRecDepth 65536 in
set_option maxHeartbeats 40000000 in
theorem own_m0b (l : Launch) (Z : State) (a0 : Array Value) (hw : ∀ d ∈ tables_1, d.before a0 Z = true) (h0 : Heap) (q1 : Int64) (q2 : Int64) (q3 : Int64) (p4 : Int32) (p : Program) (e : Env) (s : State) (m : MethodId) (below : List Frame) (meth : Method) (c : Code) (C : Outcome → State → Prop) (hC : ∀ v L u, own_Fw s [] L → (v = some (.int (1 : Int32))) → FrameEnd s (.returned v) u L room_1.cells room_1.slots → C (.returned v) u) (T : State) (h : Heap) (b d : Addr) (K Vv : Nat → Int64) (n hh : Nat) (ct hl o0 o1 o2 o3 o4 o5 o6 : Int32) (hk hv : Int64) (W : own_W p l e room_1 s m #[(.long q1), (.long q2), (.long q3), (.int p4)] below meth c Z x ret code maxLocals [] T h (0 + 1 + 0 + 0 + 0 + 0 + 0 + 0 + 0 + 1 + 0 + 0 + 0 + 0 + 0 + 0 + 0) (0 + 7 + 0 + 0 + 0 + 0 + 0 + 0 + 0 + 7 + 0 + 0 + 0 + 0 + 0 + 0 + 0)) (V_b : own_A Z h b .long 7 (fun j => .long (K j))) (V_d : own_A Z h d .long 7 (fun j => .long (Vv j))) (ne_b_d : b ≠ d) (o_b : s.heap.size ≤ b) (o_d : s.heap.size ≤ d) (hn : ct.toInt = (n : Int)) (hn8 : n < 8) (hhl : hl.toInt = (hh : Int)) (hh2 : hh ≤ 2) (hhn : hh < n ∨ hh = 0) (ord : ∀ p q : Nat, ((p = 1 ∧ (q = 3 ∨ q = 4)) ∨ (p = 2 ∧ (q = 5 ∨ q = 6))) → hh ≠ p → own_leP (K p) (Vv p) (K q) (Vv q)) :
    own_Go p e below C T (mkF m 334 #[.val (.long q1), .second, .val (.long q2), .second, .val (.long q3), .second, .val (.int p4), .val (.int ct), .val (.int hl), .val (.int o0), .val (.int o1), .val (.int o2), .val (.int o3), .val (.int o4), .val (.int o5), .val (.int o6), .val (.ref b), .val (.ref d), .val (.long hk), .second, .val (.long hv), .second, .unset, .unset, .unset, .unset, .unset] []) := by
  refine own_bipush W (7 : Int32) 336 at_334 rfl rfl ?_
  refine own_newarray W 7 7 338 at_336 (wd2 hw) rfl (Nat.le_refl _) (by decide) (by decide) (by decide) rfl ?_
  intro T3037 h3037 kc W3037 E3037 g_kc o_kc V_kc
  have ne_b_kc : b ≠ kc := by rw [g_kc]; exact Nat.ne_of_lt V_b.lt
  have ne_d_kc : d ≠ kc := by rw [g_kc]; exact Nat.ne_of_lt V_d.lt
  have V_b := V_b.ext E3037
  have V_d := V_d.ext E3037
  show own_Go p e below C T3037 (mkF m 338 #[.val (.long q1), .second, .val (.long q2), .second, .val (.long q3), .second, .val (.int p4), .val (.int ct), .val (.int hl), .val (.int o0), .val (.int o1), .val (.int o2), .val (.int o3), .val (.int o4), .val (.int o5), .val (.int o6), .val (.ref b), .val (.ref d), .val (.long hk), .second, .val (.long hv), .second, .unset, .unset, .unset, .unset, .unset] [(.ref kc)])
  refine own_dup W3037 339 at_338 rfl rfl ?_
  refine own_iconst W3037 (0 : Int32) 340 at_339 rfl rfl ?_
  refine own_aload W3037 342 at_340 rfl rfl rfl ?_
  refine own_iconst W3037 (0 : Int32) 343 at_342 rfl rfl ?_
  refine own_laload W3037 0 (K 0) 344 at_343 V_b rfl (by decide) rfl rfl ?_
  refine own_lastore W3037 0 345 at_344 V_kc (Or.inr o_kc) rfl (by decide) rfl ?_
  intro T3038 h3038 W3038 Wr3038 V_kc
  have V_b := V_b.other Wr3038 ne_b_kc
  have V_d := V_d.other Wr3038 ne_d_kc
  show own_Go p e below C T3038 (mkF m 345 #[.val (.long q1), .second, .val (.long q2), .second, .val (.long q3), .second, .val (.int p4), .val (.int ct), .val (.int hl), .val (.int o0), .val (.int o1), .val (.int o2), .val (.int o3), .val (.int o4), .val (.int o5), .val (.int o6), .val (.ref b), .val (.ref d), .val (.long hk), .second, .val (.long hv), .second, .unset, .unset, .unset, .unset, .unset] [(.ref kc)])
  refine own_dup W3038 346 at_345 rfl rfl ?_
  refine own_iconst W3038 (1 : Int32) 347 at_346 rfl rfl ?_
  refine own_aload W3038 349 at_347 rfl rfl rfl ?_
  refine own_iconst W3038 (1 : Int32) 350 at_349 rfl rfl ?_
  refine own_laload W3038 1 (K 1) 351 at_350 V_b rfl (by decide) rfl rfl ?_
  refine own_lastore W3038 1 352 at_351 V_kc (Or.inr o_kc) rfl (by decide) rfl ?_
  intro T3039 h3039 W3039 Wr3039 V_kc
  have V_b := V_b.other Wr3039 ne_b_kc
  have V_d := V_d.other Wr3039 ne_d_kc
  show own_Go p e below C T3039 (mkF m 352 #[.val (.long q1), .second, .val (.long q2), .second, .val (.long q3), .second, .val (.int p4), .val (.int ct), .val (.int hl), .val (.int o0), .val (.int o1), .val (.int o2), .val (.int o3), .val (.int o4), .val (.int o5), .val (.int o6), .val (.ref b), .val (.ref d), .val (.long hk), .second, .val (.long hv), .second, .unset, .unset, .unset, .unset, .unset] [(.ref kc)])
  refine own_dup W3039 353 at_352 rfl rfl ?_
  refine own_iconst W3039 (2 : Int32) 354 at_353 rfl rfl ?_
  refine own_aload W3039 356 at_354 rfl rfl rfl ?_
  refine own_iconst W3039 (2 : Int32) 357 at_356 rfl rfl ?_
  refine own_laload W3039 2 (K 2) 358 at_357 V_b rfl (by decide) rfl rfl ?_
  refine own_lastore W3039 2 359 at_358 V_kc (Or.inr o_kc) rfl (by decide) rfl ?_
  intro T3040 h3040 W3040 Wr3040 V_kc
  have V_b := V_b.other Wr3040 ne_b_kc
  have V_d := V_d.other Wr3040 ne_d_kc
  show own_Go p e below C T3040 (mkF m 359 #[.val (.long q1), .second, .val (.long q2), .second, .val (.long q3), .second, .val (.int p4), .val (.int ct), .val (.int hl), .val (.int o0), .val (.int o1), .val (.int o2), .val (.int o3), .val (.int o4), .val (.int o5), .val (.int o6), .val (.ref b), .val (.ref d), .val (.long hk), .second, .val (.long hv), .second, .unset, .unset, .unset, .unset, .unset] [(.ref kc)])
  refine own_dup W3040 360 at_359 rfl rfl ?_
  refine own_iconst W3040 (3 : Int32) 361 at_360 rfl rfl ?_
  refine own_aload W3040 363 at_361 rfl rfl rfl ?_
  refine own_iconst W3040 (3 : Int32) 364 at_363 rfl rfl ?_
  refine own_laload W3040 3 (K 3) 365 at_364 V_b rfl (by decide) rfl rfl ?_
  refine own_lastore W3040 3 366 at_365 V_kc (Or.inr o_kc) rfl (by decide) rfl ?_
  intro T3041 h3041 W3041 Wr3041 V_kc
  have V_b := V_b.other Wr3041 ne_b_kc
  have V_d := V_d.other Wr3041 ne_d_kc
  show own_Go p e below C T3041 (mkF m 366 #[.val (.long q1), .second, .val (.long q2), .second, .val (.long q3), .second, .val (.int p4), .val (.int ct), .val (.int hl), .val (.int o0), .val (.int o1), .val (.int o2), .val (.int o3), .val (.int o4), .val (.int o5), .val (.int o6), .val (.ref b), .val (.ref d), .val (.long hk), .second, .val (.long hv), .second, .unset, .unset, .unset, .unset, .unset] [(.ref kc)])
  refine own_dup W3041 367 at_366 rfl rfl ?_
  refine own_iconst W3041 (4 : Int32) 368 at_367 rfl rfl ?_
  refine own_aload W3041 370 at_368 rfl rfl rfl ?_
  refine own_iconst W3041 (4 : Int32) 371 at_370 rfl rfl ?_
  refine own_laload W3041 4 (K 4) 372 at_371 V_b rfl (by decide) rfl rfl ?_
  refine own_lastore W3041 4 373 at_372 V_kc (Or.inr o_kc) rfl (by decide) rfl ?_
  intro T3042 h3042 W3042 Wr3042 V_kc
  have V_b := V_b.other Wr3042 ne_b_kc
  have V_d := V_d.other Wr3042 ne_d_kc
  show own_Go p e below C T3042 (mkF m 373 #[.val (.long q1), .second, .val (.long q2), .second, .val (.long q3), .second, .val (.int p4), .val (.int ct), .val (.int hl), .val (.int o0), .val (.int o1), .val (.int o2), .val (.int o3), .val (.int o4), .val (.int o5), .val (.int o6), .val (.ref b), .val (.ref d), .val (.long hk), .second, .val (.long hv), .second, .unset, .unset, .unset, .unset, .unset] [(.ref kc)])
  refine own_dup W3042 374 at_373 rfl rfl ?_
  refine own_iconst W3042 (5 : Int32) 375 at_374 rfl rfl ?_
  refine own_aload W3042 377 at_375 rfl rfl rfl ?_
  refine own_iconst W3042 (5 : Int32) 378 at_377 rfl rfl ?_
  refine own_laload W3042 5 (K 5) 379 at_378 V_b rfl (by decide) rfl rfl ?_
  refine own_lastore W3042 5 380 at_379 V_kc (Or.inr o_kc) rfl (by decide) rfl ?_
  intro T3043 h3043 W3043 Wr3043 V_kc
  have V_b := V_b.other Wr3043 ne_b_kc
  have V_d := V_d.other Wr3043 ne_d_kc
  show own_Go p e below C T3043 (mkF m 380 #[.val (.long q1), .second, .val (.long q2), .second, .val (.long q3), .second, .val (.int p4), .val (.int ct), .val (.int hl), .val (.int o0), .val (.int o1), .val (.int o2), .val (.int o3), .val (.int o4), .val (.int o5), .val (.int o6), .val (.ref b), .val (.ref d), .val (.long hk), .second, .val (.long hv), .second, .unset, .unset, .unset, .unset, .unset] [(.ref kc)])
  refine own_dup W3043 381 at_380 rfl rfl ?_
  refine own_bipush W3043 (6 : Int32) 383 at_381 rfl rfl ?_
  refine own_aload W3043 385 at_383 rfl rfl rfl ?_
  refine own_bipush W3043 (6 : Int32) 387 at_385 rfl rfl ?_
  refine own_laload W3043 6 (K 6) 388 at_387 V_b rfl (by decide) rfl rfl ?_
  refine own_lastore W3043 6 389 at_388 V_kc (Or.inr o_kc) rfl (by decide) rfl ?_
  intro T3044 h3044 W3044 Wr3044 V_kc
  have V_b := V_b.other Wr3044 ne_b_kc
  have V_d := V_d.other Wr3044 ne_d_kc
  show own_Go p e below C T3044 (mkF m 389 #[.val (.long q1), .second, .val (.long q2), .second, .val (.long q3), .second, .val (.int p4), .val (.int ct), .val (.int hl), .val (.int o0), .val (.int o1), .val (.int o2), .val (.int o3), .val (.int o4), .val (.int o5), .val (.int o6), .val (.ref b), .val (.ref d), .val (.long hk), .second, .val (.long hv), .second, .unset, .unset, .unset, .unset, .unset] [(.ref kc)])
  have V_kc : own_A Z h3044 kc .long 7 (fun j => .long (own_t7 (K 0) (K 1) (K 2) (K 3) (K 4) (K 5) (K 6) j)) := V_kc.congr (own_c7 (K 0) (K 1) (K 2) (K 3) (K 4) (K 5) (K 6))
  have V_kc : own_A Z h3044 kc .long 7 (fun j => .long (K j)) := V_kc.congr (fun j hj => congrArg Value.long (own_t7e K j hj))
  refine own_astore W3044 391 #[.val (.long q1), .second, .val (.long q2), .second, .val (.long q3), .second, .val (.int p4), .val (.int ct), .val (.int hl), .val (.int o0), .val (.int o1), .val (.int o2), .val (.int o3), .val (.int o4), .val (.int o5), .val (.int o6), .val (.ref b), .val (.ref d), .val (.long hk), .second, .val (.long hv), .second, .val (.ref kc), .unset, .unset, .unset, .unset] at_389 rfl rfl rfl ?_
  refine own_bipush W3044 (7 : Int32) 393 at_391 rfl rfl ?_
  refine own_newarray W3044 7 7 395 at_393 (wd2 hw) rfl (Nat.le_refl _) (by decide) (by decide) (by decide) rfl ?_
  intro T3045 h3045 vc W3045 E3045 g_vc o_vc V_vc
  have ne_b_vc : b ≠ vc := by rw [g_vc]; exact Nat.ne_of_lt V_b.lt
  have ne_d_vc : d ≠ vc := by rw [g_vc]; exact Nat.ne_of_lt V_d.lt
  have ne_kc_vc : kc ≠ vc := by rw [g_vc]; exact Nat.ne_of_lt V_kc.lt
  have V_b := V_b.ext E3045
  have V_d := V_d.ext E3045
  have V_kc := V_kc.ext E3045
  show own_Go p e below C T3045 (mkF m 395 #[.val (.long q1), .second, .val (.long q2), .second, .val (.long q3), .second, .val (.int p4), .val (.int ct), .val (.int hl), .val (.int o0), .val (.int o1), .val (.int o2), .val (.int o3), .val (.int o4), .val (.int o5), .val (.int o6), .val (.ref b), .val (.ref d), .val (.long hk), .second, .val (.long hv), .second, .val (.ref kc), .unset, .unset, .unset, .unset] [(.ref vc)])
  refine own_dup W3045 396 at_395 rfl rfl ?_
  refine own_iconst W3045 (0 : Int32) 397 at_396 rfl rfl ?_
  refine own_aload W3045 399 at_397 rfl rfl rfl ?_
  refine own_iconst W3045 (0 : Int32) 400 at_399 rfl rfl ?_
  refine own_laload W3045 0 (Vv 0) 401 at_400 V_d rfl (by decide) rfl rfl ?_
  refine own_lastore W3045 0 402 at_401 V_vc (Or.inr o_vc) rfl (by decide) rfl ?_
  intro T3046 h3046 W3046 Wr3046 V_vc
  have V_b := V_b.other Wr3046 ne_b_vc
  have V_d := V_d.other Wr3046 ne_d_vc
  have V_kc := V_kc.other Wr3046 ne_kc_vc
  show own_Go p e below C T3046 (mkF m 402 #[.val (.long q1), .second, .val (.long q2), .second, .val (.long q3), .second, .val (.int p4), .val (.int ct), .val (.int hl), .val (.int o0), .val (.int o1), .val (.int o2), .val (.int o3), .val (.int o4), .val (.int o5), .val (.int o6), .val (.ref b), .val (.ref d), .val (.long hk), .second, .val (.long hv), .second, .val (.ref kc), .unset, .unset, .unset, .unset] [(.ref vc)])
  refine own_dup W3046 403 at_402 rfl rfl ?_
  refine own_iconst W3046 (1 : Int32) 404 at_403 rfl rfl ?_
  refine own_aload W3046 406 at_404 rfl rfl rfl ?_
  refine own_iconst W3046 (1 : Int32) 407 at_406 rfl rfl ?_
  refine own_laload W3046 1 (Vv 1) 408 at_407 V_d rfl (by decide) rfl rfl ?_
  refine own_lastore W3046 1 409 at_408 V_vc (Or.inr o_vc) rfl (by decide) rfl ?_
  intro T3047 h3047 W3047 Wr3047 V_vc
  have V_b := V_b.other Wr3047 ne_b_vc
  have V_d := V_d.other Wr3047 ne_d_vc
  have V_kc := V_kc.other Wr3047 ne_kc_vc
  show own_Go p e below C T3047 (mkF m 409 #[.val (.long q1), .second, .val (.long q2), .second, .val (.long q3), .second, .val (.int p4), .val (.int ct), .val (.int hl), .val (.int o0), .val (.int o1), .val (.int o2), .val (.int o3), .val (.int o4), .val (.int o5), .val (.int o6), .val (.ref b), .val (.ref d), .val (.long hk), .second, .val (.long hv), .second, .val (.ref kc), .unset, .unset, .unset, .unset] [(.ref vc)])
  refine own_dup W3047 410 at_409 rfl rfl ?_
  refine own_iconst W3047 (2 : Int32) 411 at_410 rfl rfl ?_
  refine own_aload W3047 413 at_411 rfl rfl rfl ?_
  refine own_iconst W3047 (2 : Int32) 414 at_413 rfl rfl ?_
  refine own_laload W3047 2 (Vv 2) 415 at_414 V_d rfl (by decide) rfl rfl ?_
  refine own_lastore W3047 2 416 at_415 V_vc (Or.inr o_vc) rfl (by decide) rfl ?_
  intro T3048 h3048 W3048 Wr3048 V_vc
  have V_b := V_b.other Wr3048 ne_b_vc
  have V_d := V_d.other Wr3048 ne_d_vc
  have V_kc := V_kc.other Wr3048 ne_kc_vc
  show own_Go p e below C T3048 (mkF m 416 #[.val (.long q1), .second, .val (.long q2), .second, .val (.long q3), .second, .val (.int p4), .val (.int ct), .val (.int hl), .val (.int o0), .val (.int o1), .val (.int o2), .val (.int o3), .val (.int o4), .val (.int o5), .val (.int o6), .val (.ref b), .val (.ref d), .val (.long hk), .second, .val (.long hv), .second, .val (.ref kc), .unset, .unset, .unset, .unset] [(.ref vc)])
  refine own_dup W3048 417 at_416 rfl rfl ?_
  refine own_iconst W3048 (3 : Int32) 418 at_417 rfl rfl ?_
  refine own_aload W3048 420 at_418 rfl rfl rfl ?_
  refine own_iconst W3048 (3 : Int32) 421 at_420 rfl rfl ?_
  refine own_laload W3048 3 (Vv 3) 422 at_421 V_d rfl (by decide) rfl rfl ?_
  refine own_lastore W3048 3 423 at_422 V_vc (Or.inr o_vc) rfl (by decide) rfl ?_
  intro T3049 h3049 W3049 Wr3049 V_vc
  have V_b := V_b.other Wr3049 ne_b_vc
  have V_d := V_d.other Wr3049 ne_d_vc
  have V_kc := V_kc.other Wr3049 ne_kc_vc
  show own_Go p e below C T3049 (mkF m 423 #[.val (.long q1), .second, .val (.long q2), .second, .val (.long q3), .second, .val (.int p4), .val (.int ct), .val (.int hl), .val (.int o0), .val (.int o1), .val (.int o2), .val (.int o3), .val (.int o4), .val (.int o5), .val (.int o6), .val (.ref b), .val (.ref d), .val (.long hk), .second, .val (.long hv), .second, .val (.ref kc), .unset, .unset, .unset, .unset] [(.ref vc)])
  refine own_dup W3049 424 at_423 rfl rfl ?_
  refine own_iconst W3049 (4 : Int32) 425 at_424 rfl rfl ?_
  refine own_aload W3049 427 at_425 rfl rfl rfl ?_
  refine own_iconst W3049 (4 : Int32) 428 at_427 rfl rfl ?_
  refine own_laload W3049 4 (Vv 4) 429 at_428 V_d rfl (by decide) rfl rfl ?_
  refine own_lastore W3049 4 430 at_429 V_vc (Or.inr o_vc) rfl (by decide) rfl ?_
  intro T3050 h3050 W3050 Wr3050 V_vc
  have V_b := V_b.other Wr3050 ne_b_vc
  have V_d := V_d.other Wr3050 ne_d_vc
  have V_kc := V_kc.other Wr3050 ne_kc_vc
  show own_Go p e below C T3050 (mkF m 430 #[.val (.long q1), .second, .val (.long q2), .second, .val (.long q3), .second, .val (.int p4), .val (.int ct), .val (.int hl), .val (.int o0), .val (.int o1), .val (.int o2), .val (.int o3), .val (.int o4), .val (.int o5), .val (.int o6), .val (.ref b), .val (.ref d), .val (.long hk), .second, .val (.long hv), .second, .val (.ref kc), .unset, .unset, .unset, .unset] [(.ref vc)])
  refine own_dup W3050 431 at_430 rfl rfl ?_
  refine own_iconst W3050 (5 : Int32) 432 at_431 rfl rfl ?_
  refine own_aload W3050 434 at_432 rfl rfl rfl ?_
  refine own_iconst W3050 (5 : Int32) 435 at_434 rfl rfl ?_
  refine own_laload W3050 5 (Vv 5) 436 at_435 V_d rfl (by decide) rfl rfl ?_
  refine own_lastore W3050 5 437 at_436 V_vc (Or.inr o_vc) rfl (by decide) rfl ?_
  intro T3051 h3051 W3051 Wr3051 V_vc
  have V_b := V_b.other Wr3051 ne_b_vc
  have V_d := V_d.other Wr3051 ne_d_vc
  have V_kc := V_kc.other Wr3051 ne_kc_vc
  show own_Go p e below C T3051 (mkF m 437 #[.val (.long q1), .second, .val (.long q2), .second, .val (.long q3), .second, .val (.int p4), .val (.int ct), .val (.int hl), .val (.int o0), .val (.int o1), .val (.int o2), .val (.int o3), .val (.int o4), .val (.int o5), .val (.int o6), .val (.ref b), .val (.ref d), .val (.long hk), .second, .val (.long hv), .second, .val (.ref kc), .unset, .unset, .unset, .unset] [(.ref vc)])
  refine own_dup W3051 438 at_437 rfl rfl ?_
  refine own_bipush W3051 (6 : Int32) 440 at_438 rfl rfl ?_
  refine own_aload W3051 442 at_440 rfl rfl rfl ?_
  refine own_bipush W3051 (6 : Int32) 444 at_442 rfl rfl ?_
  refine own_laload W3051 6 (Vv 6) 445 at_444 V_d rfl (by decide) rfl rfl ?_
  refine own_lastore W3051 6 446 at_445 V_vc (Or.inr o_vc) rfl (by decide) rfl ?_
  intro T3052 h3052 W3052 Wr3052 V_vc
  have V_b := V_b.other Wr3052 ne_b_vc
  have V_d := V_d.other Wr3052 ne_d_vc
  have V_kc := V_kc.other Wr3052 ne_kc_vc
  show own_Go p e below C T3052 (mkF m 446 #[.val (.long q1), .second, .val (.long q2), .second, .val (.long q3), .second, .val (.int p4), .val (.int ct), .val (.int hl), .val (.int o0), .val (.int o1), .val (.int o2), .val (.int o3), .val (.int o4), .val (.int o5), .val (.int o6), .val (.ref b), .val (.ref d), .val (.long hk), .second, .val (.long hv), .second, .val (.ref kc), .unset, .unset, .unset, .unset] [(.ref vc)])
  have V_vc : own_A Z h3052 vc .long 7 (fun j => .long (own_t7 (Vv 0) (Vv 1) (Vv 2) (Vv 3) (Vv 4) (Vv 5) (Vv 6) j)) := V_vc.congr (own_c7 (Vv 0) (Vv 1) (Vv 2) (Vv 3) (Vv 4) (Vv 5) (Vv 6))
  have V_vc : own_A Z h3052 vc .long 7 (fun j => .long (Vv j)) := V_vc.congr (fun j hj => congrArg Value.long (own_t7e Vv j hj))
  refine own_astore W3052 448 #[.val (.long q1), .second, .val (.long q2), .second, .val (.long q3), .second, .val (.int p4), .val (.int ct), .val (.int hl), .val (.int o0), .val (.int o1), .val (.int o2), .val (.int o3), .val (.int o4), .val (.int o5), .val (.int o6), .val (.ref b), .val (.ref d), .val (.long hk), .second, .val (.long hv), .second, .val (.ref kc), .val (.ref vc), .unset, .unset, .unset] at_446 rfl rfl rfl ?_
  refine own_aload W3052 450 at_448 rfl rfl rfl ?_
  refine own_aload W3052 452 at_450 rfl rfl rfl ?_
  refine own_iload W3052 454 at_452 rfl rfl ?_
  refine own_iload W3052 456 at_454 rfl rfl ?_
  have M := own_main K Vv n hh (by omega) hh2 hhn ord
  refine own_callS W3052 (A := [(.ref b), (.ref d), (.int ct), (.int hl)]) (wt := 0) (pc' := 459) (st := []) at_456 (wd13 hw) (wd14 hw) (wd15 hw) (wd16 hw) (by decide) (own_m3 l Z a0 hw [] h3052 b d ct hl 7 K Vv n hh 7 V_b V_d ne_b_d hn hhl (by omega) (by omega) (by decide) (by omega)) (allS (Or.inr o_b) (allS (Or.inr o_d) all0)) rfl pd_4 rfl (Nat.le_of_eq rfl) (by decide) (by decide) (by decide) (by decide) rfl ?_
  rintro T3053 h3053 _ W3053 K3053 P3053 ⟨rfl, ⟨V_b, V_d⟩⟩
  have V_kc := V_kc.keep K3053 (ninS (Ne.symm ne_b_kc) (ninS (Ne.symm ne_d_kc) nin0))
  have V_vc := V_vc.keep K3053 (ninS (Ne.symm ne_b_vc) (ninS (Ne.symm ne_d_vc) nin0))
  show own_Go p e below C T3053 (mkF m 459 #[.val (.long q1), .second, .val (.long q2), .second, .val (.long q3), .second, .val (.int p4), .val (.int ct), .val (.int hl), .val (.int o0), .val (.int o1), .val (.int o2), .val (.int o3), .val (.int o4), .val (.int o5), .val (.int o6), .val (.ref b), .val (.ref d), .val (.long hk), .second, .val (.long hv), .second, .val (.ref kc), .val (.ref vc), .unset, .unset, .unset] [])
  obtain ⟨S, dS⟩ : ∃ z, z = (own_sift 7 K Vv n hh (K hh) (Vv hh)) := ⟨_, rfl⟩
  rw [← dS] at V_b V_d M
  obtain ⟨ME, MK, MS1, MS2, MS3⟩ := M
  exact own_m0c l Z a0 hw h0 q1 q2 q3 p4 p e s m below meth c C hC T3053 h3053 b d kc vc K Vv S n hh ct hl o0 o1 o2 o3 o4 o5 o6 hk hv W3053 V_b V_d V_kc V_vc hn hn8 hhl hh2 ME MK MS1 MS2 MS3
set_option maxRecDepth 65536 in
set_option maxHeartbeats 40000000 in
theorem own_m0e (l : Launch) (Z : State) (a0 : Array Value) (hw : ∀ d ∈ tables_1, d.before a0 Z = true) (h0 : Heap) (q1 : Int64) (q2 : Int64) (q3 : Int64) (p4 : Int32) (p : Program) (e : Env) (s : State) (m : MethodId) (below : List Frame) (meth : Method) (c : Code) (C : Outcome → State → Prop) (hC : ∀ v L u, own_Fw s [] L → (v = some (.int (1 : Int32))) → FrameEnd s (.returned v) u L room_1.cells room_1.slots → C (.returned v) u) (T : State) (h : Heap) (n hh m0 m1 m2 m3 m4 m5 m6 : Nat) (ct hl o0 o1 o2 o3 o4 o5 o6 : Int32) (b d : Addr) (k0 k1 k2 k3 k4 k5 k6 v0 v1 v2 v3 v4 v5 v6 : Int64) (W : own_W p l e room_1 s m #[(.long q1), (.long q2), (.long q3), (.int p4)] below meth c Z x ret code maxLocals [] T h (0 + 1 + 0 + 0 + 0 + 0 + 0 + 0 + 0 + 1 + 0 + 0 + 0 + 0 + 0 + 0 + 0) (0 + 7 + 0 + 0 + 0 + 0 + 0 + 0 + 0 + 7 + 0 + 0 + 0 + 0 + 0 + 0 + 0)) (hn : ct.toInt = (n : Int)) (hn8 : n < 8) (hhl : hl.toInt = (hh : Int)) (hh2 : hh ≤ 2) (hhn : hh < n ∨ hh = 0) (hm0 : o0.toInt = (m0 : Int)) (hm1 : o1.toInt = (m1 : Int)) (hm2 : o2.toInt = (m2 : Int)) (hm3 : o3.toInt = (m3 : Int)) (hm4 : o4.toInt = (m4 : Int)) (hm5 : o5.toInt = (m5 : Int)) (hm6 : o6.toInt = (m6 : Int)) (hb3 : m1 ≤ m3 ∧ m3 < 32) (hb4 : m1 ≤ m4 ∧ m4 < 32) (hb5 : m2 ≤ m5 ∧ m5 < 32) (hb6 : m2 ≤ m6 ∧ m6 < 32) (h_k0 : (own_key (o0 >>> ((2 : Int32) &&& 31))) = k0) (h_k1 : (own_key (o1 >>> ((2 : Int32) &&& 31))) = k1) (h_k2 : (own_key (o2 >>> ((2 : Int32) &&& 31))) = k2) (h_k3 : (own_key (o3 >>> ((2 : Int32) &&& 31))) = k3) (h_k4 : (own_key (o4 >>> ((2 : Int32) &&& 31))) = k4) (h_k5 : (own_key (o5 >>> ((2 : Int32) &&& 31))) = k5) (h_k6 : (own_key (o6 >>> ((2 : Int32) &&& 31))) = k6) (h_v0 : (own_val (o0 &&& (3 : Int32))) = v0) (h_v1 : (own_val (o1 &&& (3 : Int32))) = v1) (h_v2 : (own_val (o2 &&& (3 : Int32))) = v2) (h_v3 : (own_val (o3 &&& (3 : Int32))) = v3) (h_v4 : (own_val (o4 &&& (3 : Int32))) = v4) (h_v5 : (own_val (o5 &&& (3 : Int32))) = v5) (h_v6 : (own_val (o6 &&& (3 : Int32))) = v6) (V_b : own_A Z h b .long 7 (fun j => .long (own_t7 k0 k1 k2 k3 k4 k5 k6 j))) (V_d : own_A Z h d .long 7 (fun j => .long (own_t7 v0 v1 v2 v3 v4 v5 v6 j))) (o_b : s.heap.size ≤ b) (o_d : s.heap.size ≤ d) (ne_b_d : b ≠ d) :
    own_Go p e below C T (mkF m 283 #[.val (.long q1), .second, .val (.long q2), .second, .val (.long q3), .second, .val (.int p4), .val (.int ct), .val (.int hl), .val (.int o0), .val (.int o1), .val (.int o2), .val (.int o3), .val (.int o4), .val (.int o5), .val (.int o6), .val (.ref b), .val (.ref d), .unset, .unset, .unset, .unset, .unset, .unset, .unset, .unset, .unset] []) := by
  refine own_lloadN W 284 at_283 rfl rfl ?_
  refine own_lstore W 286 #[.val (.long q1), .second, .val (.long q2), .second, .val (.long q3), .second, .val (.int p4), .val (.int ct), .val (.int hl), .val (.int o0), .val (.int o1), .val (.int o2), .val (.int o3), .val (.int o4), .val (.int o5), .val (.int o6), .val (.ref b), .val (.ref d), .val (.long q1), .second, .unset, .unset, .unset, .unset, .unset, .unset, .unset] at_284 rfl rfl ?_
  refine own_lloadN W 287 at_286 rfl rfl ?_
  refine own_lstore W 289 #[.val (.long q1), .second, .val (.long q2), .second, .val (.long q3), .second, .val (.int p4), .val (.int ct), .val (.int hl), .val (.int o0), .val (.int o1), .val (.int o2), .val (.int o3), .val (.int o4), .val (.int o5), .val (.int o6), .val (.ref b), .val (.ref d), .val (.long q1), .second, .val (.long q2), .second, .unset, .unset, .unset, .unset, .unset] at_287 rfl rfl ?_
  refine own_iload W 291 at_289 rfl rfl ?_
  refine own_iconst W (5 : Int32) 292 at_291 rfl rfl ?_
  refine own_iushr W 293 at_292 rfl ?_
  refine own_iconst W (1 : Int32) 294 at_293 rfl rfl ?_
  refine own_iand W 295 at_294 rfl ?_
  have J2034 : ∀ (T2034 : State) (hk hv : Int64), own_W p l e room_1 s m #[(.long q1), (.long q2), (.long q3), (.int p4)] below meth c Z x ret code maxLocals [] T2034 h (0 + 1 + 0 + 0 + 0 + 0 + 0 + 0 + 0 + 1 + 0 + 0 + 0 + 0 + 0 + 0 + 0) (0 + 7 + 0 + 0 + 0 + 0 + 0 + 0 + 0 + 7 + 0 + 0 + 0 + 0 + 0 + 0 + 0) → own_Go p e below C T2034 (mkF m 320 #[.val (.long q1), .second, .val (.long q2), .second, .val (.long q3), .second, .val (.int p4), .val (.int ct), .val (.int hl), .val (.int o0), .val (.int o1), .val (.int o2), .val (.int o3), .val (.int o4), .val (.int o5), .val (.int o6), .val (.ref b), .val (.ref d), .val (.long hk), .second, .val (.long hv), .second, .unset, .unset, .unset, .unset, .unset] []) := by
    intro T2034 hk hv W2034 
    refine own_aload W2034 322 at_320 rfl rfl rfl ?_
    refine own_iload W2034 324 at_322 rfl rfl ?_
    refine own_lload W2034 326 at_324 rfl rfl ?_
    refine own_lastore W2034 hh 327 at_326 V_b (Or.inr o_b) hhl (by omega) rfl ?_
    intro T2035 h2035 W2035 Wr2035 V_b
    have V_d := V_d.other Wr2035 (Ne.symm ne_b_d)
    show own_Go p e below C T2035 (mkF m 327 #[.val (.long q1), .second, .val (.long q2), .second, .val (.long q3), .second, .val (.int p4), .val (.int ct), .val (.int hl), .val (.int o0), .val (.int o1), .val (.int o2), .val (.int o3), .val (.int o4), .val (.int o5), .val (.int o6), .val (.ref b), .val (.ref d), .val (.long hk), .second, .val (.long hv), .second, .unset, .unset, .unset, .unset, .unset] [])
    refine own_aload W2035 329 at_327 rfl rfl rfl ?_
    refine own_iload W2035 331 at_329 rfl rfl ?_
    refine own_lload W2035 333 at_331 rfl rfl ?_
    refine own_lastore W2035 hh 334 at_333 V_d (Or.inr o_d) hhl (by omega) rfl ?_
    intro T2036 h2036 W2036 Wr2036 V_d
    have V_b := V_b.other Wr2036 ne_b_d
    show own_Go p e below C T2036 (mkF m 334 #[.val (.long q1), .second, .val (.long q2), .second, .val (.long q3), .second, .val (.int p4), .val (.int ct), .val (.int hl), .val (.int o0), .val (.int o1), .val (.int o2), .val (.int o3), .val (.int o4), .val (.int o5), .val (.int o6), .val (.ref b), .val (.ref d), .val (.long hk), .second, .val (.long hv), .second, .unset, .unset, .unset, .unset, .unset] [])
    have V_b : own_A Z h2036 b .long 7 (fun j => .long (own_upL (own_t7 k0 k1 k2 k3 k4 k5 k6) hh hk j)) := V_b.congr (own_updc (fun _ _ => rfl))
    obtain ⟨K, dK⟩ : ∃ z, z = own_upL (own_t7 k0 k1 k2 k3 k4 k5 k6) hh hk := ⟨_, rfl⟩
    rw [← dK] at V_b
    have V_d : own_A Z h2036 d .long 7 (fun j => .long (own_upL (own_t7 v0 v1 v2 v3 v4 v5 v6) hh hv j)) := V_d.congr (own_updc (fun _ _ => rfl))
    obtain ⟨Vv, dVv⟩ : ∃ z, z = own_upL (own_t7 v0 v1 v2 v3 v4 v5 v6) hh hv := ⟨_, rfl⟩
    rw [← dVv] at V_d
    have ord : ∀ p q : Nat, ((p = 1 ∧ (q = 3 ∨ q = 4)) ∨ (p = 2 ∧ (q = 5 ∨ q = 6))) → hh ≠ p → own_leP (K p) (Vv p) (K q) (Vv q) := by
      subst dK dVv
      rintro p q (⟨rfl, rfl | rfl⟩ | ⟨rfl, rfl | rfl⟩) hne
      · rw [own_upL, own_upL, own_upL, own_upL, if_neg (Ne.symm hne), if_neg (Ne.symm hne), if_neg (by omega), if_neg (by omega)]
        have z := own_mono o1 o3 m1 m3 hm1 hm3 hb3.1 hb3.2
        rw [h_k1, h_v1, h_k3, h_v3] at z
        exact z
      · rw [own_upL, own_upL, own_upL, own_upL, if_neg (Ne.symm hne), if_neg (Ne.symm hne), if_neg (by omega), if_neg (by omega)]
        have z := own_mono o1 o4 m1 m4 hm1 hm4 hb4.1 hb4.2
        rw [h_k1, h_v1, h_k4, h_v4] at z
        exact z
      · rw [own_upL, own_upL, own_upL, own_upL, if_neg (Ne.symm hne), if_neg (Ne.symm hne), if_neg (by omega), if_neg (by omega)]
        have z := own_mono o2 o5 m2 m5 hm2 hm5 hb5.1 hb5.2
        rw [h_k2, h_v2, h_k5, h_v5] at z
        exact z
      · rw [own_upL, own_upL, own_upL, own_upL, if_neg (Ne.symm hne), if_neg (Ne.symm hne), if_neg (by omega), if_neg (by omega)]
        have z := own_mono o2 o6 m2 m6 hm2 hm6 hb6.1 hb6.2
        rw [h_k2, h_v2, h_k6, h_v6] at z
        exact z
    exact own_m0b l Z a0 hw h0 q1 q2 q3 p4 p e s m below meth c C hC T2036 h2036 b d K Vv n hh ct hl o0 o1 o2 o3 o4 o5 o6 hk hv W2036 V_b V_d ne_b_d o_b o_d hn hn8 hhl hh2 hhn ord
  by_cases c2037 : (((p4.toUInt32 >>> ((5 : Int32) &&& 31).toUInt32).toInt32) &&& (1 : Int32)) = (0 : Int32)
  · refine own_ifY W 320 at_295 ((if0 _ _).trans (teq c2037).1) (by decide) (by decide) ?_
    exact J2034 T _ _ W
  · refine own_ifN W 298 at_295 ((if0 _ _).trans (feq c2037).1) rfl ?_
    refine own_lloadN W 299 at_298 rfl rfl ?_
    refine own_ldc2Long W 302 at_299 (wd1 hw) rfl ?_
    refine own_land W 303 at_302 rfl ?_
    refine own_l2i W 304 at_303 rfl ?_
    refine own_callS W (A := [(.int (q1 &&& (7 : Int64)).toInt32)]) (wt := 0) (pc' := 307) (st := []) at_304 (wd3 hw) (wd4 hw) (wd5 hw) (wd6 hw) (by decide) (own_m1 l Z a0 hw [] h (q1 &&& (7 : Int64)).toInt32) all0 rfl pd_3 rfl (Nat.le_of_eq rfl) (by decide) (by decide) (by decide) (by decide) rfl ?_
    rintro T2038 h2038 _ W2038 K2038 P2038 rfl
    rw [P2038 rfl rfl] at W2038
    show own_Go p e below C T2038 (mkF m 307 #[.val (.long q1), .second, .val (.long q2), .second, .val (.long q3), .second, .val (.int p4), .val (.int ct), .val (.int hl), .val (.int o0), .val (.int o1), .val (.int o2), .val (.int o3), .val (.int o4), .val (.int o5), .val (.int o6), .val (.ref b), .val (.ref d), .val (.long q1), .second, .val (.long q2), .second, .unset, .unset, .unset, .unset, .unset] [(.long (own_key (q1 &&& (7 : Int64)).toInt32))])
    refine own_lstore W2038 309 #[.val (.long q1), .second, .val (.long q2), .second, .val (.long q3), .second, .val (.int p4), .val (.int ct), .val (.int hl), .val (.int o0), .val (.int o1), .val (.int o2), .val (.int o3), .val (.int o4), .val (.int o5), .val (.int o6), .val (.ref b), .val (.ref d), .val (.long (own_key (q1 &&& (7 : Int64)).toInt32)), .second, .val (.long q2), .second, .unset, .unset, .unset, .unset, .unset] at_307 rfl rfl ?_
    refine own_lloadN W2038 310 at_309 rfl rfl ?_
    refine own_ldc2Long W2038 313 at_310 (wd42 hw) rfl ?_
    refine own_land W2038 314 at_313 rfl ?_
    refine own_l2i W2038 315 at_314 rfl ?_
    refine own_callS W2038 (A := [(.int (q2 &&& (3 : Int64)).toInt32)]) (wt := 0) (pc' := 318) (st := []) at_315 (wd8 hw) (wd9 hw) (wd5 hw) (wd10 hw) (by decide) (own_m2 l Z a0 hw [] h (q2 &&& (3 : Int64)).toInt32) all0 rfl pd_3 rfl (Nat.le_of_eq rfl) (by decide) (by decide) (by decide) (by decide) rfl ?_
    rintro T2039 h2039 _ W2039 K2039 P2039 rfl
    rw [P2039 rfl rfl] at W2039
    show own_Go p e below C T2039 (mkF m 318 #[.val (.long q1), .second, .val (.long q2), .second, .val (.long q3), .second, .val (.int p4), .val (.int ct), .val (.int hl), .val (.int o0), .val (.int o1), .val (.int o2), .val (.int o3), .val (.int o4), .val (.int o5), .val (.int o6), .val (.ref b), .val (.ref d), .val (.long (own_key (q1 &&& (7 : Int64)).toInt32)), .second, .val (.long q2), .second, .unset, .unset, .unset, .unset, .unset] [(.long (own_val (q2 &&& (3 : Int64)).toInt32))])
    refine own_lstore W2039 320 #[.val (.long q1), .second, .val (.long q2), .second, .val (.long q3), .second, .val (.int p4), .val (.int ct), .val (.int hl), .val (.int o0), .val (.int o1), .val (.int o2), .val (.int o3), .val (.int o4), .val (.int o5), .val (.int o6), .val (.ref b), .val (.ref d), .val (.long (own_key (q1 &&& (7 : Int64)).toInt32)), .second, .val (.long (own_val (q2 &&& (3 : Int64)).toInt32)), .second, .unset, .unset, .unset, .unset, .unset] at_318 rfl rfl ?_
    exact J2034 T2039 _ _ W2039
set_option maxRecDepth 65536 in
set_option maxHeartbeats 40000000 in
theorem own_m0d (l : Launch) (Z : State) (a0 : Array Value) (hw : ∀ d ∈ tables_1, d.before a0 Z = true) (h0 : Heap) (q1 : Int64) (q2 : Int64) (q3 : Int64) (p4 : Int32) (p : Program) (e : Env) (s : State) (m : MethodId) (below : List Frame) (meth : Method) (c : Code) (C : Outcome → State → Prop) (hC : ∀ v L u, own_Fw s [] L → (v = some (.int (1 : Int32))) → FrameEnd s (.returned v) u L room_1.cells room_1.slots → C (.returned v) u) (T : State) (h : Heap) (n hh m0 m1 m2 m3 m4 m5 m6 : Nat) (ct hl o0 o1 o2 o3 o4 o5 o6 : Int32) (b : Addr) (k0 k1 k2 k3 k4 k5 k6 : Int64) (W : own_W p l e room_1 s m #[(.long q1), (.long q2), (.long q3), (.int p4)] below meth c Z x ret code maxLocals [] T h (0 + 1 + 0 + 0 + 0 + 0 + 0 + 0 + 0) (0 + 7 + 0 + 0 + 0 + 0 + 0 + 0 + 0)) (hn : ct.toInt = (n : Int)) (hn8 : n < 8) (hhl : hl.toInt = (hh : Int)) (hh2 : hh ≤ 2) (hhn : hh < n ∨ hh = 0) (hm0 : o0.toInt = (m0 : Int)) (hm1 : o1.toInt = (m1 : Int)) (hm2 : o2.toInt = (m2 : Int)) (hm3 : o3.toInt = (m3 : Int)) (hm4 : o4.toInt = (m4 : Int)) (hm5 : o5.toInt = (m5 : Int)) (hm6 : o6.toInt = (m6 : Int)) (hb3 : m1 ≤ m3 ∧ m3 < 32) (hb4 : m1 ≤ m4 ∧ m4 < 32) (hb5 : m2 ≤ m5 ∧ m5 < 32) (hb6 : m2 ≤ m6 ∧ m6 < 32) (h_k0 : (own_key (o0 >>> ((2 : Int32) &&& 31))) = k0) (h_k1 : (own_key (o1 >>> ((2 : Int32) &&& 31))) = k1) (h_k2 : (own_key (o2 >>> ((2 : Int32) &&& 31))) = k2) (h_k3 : (own_key (o3 >>> ((2 : Int32) &&& 31))) = k3) (h_k4 : (own_key (o4 >>> ((2 : Int32) &&& 31))) = k4) (h_k5 : (own_key (o5 >>> ((2 : Int32) &&& 31))) = k5) (h_k6 : (own_key (o6 >>> ((2 : Int32) &&& 31))) = k6) (V_b : own_A Z h b .long 7 (fun j => .long (own_t7 k0 k1 k2 k3 k4 k5 k6 j))) (o_b : s.heap.size ≤ b) :
    own_Go p e below C T (mkF m 206 #[.val (.long q1), .second, .val (.long q2), .second, .val (.long q3), .second, .val (.int p4), .val (.int ct), .val (.int hl), .val (.int o0), .val (.int o1), .val (.int o2), .val (.int o3), .val (.int o4), .val (.int o5), .val (.int o6), .val (.ref b), .unset, .unset, .unset, .unset, .unset, .unset, .unset, .unset, .unset, .unset] []) := by
  refine own_bipush W (7 : Int32) 208 at_206 rfl rfl ?_
  refine own_newarray W 7 7 210 at_208 (wd2 hw) rfl (Nat.le_refl _) (by decide) (by decide) (by decide) rfl ?_
  intro T1019 h1019 d W1019 E1019 g_d o_d V_d
  have ne_b_d : b ≠ d := by rw [g_d]; exact Nat.ne_of_lt V_b.lt
  have V_b := V_b.ext E1019
  show own_Go p e below C T1019 (mkF m 210 #[.val (.long q1), .second, .val (.long q2), .second, .val (.long q3), .second, .val (.int p4), .val (.int ct), .val (.int hl), .val (.int o0), .val (.int o1), .val (.int o2), .val (.int o3), .val (.int o4), .val (.int o5), .val (.int o6), .val (.ref b), .unset, .unset, .unset, .unset, .unset, .unset, .unset, .unset, .unset, .unset] [(.ref d)])
  refine own_dup W1019 211 at_210 rfl rfl ?_
  refine own_iconst W1019 (0 : Int32) 212 at_211 rfl rfl ?_
  refine own_iload W1019 214 at_212 rfl rfl ?_
  refine own_iconst W1019 (3 : Int32) 215 at_214 rfl rfl ?_
  refine own_iand W1019 216 at_215 rfl ?_
  refine own_callS W1019 (A := [(.int (o0 &&& (3 : Int32)))]) (wt := 3) (pc' := 219) (st := [(.int (0 : Int32)), (.ref d), (.ref d)]) at_216 (wd8 hw) (wd9 hw) (wd5 hw) (wd10 hw) (by decide) (own_m2 l Z a0 hw [] h1019 (o0 &&& (3 : Int32))) all0 rfl pd_3 rfl (Nat.le_of_eq rfl) (by decide) (by decide) (by decide) (by decide) rfl ?_
  rintro T1020 h1020 _ W1020 K1020 P1020 rfl
  rw [P1020 rfl rfl] at W1020
  show own_Go p e below C T1020 (mkF m 219 #[.val (.long q1), .second, .val (.long q2), .second, .val (.long q3), .second, .val (.int p4), .val (.int ct), .val (.int hl), .val (.int o0), .val (.int o1), .val (.int o2), .val (.int o3), .val (.int o4), .val (.int o5), .val (.int o6), .val (.ref b), .unset, .unset, .unset, .unset, .unset, .unset, .unset, .unset, .unset, .unset] [(.long (own_val (o0 &&& (3 : Int32)))), (.int (0 : Int32)), (.ref d), (.ref d)])
  generalize h_v0 : (own_val (o0 &&& (3 : Int32))) = v0
  show own_Go p e below C T1020 (mkF m 219 #[.val (.long q1), .second, .val (.long q2), .second, .val (.long q3), .second, .val (.int p4), .val (.int ct), .val (.int hl), .val (.int o0), .val (.int o1), .val (.int o2), .val (.int o3), .val (.int o4), .val (.int o5), .val (.int o6), .val (.ref b), .unset, .unset, .unset, .unset, .unset, .unset, .unset, .unset, .unset, .unset] [(.long v0), (.int (0 : Int32)), (.ref d), (.ref d)])
  refine own_lastore W1020 0 220 at_219 V_d (Or.inr o_d) rfl (by decide) rfl ?_
  intro T1021 h1021 W1021 Wr1021 V_d
  have V_b := V_b.other Wr1021 ne_b_d
  show own_Go p e below C T1021 (mkF m 220 #[.val (.long q1), .second, .val (.long q2), .second, .val (.long q3), .second, .val (.int p4), .val (.int ct), .val (.int hl), .val (.int o0), .val (.int o1), .val (.int o2), .val (.int o3), .val (.int o4), .val (.int o5), .val (.int o6), .val (.ref b), .unset, .unset, .unset, .unset, .unset, .unset, .unset, .unset, .unset, .unset] [(.ref d)])
  refine own_dup W1021 221 at_220 rfl rfl ?_
  refine own_iconst W1021 (1 : Int32) 222 at_221 rfl rfl ?_
  refine own_iload W1021 224 at_222 rfl rfl ?_
  refine own_iconst W1021 (3 : Int32) 225 at_224 rfl rfl ?_
  refine own_iand W1021 226 at_225 rfl ?_
  refine own_callS W1021 (A := [(.int (o1 &&& (3 : Int32)))]) (wt := 3) (pc' := 229) (st := [(.int (1 : Int32)), (.ref d), (.ref d)]) at_226 (wd8 hw) (wd9 hw) (wd5 hw) (wd10 hw) (by decide) (own_m2 l Z a0 hw [] h1021 (o1 &&& (3 : Int32))) all0 rfl pd_3 rfl (Nat.le_of_eq rfl) (by decide) (by decide) (by decide) (by decide) rfl ?_
  rintro T1022 h1022 _ W1022 K1022 P1022 rfl
  rw [P1022 rfl rfl] at W1022
  show own_Go p e below C T1022 (mkF m 229 #[.val (.long q1), .second, .val (.long q2), .second, .val (.long q3), .second, .val (.int p4), .val (.int ct), .val (.int hl), .val (.int o0), .val (.int o1), .val (.int o2), .val (.int o3), .val (.int o4), .val (.int o5), .val (.int o6), .val (.ref b), .unset, .unset, .unset, .unset, .unset, .unset, .unset, .unset, .unset, .unset] [(.long (own_val (o1 &&& (3 : Int32)))), (.int (1 : Int32)), (.ref d), (.ref d)])
  generalize h_v1 : (own_val (o1 &&& (3 : Int32))) = v1
  show own_Go p e below C T1022 (mkF m 229 #[.val (.long q1), .second, .val (.long q2), .second, .val (.long q3), .second, .val (.int p4), .val (.int ct), .val (.int hl), .val (.int o0), .val (.int o1), .val (.int o2), .val (.int o3), .val (.int o4), .val (.int o5), .val (.int o6), .val (.ref b), .unset, .unset, .unset, .unset, .unset, .unset, .unset, .unset, .unset, .unset] [(.long v1), (.int (1 : Int32)), (.ref d), (.ref d)])
  refine own_lastore W1022 1 230 at_229 V_d (Or.inr o_d) rfl (by decide) rfl ?_
  intro T1023 h1023 W1023 Wr1023 V_d
  have V_b := V_b.other Wr1023 ne_b_d
  show own_Go p e below C T1023 (mkF m 230 #[.val (.long q1), .second, .val (.long q2), .second, .val (.long q3), .second, .val (.int p4), .val (.int ct), .val (.int hl), .val (.int o0), .val (.int o1), .val (.int o2), .val (.int o3), .val (.int o4), .val (.int o5), .val (.int o6), .val (.ref b), .unset, .unset, .unset, .unset, .unset, .unset, .unset, .unset, .unset, .unset] [(.ref d)])
  refine own_dup W1023 231 at_230 rfl rfl ?_
  refine own_iconst W1023 (2 : Int32) 232 at_231 rfl rfl ?_
  refine own_iload W1023 234 at_232 rfl rfl ?_
  refine own_iconst W1023 (3 : Int32) 235 at_234 rfl rfl ?_
  refine own_iand W1023 236 at_235 rfl ?_
  refine own_callS W1023 (A := [(.int (o2 &&& (3 : Int32)))]) (wt := 3) (pc' := 239) (st := [(.int (2 : Int32)), (.ref d), (.ref d)]) at_236 (wd8 hw) (wd9 hw) (wd5 hw) (wd10 hw) (by decide) (own_m2 l Z a0 hw [] h1023 (o2 &&& (3 : Int32))) all0 rfl pd_3 rfl (Nat.le_of_eq rfl) (by decide) (by decide) (by decide) (by decide) rfl ?_
  rintro T1024 h1024 _ W1024 K1024 P1024 rfl
  rw [P1024 rfl rfl] at W1024
  show own_Go p e below C T1024 (mkF m 239 #[.val (.long q1), .second, .val (.long q2), .second, .val (.long q3), .second, .val (.int p4), .val (.int ct), .val (.int hl), .val (.int o0), .val (.int o1), .val (.int o2), .val (.int o3), .val (.int o4), .val (.int o5), .val (.int o6), .val (.ref b), .unset, .unset, .unset, .unset, .unset, .unset, .unset, .unset, .unset, .unset] [(.long (own_val (o2 &&& (3 : Int32)))), (.int (2 : Int32)), (.ref d), (.ref d)])
  generalize h_v2 : (own_val (o2 &&& (3 : Int32))) = v2
  show own_Go p e below C T1024 (mkF m 239 #[.val (.long q1), .second, .val (.long q2), .second, .val (.long q3), .second, .val (.int p4), .val (.int ct), .val (.int hl), .val (.int o0), .val (.int o1), .val (.int o2), .val (.int o3), .val (.int o4), .val (.int o5), .val (.int o6), .val (.ref b), .unset, .unset, .unset, .unset, .unset, .unset, .unset, .unset, .unset, .unset] [(.long v2), (.int (2 : Int32)), (.ref d), (.ref d)])
  refine own_lastore W1024 2 240 at_239 V_d (Or.inr o_d) rfl (by decide) rfl ?_
  intro T1025 h1025 W1025 Wr1025 V_d
  have V_b := V_b.other Wr1025 ne_b_d
  show own_Go p e below C T1025 (mkF m 240 #[.val (.long q1), .second, .val (.long q2), .second, .val (.long q3), .second, .val (.int p4), .val (.int ct), .val (.int hl), .val (.int o0), .val (.int o1), .val (.int o2), .val (.int o3), .val (.int o4), .val (.int o5), .val (.int o6), .val (.ref b), .unset, .unset, .unset, .unset, .unset, .unset, .unset, .unset, .unset, .unset] [(.ref d)])
  refine own_dup W1025 241 at_240 rfl rfl ?_
  refine own_iconst W1025 (3 : Int32) 242 at_241 rfl rfl ?_
  refine own_iload W1025 244 at_242 rfl rfl ?_
  refine own_iconst W1025 (3 : Int32) 245 at_244 rfl rfl ?_
  refine own_iand W1025 246 at_245 rfl ?_
  refine own_callS W1025 (A := [(.int (o3 &&& (3 : Int32)))]) (wt := 3) (pc' := 249) (st := [(.int (3 : Int32)), (.ref d), (.ref d)]) at_246 (wd8 hw) (wd9 hw) (wd5 hw) (wd10 hw) (by decide) (own_m2 l Z a0 hw [] h1025 (o3 &&& (3 : Int32))) all0 rfl pd_3 rfl (Nat.le_of_eq rfl) (by decide) (by decide) (by decide) (by decide) rfl ?_
  rintro T1026 h1026 _ W1026 K1026 P1026 rfl
  rw [P1026 rfl rfl] at W1026
  show own_Go p e below C T1026 (mkF m 249 #[.val (.long q1), .second, .val (.long q2), .second, .val (.long q3), .second, .val (.int p4), .val (.int ct), .val (.int hl), .val (.int o0), .val (.int o1), .val (.int o2), .val (.int o3), .val (.int o4), .val (.int o5), .val (.int o6), .val (.ref b), .unset, .unset, .unset, .unset, .unset, .unset, .unset, .unset, .unset, .unset] [(.long (own_val (o3 &&& (3 : Int32)))), (.int (3 : Int32)), (.ref d), (.ref d)])
  generalize h_v3 : (own_val (o3 &&& (3 : Int32))) = v3
  show own_Go p e below C T1026 (mkF m 249 #[.val (.long q1), .second, .val (.long q2), .second, .val (.long q3), .second, .val (.int p4), .val (.int ct), .val (.int hl), .val (.int o0), .val (.int o1), .val (.int o2), .val (.int o3), .val (.int o4), .val (.int o5), .val (.int o6), .val (.ref b), .unset, .unset, .unset, .unset, .unset, .unset, .unset, .unset, .unset, .unset] [(.long v3), (.int (3 : Int32)), (.ref d), (.ref d)])
  refine own_lastore W1026 3 250 at_249 V_d (Or.inr o_d) rfl (by decide) rfl ?_
  intro T1027 h1027 W1027 Wr1027 V_d
  have V_b := V_b.other Wr1027 ne_b_d
  show own_Go p e below C T1027 (mkF m 250 #[.val (.long q1), .second, .val (.long q2), .second, .val (.long q3), .second, .val (.int p4), .val (.int ct), .val (.int hl), .val (.int o0), .val (.int o1), .val (.int o2), .val (.int o3), .val (.int o4), .val (.int o5), .val (.int o6), .val (.ref b), .unset, .unset, .unset, .unset, .unset, .unset, .unset, .unset, .unset, .unset] [(.ref d)])
  refine own_dup W1027 251 at_250 rfl rfl ?_
  refine own_iconst W1027 (4 : Int32) 252 at_251 rfl rfl ?_
  refine own_iload W1027 254 at_252 rfl rfl ?_
  refine own_iconst W1027 (3 : Int32) 255 at_254 rfl rfl ?_
  refine own_iand W1027 256 at_255 rfl ?_
  refine own_callS W1027 (A := [(.int (o4 &&& (3 : Int32)))]) (wt := 3) (pc' := 259) (st := [(.int (4 : Int32)), (.ref d), (.ref d)]) at_256 (wd8 hw) (wd9 hw) (wd5 hw) (wd10 hw) (by decide) (own_m2 l Z a0 hw [] h1027 (o4 &&& (3 : Int32))) all0 rfl pd_3 rfl (Nat.le_of_eq rfl) (by decide) (by decide) (by decide) (by decide) rfl ?_
  rintro T1028 h1028 _ W1028 K1028 P1028 rfl
  rw [P1028 rfl rfl] at W1028
  show own_Go p e below C T1028 (mkF m 259 #[.val (.long q1), .second, .val (.long q2), .second, .val (.long q3), .second, .val (.int p4), .val (.int ct), .val (.int hl), .val (.int o0), .val (.int o1), .val (.int o2), .val (.int o3), .val (.int o4), .val (.int o5), .val (.int o6), .val (.ref b), .unset, .unset, .unset, .unset, .unset, .unset, .unset, .unset, .unset, .unset] [(.long (own_val (o4 &&& (3 : Int32)))), (.int (4 : Int32)), (.ref d), (.ref d)])
  generalize h_v4 : (own_val (o4 &&& (3 : Int32))) = v4
  show own_Go p e below C T1028 (mkF m 259 #[.val (.long q1), .second, .val (.long q2), .second, .val (.long q3), .second, .val (.int p4), .val (.int ct), .val (.int hl), .val (.int o0), .val (.int o1), .val (.int o2), .val (.int o3), .val (.int o4), .val (.int o5), .val (.int o6), .val (.ref b), .unset, .unset, .unset, .unset, .unset, .unset, .unset, .unset, .unset, .unset] [(.long v4), (.int (4 : Int32)), (.ref d), (.ref d)])
  refine own_lastore W1028 4 260 at_259 V_d (Or.inr o_d) rfl (by decide) rfl ?_
  intro T1029 h1029 W1029 Wr1029 V_d
  have V_b := V_b.other Wr1029 ne_b_d
  show own_Go p e below C T1029 (mkF m 260 #[.val (.long q1), .second, .val (.long q2), .second, .val (.long q3), .second, .val (.int p4), .val (.int ct), .val (.int hl), .val (.int o0), .val (.int o1), .val (.int o2), .val (.int o3), .val (.int o4), .val (.int o5), .val (.int o6), .val (.ref b), .unset, .unset, .unset, .unset, .unset, .unset, .unset, .unset, .unset, .unset] [(.ref d)])
  refine own_dup W1029 261 at_260 rfl rfl ?_
  refine own_iconst W1029 (5 : Int32) 262 at_261 rfl rfl ?_
  refine own_iload W1029 264 at_262 rfl rfl ?_
  refine own_iconst W1029 (3 : Int32) 265 at_264 rfl rfl ?_
  refine own_iand W1029 266 at_265 rfl ?_
  refine own_callS W1029 (A := [(.int (o5 &&& (3 : Int32)))]) (wt := 3) (pc' := 269) (st := [(.int (5 : Int32)), (.ref d), (.ref d)]) at_266 (wd8 hw) (wd9 hw) (wd5 hw) (wd10 hw) (by decide) (own_m2 l Z a0 hw [] h1029 (o5 &&& (3 : Int32))) all0 rfl pd_3 rfl (Nat.le_of_eq rfl) (by decide) (by decide) (by decide) (by decide) rfl ?_
  rintro T1030 h1030 _ W1030 K1030 P1030 rfl
  rw [P1030 rfl rfl] at W1030
  show own_Go p e below C T1030 (mkF m 269 #[.val (.long q1), .second, .val (.long q2), .second, .val (.long q3), .second, .val (.int p4), .val (.int ct), .val (.int hl), .val (.int o0), .val (.int o1), .val (.int o2), .val (.int o3), .val (.int o4), .val (.int o5), .val (.int o6), .val (.ref b), .unset, .unset, .unset, .unset, .unset, .unset, .unset, .unset, .unset, .unset] [(.long (own_val (o5 &&& (3 : Int32)))), (.int (5 : Int32)), (.ref d), (.ref d)])
  generalize h_v5 : (own_val (o5 &&& (3 : Int32))) = v5
  show own_Go p e below C T1030 (mkF m 269 #[.val (.long q1), .second, .val (.long q2), .second, .val (.long q3), .second, .val (.int p4), .val (.int ct), .val (.int hl), .val (.int o0), .val (.int o1), .val (.int o2), .val (.int o3), .val (.int o4), .val (.int o5), .val (.int o6), .val (.ref b), .unset, .unset, .unset, .unset, .unset, .unset, .unset, .unset, .unset, .unset] [(.long v5), (.int (5 : Int32)), (.ref d), (.ref d)])
  refine own_lastore W1030 5 270 at_269 V_d (Or.inr o_d) rfl (by decide) rfl ?_
  intro T1031 h1031 W1031 Wr1031 V_d
  have V_b := V_b.other Wr1031 ne_b_d
  show own_Go p e below C T1031 (mkF m 270 #[.val (.long q1), .second, .val (.long q2), .second, .val (.long q3), .second, .val (.int p4), .val (.int ct), .val (.int hl), .val (.int o0), .val (.int o1), .val (.int o2), .val (.int o3), .val (.int o4), .val (.int o5), .val (.int o6), .val (.ref b), .unset, .unset, .unset, .unset, .unset, .unset, .unset, .unset, .unset, .unset] [(.ref d)])
  refine own_dup W1031 271 at_270 rfl rfl ?_
  refine own_bipush W1031 (6 : Int32) 273 at_271 rfl rfl ?_
  refine own_iload W1031 275 at_273 rfl rfl ?_
  refine own_iconst W1031 (3 : Int32) 276 at_275 rfl rfl ?_
  refine own_iand W1031 277 at_276 rfl ?_
  refine own_callS W1031 (A := [(.int (o6 &&& (3 : Int32)))]) (wt := 3) (pc' := 280) (st := [(.int (6 : Int32)), (.ref d), (.ref d)]) at_277 (wd8 hw) (wd9 hw) (wd5 hw) (wd10 hw) (by decide) (own_m2 l Z a0 hw [] h1031 (o6 &&& (3 : Int32))) all0 rfl pd_3 rfl (Nat.le_of_eq rfl) (by decide) (by decide) (by decide) (by decide) rfl ?_
  rintro T1032 h1032 _ W1032 K1032 P1032 rfl
  rw [P1032 rfl rfl] at W1032
  show own_Go p e below C T1032 (mkF m 280 #[.val (.long q1), .second, .val (.long q2), .second, .val (.long q3), .second, .val (.int p4), .val (.int ct), .val (.int hl), .val (.int o0), .val (.int o1), .val (.int o2), .val (.int o3), .val (.int o4), .val (.int o5), .val (.int o6), .val (.ref b), .unset, .unset, .unset, .unset, .unset, .unset, .unset, .unset, .unset, .unset] [(.long (own_val (o6 &&& (3 : Int32)))), (.int (6 : Int32)), (.ref d), (.ref d)])
  generalize h_v6 : (own_val (o6 &&& (3 : Int32))) = v6
  show own_Go p e below C T1032 (mkF m 280 #[.val (.long q1), .second, .val (.long q2), .second, .val (.long q3), .second, .val (.int p4), .val (.int ct), .val (.int hl), .val (.int o0), .val (.int o1), .val (.int o2), .val (.int o3), .val (.int o4), .val (.int o5), .val (.int o6), .val (.ref b), .unset, .unset, .unset, .unset, .unset, .unset, .unset, .unset, .unset, .unset] [(.long v6), (.int (6 : Int32)), (.ref d), (.ref d)])
  refine own_lastore W1032 6 281 at_280 V_d (Or.inr o_d) rfl (by decide) rfl ?_
  intro T1033 h1033 W1033 Wr1033 V_d
  have V_b := V_b.other Wr1033 ne_b_d
  show own_Go p e below C T1033 (mkF m 281 #[.val (.long q1), .second, .val (.long q2), .second, .val (.long q3), .second, .val (.int p4), .val (.int ct), .val (.int hl), .val (.int o0), .val (.int o1), .val (.int o2), .val (.int o3), .val (.int o4), .val (.int o5), .val (.int o6), .val (.ref b), .unset, .unset, .unset, .unset, .unset, .unset, .unset, .unset, .unset, .unset] [(.ref d)])
  have V_d : own_A Z h1033 d .long 7 (fun j => .long (own_t7 v0 v1 v2 v3 v4 v5 v6 j)) := V_d.congr (own_c7 v0 v1 v2 v3 v4 v5 v6)
  refine own_astore W1033 283 #[.val (.long q1), .second, .val (.long q2), .second, .val (.long q3), .second, .val (.int p4), .val (.int ct), .val (.int hl), .val (.int o0), .val (.int o1), .val (.int o2), .val (.int o3), .val (.int o4), .val (.int o5), .val (.int o6), .val (.ref b), .val (.ref d), .unset, .unset, .unset, .unset, .unset, .unset, .unset, .unset, .unset] at_281 rfl rfl rfl ?_
  exact own_m0e l Z a0 hw h0 q1 q2 q3 p4 p e s m below meth c C hC T1033 h1033 n hh m0 m1 m2 m3 m4 m5 m6 ct hl o0 o1 o2 o3 o4 o5 o6 b d k0 k1 k2 k3 k4 k5 k6 v0 v1 v2 v3 v4 v5 v6 W1033 hn hn8 hhl hh2 hhn hm0 hm1 hm2 hm3 hm4 hm5 hm6 hb3 hb4 hb5 hb6 h_k0 h_k1 h_k2 h_k3 h_k4 h_k5 h_k6 h_v0 h_v1 h_v2 h_v3 h_v4 h_v5 h_v6 V_b V_d o_b o_d ne_b_d
set_option maxRecDepth 65536 in
set_option maxHeartbeats 40000000 in
theorem own_m0 (l : Launch) (Z : State) (a0 : Array Value) (hw : ∀ d ∈ tables_1, d.before a0 Z = true) (wo : List Jvm.Cond) (h0 : Heap) (q1 : Int64) (q2 : Int64) (q3 : Int64) (p4 : Int32) :
    own_M l Z wo x code maxLocals ret room_1 [] #[(.long q1), (.long q2), (.long q3), (.int p4)] h0 (fun v h => v = some (.int (1 : Int32))) := by
  refine own_body (plainFor_of_name pn_0) (fun m => ef_m0 m q1 q2 q3 p4) ?_
  intro p e s m below meth c C hC T0 W0
  refine own_iload W0 2 at_0 rfl rfl ?_
  refine own_bipush W0 (7 : Int32) 4 at_2 rfl rfl ?_
  refine own_iand W0 5 at_4 rfl ?_
  refine own_istore W0 7 #[.val (.long q1), .second, .val (.long q2), .second, .val (.long q3), .second, .val (.int p4), .val (.int (p4 &&& (7 : Int32))), .unset, .unset, .unset, .unset, .unset, .unset, .unset, .unset, .unset, .unset, .unset, .unset, .unset, .unset, .unset, .unset, .unset, .unset, .unset] at_5 rfl rfl ?_
  obtain ⟨n, hn, hn8⟩ := own_cnt p4
  generalize h_ct : (p4 &&& (7 : Int32)) = ct at hn ⊢
  show own_Go p e below C T0 (mkF m 7 #[.val (.long q1), .second, .val (.long q2), .second, .val (.long q3), .second, .val (.int p4), .val (.int ct), .unset, .unset, .unset, .unset, .unset, .unset, .unset, .unset, .unset, .unset, .unset, .unset, .unset, .unset, .unset, .unset, .unset, .unset, .unset] [])
  refine own_iload W0 9 at_7 rfl rfl ?_
  refine own_iconst W0 (3 : Int32) 10 at_9 rfl rfl ?_
  refine own_iushr W0 11 at_10 rfl ?_
  refine own_iconst W0 (3 : Int32) 12 at_11 rfl rfl ?_
  refine own_iand W0 13 at_12 rfl ?_
  refine own_istore W0 15 #[.val (.long q1), .second, .val (.long q2), .second, .val (.long q3), .second, .val (.int p4), .val (.int ct), .val (.int (((p4.toUInt32 >>> ((3 : Int32) &&& 31).toUInt32).toInt32) &&& (3 : Int32))), .unset, .unset, .unset, .unset, .unset, .unset, .unset, .unset, .unset, .unset, .unset, .unset, .unset, .unset, .unset, .unset, .unset, .unset] at_13 rfl rfl ?_
  refine own_iload W0 17 at_15 rfl rfl ?_
  refine own_iconst W0 (3 : Int32) 18 at_17 rfl rfl ?_
  suffices J1 : own_Go p e below C T0 (mkF m 31 #[.val (.long q1), .second, .val (.long q2), .second, .val (.long q3), .second, .val (.int p4), .val (.int ct), .val (.int (if (((p4.toUInt32 >>> ((3 : Int32) &&& 31).toUInt32).toInt32) &&& (3 : Int32)) = (3 : Int32) then (0 : Int32) else (if (((p4.toUInt32 >>> ((3 : Int32) &&& 31).toUInt32).toInt32) &&& (3 : Int32)) < ct then (((p4.toUInt32 >>> ((3 : Int32) &&& 31).toUInt32).toInt32) &&& (3 : Int32)) else (0 : Int32)))), .unset, .unset, .unset, .unset, .unset, .unset, .unset, .unset, .unset, .unset, .unset, .unset, .unset, .unset, .unset, .unset, .unset, .unset] []) by
    by_cases c2 : (((p4.toUInt32 >>> ((3 : Int32) &&& 31).toUInt32).toInt32) &&& (3 : Int32)) = (3 : Int32)
    · refine own_icmpY W0 28 at_18 ((teq c2).1) (by decide) (by decide) ?_
      refine own_iconst W0 (0 : Int32) 29 at_28 rfl rfl ?_
      refine own_istore W0 31 #[.val (.long q1), .second, .val (.long q2), .second, .val (.long q3), .second, .val (.int p4), .val (.int ct), .val (.int (0 : Int32)), .unset, .unset, .unset, .unset, .unset, .unset, .unset, .unset, .unset, .unset, .unset, .unset, .unset, .unset, .unset, .unset, .unset, .unset] at_29 rfl rfl ?_
      first | (simp only [if_pos c2] at J1; exact J1) | (simp only [if_pos c2] at J1 ⊢; exact J1)
    · refine own_icmpN W0 21 at_18 ((feq c2).1) rfl ?_
      refine own_iload W0 23 at_21 rfl rfl ?_
      refine own_iload W0 25 at_23 rfl rfl ?_
      by_cases c3 : (((p4.toUInt32 >>> ((3 : Int32) &&& 31).toUInt32).toInt32) &&& (3 : Int32)) < ct
      · refine own_icmpY W0 31 at_25 ((tlt c3).1) (by decide) (by decide) ?_
        first | (simp only [if_neg c2, if_pos c3] at J1; exact J1) | (simp only [if_neg c2, if_pos c3] at J1 ⊢; exact J1)
      · refine own_icmpN W0 28 at_25 ((flt c3).1) rfl ?_
        refine own_iconst W0 (0 : Int32) 29 at_28 rfl rfl ?_
        refine own_istore W0 31 #[.val (.long q1), .second, .val (.long q2), .second, .val (.long q3), .second, .val (.int p4), .val (.int ct), .val (.int (0 : Int32)), .unset, .unset, .unset, .unset, .unset, .unset, .unset, .unset, .unset, .unset, .unset, .unset, .unset, .unset, .unset, .unset, .unset, .unset] at_29 rfl rfl ?_
        first | (simp only [if_neg c2, if_neg c3] at J1; exact J1) | (simp only [if_neg c2, if_neg c3] at J1 ⊢; exact J1)
  obtain ⟨hh, hhl, hh2, hhn⟩ := own_hole p4 ct n hn
  generalize h_hl : (if (((p4.toUInt32 >>> ((3 : Int32) &&& 31).toUInt32).toInt32) &&& (3 : Int32)) = (3 : Int32) then (0 : Int32) else (if (((p4.toUInt32 >>> ((3 : Int32) &&& 31).toUInt32).toInt32) &&& (3 : Int32)) < ct then (((p4.toUInt32 >>> ((3 : Int32) &&& 31).toUInt32).toInt32) &&& (3 : Int32)) else (0 : Int32))) = hl at hhl ⊢
  show own_Go p e below C T0 (mkF m 31 #[.val (.long q1), .second, .val (.long q2), .second, .val (.long q3), .second, .val (.int p4), .val (.int ct), .val (.int hl), .unset, .unset, .unset, .unset, .unset, .unset, .unset, .unset, .unset, .unset, .unset, .unset, .unset, .unset, .unset, .unset, .unset, .unset] [])
  refine own_lload W0 33 at_31 rfl rfl ?_
  refine own_ldc2Long W0 36 at_33 (wd0 hw) rfl ?_
  refine own_land W0 37 at_36 rfl ?_
  refine own_l2i W0 38 at_37 rfl ?_
  refine own_istore W0 40 #[.val (.long q1), .second, .val (.long q2), .second, .val (.long q3), .second, .val (.int p4), .val (.int ct), .val (.int hl), .val (.int (q3 &&& (15 : Int64)).toInt32), .unset, .unset, .unset, .unset, .unset, .unset, .unset, .unset, .unset, .unset, .unset, .unset, .unset, .unset, .unset, .unset, .unset] at_38 rfl rfl ?_
  obtain ⟨m0, hm0, hm0b⟩ := own_o15 q3
  generalize h_o0 : (q3 &&& (15 : Int64)).toInt32 = o0 at hm0 ⊢
  show own_Go p e below C T0 (mkF m 40 #[.val (.long q1), .second, .val (.long q2), .second, .val (.long q3), .second, .val (.int p4), .val (.int ct), .val (.int hl), .val (.int o0), .unset, .unset, .unset, .unset, .unset, .unset, .unset, .unset, .unset, .unset, .unset, .unset, .unset, .unset, .unset, .unset, .unset] [])
  refine own_iload W0 42 at_40 rfl rfl ?_
  refine own_lload W0 44 at_42 rfl rfl ?_
  refine own_iconst W0 (4 : Int32) 45 at_44 rfl rfl ?_
  refine own_lushr W0 46 at_45 rfl ?_
  refine own_ldc2Long W0 49 at_46 (wd1 hw) rfl ?_
  refine own_land W0 50 at_49 rfl ?_
  refine own_l2i W0 51 at_50 rfl ?_
  refine own_iadd W0 52 at_51 rfl ?_
  refine own_istore W0 54 #[.val (.long q1), .second, .val (.long q2), .second, .val (.long q3), .second, .val (.int p4), .val (.int ct), .val (.int hl), .val (.int o0), .val (.int (o0 + (((q3.toUInt64 >>> ((4 : Int32) &&& 0x3f).toInt64.toUInt64).toInt64) &&& (7 : Int64)).toInt32)), .unset, .unset, .unset, .unset, .unset, .unset, .unset, .unset, .unset, .unset, .unset, .unset, .unset, .unset, .unset, .unset] at_52 rfl rfl ?_
  obtain ⟨m1, hm1, hm1a, hm1b⟩ := own_o7 o0 q3 (4 : Int32) m0 hm0 (by omega)
  generalize h_o1 : (o0 + (((q3.toUInt64 >>> ((4 : Int32) &&& 0x3f).toInt64.toUInt64).toInt64) &&& (7 : Int64)).toInt32) = o1 at hm1 ⊢
  show own_Go p e below C T0 (mkF m 54 #[.val (.long q1), .second, .val (.long q2), .second, .val (.long q3), .second, .val (.int p4), .val (.int ct), .val (.int hl), .val (.int o0), .val (.int o1), .unset, .unset, .unset, .unset, .unset, .unset, .unset, .unset, .unset, .unset, .unset, .unset, .unset, .unset, .unset, .unset] [])
  refine own_iload W0 56 at_54 rfl rfl ?_
  refine own_lload W0 58 at_56 rfl rfl ?_
  refine own_bipush W0 (7 : Int32) 60 at_58 rfl rfl ?_
  refine own_lushr W0 61 at_60 rfl ?_
  refine own_ldc2Long W0 64 at_61 (wd1 hw) rfl ?_
  refine own_land W0 65 at_64 rfl ?_
  refine own_l2i W0 66 at_65 rfl ?_
  refine own_iadd W0 67 at_66 rfl ?_
  refine own_istore W0 69 #[.val (.long q1), .second, .val (.long q2), .second, .val (.long q3), .second, .val (.int p4), .val (.int ct), .val (.int hl), .val (.int o0), .val (.int o1), .val (.int (o0 + (((q3.toUInt64 >>> ((7 : Int32) &&& 0x3f).toInt64.toUInt64).toInt64) &&& (7 : Int64)).toInt32)), .unset, .unset, .unset, .unset, .unset, .unset, .unset, .unset, .unset, .unset, .unset, .unset, .unset, .unset, .unset] at_67 rfl rfl ?_
  obtain ⟨m2, hm2, hm2a, hm2b⟩ := own_o7 o0 q3 (7 : Int32) m0 hm0 (by omega)
  generalize h_o2 : (o0 + (((q3.toUInt64 >>> ((7 : Int32) &&& 0x3f).toInt64.toUInt64).toInt64) &&& (7 : Int64)).toInt32) = o2 at hm2 ⊢
  show own_Go p e below C T0 (mkF m 69 #[.val (.long q1), .second, .val (.long q2), .second, .val (.long q3), .second, .val (.int p4), .val (.int ct), .val (.int hl), .val (.int o0), .val (.int o1), .val (.int o2), .unset, .unset, .unset, .unset, .unset, .unset, .unset, .unset, .unset, .unset, .unset, .unset, .unset, .unset, .unset] [])
  refine own_iload W0 71 at_69 rfl rfl ?_
  refine own_lload W0 73 at_71 rfl rfl ?_
  refine own_bipush W0 (10 : Int32) 75 at_73 rfl rfl ?_
  refine own_lushr W0 76 at_75 rfl ?_
  refine own_ldc2Long W0 79 at_76 (wd1 hw) rfl ?_
  refine own_land W0 80 at_79 rfl ?_
  refine own_l2i W0 81 at_80 rfl ?_
  refine own_iadd W0 82 at_81 rfl ?_
  refine own_istore W0 84 #[.val (.long q1), .second, .val (.long q2), .second, .val (.long q3), .second, .val (.int p4), .val (.int ct), .val (.int hl), .val (.int o0), .val (.int o1), .val (.int o2), .val (.int (o1 + (((q3.toUInt64 >>> ((10 : Int32) &&& 0x3f).toInt64.toUInt64).toInt64) &&& (7 : Int64)).toInt32)), .unset, .unset, .unset, .unset, .unset, .unset, .unset, .unset, .unset, .unset, .unset, .unset, .unset, .unset] at_82 rfl rfl ?_
  obtain ⟨m3, hm3, hm3a, hm3b⟩ := own_o7 o1 q3 (10 : Int32) m1 hm1 (by omega)
  generalize h_o3 : (o1 + (((q3.toUInt64 >>> ((10 : Int32) &&& 0x3f).toInt64.toUInt64).toInt64) &&& (7 : Int64)).toInt32) = o3 at hm3 ⊢
  show own_Go p e below C T0 (mkF m 84 #[.val (.long q1), .second, .val (.long q2), .second, .val (.long q3), .second, .val (.int p4), .val (.int ct), .val (.int hl), .val (.int o0), .val (.int o1), .val (.int o2), .val (.int o3), .unset, .unset, .unset, .unset, .unset, .unset, .unset, .unset, .unset, .unset, .unset, .unset, .unset, .unset] [])
  refine own_iload W0 86 at_84 rfl rfl ?_
  refine own_lload W0 88 at_86 rfl rfl ?_
  refine own_bipush W0 (13 : Int32) 90 at_88 rfl rfl ?_
  refine own_lushr W0 91 at_90 rfl ?_
  refine own_ldc2Long W0 94 at_91 (wd1 hw) rfl ?_
  refine own_land W0 95 at_94 rfl ?_
  refine own_l2i W0 96 at_95 rfl ?_
  refine own_iadd W0 97 at_96 rfl ?_
  refine own_istore W0 99 #[.val (.long q1), .second, .val (.long q2), .second, .val (.long q3), .second, .val (.int p4), .val (.int ct), .val (.int hl), .val (.int o0), .val (.int o1), .val (.int o2), .val (.int o3), .val (.int (o1 + (((q3.toUInt64 >>> ((13 : Int32) &&& 0x3f).toInt64.toUInt64).toInt64) &&& (7 : Int64)).toInt32)), .unset, .unset, .unset, .unset, .unset, .unset, .unset, .unset, .unset, .unset, .unset, .unset, .unset] at_97 rfl rfl ?_
  obtain ⟨m4, hm4, hm4a, hm4b⟩ := own_o7 o1 q3 (13 : Int32) m1 hm1 (by omega)
  generalize h_o4 : (o1 + (((q3.toUInt64 >>> ((13 : Int32) &&& 0x3f).toInt64.toUInt64).toInt64) &&& (7 : Int64)).toInt32) = o4 at hm4 ⊢
  show own_Go p e below C T0 (mkF m 99 #[.val (.long q1), .second, .val (.long q2), .second, .val (.long q3), .second, .val (.int p4), .val (.int ct), .val (.int hl), .val (.int o0), .val (.int o1), .val (.int o2), .val (.int o3), .val (.int o4), .unset, .unset, .unset, .unset, .unset, .unset, .unset, .unset, .unset, .unset, .unset, .unset, .unset] [])
  refine own_iload W0 101 at_99 rfl rfl ?_
  refine own_lload W0 103 at_101 rfl rfl ?_
  refine own_bipush W0 (16 : Int32) 105 at_103 rfl rfl ?_
  refine own_lushr W0 106 at_105 rfl ?_
  refine own_ldc2Long W0 109 at_106 (wd1 hw) rfl ?_
  refine own_land W0 110 at_109 rfl ?_
  refine own_l2i W0 111 at_110 rfl ?_
  refine own_iadd W0 112 at_111 rfl ?_
  refine own_istore W0 114 #[.val (.long q1), .second, .val (.long q2), .second, .val (.long q3), .second, .val (.int p4), .val (.int ct), .val (.int hl), .val (.int o0), .val (.int o1), .val (.int o2), .val (.int o3), .val (.int o4), .val (.int (o2 + (((q3.toUInt64 >>> ((16 : Int32) &&& 0x3f).toInt64.toUInt64).toInt64) &&& (7 : Int64)).toInt32)), .unset, .unset, .unset, .unset, .unset, .unset, .unset, .unset, .unset, .unset, .unset, .unset] at_112 rfl rfl ?_
  obtain ⟨m5, hm5, hm5a, hm5b⟩ := own_o7 o2 q3 (16 : Int32) m2 hm2 (by omega)
  generalize h_o5 : (o2 + (((q3.toUInt64 >>> ((16 : Int32) &&& 0x3f).toInt64.toUInt64).toInt64) &&& (7 : Int64)).toInt32) = o5 at hm5 ⊢
  show own_Go p e below C T0 (mkF m 114 #[.val (.long q1), .second, .val (.long q2), .second, .val (.long q3), .second, .val (.int p4), .val (.int ct), .val (.int hl), .val (.int o0), .val (.int o1), .val (.int o2), .val (.int o3), .val (.int o4), .val (.int o5), .unset, .unset, .unset, .unset, .unset, .unset, .unset, .unset, .unset, .unset, .unset, .unset] [])
  refine own_iload W0 116 at_114 rfl rfl ?_
  refine own_lload W0 118 at_116 rfl rfl ?_
  refine own_bipush W0 (19 : Int32) 120 at_118 rfl rfl ?_
  refine own_lushr W0 121 at_120 rfl ?_
  refine own_ldc2Long W0 124 at_121 (wd1 hw) rfl ?_
  refine own_land W0 125 at_124 rfl ?_
  refine own_l2i W0 126 at_125 rfl ?_
  refine own_iadd W0 127 at_126 rfl ?_
  refine own_istore W0 129 #[.val (.long q1), .second, .val (.long q2), .second, .val (.long q3), .second, .val (.int p4), .val (.int ct), .val (.int hl), .val (.int o0), .val (.int o1), .val (.int o2), .val (.int o3), .val (.int o4), .val (.int o5), .val (.int (o2 + (((q3.toUInt64 >>> ((19 : Int32) &&& 0x3f).toInt64.toUInt64).toInt64) &&& (7 : Int64)).toInt32)), .unset, .unset, .unset, .unset, .unset, .unset, .unset, .unset, .unset, .unset, .unset] at_127 rfl rfl ?_
  obtain ⟨m6, hm6, hm6a, hm6b⟩ := own_o7 o2 q3 (19 : Int32) m2 hm2 (by omega)
  generalize h_o6 : (o2 + (((q3.toUInt64 >>> ((19 : Int32) &&& 0x3f).toInt64.toUInt64).toInt64) &&& (7 : Int64)).toInt32) = o6 at hm6 ⊢
  show own_Go p e below C T0 (mkF m 129 #[.val (.long q1), .second, .val (.long q2), .second, .val (.long q3), .second, .val (.int p4), .val (.int ct), .val (.int hl), .val (.int o0), .val (.int o1), .val (.int o2), .val (.int o3), .val (.int o4), .val (.int o5), .val (.int o6), .unset, .unset, .unset, .unset, .unset, .unset, .unset, .unset, .unset, .unset, .unset] [])
  have hb3 : m1 ≤ m3 ∧ m3 < 32 := by omega
  have hb4 : m1 ≤ m4 ∧ m4 < 32 := by omega
  have hb5 : m2 ≤ m5 ∧ m5 < 32 := by omega
  have hb6 : m2 ≤ m6 ∧ m6 < 32 := by omega
  refine own_bipush W0 (7 : Int32) 131 at_129 rfl rfl ?_
  refine own_newarray W0 7 7 133 at_131 (wd2 hw) rfl (Nat.le_refl _) (by decide) (by decide) (by decide) rfl ?_
  intro T4 h4 b W4 E4 g_b o_b V_b
  show own_Go p e below C T4 (mkF m 133 #[.val (.long q1), .second, .val (.long q2), .second, .val (.long q3), .second, .val (.int p4), .val (.int ct), .val (.int hl), .val (.int o0), .val (.int o1), .val (.int o2), .val (.int o3), .val (.int o4), .val (.int o5), .val (.int o6), .unset, .unset, .unset, .unset, .unset, .unset, .unset, .unset, .unset, .unset, .unset] [(.ref b)])
  refine own_dup W4 134 at_133 rfl rfl ?_
  refine own_iconst W4 (0 : Int32) 135 at_134 rfl rfl ?_
  refine own_iload W4 137 at_135 rfl rfl ?_
  refine own_iconst W4 (2 : Int32) 138 at_137 rfl rfl ?_
  refine own_ishr W4 139 at_138 rfl ?_
  refine own_callS W4 (A := [(.int (o0 >>> ((2 : Int32) &&& 31)))]) (wt := 3) (pc' := 142) (st := [(.int (0 : Int32)), (.ref b), (.ref b)]) at_139 (wd3 hw) (wd4 hw) (wd5 hw) (wd6 hw) (by decide) (own_m1 l Z a0 hw [] h4 (o0 >>> ((2 : Int32) &&& 31))) all0 rfl pd_3 rfl (Nat.le_of_eq rfl) (by decide) (by decide) (by decide) (by decide) rfl ?_
  rintro T5 h5 _ W5 K5 P5 rfl
  rw [P5 rfl rfl] at W5
  show own_Go p e below C T5 (mkF m 142 #[.val (.long q1), .second, .val (.long q2), .second, .val (.long q3), .second, .val (.int p4), .val (.int ct), .val (.int hl), .val (.int o0), .val (.int o1), .val (.int o2), .val (.int o3), .val (.int o4), .val (.int o5), .val (.int o6), .unset, .unset, .unset, .unset, .unset, .unset, .unset, .unset, .unset, .unset, .unset] [(.long (own_key (o0 >>> ((2 : Int32) &&& 31)))), (.int (0 : Int32)), (.ref b), (.ref b)])
  generalize h_k0 : (own_key (o0 >>> ((2 : Int32) &&& 31))) = k0
  show own_Go p e below C T5 (mkF m 142 #[.val (.long q1), .second, .val (.long q2), .second, .val (.long q3), .second, .val (.int p4), .val (.int ct), .val (.int hl), .val (.int o0), .val (.int o1), .val (.int o2), .val (.int o3), .val (.int o4), .val (.int o5), .val (.int o6), .unset, .unset, .unset, .unset, .unset, .unset, .unset, .unset, .unset, .unset, .unset] [(.long k0), (.int (0 : Int32)), (.ref b), (.ref b)])
  refine own_lastore W5 0 143 at_142 V_b (Or.inr o_b) rfl (by decide) rfl ?_
  intro T6 h6 W6 Wr6 V_b
  show own_Go p e below C T6 (mkF m 143 #[.val (.long q1), .second, .val (.long q2), .second, .val (.long q3), .second, .val (.int p4), .val (.int ct), .val (.int hl), .val (.int o0), .val (.int o1), .val (.int o2), .val (.int o3), .val (.int o4), .val (.int o5), .val (.int o6), .unset, .unset, .unset, .unset, .unset, .unset, .unset, .unset, .unset, .unset, .unset] [(.ref b)])
  refine own_dup W6 144 at_143 rfl rfl ?_
  refine own_iconst W6 (1 : Int32) 145 at_144 rfl rfl ?_
  refine own_iload W6 147 at_145 rfl rfl ?_
  refine own_iconst W6 (2 : Int32) 148 at_147 rfl rfl ?_
  refine own_ishr W6 149 at_148 rfl ?_
  refine own_callS W6 (A := [(.int (o1 >>> ((2 : Int32) &&& 31)))]) (wt := 3) (pc' := 152) (st := [(.int (1 : Int32)), (.ref b), (.ref b)]) at_149 (wd3 hw) (wd4 hw) (wd5 hw) (wd6 hw) (by decide) (own_m1 l Z a0 hw [] h6 (o1 >>> ((2 : Int32) &&& 31))) all0 rfl pd_3 rfl (Nat.le_of_eq rfl) (by decide) (by decide) (by decide) (by decide) rfl ?_
  rintro T7 h7 _ W7 K7 P7 rfl
  rw [P7 rfl rfl] at W7
  show own_Go p e below C T7 (mkF m 152 #[.val (.long q1), .second, .val (.long q2), .second, .val (.long q3), .second, .val (.int p4), .val (.int ct), .val (.int hl), .val (.int o0), .val (.int o1), .val (.int o2), .val (.int o3), .val (.int o4), .val (.int o5), .val (.int o6), .unset, .unset, .unset, .unset, .unset, .unset, .unset, .unset, .unset, .unset, .unset] [(.long (own_key (o1 >>> ((2 : Int32) &&& 31)))), (.int (1 : Int32)), (.ref b), (.ref b)])
  generalize h_k1 : (own_key (o1 >>> ((2 : Int32) &&& 31))) = k1
  show own_Go p e below C T7 (mkF m 152 #[.val (.long q1), .second, .val (.long q2), .second, .val (.long q3), .second, .val (.int p4), .val (.int ct), .val (.int hl), .val (.int o0), .val (.int o1), .val (.int o2), .val (.int o3), .val (.int o4), .val (.int o5), .val (.int o6), .unset, .unset, .unset, .unset, .unset, .unset, .unset, .unset, .unset, .unset, .unset] [(.long k1), (.int (1 : Int32)), (.ref b), (.ref b)])
  refine own_lastore W7 1 153 at_152 V_b (Or.inr o_b) rfl (by decide) rfl ?_
  intro T8 h8 W8 Wr8 V_b
  show own_Go p e below C T8 (mkF m 153 #[.val (.long q1), .second, .val (.long q2), .second, .val (.long q3), .second, .val (.int p4), .val (.int ct), .val (.int hl), .val (.int o0), .val (.int o1), .val (.int o2), .val (.int o3), .val (.int o4), .val (.int o5), .val (.int o6), .unset, .unset, .unset, .unset, .unset, .unset, .unset, .unset, .unset, .unset, .unset] [(.ref b)])
  refine own_dup W8 154 at_153 rfl rfl ?_
  refine own_iconst W8 (2 : Int32) 155 at_154 rfl rfl ?_
  refine own_iload W8 157 at_155 rfl rfl ?_
  refine own_iconst W8 (2 : Int32) 158 at_157 rfl rfl ?_
  refine own_ishr W8 159 at_158 rfl ?_
  refine own_callS W8 (A := [(.int (o2 >>> ((2 : Int32) &&& 31)))]) (wt := 3) (pc' := 162) (st := [(.int (2 : Int32)), (.ref b), (.ref b)]) at_159 (wd3 hw) (wd4 hw) (wd5 hw) (wd6 hw) (by decide) (own_m1 l Z a0 hw [] h8 (o2 >>> ((2 : Int32) &&& 31))) all0 rfl pd_3 rfl (Nat.le_of_eq rfl) (by decide) (by decide) (by decide) (by decide) rfl ?_
  rintro T9 h9 _ W9 K9 P9 rfl
  rw [P9 rfl rfl] at W9
  show own_Go p e below C T9 (mkF m 162 #[.val (.long q1), .second, .val (.long q2), .second, .val (.long q3), .second, .val (.int p4), .val (.int ct), .val (.int hl), .val (.int o0), .val (.int o1), .val (.int o2), .val (.int o3), .val (.int o4), .val (.int o5), .val (.int o6), .unset, .unset, .unset, .unset, .unset, .unset, .unset, .unset, .unset, .unset, .unset] [(.long (own_key (o2 >>> ((2 : Int32) &&& 31)))), (.int (2 : Int32)), (.ref b), (.ref b)])
  generalize h_k2 : (own_key (o2 >>> ((2 : Int32) &&& 31))) = k2
  show own_Go p e below C T9 (mkF m 162 #[.val (.long q1), .second, .val (.long q2), .second, .val (.long q3), .second, .val (.int p4), .val (.int ct), .val (.int hl), .val (.int o0), .val (.int o1), .val (.int o2), .val (.int o3), .val (.int o4), .val (.int o5), .val (.int o6), .unset, .unset, .unset, .unset, .unset, .unset, .unset, .unset, .unset, .unset, .unset] [(.long k2), (.int (2 : Int32)), (.ref b), (.ref b)])
  refine own_lastore W9 2 163 at_162 V_b (Or.inr o_b) rfl (by decide) rfl ?_
  intro T10 h10 W10 Wr10 V_b
  show own_Go p e below C T10 (mkF m 163 #[.val (.long q1), .second, .val (.long q2), .second, .val (.long q3), .second, .val (.int p4), .val (.int ct), .val (.int hl), .val (.int o0), .val (.int o1), .val (.int o2), .val (.int o3), .val (.int o4), .val (.int o5), .val (.int o6), .unset, .unset, .unset, .unset, .unset, .unset, .unset, .unset, .unset, .unset, .unset] [(.ref b)])
  refine own_dup W10 164 at_163 rfl rfl ?_
  refine own_iconst W10 (3 : Int32) 165 at_164 rfl rfl ?_
  refine own_iload W10 167 at_165 rfl rfl ?_
  refine own_iconst W10 (2 : Int32) 168 at_167 rfl rfl ?_
  refine own_ishr W10 169 at_168 rfl ?_
  refine own_callS W10 (A := [(.int (o3 >>> ((2 : Int32) &&& 31)))]) (wt := 3) (pc' := 172) (st := [(.int (3 : Int32)), (.ref b), (.ref b)]) at_169 (wd3 hw) (wd4 hw) (wd5 hw) (wd6 hw) (by decide) (own_m1 l Z a0 hw [] h10 (o3 >>> ((2 : Int32) &&& 31))) all0 rfl pd_3 rfl (Nat.le_of_eq rfl) (by decide) (by decide) (by decide) (by decide) rfl ?_
  rintro T11 h11 _ W11 K11 P11 rfl
  rw [P11 rfl rfl] at W11
  show own_Go p e below C T11 (mkF m 172 #[.val (.long q1), .second, .val (.long q2), .second, .val (.long q3), .second, .val (.int p4), .val (.int ct), .val (.int hl), .val (.int o0), .val (.int o1), .val (.int o2), .val (.int o3), .val (.int o4), .val (.int o5), .val (.int o6), .unset, .unset, .unset, .unset, .unset, .unset, .unset, .unset, .unset, .unset, .unset] [(.long (own_key (o3 >>> ((2 : Int32) &&& 31)))), (.int (3 : Int32)), (.ref b), (.ref b)])
  generalize h_k3 : (own_key (o3 >>> ((2 : Int32) &&& 31))) = k3
  show own_Go p e below C T11 (mkF m 172 #[.val (.long q1), .second, .val (.long q2), .second, .val (.long q3), .second, .val (.int p4), .val (.int ct), .val (.int hl), .val (.int o0), .val (.int o1), .val (.int o2), .val (.int o3), .val (.int o4), .val (.int o5), .val (.int o6), .unset, .unset, .unset, .unset, .unset, .unset, .unset, .unset, .unset, .unset, .unset] [(.long k3), (.int (3 : Int32)), (.ref b), (.ref b)])
  refine own_lastore W11 3 173 at_172 V_b (Or.inr o_b) rfl (by decide) rfl ?_
  intro T12 h12 W12 Wr12 V_b
  show own_Go p e below C T12 (mkF m 173 #[.val (.long q1), .second, .val (.long q2), .second, .val (.long q3), .second, .val (.int p4), .val (.int ct), .val (.int hl), .val (.int o0), .val (.int o1), .val (.int o2), .val (.int o3), .val (.int o4), .val (.int o5), .val (.int o6), .unset, .unset, .unset, .unset, .unset, .unset, .unset, .unset, .unset, .unset, .unset] [(.ref b)])
  refine own_dup W12 174 at_173 rfl rfl ?_
  refine own_iconst W12 (4 : Int32) 175 at_174 rfl rfl ?_
  refine own_iload W12 177 at_175 rfl rfl ?_
  refine own_iconst W12 (2 : Int32) 178 at_177 rfl rfl ?_
  refine own_ishr W12 179 at_178 rfl ?_
  refine own_callS W12 (A := [(.int (o4 >>> ((2 : Int32) &&& 31)))]) (wt := 3) (pc' := 182) (st := [(.int (4 : Int32)), (.ref b), (.ref b)]) at_179 (wd3 hw) (wd4 hw) (wd5 hw) (wd6 hw) (by decide) (own_m1 l Z a0 hw [] h12 (o4 >>> ((2 : Int32) &&& 31))) all0 rfl pd_3 rfl (Nat.le_of_eq rfl) (by decide) (by decide) (by decide) (by decide) rfl ?_
  rintro T13 h13 _ W13 K13 P13 rfl
  rw [P13 rfl rfl] at W13
  show own_Go p e below C T13 (mkF m 182 #[.val (.long q1), .second, .val (.long q2), .second, .val (.long q3), .second, .val (.int p4), .val (.int ct), .val (.int hl), .val (.int o0), .val (.int o1), .val (.int o2), .val (.int o3), .val (.int o4), .val (.int o5), .val (.int o6), .unset, .unset, .unset, .unset, .unset, .unset, .unset, .unset, .unset, .unset, .unset] [(.long (own_key (o4 >>> ((2 : Int32) &&& 31)))), (.int (4 : Int32)), (.ref b), (.ref b)])
  generalize h_k4 : (own_key (o4 >>> ((2 : Int32) &&& 31))) = k4
  show own_Go p e below C T13 (mkF m 182 #[.val (.long q1), .second, .val (.long q2), .second, .val (.long q3), .second, .val (.int p4), .val (.int ct), .val (.int hl), .val (.int o0), .val (.int o1), .val (.int o2), .val (.int o3), .val (.int o4), .val (.int o5), .val (.int o6), .unset, .unset, .unset, .unset, .unset, .unset, .unset, .unset, .unset, .unset, .unset] [(.long k4), (.int (4 : Int32)), (.ref b), (.ref b)])
  refine own_lastore W13 4 183 at_182 V_b (Or.inr o_b) rfl (by decide) rfl ?_
  intro T14 h14 W14 Wr14 V_b
  show own_Go p e below C T14 (mkF m 183 #[.val (.long q1), .second, .val (.long q2), .second, .val (.long q3), .second, .val (.int p4), .val (.int ct), .val (.int hl), .val (.int o0), .val (.int o1), .val (.int o2), .val (.int o3), .val (.int o4), .val (.int o5), .val (.int o6), .unset, .unset, .unset, .unset, .unset, .unset, .unset, .unset, .unset, .unset, .unset] [(.ref b)])
  refine own_dup W14 184 at_183 rfl rfl ?_
  refine own_iconst W14 (5 : Int32) 185 at_184 rfl rfl ?_
  refine own_iload W14 187 at_185 rfl rfl ?_
  refine own_iconst W14 (2 : Int32) 188 at_187 rfl rfl ?_
  refine own_ishr W14 189 at_188 rfl ?_
  refine own_callS W14 (A := [(.int (o5 >>> ((2 : Int32) &&& 31)))]) (wt := 3) (pc' := 192) (st := [(.int (5 : Int32)), (.ref b), (.ref b)]) at_189 (wd3 hw) (wd4 hw) (wd5 hw) (wd6 hw) (by decide) (own_m1 l Z a0 hw [] h14 (o5 >>> ((2 : Int32) &&& 31))) all0 rfl pd_3 rfl (Nat.le_of_eq rfl) (by decide) (by decide) (by decide) (by decide) rfl ?_
  rintro T15 h15 _ W15 K15 P15 rfl
  rw [P15 rfl rfl] at W15
  show own_Go p e below C T15 (mkF m 192 #[.val (.long q1), .second, .val (.long q2), .second, .val (.long q3), .second, .val (.int p4), .val (.int ct), .val (.int hl), .val (.int o0), .val (.int o1), .val (.int o2), .val (.int o3), .val (.int o4), .val (.int o5), .val (.int o6), .unset, .unset, .unset, .unset, .unset, .unset, .unset, .unset, .unset, .unset, .unset] [(.long (own_key (o5 >>> ((2 : Int32) &&& 31)))), (.int (5 : Int32)), (.ref b), (.ref b)])
  generalize h_k5 : (own_key (o5 >>> ((2 : Int32) &&& 31))) = k5
  show own_Go p e below C T15 (mkF m 192 #[.val (.long q1), .second, .val (.long q2), .second, .val (.long q3), .second, .val (.int p4), .val (.int ct), .val (.int hl), .val (.int o0), .val (.int o1), .val (.int o2), .val (.int o3), .val (.int o4), .val (.int o5), .val (.int o6), .unset, .unset, .unset, .unset, .unset, .unset, .unset, .unset, .unset, .unset, .unset] [(.long k5), (.int (5 : Int32)), (.ref b), (.ref b)])
  refine own_lastore W15 5 193 at_192 V_b (Or.inr o_b) rfl (by decide) rfl ?_
  intro T16 h16 W16 Wr16 V_b
  show own_Go p e below C T16 (mkF m 193 #[.val (.long q1), .second, .val (.long q2), .second, .val (.long q3), .second, .val (.int p4), .val (.int ct), .val (.int hl), .val (.int o0), .val (.int o1), .val (.int o2), .val (.int o3), .val (.int o4), .val (.int o5), .val (.int o6), .unset, .unset, .unset, .unset, .unset, .unset, .unset, .unset, .unset, .unset, .unset] [(.ref b)])
  refine own_dup W16 194 at_193 rfl rfl ?_
  refine own_bipush W16 (6 : Int32) 196 at_194 rfl rfl ?_
  refine own_iload W16 198 at_196 rfl rfl ?_
  refine own_iconst W16 (2 : Int32) 199 at_198 rfl rfl ?_
  refine own_ishr W16 200 at_199 rfl ?_
  refine own_callS W16 (A := [(.int (o6 >>> ((2 : Int32) &&& 31)))]) (wt := 3) (pc' := 203) (st := [(.int (6 : Int32)), (.ref b), (.ref b)]) at_200 (wd3 hw) (wd4 hw) (wd5 hw) (wd6 hw) (by decide) (own_m1 l Z a0 hw [] h16 (o6 >>> ((2 : Int32) &&& 31))) all0 rfl pd_3 rfl (Nat.le_of_eq rfl) (by decide) (by decide) (by decide) (by decide) rfl ?_
  rintro T17 h17 _ W17 K17 P17 rfl
  rw [P17 rfl rfl] at W17
  show own_Go p e below C T17 (mkF m 203 #[.val (.long q1), .second, .val (.long q2), .second, .val (.long q3), .second, .val (.int p4), .val (.int ct), .val (.int hl), .val (.int o0), .val (.int o1), .val (.int o2), .val (.int o3), .val (.int o4), .val (.int o5), .val (.int o6), .unset, .unset, .unset, .unset, .unset, .unset, .unset, .unset, .unset, .unset, .unset] [(.long (own_key (o6 >>> ((2 : Int32) &&& 31)))), (.int (6 : Int32)), (.ref b), (.ref b)])
  generalize h_k6 : (own_key (o6 >>> ((2 : Int32) &&& 31))) = k6
  show own_Go p e below C T17 (mkF m 203 #[.val (.long q1), .second, .val (.long q2), .second, .val (.long q3), .second, .val (.int p4), .val (.int ct), .val (.int hl), .val (.int o0), .val (.int o1), .val (.int o2), .val (.int o3), .val (.int o4), .val (.int o5), .val (.int o6), .unset, .unset, .unset, .unset, .unset, .unset, .unset, .unset, .unset, .unset, .unset] [(.long k6), (.int (6 : Int32)), (.ref b), (.ref b)])
  refine own_lastore W17 6 204 at_203 V_b (Or.inr o_b) rfl (by decide) rfl ?_
  intro T18 h18 W18 Wr18 V_b
  show own_Go p e below C T18 (mkF m 204 #[.val (.long q1), .second, .val (.long q2), .second, .val (.long q3), .second, .val (.int p4), .val (.int ct), .val (.int hl), .val (.int o0), .val (.int o1), .val (.int o2), .val (.int o3), .val (.int o4), .val (.int o5), .val (.int o6), .unset, .unset, .unset, .unset, .unset, .unset, .unset, .unset, .unset, .unset, .unset] [(.ref b)])
  have V_b : own_A Z h18 b .long 7 (fun j => .long (own_t7 k0 k1 k2 k3 k4 k5 k6 j)) := V_b.congr (own_c7 k0 k1 k2 k3 k4 k5 k6)
  refine own_astore W18 206 #[.val (.long q1), .second, .val (.long q2), .second, .val (.long q3), .second, .val (.int p4), .val (.int ct), .val (.int hl), .val (.int o0), .val (.int o1), .val (.int o2), .val (.int o3), .val (.int o4), .val (.int o5), .val (.int o6), .val (.ref b), .unset, .unset, .unset, .unset, .unset, .unset, .unset, .unset, .unset, .unset] at_204 rfl rfl rfl ?_
  exact own_m0d l Z a0 hw h0 q1 q2 q3 p4 p e s m below meth c C hC T18 h18 n hh m0 m1 m2 m3 m4 m5 m6 ct hl o0 o1 o2 o3 o4 o5 o6 b k0 k1 k2 k3 k4 k5 k6 W18 hn hn8 hhl hh2 hhn hm0 hm1 hm2 hm3 hm4 hm5 hm6 hb3 hb4 hb5 hb6 h_k0 h_k1 h_k2 h_k3 h_k4 h_k5 h_k6 V_b o_b
set_option maxRecDepth 65536 in
set_option maxHeartbeats 40000000 in
theorem comes_1 {Post : Tables → Env → Array Value → State → Outcome → State → Prop} (hpost : ∀ tb e args s v u, (limb_1_1.after args s (.returned v) u = true ∧ limb_1_2.after args s (.returned v) u = true ∧ True) → FrameEnd s (.returned v) u (Jvm.fieldLocs frame_1_writes args s ++ Jvm.arrayLocs frame_1_arrays args s ++ Jvm.staticLocs frame_1_statics s) 16 128 → Post tb e args s (.returned v) u) :
    ArmFor flags0 classFile x code maxLocals ret World_1 tables_1 room_1 Calls_1 rest_1 Pre_1 Post := by
  intro l hfl _ _ p e ha hc hk s m args below hf hA hF happ hP
  obtain ⟨hcalls, hrest, hpre⟩ := hP
  obtain ⟨-, -, -, hnamed, -, -, -, hat⟩ := (Spec.applies_iff hf).mp happ
  obtain ⟨hg, hn⟩ := and_e (Cond.before_iff.mp (show (Jvm.Cond.and given_1 narrow_1).before args s = true from hpre))
  obtain ⟨g1, g2⟩ := and_e hg
  obtain ⟨g3, g4⟩ := and_e g2
  obtain ⟨g5, g6⟩ := and_e g4
  obtain ⟨g7, g8⟩ := and_e g6
  obtain ⟨w0, w1, w2, w3, rfl⟩ : ∃ w0 w1 w2 w3 : Value, args = #[w0, w1, w2, w3] := by
    have hs : args.size = 4 := by simpa [Cond.value, given_1] using g1
    obtain ⟨L⟩ := args
    match L, hs with
    | [w0, w1, w2, w3], _ => exact ⟨w0, w1, w2, w3, rfl⟩
  have hw := fun d (hd : d ∈ tables_1) => atoms_spec (ws := Jvm.Cond.code x code maxLocals ret :: tables_1) hat d (List.mem_cons_of_mem _ hd)
  have hfit : Fit s := fun {y c} hc i hi => by
    obtain ⟨ha, rfl⟩ := Array.getElem?_eq_some_iff.mp hc
    have q := List.all_eq_true.mp ((Array.all_eq_true_iff_forall_mem.mp hF) _ (Array.getElem_mem ha)) i (List.mem_range.mpr hi)
    simpa [Array.getElem?_eq_getElem hi] using q
  obtain ⟨i0, ei0⟩ := isL_v g3
  obtain rfl : w0 = (.long i0) := Option.some.inj ei0
  obtain ⟨i1, ei1⟩ := isL_v g5
  obtain rfl : w1 = (.long i1) := Option.some.inj ei1
  obtain ⟨i2, ei2⟩ := isL_v g7
  obtain rfl : w2 = (.long i2) := Option.some.inj ei2
  obtain ⟨i3, ei3⟩ := is_v g8
  obtain rfl : w3 = (.int i3) := Option.some.inj ei3
  obtain ⟨n, o, h1, h2, h3, _, L, rfl, ⟨N, -, -, rfl⟩, hq⟩ := own_m0 l s _ hw tables_1 s.heap i0 i1 i2 i3  p e ha hc hk s m _ below hf ((Spec.applies_iff_loose hf).mp happ).1 ⟨rfl, State.Warmed39.refl s, rfl⟩ trivial
  refine ⟨n, _, h1, h2, h3, hpost _ _ _ _ _ _ ⟨Cond.after_iff.mpr rfl, Cond.after_iff.mpr (eq_i res_at (Term.int_eval (1)) rfl), trivial⟩ ⟨hq.1, hq.2.1, (hq.2.2.sift fun y hy => Or.inr ((N y hy).resolve_left (fun q => nomatch q))).mono (by decide) (by decide)⟩⟩
theorem main_1_1 : Claimed_1_1 := comes_1 fun _ _ _ _ _ _ h hF => ⟨h.1, hF⟩
theorem main_1_2 : Claimed_1_2 := comes_1 fun _ _ _ _ _ _ h hF => ⟨h.2.1, hF⟩
end Jvm.Pilot.@@N@@
namespace Jvm.Pilot.@@N@@
open Jvm Jvm.ClassFile Sem Op Lib Jvm.Free Jvm.Stand Jvm.Pilot.@@N@@.Jvm.D
/-! MADE BY PROGRAM (witnessworld.py) out of the Statement's table words and the real class files: 11 classes; the members and pool entries that the words name. The judged class is class 1, her method 10. -/
namespace start1
open Jvm.ClassFile
def u (s : String) : CpInfo := .utf8 (stringToUtf16 s)
/-- a pool by its gaps: so many unusable entries, then the entry; so many at the end -/
def gap : Nat → List CpInfo → List CpInfo
  | 0, r => r
  | n + 1, r => .unusable :: gap n r
def poolList (es : List (Nat × CpInfo)) (last : Nat) : List CpInfo := es.foldr (fun e r => gap e.1 (e.2 :: r)) (gap last [])
def pool (es : List (Nat × CpInfo)) (last : Nat) : Array CpInfo := ⟨poolList es last⟩
def fileOf (pool : Array CpInfo) (this : Nat) (attrs : Array Attribute := #[]) (ms : Array MethodInfo := #[]) (fl : Nat := 33) (sup : Nat := 0) (ifs : Array Nat := #[]) (fds : Array FieldInfo := #[]) : ClassFile where
  minorVersion := 0
  majorVersion := 65
  constantPool := pool
  accessFlags := fl
  thisClass := this
  superClass := sup
  interfaces := ifs
  fields := fds
  methods := ms
  attributes := attrs
def plain (name : String) (sup : Option ClassId) : Class where
  name := name
  kind := .ordinary
  loader := none
  accessFlags := 33
  super := sup
  interfaces := #[]
  cf := none
  fields := #[]
  methods := #[]
  instanceTypes := #[]
  staticTypes := #[]
  resolved := #[]
  callSites := []
  init := .initialized
  statics := none
  mirror := none

def pool0 : Array CpInfo := pool [(5, u "<init>"), (0, u "()V"), (1, .class_ 10), (1, u "java/lang/Object")] 113

def k0m0 : Method := { name := "<init>", desc := "()V", sig := { parameters := [], returnType := none }, accessFlags := 1, code := none }
/-- java/lang/Object -/
def k0 : Class := { plain "java/lang/Object" none with
  accessFlags := 33
  interfaces := #[]
  cf := some (fileOf pool0 8 #[] #[{ accessFlags := 1, nameIndex := 5, descriptorIndex := 6, attributes := #[] }] 33 0 #[] #[])
  fields := #[]
  methods := #[k0m0]
  instanceTypes := #[]
  staticTypes := #[]
  resolved := Array.replicate 124 none
  statics := none }

def pool1 : Array CpInfo := pool [(2, .class_ 4), (1, u "java/lang/Object"), (0, u "<init>"), (0, u "()V"), (2, .long 9223372036854775808), (1, .long 9223372036854775809), (1, .long 18446744073709551615), (1, .long 2), (1, .long 9223372036854775806), (1, .long 9223372036854775807), (1, .methodref 22 23), (0, .class_ 24), (0, .nameAndType 25 26), (0, u "com/example/queueloom/queueloom/engine/LongPairHeapSiftDownPinLaw"), (0, u "le"), (0, u "(JJJJ)Z"), (0, .methodref 22 28), (0, .nameAndType 29 30), (0, u "inSub"), (0, u "(II)Z"), (0, .long 11400714819323198485), (1, .long 13787848793156543929), (1, .methodref 22 36), (0, .nameAndType 37 38), (0, u "mix"), (0, u "(JJ)J"), (0, .long 15), (1, .long 7), (1, .methodref 22 44), (0, .nameAndType 45 46), (0, u "keyOf"), (0, u "(I)J"), (0, .methodref 22 48), (0, .nameAndType 49 46), (0, u "valOf"), (0, .long 3), (1, .methodref 53 54), (0, .class_ 55), (0, .nameAndType 56 57), (0, u "com/example/queueloom/queueloom/engine/LongPairHeap"), (0, u "siftDown"), (0, u "([J[JII)V"), (0, .methodref 22 59), (0, .nameAndType 60 61), (0, u "edgeOk"), (0, u "([J[JIIII)Z"), (0, .methodref 22 63), (0, .nameAndType 64 65), (0, u "keptOk"), (0, u "([J[J[J[JIII)Z"), (0, .methodref 22 67), (0, .nameAndType 68 69), (0, u "sumK"), (0, u "([J)J"), (0, .methodref 22 71), (0, .nameAndType 72 73), (0, u "sumMix"), (0, u "([J[J)J"), (3, u "law"), (0, u "(JJJI)Z")] 4

def k1m0 : Method := { name := "<init>", desc := "()V", sig := { parameters := [], returnType := none }, accessFlags := 1, code := none }
def k1c1 : Code := { maxStack := 2, maxLocals := 1, code := method_2_code, exceptionTable := #[], attributes := #[] }
def k1m1 : Method := { name := "keyOf", desc := "(I)J", sig := { parameters := [.int], returnType := some .long }, accessFlags := 10, code := some k1c1 }
def k1c2 : Code := { maxStack := 2, maxLocals := 1, code := method_3_code, exceptionTable := #[], attributes := #[] }
def k1m2 : Method := { name := "valOf", desc := "(I)J", sig := { parameters := [.int], returnType := some .long }, accessFlags := 10, code := some k1c2 }
def k1c3 : Code := { maxStack := 4, maxLocals := 8, code := method_4_code, exceptionTable := #[], attributes := #[] }
def k1m3 : Method := { name := "le", desc := "(JJJJ)Z", sig := { parameters := [.long, .long, .long, .long], returnType := some .boolean }, accessFlags := 10, code := some k1c3 }
def k1c4 : Code := { maxStack := 8, maxLocals := 6, code := method_5_code, exceptionTable := #[], attributes := #[] }
def k1m4 : Method := { name := "edgeOk", desc := "([J[JIIII)Z", sig := { parameters := [(.array .long), (.array .long), .int, .int, .int, .int], returnType := some .boolean }, accessFlags := 10, code := some k1c4 }
def k1c5 : Code := { maxStack := 2, maxLocals := 2, code := method_6_code, exceptionTable := #[], attributes := #[] }
def k1m5 : Method := { name := "inSub", desc := "(II)Z", sig := { parameters := [.int, .int], returnType := some .boolean }, accessFlags := 10, code := some k1c5 }
def k1c6 : Code := { maxStack := 4, maxLocals := 7, code := method_7_code, exceptionTable := #[], attributes := #[] }
def k1m6 : Method := { name := "keptOk", desc := "([J[J[J[JIII)Z", sig := { parameters := [(.array .long), (.array .long), (.array .long), (.array .long), .int, .int, .int], returnType := some .boolean }, accessFlags := 10, code := some k1c6 }
def k1c7 : Code := { maxStack := 6, maxLocals := 4, code := method_8_code, exceptionTable := #[], attributes := #[] }
def k1m7 : Method := { name := "mix", desc := "(JJ)J", sig := { parameters := [.long, .long], returnType := some .long }, accessFlags := 10, code := some k1c7 }
def k1c8 : Code := { maxStack := 4, maxLocals := 1, code := method_9_code, exceptionTable := #[], attributes := #[] }
def k1m8 : Method := { name := "sumK", desc := "([J)J", sig := { parameters := [(.array .long)], returnType := some .long }, accessFlags := 10, code := some k1c8 }
def k1c9 : Code := { maxStack := 6, maxLocals := 2, code := method_10_code, exceptionTable := #[], attributes := #[] }
def k1m9 : Method := { name := "sumMix", desc := "([J[J)J", sig := { parameters := [(.array .long), (.array .long)], returnType := some .long }, accessFlags := 10, code := some k1c9 }
def k1c10 : Code := { maxStack := 7, maxLocals := 27, code := code, exceptionTable := #[], attributes := #[] }
def k1m10 : Method := { name := "law", desc := "(JJJI)Z", sig := { parameters := [.long, .long, .long, .int], returnType := some .boolean }, accessFlags := 9, code := some k1c10 }
/-- com/example/queueloom/queueloom/engine/LongPairHeapSiftDownPinLaw -/
def k1 : Class := { plain "com/example/queueloom/queueloom/engine/LongPairHeapSiftDownPinLaw" (some 0) with
  accessFlags := 49
  interfaces := #[]
  cf := some (fileOf pool1 22 #[] #[{ accessFlags := 1, nameIndex := 5, descriptorIndex := 6, attributes := #[] }, { accessFlags := 10, nameIndex := 45, descriptorIndex := 46, attributes := #[] }, { accessFlags := 10, nameIndex := 49, descriptorIndex := 46, attributes := #[] }, { accessFlags := 10, nameIndex := 25, descriptorIndex := 26, attributes := #[] }, { accessFlags := 10, nameIndex := 60, descriptorIndex := 61, attributes := #[] }, { accessFlags := 10, nameIndex := 29, descriptorIndex := 30, attributes := #[] }, { accessFlags := 10, nameIndex := 64, descriptorIndex := 65, attributes := #[] }, { accessFlags := 10, nameIndex := 37, descriptorIndex := 38, attributes := #[] }, { accessFlags := 10, nameIndex := 68, descriptorIndex := 69, attributes := #[] }, { accessFlags := 10, nameIndex := 72, descriptorIndex := 73, attributes := #[] }, { accessFlags := 9, nameIndex := 77, descriptorIndex := 78, attributes := #[] }] 49 2 #[] #[])
  fields := #[]
  methods := #[k1m0, k1m1, k1m2, k1m3, k1m4, k1m5, k1m6, k1m7, k1m8, k1m9, k1m10]
  instanceTypes := #[]
  staticTypes := #[]
  resolved := Array.replicate 83 none
  statics := none }

def pool2 : Array CpInfo := pool [(2, .class_ 4), (1, u "java/lang/Object"), (10, .class_ 17), (1, u "com/example/queueloom/queueloom/engine/LongPairHeap"), (0, u "NO_ROOM"), (0, u "[J"), (2, u "keys"), (2, u "values"), (2, u "size"), (0, u "I"), (18, u "siftDown"), (0, u "([J[JII)V")] 16

def k2c0 : Code := { maxStack := 4, maxLocals := 14, code := prog_60_method_9_code, exceptionTable := #[], attributes := #[] }
def k2m0 : Method := { name := "siftDown", desc := "([J[JII)V", sig := { parameters := [(.array .long), (.array .long), .int, .int], returnType := none }, accessFlags := 9, code := some k2c0 }
/-- com/example/queueloom/queueloom/engine/LongPairHeap -/
def k2 : Class := { plain "com/example/queueloom/queueloom/engine/LongPairHeap" (some 0) with
  accessFlags := 49
  interfaces := #[]
  cf := some (fileOf pool2 15 #[] #[{ accessFlags := 9, nameIndex := 48, descriptorIndex := 49, attributes := #[] }] 49 2 #[] #[{ accessFlags := 26, nameIndex := 18, descriptorIndex := 19, attributes := #[] }, { accessFlags := 2, nameIndex := 22, descriptorIndex := 19, attributes := #[] }, { accessFlags := 2, nameIndex := 25, descriptorIndex := 19, attributes := #[] }, { accessFlags := 2, nameIndex := 28, descriptorIndex := 29, attributes := #[] }])
  fields := #[{ name := "NO_ROOM", type := (.array .long), accessFlags := 26, slot := 0, constantValue := 0 }, { name := "keys", type := (.array .long), accessFlags := 2, slot := 0, constantValue := 0 }, { name := "values", type := (.array .long), accessFlags := 2, slot := 1, constantValue := 0 }, { name := "size", type := .int, accessFlags := 2, slot := 2, constantValue := 0 }]
  methods := #[k2m0]
  instanceTypes := #[(.array .long), (.array .long), .int]
  staticTypes := #[(.array .long)]
  resolved := Array.replicate 66 none
  statics := none }

def pool3 : Array CpInfo := pool [(1, u "java/lang/Cloneable"), (0, .class_ 1), (0, u "java/lang/Object"), (0, .class_ 3)] 3

/-- java/lang/Cloneable -/
def k3 : Class := { plain "java/lang/Cloneable" (some 0) with
  accessFlags := 1537
  interfaces := #[]
  cf := some (fileOf pool3 2 #[] #[] 1537 4 #[] #[])
  fields := #[]
  methods := #[]
  instanceTypes := #[]
  staticTypes := #[]
  resolved := Array.replicate 8 none
  statics := none }

def pool4 : Array CpInfo := pool [(1, u "java/io/Serializable"), (0, .class_ 1), (0, u "java/lang/Object"), (0, .class_ 3)] 3

/-- java/io/Serializable -/
def k4 : Class := { plain "java/io/Serializable" (some 0) with
  accessFlags := 1537
  interfaces := #[]
  cf := some (fileOf pool4 2 #[] #[] 1537 4 #[] #[])
  fields := #[]
  methods := #[]
  instanceTypes := #[]
  staticTypes := #[]
  resolved := Array.replicate 8 none
  statics := none }

/-- the primitive byte -/
def k5 : Class := { plain "byte" none with kind := .primitive 'B', accessFlags := 0x411 }
/-- [B -/
def k6 : Class := { plain "[B" (some 0) with kind := .array 5 .byte, interfaces := #[3, 4], accessFlags := 1041 }

/-- the primitive int -/
def k7 : Class := { plain "int" none with kind := .primitive 'I', accessFlags := 0x411 }
/-- [I -/
def k8 : Class := { plain "[I" (some 0) with kind := .array 7 .int, interfaces := #[3, 4], accessFlags := 1041 }

/-- the primitive long -/
def k9 : Class := { plain "long" none with kind := .primitive 'J', accessFlags := 0x411 }
/-- [J -/
def k10 : Class := { plain "[J" (some 0) with kind := .array 9 .long, interfaces := #[3, 4], accessFlags := 1041 }

def heap : Heap := #[]
def classes : Array Class := #[k0, k1, k2, k3, k4, k5, k6, k7, k8, k9, k10]
def interned : List (Array UInt16 × Addr) := []
def slotsUsed : Nat := 0
def theMethod : MethodId := ⟨1, 10⟩
def args0 : Array Value := #[.long 5, .long 7, .long 3, .int 5]
def aboutOver (below : List Frame) : State where
  vm := { classes := classes, interned := interned.toArray }
  heap := heap
  slotsUsed := slotsUsed
  threads := #[{ frames := .invoking theMethod args0 :: below }]
def below0 : List Frame := [.native { method := ⟨0, 0⟩, args := #[] }]
def about1 : State := aboutOver below0
def p0 : Program := .bare "" "" ""
def e0 : Env := launch0.env 0 0 0
theorem w_frames : about1.frames = Frame.invoking theMethod args0 :: below0 := rfl
set_option maxRecDepth 65536 in
theorem w_args : argsFit about1.vm theMethod args0 = true := by decide +kernel
set_option maxRecDepth 65536 in
theorem w_heap : heapFits about1 = true := by decide +kernel
set_option maxRecDepth 65536 in
theorem w_runnable : about1.curStatus? = some .runnable := by decide +kernel
set_option maxRecDepth 65536 in
theorem w_alone : about1.alone = true := by decide +kernel
set_option maxRecDepth 65536 in
theorem w_named : about1.methodNamed? x = some theMethod := by decide +kernel
set_option maxRecDepth 65536 in
theorem w_hears : about1.hears theMethod below0 = true := by decide +kernel
set_option maxRecDepth 65536 in
theorem w_ripe : about1.ripe theMethod args0 below0 = true := by decide +kernel
theorem w_running : about1.status = .running := rfl
set_option maxRecDepth 65536 in
theorem w_room : about1.hasRoom e0.platform room_1 = true :=
  launch0.hasRoom_least _ room_1 (by decide +kernel) (by decide +kernel) (by decide +kernel) (by decide +kernel) (by decide +kernel) (by decide +kernel)
theorem allAtoms_all (ts : List Jvm.Cond) (a : Array Jvm.Value) (st : Jvm.State) : (allAtoms ts).before a st = ts.all (fun c => c.before a st) := by
  induction ts with
  | nil => rfl
  | cons c t ih =>
    show (Jvm.Cond.and c (allAtoms t)).before a st = _
    rw [Jvm.Cond.before_and, ih, List.all_cons]
def words1 : List Jvm.Cond := Jvm.Cond.code x code maxLocals ret :: tables_1
/-- a 'code' word, met by the world's own term for the bytes: nothing is compared byte by byte -/
theorem code_word {y : MethodName} {bytes : ByteArray} {mx : Nat} {rt : Option FieldType} {a : Array Value} {s : State} {m : MethodId} {meth : Method} {c : Code} (h1 : s.methodNamed? y = some m) (h2 : s.vm.method? m = some meth) (h3 : meth.code = some c) (h4 : c.code = bytes)
    (h5 : (c.maxLocals == mx && c.exceptionTable.isEmpty && decide (c.maxStack ≤ mostOperands) && decide (meth.sig.returnType = rt) && !meth.locks && decide (parseMethodDescriptor y.desc = some meth.sig)) = true) : (Jvm.Cond.code y bytes mx rt).before a s = true := by
  simp only [Bool.and_eq_true, beq_iff_eq, Bool.not_eq_true', decide_eq_true_eq] at h5
  obtain ⟨⟨⟨⟨⟨g1, g2⟩, g3⟩, g4⟩, g5⟩, g6⟩ := h5
  simp [Cond.before, Cond.holds, Cond.value, h1, h2, h3, h4, g1, g2, g3, g4, g5, g6]
def isCode : Jvm.Cond → Bool
  | .code _ _ _ _ => true
  | _ => false
theorem all_split {L : List Jvm.Cond} {P : Jvm.Cond → Bool} (h1 : L.all (fun c => isCode c || P c) = true) (h2 : ∀ c ∈ L.filter isCode, P c = true) : L.all P = true := by
  refine List.all_eq_true.mpr fun c hc => ?_
  have h := List.all_eq_true.mp h1 c hc
  rcases Bool.eq_false_or_eq_true (isCode c) with hi | hi
  · exact h2 c (List.mem_filter.mpr ⟨hc, hi⟩)
  · simpa [hi] using h
set_option maxRecDepth 65536 in
theorem w_c0 : (Jvm.Cond.code x code maxLocals ret).before args0 about1 = true := code_word (m := ⟨1, 10⟩) (meth := k1m10) (c := k1c10) (by decide +kernel) rfl rfl rfl (by decide +kernel)
set_option maxRecDepth 65536 in
theorem w_c1 : (Jvm.Cond.code ({ cls := "com/example/queueloom/queueloom/engine/LongPairHeapSiftDownPinLaw", name := "keyOf", desc := "(I)J" } : Jvm.MethodName) method_2_code (1 : Nat) (Option.some Jvm.ClassFile.FieldType.long)).before args0 about1 = true := code_word (m := ⟨1, 1⟩) (meth := k1m1) (c := k1c1) (by decide +kernel) rfl rfl rfl (by decide +kernel)
set_option maxRecDepth 65536 in
theorem w_c2 : (Jvm.Cond.code ({ cls := "com/example/queueloom/queueloom/engine/LongPairHeapSiftDownPinLaw", name := "valOf", desc := "(I)J" } : Jvm.MethodName) method_3_code (1 : Nat) (Option.some Jvm.ClassFile.FieldType.long)).before args0 about1 = true := code_word (m := ⟨1, 2⟩) (meth := k1m2) (c := k1c2) (by decide +kernel) rfl rfl rfl (by decide +kernel)
set_option maxRecDepth 65536 in
theorem w_c3 : (Jvm.Cond.code ({ cls := "com/example/queueloom/queueloom/engine/LongPairHeap", name := "siftDown", desc := "([J[JII)V" } : Jvm.MethodName) prog_60_method_9_code (14 : Nat) (Option.none : Option Jvm.ClassFile.FieldType)).before args0 about1 = true := code_word (m := ⟨2, 0⟩) (meth := k2m0) (c := k2c0) (by decide +kernel) rfl rfl rfl (by decide +kernel)
set_option maxRecDepth 65536 in
theorem w_c4 : (Jvm.Cond.code ({ cls := "com/example/queueloom/queueloom/engine/LongPairHeapSiftDownPinLaw", name := "edgeOk", desc := "([J[JIIII)Z" } : Jvm.MethodName) method_5_code (6 : Nat) (Option.some Jvm.ClassFile.FieldType.boolean)).before args0 about1 = true := code_word (m := ⟨1, 4⟩) (meth := k1m4) (c := k1c4) (by decide +kernel) rfl rfl rfl (by decide +kernel)
set_option maxRecDepth 65536 in
theorem w_c5 : (Jvm.Cond.code ({ cls := "com/example/queueloom/queueloom/engine/LongPairHeapSiftDownPinLaw", name := "le", desc := "(JJJJ)Z" } : Jvm.MethodName) method_4_code (8 : Nat) (Option.some Jvm.ClassFile.FieldType.boolean)).before args0 about1 = true := code_word (m := ⟨1, 3⟩) (meth := k1m3) (c := k1c3) (by decide +kernel) rfl rfl rfl (by decide +kernel)
set_option maxRecDepth 65536 in
theorem w_c6 : (Jvm.Cond.code ({ cls := "com/example/queueloom/queueloom/engine/LongPairHeapSiftDownPinLaw", name := "keptOk", desc := "([J[J[J[JIII)Z" } : Jvm.MethodName) method_7_code (7 : Nat) (Option.some Jvm.ClassFile.FieldType.boolean)).before args0 about1 = true := code_word (m := ⟨1, 6⟩) (meth := k1m6) (c := k1c6) (by decide +kernel) rfl rfl rfl (by decide +kernel)
set_option maxRecDepth 65536 in
theorem w_c7 : (Jvm.Cond.code ({ cls := "com/example/queueloom/queueloom/engine/LongPairHeapSiftDownPinLaw", name := "inSub", desc := "(II)Z" } : Jvm.MethodName) method_6_code (2 : Nat) (Option.some Jvm.ClassFile.FieldType.boolean)).before args0 about1 = true := code_word (m := ⟨1, 5⟩) (meth := k1m5) (c := k1c5) (by decide +kernel) rfl rfl rfl (by decide +kernel)
set_option maxRecDepth 65536 in
theorem w_c8 : (Jvm.Cond.code ({ cls := "com/example/queueloom/queueloom/engine/LongPairHeapSiftDownPinLaw", name := "sumK", desc := "([J)J" } : Jvm.MethodName) method_9_code (1 : Nat) (Option.some Jvm.ClassFile.FieldType.long)).before args0 about1 = true := code_word (m := ⟨1, 8⟩) (meth := k1m8) (c := k1c8) (by decide +kernel) rfl rfl rfl (by decide +kernel)
set_option maxRecDepth 65536 in
theorem w_c9 : (Jvm.Cond.code ({ cls := "com/example/queueloom/queueloom/engine/LongPairHeapSiftDownPinLaw", name := "sumMix", desc := "([J[J)J" } : Jvm.MethodName) method_10_code (2 : Nat) (Option.some Jvm.ClassFile.FieldType.long)).before args0 about1 = true := code_word (m := ⟨1, 9⟩) (meth := k1m9) (c := k1c9) (by decide +kernel) rfl rfl rfl (by decide +kernel)
set_option maxRecDepth 65536 in
theorem w_c10 : (Jvm.Cond.code ({ cls := "com/example/queueloom/queueloom/engine/LongPairHeapSiftDownPinLaw", name := "mix", desc := "(JJ)J" } : Jvm.MethodName) method_8_code (4 : Nat) (Option.some Jvm.ClassFile.FieldType.long)).before args0 about1 = true := code_word (m := ⟨1, 7⟩) (meth := k1m7) (c := k1c7) (by decide +kernel) rfl rfl rfl (by decide +kernel)
def codes1 : List Jvm.Cond := [Jvm.Cond.code x code maxLocals ret, Jvm.Cond.code ({ cls := "com/example/queueloom/queueloom/engine/LongPairHeapSiftDownPinLaw", name := "keyOf", desc := "(I)J" } : Jvm.MethodName) method_2_code (1 : Nat) (Option.some Jvm.ClassFile.FieldType.long), Jvm.Cond.code ({ cls := "com/example/queueloom/queueloom/engine/LongPairHeapSiftDownPinLaw", name := "valOf", desc := "(I)J" } : Jvm.MethodName) method_3_code (1 : Nat) (Option.some Jvm.ClassFile.FieldType.long), Jvm.Cond.code ({ cls := "com/example/queueloom/queueloom/engine/LongPairHeap", name := "siftDown", desc := "([J[JII)V" } : Jvm.MethodName) prog_60_method_9_code (14 : Nat) (Option.none : Option Jvm.ClassFile.FieldType), Jvm.Cond.code ({ cls := "com/example/queueloom/queueloom/engine/LongPairHeapSiftDownPinLaw", name := "edgeOk", desc := "([J[JIIII)Z" } : Jvm.MethodName) method_5_code (6 : Nat) (Option.some Jvm.ClassFile.FieldType.boolean), Jvm.Cond.code ({ cls := "com/example/queueloom/queueloom/engine/LongPairHeapSiftDownPinLaw", name := "le", desc := "(JJJJ)Z" } : Jvm.MethodName) method_4_code (8 : Nat) (Option.some Jvm.ClassFile.FieldType.boolean), Jvm.Cond.code ({ cls := "com/example/queueloom/queueloom/engine/LongPairHeapSiftDownPinLaw", name := "keptOk", desc := "([J[J[J[JIII)Z" } : Jvm.MethodName) method_7_code (7 : Nat) (Option.some Jvm.ClassFile.FieldType.boolean), Jvm.Cond.code ({ cls := "com/example/queueloom/queueloom/engine/LongPairHeapSiftDownPinLaw", name := "inSub", desc := "(II)Z" } : Jvm.MethodName) method_6_code (2 : Nat) (Option.some Jvm.ClassFile.FieldType.boolean), Jvm.Cond.code ({ cls := "com/example/queueloom/queueloom/engine/LongPairHeapSiftDownPinLaw", name := "sumK", desc := "([J)J" } : Jvm.MethodName) method_9_code (1 : Nat) (Option.some Jvm.ClassFile.FieldType.long), Jvm.Cond.code ({ cls := "com/example/queueloom/queueloom/engine/LongPairHeapSiftDownPinLaw", name := "sumMix", desc := "([J[J)J" } : Jvm.MethodName) method_10_code (2 : Nat) (Option.some Jvm.ClassFile.FieldType.long), Jvm.Cond.code ({ cls := "com/example/queueloom/queueloom/engine/LongPairHeapSiftDownPinLaw", name := "mix", desc := "(JJ)J" } : Jvm.MethodName) method_8_code (4 : Nat) (Option.some Jvm.ClassFile.FieldType.long)]
set_option maxRecDepth 65536 in
theorem codes_eq : words1.filter isCode = codes1 := rfl
theorem w_codes : ∀ c ∈ words1.filter isCode, c.before args0 about1 = true := by
  rw [codes_eq]
  intro c hc
  simp only [codes1, List.mem_cons, List.not_mem_nil, or_false] at hc
  rcases hc with rfl | rfl | rfl | rfl | rfl | rfl | rfl | rfl | rfl | rfl | rfl
  · exact w_c0
  · exact w_c1
  · exact w_c2
  · exact w_c3
  · exact w_c4
  · exact w_c5
  · exact w_c6
  · exact w_c7
  · exact w_c8
  · exact w_c9
  · exact w_c10
set_option maxRecDepth 65536 in
theorem w_t1 : (words1.take 24).all (fun c => isCode c || c.before args0 about1) = true := by decide +kernel
set_option maxRecDepth 65536 in
theorem w_t2 : (words1.drop 24).all (fun c => isCode c || c.before args0 about1) = true := by decide +kernel
theorem w_tables : (allAtoms (Jvm.Cond.code x code maxLocals ret :: tables_1)).before args0 about1 = true := by
  rw [allAtoms_all]
  show words1.all (fun c => c.before args0 about1) = true
  refine all_split ?_ w_codes
  rw [← List.take_append_drop 24 words1, List.all_append, w_t1, w_t2]
  rfl
set_option maxRecDepth 65536 in
theorem w_case : (Jvm.Cond.and given_1 narrow_1).before args0 about1 = true := by decide +kernel
theorem w_applies : (headSpec (Jvm.Cond.code x code maxLocals ret :: tables_1) room_1).applies x e0.platform about1 = true :=
  (Spec.applies_iff w_frames).mpr ⟨w_running, w_runnable, w_alone, w_named, w_hears, w_ripe, w_room, w_tables⟩
theorem atStart : AtStart classFile x code maxLocals ret World_1 tables_1 room_1 Calls_1 rest_1 Pre_1 launch0 p0 e0 about1 theMethod args0 below0 :=
  ⟨lists_1, trivial, launch0.admits_env _ _ _, launch0.least_env, fairChoices_fair.cas, fairChoices_fair.clock, w_frames, w_args, w_heap, w_applies, trivial, trivial, w_case⟩
end start1
theorem witness_1 : WitnessClaimed_1 := ⟨start1.p0, start1.e0, start1.about1, start1.theMethod, start1.args0, start1.below0, start1.atStart⟩
end Jvm.Pilot.@@N@@
