import JvmDerived
import JvmDerived.Pilot.@@N@@Statement
import JvmDerived.Pilot.@@N@@Code
set_option linter.unusedVariables false
set_option linter.unusedSimpArgs false
namespace Jvm.Pilot.@@N@@
open Jvm Jvm.ClassFile Sem Op Lib Jvm.Free Jvm.Stand Jvm.LawKit Jvm.RoadKit Bundle Jvm.Pilot.@@N@@.Jvm.D
section OwnKit
variable {p : Program} {l : Launch} {e : Env} {R : Room} {s : State} {m : MethodId} {args : Array Value} {below : List Frame} {meth : Method} {c : Code} {Z : State} {y : MethodName} {ret : Option FieldType} {code : ByteArray} {ml : Nat} {ws : List Addr} {T : State} {h : Heap} {cells slots : Nat} {C : Outcome → State → Prop} {a0 : Array Value}
/-- the run goes on from this frame to an end that C allows -/
def own_Go (p : Program) (e : Env) (below : List Frame) (C : Outcome → State → Prop) (T : State) (g : JFrame) : Prop :=
  ∃ u o, Steps p.tables e below (T.setTop g) u ∧ u.status = .running ∧ Ended u below o ∧ C o u
/-- what was written lies at one of ws, or is new since s -/
def own_Fw (s : State) (ws : List Addr) (L : List Loc) : Prop := ∀ y ∈ L, y.base ∈ ws ∨ s.heap.size ≤ y.base
/-- where the walk stands: what is fixed of this body; the heap h; nothing old written but at ws -/
def own_W (p : Program) (l : Launch) (e : Env) (R : Room) (s : State) (m : MethodId) (args : Array Value) (below : List Frame) (meth : Method) (c : Code) (Z : State) (y : MethodName) (ret : Option FieldType) (code : ByteArray) (ml : Nat) (ws : List Addr) (T : State) (h : Heap) (cells slots : Nat) : Prop :=
  (p.tables.exec = Jvm.exec ∧ c.code = code ∧ c.maxLocals = ml ∧ s.vm.findClass y.cls = some m.cls ∧ meth.name = y.name ∧ meth.sig.returnType = ret ∧ meth.locks = false ∧ Z.Warmed39 s.vm) ∧ ∃ locs, Stand p l e R s m args below meth c T locs cells slots ∧ T.heap = h ∧ own_Fw s ws locs
/-- what a call leaves: written at ws or new alone; all else kept; where nothing is made or written the heap itself; and Q -/
def own_Q (ws : List Addr) (rm : Room) (h0 : Heap) (Q : Option Value → Heap → Prop) (v : Option Value) (h : Heap) (L : List Loc) : Prop := (∀ y ∈ L, y.base ∈ ws ∨ h0.size ≤ y.base) ∧ Keep h0 h ws ∧ (rm.cells = 0 → ws = [] → h = h0) ∧ Q v h
/-- a body's contract: called with A at the heap h0 it returns, Q holds of what it returns and of the heap, nothing old is written but at ws -/
def own_M (l : Launch) (Z : State) (wo : List Jvm.Cond) (y : MethodName) (bytes : ByteArray) (maxL : Nat) (ret : Option FieldType) (rm : Room) (ws : List Addr) (A : Array Value) (h0 : Heap) (Q : Option Value → Heap → Prop) : Prop :=
  MetFree l y (head1 (Jvm.Cond.code y bytes maxL ret :: wo) rm) (fun a U => a = A ∧ Z.Warmed39 U.vm ∧ U.heap = h0) (fun _ _ _ _ _ => True) (fun _ U o U' => ∃ v L, o = .returned v ∧ own_Q ws rm h0 Q v U'.heap L ∧ FrameEnd U o U' L rm.cells rm.slots)
theorem own_keep {u : State} {L : List Loc} {k n : Nat} (q : s.sameButNew ({ u with vm := s.vm } : State) L k n) (F : own_Fw s ws L) : Keep s.heap u.heap ws := by
  obtain ⟨-, q2, -, -, -, q6⟩ := q
  refine ⟨q2, fun x c hx hn => ?_, fun x c hx => ?_⟩
  · obtain ⟨c', h1, h2, h3, h4⟩ := q6 x c hx
    have h5 : c'.slots = c.slots := by
      apply Array.ext_getElem?
      intro i
      refine h4 i fun hm => ?_
      rcases F _ hm with w | w
      · exact hn w
      · exact absurd (Array.getElem?_eq_some_iff.mp hx).1 (Nat.not_lt.mpr w)
    rw [h5] at h2
    rw [h2] at h1
    exact h1
  · obtain ⟨c', h1, h2, h3, h4⟩ := q6 x c hx
    exact ⟨c', h1, by rw [h2], by rw [h2], h3⟩
theorem own_same0 {u : State} {L : List Loc} {n : Nat} (q : s.sameButNew ({ u with vm := s.vm } : State) L 0 n) (K : Keep s.heap u.heap []) : u.heap = s.heap := by
  obtain ⟨-, q2, q3, -⟩ := q
  apply Array.ext_getElem?
  intro i
  rcases Nat.lt_or_ge i s.heap.size with hi | hi
  · have hs : s.heap[i]? = some s.heap[i] := Array.getElem?_eq_getElem hi
    rw [hs]
    exact K.2.1 i _ hs nin0
  · have h1 : u.heap.size ≤ i := Nat.le_trans q3 hi
    rw [Array.getElem?_eq_none hi, Array.getElem?_eq_none h1]
theorem own_st {T' : State} {g g' : JFrame} (q : ∀ t, Steps p.tables e below (T'.setTop g') t → Steps p.tables e below (T.setTop g) t) (k : own_Go p e below C T' g') : own_Go p e below C T g := by
  obtain ⟨u, o, h1, h2⟩ := k
  exact ⟨u, o, q _ h1, h2⟩
theorem own_tr {T' : State} {g g' : JFrame} (q : Steps p.tables e below (T.setTop g) (T'.setTop g')) (k : own_Go p e below C T' g') : own_Go p e below C T g := by
  obtain ⟨u, o, h1, h2⟩ := k
  exact ⟨u, o, q.trans h1, h2⟩
theorem own_body {wo : List Jvm.Cond} {maxL : Nat} {rm : Room} {A : Array Value} {h0 : Heap} {Q : Option Value → Heap → Prop} {L0 : Array Slot} (hpl : plainFor y = true) (hef : ∀ m, entryFrame m A maxL = mkF m 0 L0 [])
    (body : ∀ p e s m below meth c (C : Outcome → State → Prop) (_ : ∀ v L u, own_Fw s ws L → Q v u.heap → FrameEnd s (.returned v) u L rm.cells rm.slots → C (.returned v) u) T0,
      own_W p l e rm s m A below meth c Z y ret code maxL ws T0 h0 0 0 → own_Go p e below C T0 (mkF m 0 L0 [])) :
    own_M l Z wo y code maxL ret rm ws A h0 Q := by
  refine MetFree.of_bodySF hpl hisR ?_
  intro p e s m args below meth c s₁ Bd hml0 hP hK
  obtain ⟨rfl, hZ, rfl⟩ := hP
  have X0 : Stand p l e rm s m _ below meth c s₁ [] 0 0 := Stand.of_body Bd
  have e0 : s₁.heap = s.heap := by rw [Bd.state]; rfl
  have hlk : meth.locks = false := BodyLoose.notSynchronized Bd
  have k := body p e s m below meth c (fun o U' => ∃ v L, o = .returned v ∧ own_Q ws rm s.heap Q v U'.heap L ∧ FrameEnd s o U' L rm.cells rm.slots)
    (fun v L u h1 h2 h3 => by
      have K := own_keep h3.2.2 h1
      refine ⟨v, L, rfl, ⟨h1, K, fun hc hw => ?_, h2⟩, h3⟩
      subst hw
      have h4 := h3.2.2
      rw [hc] at h4
      exact own_same0 h4 K) s₁
    ⟨⟨Bd.exec, Bd.bytes, hml0, findClass_of_methodNamed Bd.named, (name_of_methodNamed Bd.named Bd.method).1, Bd.returns, hlk, hZ⟩, [], X0, e0, fun _ hy => nomatch hy⟩
  obtain ⟨u, o, h1, h2⟩ := k
  exact ⟨u, o, castTop (hef m) h1, h2⟩
theorem own_Fw_snoc {L : List Loc} {a : Addr} {sl : Nat} (N : own_Fw s ws L) (q : a ∈ ws ∨ s.heap.size ≤ a) : own_Fw s ws (L ++ [⟨a, sl⟩]) := fun y hy => by
  rcases List.mem_append.mp hy with w | w
  · exact N y w
  · cases List.mem_singleton.mp w; exact q
theorem own_Fw_app {L L' : List Loc} {wc' : List Addr} (N : own_Fw s ws L) (q : ∀ y ∈ L', y.base ∈ wc' ∨ h.size ≤ y.base) (r : ∀ b ∈ wc', b ∈ ws ∨ s.heap.size ≤ b) (z : s.heap.size ≤ h.size) : own_Fw s ws (L ++ L') := fun y hy => by
  rcases List.mem_append.mp hy with w | w
  · exact N y w
  · rcases q y w with u | u
    · exact r _ u
    · exact Or.inr (Nat.le_trans z u)
theorem own_le (W : own_W p l e R s m args below meth c Z y ret code ml ws T h cells slots) : s.heap.size ≤ h.size := by
  obtain ⟨-, locs, X, rfl, -⟩ := W
  exact X.same.2.1
theorem own_iadd (W : own_W p l e R s m args below meth c Z y ret code ml ws T h cells slots) {u v : Int32} {pc : Nat} (pc' : Nat) {L : Array Slot} {st : List Value} (hd : decode code pc = .ok (.iadd, 1))  (hp : pc + 1 = pc') (k : own_Go p e below C T (mkF m pc' L (.int (u + v) :: st))) : own_Go p e below C T (mkF m pc L (.int v :: .int u :: st)) := by
  have hsz := own_le W
  obtain ⟨⟨hx, hby, hml, hown, hnm, hrt, hlk, hZ⟩, locs, X, eT, N⟩ := W
  subst hp
  exact own_st (fun _ k => XS.iadd X.here hx rfl (hb hby hd) rfl k) k
theorem own_ladd (W : own_W p l e R s m args below meth c Z y ret code ml ws T h cells slots) {u v : Int64} {pc : Nat} (pc' : Nat) {L : Array Slot} {st : List Value} (hd : decode code pc = .ok (.ladd, 1))  (hp : pc + 1 = pc') (k : own_Go p e below C T (mkF m pc' L (.long (u + v) :: st))) : own_Go p e below C T (mkF m pc L (.long v :: .long u :: st)) := by
  have hsz := own_le W
  obtain ⟨⟨hx, hby, hml, hown, hnm, hrt, hlk, hZ⟩, locs, X, eT, N⟩ := W
  subst hp
  exact own_st (fun _ k => XS.ladd X.here hx rfl (hb hby hd) rfl k) k
theorem own_isub (W : own_W p l e R s m args below meth c Z y ret code ml ws T h cells slots) {u v : Int32} {pc : Nat} (pc' : Nat) {L : Array Slot} {st : List Value} (hd : decode code pc = .ok (.isub, 1))  (hp : pc + 1 = pc') (k : own_Go p e below C T (mkF m pc' L (.int (u - v) :: st))) : own_Go p e below C T (mkF m pc L (.int v :: .int u :: st)) := by
  have hsz := own_le W
  obtain ⟨⟨hx, hby, hml, hown, hnm, hrt, hlk, hZ⟩, locs, X, eT, N⟩ := W
  subst hp
  exact own_st (fun _ k => XS.isub X.here hx rfl (hb hby hd) rfl k) k
theorem own_lsub (W : own_W p l e R s m args below meth c Z y ret code ml ws T h cells slots) {u v : Int64} {pc : Nat} (pc' : Nat) {L : Array Slot} {st : List Value} (hd : decode code pc = .ok (.lsub, 1))  (hp : pc + 1 = pc') (k : own_Go p e below C T (mkF m pc' L (.long (u - v) :: st))) : own_Go p e below C T (mkF m pc L (.long v :: .long u :: st)) := by
  have hsz := own_le W
  obtain ⟨⟨hx, hby, hml, hown, hnm, hrt, hlk, hZ⟩, locs, X, eT, N⟩ := W
  subst hp
  exact own_st (fun _ k => XS.lsub X.here hx rfl (hb hby hd) rfl k) k
theorem own_imul (W : own_W p l e R s m args below meth c Z y ret code ml ws T h cells slots) {u v : Int32} {pc : Nat} (pc' : Nat) {L : Array Slot} {st : List Value} (hd : decode code pc = .ok (.imul, 1))  (hp : pc + 1 = pc') (k : own_Go p e below C T (mkF m pc' L (.int (u * v) :: st))) : own_Go p e below C T (mkF m pc L (.int v :: .int u :: st)) := by
  have hsz := own_le W
  obtain ⟨⟨hx, hby, hml, hown, hnm, hrt, hlk, hZ⟩, locs, X, eT, N⟩ := W
  subst hp
  exact own_st (fun _ k => XS.imul X.here hx rfl (hb hby hd) rfl k) k
theorem own_lmul (W : own_W p l e R s m args below meth c Z y ret code ml ws T h cells slots) {u v : Int64} {pc : Nat} (pc' : Nat) {L : Array Slot} {st : List Value} (hd : decode code pc = .ok (.lmul, 1))  (hp : pc + 1 = pc') (k : own_Go p e below C T (mkF m pc' L (.long (u * v) :: st))) : own_Go p e below C T (mkF m pc L (.long v :: .long u :: st)) := by
  have hsz := own_le W
  obtain ⟨⟨hx, hby, hml, hown, hnm, hrt, hlk, hZ⟩, locs, X, eT, N⟩ := W
  subst hp
  exact own_st (fun _ k => XS.lmul X.here hx rfl (hb hby hd) rfl k) k
theorem own_iand (W : own_W p l e R s m args below meth c Z y ret code ml ws T h cells slots) {u v : Int32} {pc : Nat} (pc' : Nat) {L : Array Slot} {st : List Value} (hd : decode code pc = .ok (.iand, 1))  (hp : pc + 1 = pc') (k : own_Go p e below C T (mkF m pc' L (.int (u &&& v) :: st))) : own_Go p e below C T (mkF m pc L (.int v :: .int u :: st)) := by
  have hsz := own_le W
  obtain ⟨⟨hx, hby, hml, hown, hnm, hrt, hlk, hZ⟩, locs, X, eT, N⟩ := W
  subst hp
  exact own_st (fun _ k => XS.iand X.here hx rfl (hb hby hd) rfl k) k
theorem own_land (W : own_W p l e R s m args below meth c Z y ret code ml ws T h cells slots) {u v : Int64} {pc : Nat} (pc' : Nat) {L : Array Slot} {st : List Value} (hd : decode code pc = .ok (.land, 1))  (hp : pc + 1 = pc') (k : own_Go p e below C T (mkF m pc' L (.long (u &&& v) :: st))) : own_Go p e below C T (mkF m pc L (.long v :: .long u :: st)) := by
  have hsz := own_le W
  obtain ⟨⟨hx, hby, hml, hown, hnm, hrt, hlk, hZ⟩, locs, X, eT, N⟩ := W
  subst hp
  exact own_st (fun _ k => XS.land X.here hx rfl (hb hby hd) rfl k) k
theorem own_ior (W : own_W p l e R s m args below meth c Z y ret code ml ws T h cells slots) {u v : Int32} {pc : Nat} (pc' : Nat) {L : Array Slot} {st : List Value} (hd : decode code pc = .ok (.ior, 1))  (hp : pc + 1 = pc') (k : own_Go p e below C T (mkF m pc' L (.int (u ||| v) :: st))) : own_Go p e below C T (mkF m pc L (.int v :: .int u :: st)) := by
  have hsz := own_le W
  obtain ⟨⟨hx, hby, hml, hown, hnm, hrt, hlk, hZ⟩, locs, X, eT, N⟩ := W
  subst hp
  exact own_st (fun _ k => XS.ior X.here hx rfl (hb hby hd) rfl k) k
theorem own_lor (W : own_W p l e R s m args below meth c Z y ret code ml ws T h cells slots) {u v : Int64} {pc : Nat} (pc' : Nat) {L : Array Slot} {st : List Value} (hd : decode code pc = .ok (.lor, 1))  (hp : pc + 1 = pc') (k : own_Go p e below C T (mkF m pc' L (.long (u ||| v) :: st))) : own_Go p e below C T (mkF m pc L (.long v :: .long u :: st)) := by
  have hsz := own_le W
  obtain ⟨⟨hx, hby, hml, hown, hnm, hrt, hlk, hZ⟩, locs, X, eT, N⟩ := W
  subst hp
  exact own_st (fun _ k => XS.lor X.here hx rfl (hb hby hd) rfl k) k
theorem own_ixor (W : own_W p l e R s m args below meth c Z y ret code ml ws T h cells slots) {u v : Int32} {pc : Nat} (pc' : Nat) {L : Array Slot} {st : List Value} (hd : decode code pc = .ok (.ixor, 1))  (hp : pc + 1 = pc') (k : own_Go p e below C T (mkF m pc' L (.int (u ^^^ v) :: st))) : own_Go p e below C T (mkF m pc L (.int v :: .int u :: st)) := by
  have hsz := own_le W
  obtain ⟨⟨hx, hby, hml, hown, hnm, hrt, hlk, hZ⟩, locs, X, eT, N⟩ := W
  subst hp
  exact own_st (fun _ k => XS.ixor X.here hx rfl (hb hby hd) rfl k) k
theorem own_lxor (W : own_W p l e R s m args below meth c Z y ret code ml ws T h cells slots) {u v : Int64} {pc : Nat} (pc' : Nat) {L : Array Slot} {st : List Value} (hd : decode code pc = .ok (.lxor, 1))  (hp : pc + 1 = pc') (k : own_Go p e below C T (mkF m pc' L (.long (u ^^^ v) :: st))) : own_Go p e below C T (mkF m pc L (.long v :: .long u :: st)) := by
  have hsz := own_le W
  obtain ⟨⟨hx, hby, hml, hown, hnm, hrt, hlk, hZ⟩, locs, X, eT, N⟩ := W
  subst hp
  exact own_st (fun _ k => XS.lxor X.here hx rfl (hb hby hd) rfl k) k
theorem own_ishl (W : own_W p l e R s m args below meth c Z y ret code ml ws T h cells slots) {u v : Int32} {pc : Nat} (pc' : Nat) {L : Array Slot} {st : List Value} (hd : decode code pc = .ok (.ishl, 1))  (hp : pc + 1 = pc') (k : own_Go p e below C T (mkF m pc' L (.int (u <<< (v &&& 31)) :: st))) : own_Go p e below C T (mkF m pc L (.int v :: .int u :: st)) := by
  have hsz := own_le W
  obtain ⟨⟨hx, hby, hml, hown, hnm, hrt, hlk, hZ⟩, locs, X, eT, N⟩ := W
  subst hp
  exact own_st (fun _ k => XS.ishl X.here hx rfl (hb hby hd) rfl k) k
theorem own_ishr (W : own_W p l e R s m args below meth c Z y ret code ml ws T h cells slots) {u v : Int32} {pc : Nat} (pc' : Nat) {L : Array Slot} {st : List Value} (hd : decode code pc = .ok (.ishr, 1))  (hp : pc + 1 = pc') (k : own_Go p e below C T (mkF m pc' L (.int (u >>> (v &&& 31)) :: st))) : own_Go p e below C T (mkF m pc L (.int v :: .int u :: st)) := by
  have hsz := own_le W
  obtain ⟨⟨hx, hby, hml, hown, hnm, hrt, hlk, hZ⟩, locs, X, eT, N⟩ := W
  subst hp
  exact own_st (fun _ k => XS.ishr X.here hx rfl (hb hby hd) rfl k) k
theorem own_iushr (W : own_W p l e R s m args below meth c Z y ret code ml ws T h cells slots) {u v : Int32} {pc : Nat} (pc' : Nat) {L : Array Slot} {st : List Value} (hd : decode code pc = .ok (.iushr, 1))  (hp : pc + 1 = pc') (k : own_Go p e below C T (mkF m pc' L (.int ((u.toUInt32 >>> (v &&& 31).toUInt32).toInt32) :: st))) : own_Go p e below C T (mkF m pc L (.int v :: .int u :: st)) := by
  have hsz := own_le W
  obtain ⟨⟨hx, hby, hml, hown, hnm, hrt, hlk, hZ⟩, locs, X, eT, N⟩ := W
  subst hp
  exact own_st (fun _ k => XS.iushr X.here hx rfl (hb hby hd) rfl k) k
theorem own_lshl (W : own_W p l e R s m args below meth c Z y ret code ml ws T h cells slots) {u : Int64} {v : Int32} {pc : Nat} (pc' : Nat) {L : Array Slot} {st : List Value} (hd : decode code pc = .ok (.lshl, 1))  (hp : pc + 1 = pc') (k : own_Go p e below C T (mkF m pc' L (.long (u <<< (v &&& 0x3f).toInt64) :: st))) : own_Go p e below C T (mkF m pc L (.int v :: .long u :: st)) := by
  have hsz := own_le W
  obtain ⟨⟨hx, hby, hml, hown, hnm, hrt, hlk, hZ⟩, locs, X, eT, N⟩ := W
  subst hp
  exact own_st (fun _ k => XS.lshl X.here hx rfl (hb hby hd) rfl k) k
theorem own_lshr (W : own_W p l e R s m args below meth c Z y ret code ml ws T h cells slots) {u : Int64} {v : Int32} {pc : Nat} (pc' : Nat) {L : Array Slot} {st : List Value} (hd : decode code pc = .ok (.lshr, 1))  (hp : pc + 1 = pc') (k : own_Go p e below C T (mkF m pc' L (.long (u >>> (v &&& 0x3f).toInt64) :: st))) : own_Go p e below C T (mkF m pc L (.int v :: .long u :: st)) := by
  have hsz := own_le W
  obtain ⟨⟨hx, hby, hml, hown, hnm, hrt, hlk, hZ⟩, locs, X, eT, N⟩ := W
  subst hp
  exact own_st (fun _ k => XS.lshr X.here hx rfl (hb hby hd) rfl k) k
theorem own_lushr (W : own_W p l e R s m args below meth c Z y ret code ml ws T h cells slots) {u : Int64} {v : Int32} {pc : Nat} (pc' : Nat) {L : Array Slot} {st : List Value} (hd : decode code pc = .ok (.lushr, 1))  (hp : pc + 1 = pc') (k : own_Go p e below C T (mkF m pc' L (.long ((u.toUInt64 >>> (v &&& 0x3f).toInt64.toUInt64).toInt64) :: st))) : own_Go p e below C T (mkF m pc L (.int v :: .long u :: st)) := by
  have hsz := own_le W
  obtain ⟨⟨hx, hby, hml, hown, hnm, hrt, hlk, hZ⟩, locs, X, eT, N⟩ := W
  subst hp
  exact own_st (fun _ k => XS.lushr X.here hx rfl (hb hby hd) rfl k) k
theorem own_ineg (W : own_W p l e R s m args below meth c Z y ret code ml ws T h cells slots) {u : Int32} {pc : Nat} (pc' : Nat) {L : Array Slot} {st : List Value} (hd : decode code pc = .ok (.ineg, 1))  (hp : pc + 1 = pc') (k : own_Go p e below C T (mkF m pc' L (.int (-u) :: st))) : own_Go p e below C T (mkF m pc L (.int u :: st)) := by
  have hsz := own_le W
  obtain ⟨⟨hx, hby, hml, hown, hnm, hrt, hlk, hZ⟩, locs, X, eT, N⟩ := W
  subst hp
  exact own_st (fun _ k => XS.ineg X.here hx rfl (hb hby hd) rfl k) k
theorem own_lneg (W : own_W p l e R s m args below meth c Z y ret code ml ws T h cells slots) {u : Int64} {pc : Nat} (pc' : Nat) {L : Array Slot} {st : List Value} (hd : decode code pc = .ok (.lneg, 1))  (hp : pc + 1 = pc') (k : own_Go p e below C T (mkF m pc' L (.long (-u) :: st))) : own_Go p e below C T (mkF m pc L (.long u :: st)) := by
  have hsz := own_le W
  obtain ⟨⟨hx, hby, hml, hown, hnm, hrt, hlk, hZ⟩, locs, X, eT, N⟩ := W
  subst hp
  exact own_st (fun _ k => XS.lneg X.here hx rfl (hb hby hd) rfl k) k
theorem own_i2l (W : own_W p l e R s m args below meth c Z y ret code ml ws T h cells slots) {u : Int32} {pc : Nat} (pc' : Nat) {L : Array Slot} {st : List Value} (hd : decode code pc = .ok (.i2l, 1))  (hp : pc + 1 = pc') (k : own_Go p e below C T (mkF m pc' L (.long u.toInt64 :: st))) : own_Go p e below C T (mkF m pc L (.int u :: st)) := by
  have hsz := own_le W
  obtain ⟨⟨hx, hby, hml, hown, hnm, hrt, hlk, hZ⟩, locs, X, eT, N⟩ := W
  subst hp
  exact own_st (fun _ k => XS.i2l X.here hx rfl (hb hby hd) rfl k) k
theorem own_l2i (W : own_W p l e R s m args below meth c Z y ret code ml ws T h cells slots) {u : Int64} {pc : Nat} (pc' : Nat) {L : Array Slot} {st : List Value} (hd : decode code pc = .ok (.l2i, 1))  (hp : pc + 1 = pc') (k : own_Go p e below C T (mkF m pc' L (.int u.toInt32 :: st))) : own_Go p e below C T (mkF m pc L (.long u :: st)) := by
  have hsz := own_le W
  obtain ⟨⟨hx, hby, hml, hown, hnm, hrt, hlk, hZ⟩, locs, X, eT, N⟩ := W
  subst hp
  exact own_st (fun _ k => XS.l2i X.here hx rfl (hb hby hd) rfl k) k
theorem own_i2b (W : own_W p l e R s m args below meth c Z y ret code ml ws T h cells slots) {u : Int32} {pc : Nat} (pc' : Nat) {L : Array Slot} {st : List Value} (hd : decode code pc = .ok (.i2b, 1))  (hp : pc + 1 = pc') (k : own_Go p e below C T (mkF m pc' L (.int u.toInt8.toInt32 :: st))) : own_Go p e below C T (mkF m pc L (.int u :: st)) := by
  have hsz := own_le W
  obtain ⟨⟨hx, hby, hml, hown, hnm, hrt, hlk, hZ⟩, locs, X, eT, N⟩ := W
  subst hp
  exact own_st (fun _ k => XS.i2b X.here hx rfl (hb hby hd) rfl k) k
theorem own_i2c (W : own_W p l e R s m args below meth c Z y ret code ml ws T h cells slots) {u : Int32} {pc : Nat} (pc' : Nat) {L : Array Slot} {st : List Value} (hd : decode code pc = .ok (.i2c, 1))  (hp : pc + 1 = pc') (k : own_Go p e below C T (mkF m pc' L (.int u.toUInt32.toUInt16.toUInt32.toInt32 :: st))) : own_Go p e below C T (mkF m pc L (.int u :: st)) := by
  have hsz := own_le W
  obtain ⟨⟨hx, hby, hml, hown, hnm, hrt, hlk, hZ⟩, locs, X, eT, N⟩ := W
  subst hp
  exact own_st (fun _ k => XS.i2c X.here hx rfl (hb hby hd) rfl k) k
theorem own_lcmp (W : own_W p l e R s m args below meth c Z y ret code ml ws T h cells slots) {u v : Int64} {pc : Nat} (pc' : Nat) {L : Array Slot} {st : List Value} (hd : decode code pc = .ok (.lcmp, 1))  (hp : pc + 1 = pc') (k : own_Go p e below C T (mkF m pc' L (.int (lcmpW u v) :: st))) : own_Go p e below C T (mkF m pc L (.long v :: .long u :: st)) := by
  have hsz := own_le W
  obtain ⟨⟨hx, hby, hml, hown, hnm, hrt, hlk, hZ⟩, locs, X, eT, N⟩ := W
  subst hp
  exact own_st (fun _ k => XS.lcmp X.here hx rfl (hb hby hd) rfl k) k
theorem own_idiv (W : own_W p l e R s m args below meth c Z y ret code ml ws T h cells slots) {u v : Int32} {pc : Nat} (pc' : Nat) {L : Array Slot} {st : List Value} (hd : decode code pc = .ok (.idiv, 1)) (hv : v ≠ 0) (hp : pc + 1 = pc') (k : own_Go p e below C T (mkF m pc' L (.int (u / v) :: st))) : own_Go p e below C T (mkF m pc L (.int v :: .int u :: st)) := by
  have hsz := own_le W
  obtain ⟨⟨hx, hby, hml, hown, hnm, hrt, hlk, hZ⟩, locs, X, eT, N⟩ := W
  subst hp
  exact own_st (fun _ k => XS.idiv X.here hx rfl (hb hby hd) rfl hv k) k
theorem own_ldiv (W : own_W p l e R s m args below meth c Z y ret code ml ws T h cells slots) {u v : Int64} {pc : Nat} (pc' : Nat) {L : Array Slot} {st : List Value} (hd : decode code pc = .ok (.ldiv, 1)) (hv : v ≠ 0) (hp : pc + 1 = pc') (k : own_Go p e below C T (mkF m pc' L (.long (u / v) :: st))) : own_Go p e below C T (mkF m pc L (.long v :: .long u :: st)) := by
  have hsz := own_le W
  obtain ⟨⟨hx, hby, hml, hown, hnm, hrt, hlk, hZ⟩, locs, X, eT, N⟩ := W
  subst hp
  exact own_st (fun _ k => XS.ldiv X.here hx rfl (hb hby hd) rfl hv k) k
theorem own_lrem (W : own_W p l e R s m args below meth c Z y ret code ml ws T h cells slots) {u v : Int64} {pc : Nat} (pc' : Nat) {L : Array Slot} {st : List Value} (hd : decode code pc = .ok (.lrem, 1)) (hv : v ≠ 0) (hp : pc + 1 = pc') (k : own_Go p e below C T (mkF m pc' L (.long (u - (u / v) * v) :: st))) : own_Go p e below C T (mkF m pc L (.long v :: .long u :: st)) := by
  have hsz := own_le W
  obtain ⟨⟨hx, hby, hml, hown, hnm, hrt, hlk, hZ⟩, locs, X, eT, N⟩ := W
  subst hp
  exact own_st (fun _ k => XS.lrem X.here hx rfl (hb hby hd) rfl hv k) k
theorem own_irem (W : own_W p l e R s m args below meth c Z y ret code ml ws T h cells slots) {u v : Int32} {pc : Nat} (pc' : Nat) {L : Array Slot} {st : List Value} (hd : decode code pc = .ok (.irem, 1)) (hv : v ≠ 0) (hp : pc + 1 = pc') (k : own_Go p e below C T (mkF m pc' L (.int (u % v) :: st))) : own_Go p e below C T (mkF m pc L (.int v :: .int u :: st)) := by
  have hsz := own_le W
  obtain ⟨⟨hx, hby, hml, hown, hnm, hrt, hlk, hZ⟩, locs, X, eT, N⟩ := W
  subst hp
  exact own_st (fun _ k => iremM X hx rfl (hb hby hd) rfl hv k) k
theorem own_iconst (W : own_W p l e R s m args below meth c Z y ret code ml ws T h cells slots) {i : Int} (v : Int32) {pc : Nat} (pc' : Nat) {L : Array Slot} {st : List Value} (hd : decode code pc = .ok (.iconst i, 1)) (hv : Int32.ofInt i = v) (hp : pc + 1 = pc') (k : own_Go p e below C T (mkF m pc' L (.int v :: st))) : own_Go p e below C T (mkF m pc L st) := by
  have hsz := own_le W
  obtain ⟨⟨hx, hby, hml, hown, hnm, hrt, hlk, hZ⟩, locs, X, eT, N⟩ := W
  subst hp hv
  exact own_st (fun _ k => XS.iconst X.here hx rfl (hb hby hd) k) k
theorem own_bipush (W : own_W p l e R s m args below meth c Z y ret code ml ws T h cells slots) {i : Int} (v : Int32) {pc : Nat} (pc' : Nat) {L : Array Slot} {st : List Value} (hd : decode code pc = .ok (.bipush i, 2)) (hv : (Int8.ofInt i).toInt32 = v) (hp : pc + 2 = pc') (k : own_Go p e below C T (mkF m pc' L (.int v :: st))) : own_Go p e below C T (mkF m pc L st) := by
  have hsz := own_le W
  obtain ⟨⟨hx, hby, hml, hown, hnm, hrt, hlk, hZ⟩, locs, X, eT, N⟩ := W
  subst hp hv
  exact own_st (fun _ k => XS.bipush X.here hx rfl (hb hby hd) k) k
theorem own_sipush (W : own_W p l e R s m args below meth c Z y ret code ml ws T h cells slots) {i : Int} (v : Int32) {pc : Nat} (pc' : Nat) {L : Array Slot} {st : List Value} (hd : decode code pc = .ok (.sipush i, 3)) (hv : (Int16.ofInt i).toInt32 = v) (hp : pc + 3 = pc') (k : own_Go p e below C T (mkF m pc' L (.int v :: st))) : own_Go p e below C T (mkF m pc L st) := by
  have hsz := own_le W
  obtain ⟨⟨hx, hby, hml, hown, hnm, hrt, hlk, hZ⟩, locs, X, eT, N⟩ := W
  subst hp hv
  exact own_st (fun _ k => XS.sipush X.here hx rfl (hb hby hd) k) k
theorem own_lconst (W : own_W p l e R s m args below meth c Z y ret code ml ws T h cells slots) {i : Fin 2} (v : Int64) {pc : Nat} (pc' : Nat) {L : Array Slot} {st : List Value} (hd : decode code pc = .ok (.lconst i, 1)) (hv : Int64.ofNat i.val = v) (hp : pc + 1 = pc') (k : own_Go p e below C T (mkF m pc' L (.long v :: st))) : own_Go p e below C T (mkF m pc L st) := by
  have hsz := own_le W
  obtain ⟨⟨hx, hby, hml, hown, hnm, hrt, hlk, hZ⟩, locs, X, eT, N⟩ := W
  subst hp hv
  exact own_st (fun _ k => XS.lconst X.here hx rfl (hb hby hd) k) k
theorem own_aconst_null (W : own_W p l e R s m args below meth c Z y ret code ml ws T h cells slots) {pc : Nat} (pc' : Nat) {L : Array Slot} {st : List Value} (hd : decode code pc = .ok (.aconst_null, 1)) (hp : pc + 1 = pc') (k : own_Go p e below C T (mkF m pc' L (.null :: st))) : own_Go p e below C T (mkF m pc L st) := by
  have hsz := own_le W
  obtain ⟨⟨hx, hby, hml, hown, hnm, hrt, hlk, hZ⟩, locs, X, eT, N⟩ := W
  subst hp
  exact own_st (fun _ k => XS.aconstNull X.here hx rfl (hb hby hd) k) k
theorem own_ldcInt (W : own_W p l e R s m args below meth c Z y ret code ml ws T h cells slots) {i : Nat} {v : Int32} {pc : Nat} (pc' : Nat) {L : Array Slot} {st : List Value} (hd : decode code pc = .ok (.ldc i, 2)) (w : (Jvm.Cond.constant y.cls i v).before a0 Z = true) (hp : pc + 2 = pc') (k : own_Go p e below C T (mkF m pc' L (.int v :: st))) : own_Go p e below C T (mkF m pc L st) := by
  have hsz := own_le W
  obtain ⟨⟨hx, hby, hml, hown, hnm, hrt, hlk, hZ⟩, locs, X, eT, N⟩ := W
  subst hp
  exact own_st (fun _ k => X.ldcInt hx hown (mvT hZ w) (g := mkF m pc L st) rfl (hb hby hd) _ k) k
theorem own_ldc2Long (W : own_W p l e R s m args below meth c Z y ret code ml ws T h cells slots) {i : Nat} {v : Int64} {pc : Nat} (pc' : Nat) {L : Array Slot} {st : List Value} (hd : decode code pc = .ok (.ldc2_w i, 3)) (w : (Jvm.Cond.constantLong y.cls i v).before a0 Z = true) (hp : pc + 3 = pc') (k : own_Go p e below C T (mkF m pc' L (.long v :: st))) : own_Go p e below C T (mkF m pc L st) := by
  have hsz := own_le W
  obtain ⟨⟨hx, hby, hml, hown, hnm, hrt, hlk, hZ⟩, locs, X, eT, N⟩ := W
  subst hp
  exact own_st (fun _ k => X.ldc2Long hx hown (mvT hZ w) (g := mkF m pc L st) rfl (hb hby hd) _ k) k
theorem own_iloadN (W : own_W p l e R s m args below meth c Z y ret code ml ws T h cells slots) {i : Fin 4} {v : Int32} {pc : Nat} (pc' : Nat) {L : Array Slot} {st : List Value} (hd : decode code pc = .ok (.iload_n i, 1)) (hl : L[i.val]? = some (.val (.int v))) (hp : pc + 1 = pc') (k : own_Go p e below C T (mkF m pc' L (.int v :: st))) : own_Go p e below C T (mkF m pc L st) := by
  have hsz := own_le W
  obtain ⟨⟨hx, hby, hml, hown, hnm, hrt, hlk, hZ⟩, locs, X, eT, N⟩ := W
  subst hp
  exact own_st (fun _ k => XS.iloadN X.here hx rfl (hb hby hd) hl k) k
theorem own_iload (W : own_W p l e R s m args below meth c Z y ret code ml ws T h cells slots) {i : Nat} {v : Int32} {pc : Nat} (pc' : Nat) {L : Array Slot} {st : List Value} (hd : decode code pc = .ok (.iload i, 2)) (hl : L[i]? = some (.val (.int v))) (hp : pc + 2 = pc') (k : own_Go p e below C T (mkF m pc' L (.int v :: st))) : own_Go p e below C T (mkF m pc L st) := by
  have hsz := own_le W
  obtain ⟨⟨hx, hby, hml, hown, hnm, hrt, hlk, hZ⟩, locs, X, eT, N⟩ := W
  subst hp
  exact own_st (fun _ k => XS.iload X.here hx rfl (hb hby hd) hl k) k
theorem own_lloadN (W : own_W p l e R s m args below meth c Z y ret code ml ws T h cells slots) {i : Fin 4} {v : Int64} {pc : Nat} (pc' : Nat) {L : Array Slot} {st : List Value} (hd : decode code pc = .ok (.lload_n i, 1)) (hl : L[i.val]? = some (.val (.long v))) (hp : pc + 1 = pc') (k : own_Go p e below C T (mkF m pc' L (.long v :: st))) : own_Go p e below C T (mkF m pc L st) := by
  have hsz := own_le W
  obtain ⟨⟨hx, hby, hml, hown, hnm, hrt, hlk, hZ⟩, locs, X, eT, N⟩ := W
  subst hp
  exact own_st (fun _ k => XS.lloadN X.here hx rfl (hb hby hd) hl k) k
theorem own_lload (W : own_W p l e R s m args below meth c Z y ret code ml ws T h cells slots) {i : Nat} {v : Int64} {pc : Nat} (pc' : Nat) {L : Array Slot} {st : List Value} (hd : decode code pc = .ok (.lload i, 2)) (hl : L[i]? = some (.val (.long v))) (hp : pc + 2 = pc') (k : own_Go p e below C T (mkF m pc' L (.long v :: st))) : own_Go p e below C T (mkF m pc L st) := by
  have hsz := own_le W
  obtain ⟨⟨hx, hby, hml, hown, hnm, hrt, hlk, hZ⟩, locs, X, eT, N⟩ := W
  subst hp
  exact own_st (fun _ k => XS.lload X.here hx rfl (hb hby hd) hl k) k
theorem own_aloadN (W : own_W p l e R s m args below meth c Z y ret code ml ws T h cells slots) {i : Fin 4} {v : Value} {pc : Nat} (pc' : Nat) {L : Array Slot} {st : List Value} (hd : decode code pc = .ok (.aload_n i, 1)) (hl : L[i.val]? = some (.val v)) (hv : v.isRef = true) (hp : pc + 1 = pc') (k : own_Go p e below C T (mkF m pc' L (v :: st))) : own_Go p e below C T (mkF m pc L st) := by
  have hsz := own_le W
  obtain ⟨⟨hx, hby, hml, hown, hnm, hrt, hlk, hZ⟩, locs, X, eT, N⟩ := W
  subst hp
  exact own_st (fun _ k => XS.aloadN X.here hx rfl (hb hby hd) hl hv k) k
theorem own_aload (W : own_W p l e R s m args below meth c Z y ret code ml ws T h cells slots) {i : Nat} {v : Value} {pc : Nat} (pc' : Nat) {L : Array Slot} {st : List Value} (hd : decode code pc = .ok (.aload i, 2)) (hl : L[i]? = some (.val v)) (hv : v.isRef = true) (hp : pc + 2 = pc') (k : own_Go p e below C T (mkF m pc' L (v :: st))) : own_Go p e below C T (mkF m pc L st) := by
  have hsz := own_le W
  obtain ⟨⟨hx, hby, hml, hown, hnm, hrt, hlk, hZ⟩, locs, X, eT, N⟩ := W
  subst hp
  exact own_st (fun _ k => XS.aload X.here hx rfl (hb hby hd) hl hv k) k
theorem own_istoreN (W : own_W p l e R s m args below meth c Z y ret code ml ws T h cells slots) {i : Fin 4} {v : Int32} {pc : Nat} (pc' : Nat) {L : Array Slot} (L' : Array Slot) {st : List Value} (hd : decode code pc = .ok (.istore_n i, 1)) (hl : storeLocals L i.val (.int v) = some L') (hp : pc + 1 = pc') (k : own_Go p e below C T (mkF m pc' L' st)) : own_Go p e below C T (mkF m pc L (.int v :: st)) := by
  have hsz := own_le W
  obtain ⟨⟨hx, hby, hml, hown, hnm, hrt, hlk, hZ⟩, locs, X, eT, N⟩ := W
  subst hp
  exact own_st (fun _ k => XS.istoreN X.here hx rfl (hb hby hd) rfl hl k) k
theorem own_istore (W : own_W p l e R s m args below meth c Z y ret code ml ws T h cells slots) {i : Nat} {v : Int32} {pc : Nat} (pc' : Nat) {L : Array Slot} (L' : Array Slot) {st : List Value} (hd : decode code pc = .ok (.istore i, 2)) (hl : storeLocals L i (.int v) = some L') (hp : pc + 2 = pc') (k : own_Go p e below C T (mkF m pc' L' st)) : own_Go p e below C T (mkF m pc L (.int v :: st)) := by
  have hsz := own_le W
  obtain ⟨⟨hx, hby, hml, hown, hnm, hrt, hlk, hZ⟩, locs, X, eT, N⟩ := W
  subst hp
  exact own_st (fun _ k => XS.istore X.here hx rfl (hb hby hd) rfl hl k) k
theorem own_lstoreN (W : own_W p l e R s m args below meth c Z y ret code ml ws T h cells slots) {i : Fin 4} {v : Int64} {pc : Nat} (pc' : Nat) {L : Array Slot} (L' : Array Slot) {st : List Value} (hd : decode code pc = .ok (.lstore_n i, 1)) (hl : storeLocals L i.val (.long v) = some L') (hp : pc + 1 = pc') (k : own_Go p e below C T (mkF m pc' L' st)) : own_Go p e below C T (mkF m pc L (.long v :: st)) := by
  have hsz := own_le W
  obtain ⟨⟨hx, hby, hml, hown, hnm, hrt, hlk, hZ⟩, locs, X, eT, N⟩ := W
  subst hp
  exact own_st (fun _ k => XS.lstoreN X.here hx rfl (hb hby hd) rfl hl k) k
theorem own_lstore (W : own_W p l e R s m args below meth c Z y ret code ml ws T h cells slots) {i : Nat} {v : Int64} {pc : Nat} (pc' : Nat) {L : Array Slot} (L' : Array Slot) {st : List Value} (hd : decode code pc = .ok (.lstore i, 2)) (hl : storeLocals L i (.long v) = some L') (hp : pc + 2 = pc') (k : own_Go p e below C T (mkF m pc' L' st)) : own_Go p e below C T (mkF m pc L (.long v :: st)) := by
  have hsz := own_le W
  obtain ⟨⟨hx, hby, hml, hown, hnm, hrt, hlk, hZ⟩, locs, X, eT, N⟩ := W
  subst hp
  exact own_st (fun _ k => XS.lstore X.here hx rfl (hb hby hd) rfl hl k) k
theorem own_astoreN (W : own_W p l e R s m args below meth c Z y ret code ml ws T h cells slots) {i : Fin 4} {v : Value} {pc : Nat} (pc' : Nat) {L : Array Slot} (L' : Array Slot) {st : List Value} (hd : decode code pc = .ok (.astore_n i, 1)) (hv : v.isRef = true) (hl : storeLocals L i.val v = some L') (hp : pc + 1 = pc') (k : own_Go p e below C T (mkF m pc' L' st)) : own_Go p e below C T (mkF m pc L (v :: st)) := by
  have hsz := own_le W
  obtain ⟨⟨hx, hby, hml, hown, hnm, hrt, hlk, hZ⟩, locs, X, eT, N⟩ := W
  subst hp
  exact own_st (fun _ k => XS.astoreN X.here hx rfl (hb hby hd) rfl hv hl k) k
theorem own_astore (W : own_W p l e R s m args below meth c Z y ret code ml ws T h cells slots) {i : Nat} {v : Value} {pc : Nat} (pc' : Nat) {L : Array Slot} (L' : Array Slot) {st : List Value} (hd : decode code pc = .ok (.astore i, 2)) (hv : v.isRef = true) (hl : storeLocals L i v = some L') (hp : pc + 2 = pc') (k : own_Go p e below C T (mkF m pc' L' st)) : own_Go p e below C T (mkF m pc L (v :: st)) := by
  have hsz := own_le W
  obtain ⟨⟨hx, hby, hml, hown, hnm, hrt, hlk, hZ⟩, locs, X, eT, N⟩ := W
  subst hp
  exact own_st (fun _ k => XS.astore X.here hx rfl (hb hby hd) rfl hv hl k) k
theorem own_iinc (W : own_W p l e R s m args below meth c Z y ret code ml ws T h cells slots) {i : Nat} {cst : Int} {v : Int32} (v' : Int32) {pc : Nat} (pc' : Nat) {L : Array Slot} (L' : Array Slot) {st : List Value} (hd : decode code pc = .ok (.iinc i cst, 3)) (hv : L[i]? = some (.val (.int v))) (hv' : v + Int32.ofInt cst = v') (hl : storeLocals L i (.int v') = some L') (hp : pc + 3 = pc') (k : own_Go p e below C T (mkF m pc' L' st)) : own_Go p e below C T (mkF m pc L st) := by
  have hsz := own_le W
  obtain ⟨⟨hx, hby, hml, hown, hnm, hrt, hlk, hZ⟩, locs, X, eT, N⟩ := W
  subst hp hv'
  exact own_st (fun _ k => XS.iinc X.here hx rfl (hb hby hd) hv hl k) k
theorem own_dup (W : own_W p l e R s m args below meth c Z y ret code ml ws T h cells slots) {v : Value} {pc : Nat} (pc' : Nat) {L : Array Slot} {st : List Value} (hd : decode code pc = .ok (.dup, 1)) (hc : v.category = 1) (hp : pc + 1 = pc') (k : own_Go p e below C T (mkF m pc' L (v :: v :: st))) : own_Go p e below C T (mkF m pc L (v :: st)) := by
  have hsz := own_le W
  obtain ⟨⟨hx, hby, hml, hown, hnm, hrt, hlk, hZ⟩, locs, X, eT, N⟩ := W
  subst hp
  exact own_st (fun _ k => XS.dup X.here hx rfl (hb hby hd) rfl hc k) k
theorem own_pop (W : own_W p l e R s m args below meth c Z y ret code ml ws T h cells slots) {v : Value} {pc : Nat} (pc' : Nat) {L : Array Slot} {st : List Value} (hd : decode code pc = .ok (.pop, 1)) (hc : v.category = 1) (hp : pc + 1 = pc') (k : own_Go p e below C T (mkF m pc' L st)) : own_Go p e below C T (mkF m pc L (v :: st)) := by
  have hsz := own_le W
  obtain ⟨⟨hx, hby, hml, hown, hnm, hrt, hlk, hZ⟩, locs, X, eT, N⟩ := W
  subst hp
  exact own_st (fun _ k => XS.pop X.here hx rfl (hb hby hd) rfl hc k) k
theorem own_dup_x1 (W : own_W p l e R s m args below meth c Z y ret code ml ws T h cells slots) {u v : Value} {pc : Nat} (pc' : Nat) {L : Array Slot} {st : List Value} (hd : decode code pc = .ok (.dup_x1, 1)) (hc : v.category = 1) (hc' : u.category = 1) (hp : pc + 1 = pc') (k : own_Go p e below C T (mkF m pc' L (v :: u :: v :: st))) : own_Go p e below C T (mkF m pc L (v :: u :: st)) := by
  have hsz := own_le W
  obtain ⟨⟨hx, hby, hml, hown, hnm, hrt, hlk, hZ⟩, locs, X, eT, N⟩ := W
  subst hp
  exact own_st (fun _ k => XS.dupX1 X.here hx rfl (hb hby hd) rfl hc hc' k) k
theorem own_goto (W : own_W p l e R s m args below meth c Z y ret code ml ws T h cells slots) {o : Int} {pc : Nat} (pc' : Nat) {L : Array Slot} {st : List Value} (hd : decode code pc = .ok (.goto o, 3)) (ho : 0 ≤ (pc : Int) + o) (hp : ((pc : Int) + o).toNat = pc') (k : own_Go p e below C T (mkF m pc' L st)) : own_Go p e below C T (mkF m pc L st) := by
  have hsz := own_le W
  obtain ⟨⟨hx, hby, hml, hown, hnm, hrt, hlk, hZ⟩, locs, X, eT, N⟩ := W
  exact own_st (fun _ k => XS.goto X.here hx rfl rfl (hb hby hd) ho hp k) k
theorem own_ifY (W : own_W p l e R s m args below meth c Z y ret code ml ws T h cells slots) {cd : ClassFile.Cond} {o : Int} {u : Int32} {pc : Nat} (pc' : Nat) {L : Array Slot} {st : List Value} (hd : decode code pc = .ok (.ifCond cd o, 3)) (hc : ifCond.holds cd u = true) (ho : 0 ≤ (pc : Int) + o) (hp : ((pc : Int) + o).toNat = pc') (k : own_Go p e below C T (mkF m pc' L st)) : own_Go p e below C T (mkF m pc L (.int u :: st)) := by
  have hsz := own_le W
  obtain ⟨⟨hx, hby, hml, hown, hnm, hrt, hlk, hZ⟩, locs, X, eT, N⟩ := W
  exact own_st (fun _ k => XS.ifYes X.here hx rfl rfl (hb hby hd) rfl hc ho hp k) k
theorem own_ifN (W : own_W p l e R s m args below meth c Z y ret code ml ws T h cells slots) {cd : ClassFile.Cond} {o : Int} {u : Int32} {pc : Nat} (pc' : Nat) {L : Array Slot} {st : List Value} (hd : decode code pc = .ok (.ifCond cd o, 3)) (hc : ifCond.holds cd u = false) (hp : pc + 3 = pc') (k : own_Go p e below C T (mkF m pc' L st)) : own_Go p e below C T (mkF m pc L (.int u :: st)) := by
  have hsz := own_le W
  obtain ⟨⟨hx, hby, hml, hown, hnm, hrt, hlk, hZ⟩, locs, X, eT, N⟩ := W
  subst hp
  exact own_st (fun _ k => XS.ifNo X.here hx rfl (hb hby hd) rfl hc k) k
theorem own_icmpY (W : own_W p l e R s m args below meth c Z y ret code ml ws T h cells slots) {cd : ClassFile.Cond} {o : Int} {u v : Int32} {pc : Nat} (pc' : Nat) {L : Array Slot} {st : List Value} (hd : decode code pc = .ok (.if_icmp cd o, 3)) (hc : if_icmp.holds cd u v = true) (ho : 0 ≤ (pc : Int) + o) (hp : ((pc : Int) + o).toNat = pc') (k : own_Go p e below C T (mkF m pc' L st)) : own_Go p e below C T (mkF m pc L (.int v :: .int u :: st)) := by
  have hsz := own_le W
  obtain ⟨⟨hx, hby, hml, hown, hnm, hrt, hlk, hZ⟩, locs, X, eT, N⟩ := W
  exact own_st (fun _ k => XS.icmpYes X.here hx rfl rfl (hb hby hd) rfl hc ho hp k) k
theorem own_icmpN (W : own_W p l e R s m args below meth c Z y ret code ml ws T h cells slots) {cd : ClassFile.Cond} {o : Int} {u v : Int32} {pc : Nat} (pc' : Nat) {L : Array Slot} {st : List Value} (hd : decode code pc = .ok (.if_icmp cd o, 3)) (hc : if_icmp.holds cd u v = false) (hp : pc + 3 = pc') (k : own_Go p e below C T (mkF m pc' L st)) : own_Go p e below C T (mkF m pc L (.int v :: .int u :: st)) := by
  have hsz := own_le W
  obtain ⟨⟨hx, hby, hml, hown, hnm, hrt, hlk, hZ⟩, locs, X, eT, N⟩ := W
  subst hp
  exact own_st (fun _ k => XS.icmpNo X.here hx rfl (hb hby hd) rfl hc k) k
theorem own_ifnullY (W : own_W p l e R s m args below meth c Z y ret code ml ws T h cells slots) {o : Int}  {pc : Nat} (pc' : Nat) {L : Array Slot} {st : List Value} (hd : decode code pc = .ok (.ifnull o, 3)) (ho : 0 ≤ (pc : Int) + o) (hp : ((pc : Int) + o).toNat = pc') (k : own_Go p e below C T (mkF m pc' L st)) : own_Go p e below C T (mkF m pc L (.null :: st)) := by
  have hsz := own_le W
  obtain ⟨⟨hx, hby, hml, hown, hnm, hrt, hlk, hZ⟩, locs, X, eT, N⟩ := W
  exact own_st (fun _ k => XS.ifnullYes X.here hx rfl rfl (hb hby hd) rfl ho hp k) k
theorem own_ifnullN (W : own_W p l e R s m args below meth c Z y ret code ml ws T h cells slots) {o : Int} {b : Addr} {pc : Nat} (pc' : Nat) {L : Array Slot} {st : List Value} (hd : decode code pc = .ok (.ifnull o, 3)) (hp : pc + 3 = pc') (k : own_Go p e below C T (mkF m pc' L st)) : own_Go p e below C T (mkF m pc L (.ref b :: st)) := by
  have hsz := own_le W
  obtain ⟨⟨hx, hby, hml, hown, hnm, hrt, hlk, hZ⟩, locs, X, eT, N⟩ := W
  subst hp
  exact own_st (fun _ k => XS.ifnullNo X.here hx rfl (hb hby hd) rfl k) k
theorem own_ifnonnullY (W : own_W p l e R s m args below meth c Z y ret code ml ws T h cells slots) {o : Int} {b : Addr} {pc : Nat} (pc' : Nat) {L : Array Slot} {st : List Value} (hd : decode code pc = .ok (.ifnonnull o, 3)) (ho : 0 ≤ (pc : Int) + o) (hp : ((pc : Int) + o).toNat = pc') (k : own_Go p e below C T (mkF m pc' L st)) : own_Go p e below C T (mkF m pc L (.ref b :: st)) := by
  have hsz := own_le W
  obtain ⟨⟨hx, hby, hml, hown, hnm, hrt, hlk, hZ⟩, locs, X, eT, N⟩ := W
  exact own_st (fun _ k => XS.ifnonnullYes X.here hx rfl rfl (hb hby hd) rfl ho hp k) k
theorem own_ifnonnullN (W : own_W p l e R s m args below meth c Z y ret code ml ws T h cells slots) {o : Int}  {pc : Nat} (pc' : Nat) {L : Array Slot} {st : List Value} (hd : decode code pc = .ok (.ifnonnull o, 3)) (hp : pc + 3 = pc') (k : own_Go p e below C T (mkF m pc' L st)) : own_Go p e below C T (mkF m pc L (.null :: st)) := by
  have hsz := own_le W
  obtain ⟨⟨hx, hby, hml, hown, hnm, hrt, hlk, hZ⟩, locs, X, eT, N⟩ := W
  subst hp
  exact own_st (fun _ k => XS.ifnonnullNo X.here hx rfl (hb hby hd) rfl k) k
theorem own_acmp (W : own_W p l e R s m args below meth c Z y ret code ml ws T h cells slots) {cd : ACond} {o : Int} {u v : Value} {same : Bool} {pc : Nat} (pc' : Nat) {L : Array Slot} {st : List Value} (hd : decode code pc = .ok (.if_acmp cd o, 3)) (h1 : u.isRef = true) (h2 : v.isRef = true) (hq : decide (u = v) = same) (ho : 0 ≤ (pc : Int) + o) (hp : pc' = if acV cd same = true then ((pc : Int) + o).toNat else pc + 3) (k : own_Go p e below C T (mkF m pc' L st)) : own_Go p e below C T (mkF m pc L (v :: u :: st)) := by
  have hsz := own_le W
  obtain ⟨⟨hx, hby, hml, hown, hnm, hrt, hlk, hZ⟩, locs, X, eT, N⟩ := W
  exact own_st (fun _ k => Jvm.RoadKit.acmp X hx rfl h1 h2 rfl (hb hby hd) rfl hq ho hp k) k
theorem own_retI {Q : Option Value → Heap → Prop} {kc ks : Nat} {z : Int32}  (W : own_W p l e R s m args below meth c Z y (some .int) code ml ws T h cells slots) (hC : ∀ v L u, own_Fw s ws L → Q v u.heap → FrameEnd s (.returned v) u L kc ks → C (.returned v) u) (hcl : cells ≤ kc) (hsl : slots ≤ ks) {pc : Nat} {L : Array Slot} {st : List Value} (hd : decode code pc = .ok (.ireturn, 1)) (hq : Q (some (.int z)) h) : own_Go p e below C T (mkF m pc L (.int z :: st)) := by
  have hsz := own_le W
  obtain ⟨⟨hx, hby, hml, hown, hnm, hrt, hlk, hZ⟩, locs, X, eT, N⟩ := W
  subst eT
  obtain ⟨fs, hr, hrun, hended, hW, hsame⟩ := X.leave (v := (some (.int z))) (fun h => by rw [hrt] at h; cases h) hlk
  refine ⟨_, _, ?_, hrun, hended, hC _ _ _ N hq ⟨⟨_, rfl⟩, hW, hsame.mono hcl hsl⟩⟩
  have hn : narrow .int (.int z) = .int z := rfl
  show Steps p.tables e below (T.setTop { method := m, pc := pc, locals := L, stack := _ :: st, locked := none }) _
  have hm' := X.method'
  jvm_step X.here [X.here.top, hx, (hb hby hd), hm', hrt, hn]
  first | (intro acts; rw [hr _ acts rfl rfl rfl]) | rw [hr _ _ rfl rfl rfl]
  exact Steps.refl _
theorem own_retZ {Q : Option Value → Heap → Prop} {kc ks : Nat} {z : Int32}  (W : own_W p l e R s m args below meth c Z y (some .boolean) code ml ws T h cells slots) (hC : ∀ v L u, own_Fw s ws L → Q v u.heap → FrameEnd s (.returned v) u L kc ks → C (.returned v) u) (hcl : cells ≤ kc) (hsl : slots ≤ ks) {pc : Nat} {L : Array Slot} {st : List Value} (hd : decode code pc = .ok (.ireturn, 1)) (hq : Q (some (.int (z &&& 1))) h) : own_Go p e below C T (mkF m pc L (.int z :: st)) := by
  have hsz := own_le W
  obtain ⟨⟨hx, hby, hml, hown, hnm, hrt, hlk, hZ⟩, locs, X, eT, N⟩ := W
  subst eT
  obtain ⟨fs, hr, hrun, hended, hW, hsame⟩ := X.leave (v := (some (.int (z &&& 1)))) (fun h => by rw [hrt] at h; cases h) hlk
  refine ⟨_, _, ?_, hrun, hended, hC _ _ _ N hq ⟨⟨_, rfl⟩, hW, hsame.mono hcl hsl⟩⟩
  exact retN X hx (t := .boolean) hrt (by simp) (hb hby hd) hr
theorem own_retB {Q : Option Value → Heap → Prop} {kc ks : Nat} {z : Int32}  (W : own_W p l e R s m args below meth c Z y (some .byte) code ml ws T h cells slots) (hC : ∀ v L u, own_Fw s ws L → Q v u.heap → FrameEnd s (.returned v) u L kc ks → C (.returned v) u) (hcl : cells ≤ kc) (hsl : slots ≤ ks) {pc : Nat} {L : Array Slot} {st : List Value} (hd : decode code pc = .ok (.ireturn, 1)) (hq : Q (some (.int z.toInt8.toInt32)) h) : own_Go p e below C T (mkF m pc L (.int z :: st)) := by
  have hsz := own_le W
  obtain ⟨⟨hx, hby, hml, hown, hnm, hrt, hlk, hZ⟩, locs, X, eT, N⟩ := W
  subst eT
  obtain ⟨fs, hr, hrun, hended, hW, hsame⟩ := X.leave (v := (some (.int z.toInt8.toInt32))) (fun h => by rw [hrt] at h; cases h) hlk
  refine ⟨_, _, ?_, hrun, hended, hC _ _ _ N hq ⟨⟨_, rfl⟩, hW, hsame.mono hcl hsl⟩⟩
  exact retN X hx (t := .byte) hrt (by simp) (hb hby hd) hr
theorem own_retC {Q : Option Value → Heap → Prop} {kc ks : Nat} {z : Int32}  (W : own_W p l e R s m args below meth c Z y (some .char) code ml ws T h cells slots) (hC : ∀ v L u, own_Fw s ws L → Q v u.heap → FrameEnd s (.returned v) u L kc ks → C (.returned v) u) (hcl : cells ≤ kc) (hsl : slots ≤ ks) {pc : Nat} {L : Array Slot} {st : List Value} (hd : decode code pc = .ok (.ireturn, 1)) (hq : Q (some (.int z.toUInt32.toUInt16.toUInt32.toInt32)) h) : own_Go p e below C T (mkF m pc L (.int z :: st)) := by
  have hsz := own_le W
  obtain ⟨⟨hx, hby, hml, hown, hnm, hrt, hlk, hZ⟩, locs, X, eT, N⟩ := W
  subst eT
  obtain ⟨fs, hr, hrun, hended, hW, hsame⟩ := X.leave (v := (some (.int z.toUInt32.toUInt16.toUInt32.toInt32))) (fun h => by rw [hrt] at h; cases h) hlk
  refine ⟨_, _, ?_, hrun, hended, hC _ _ _ N hq ⟨⟨_, rfl⟩, hW, hsame.mono hcl hsl⟩⟩
  exact retN X hx (t := .char) hrt (by simp) (hb hby hd) hr
theorem own_retJ {Q : Option Value → Heap → Prop} {kc ks : Nat} {z : Int64}  (W : own_W p l e R s m args below meth c Z y (some .long) code ml ws T h cells slots) (hC : ∀ v L u, own_Fw s ws L → Q v u.heap → FrameEnd s (.returned v) u L kc ks → C (.returned v) u) (hcl : cells ≤ kc) (hsl : slots ≤ ks) {pc : Nat} {L : Array Slot} {st : List Value} (hd : decode code pc = .ok (.lreturn, 1)) (hq : Q (some (.long z)) h) : own_Go p e below C T (mkF m pc L (.long z :: st)) := by
  have hsz := own_le W
  obtain ⟨⟨hx, hby, hml, hown, hnm, hrt, hlk, hZ⟩, locs, X, eT, N⟩ := W
  subst eT
  obtain ⟨fs, hr, hrun, hended, hW, hsame⟩ := X.leave (v := (some (.long z))) (fun h => by rw [hrt] at h; cases h) hlk
  refine ⟨_, _, ?_, hrun, hended, hC _ _ _ N hq ⟨⟨_, rfl⟩, hW, hsame.mono hcl hsl⟩⟩
  have hn : narrow .long (.long z) = .long z := rfl
  show Steps p.tables e below (T.setTop { method := m, pc := pc, locals := L, stack := _ :: st, locked := none }) _
  have hm' := X.method'
  jvm_step X.here [X.here.top, hx, (hb hby hd), hm', hrt, hn]
  first | (intro acts; rw [hr _ acts rfl rfl rfl]) | rw [hr _ _ rfl rfl rfl]
  exact Steps.refl _
theorem own_retV {Q : Option Value → Heap → Prop} {kc ks : Nat}  (W : own_W p l e R s m args below meth c Z y none code ml ws T h cells slots) (hC : ∀ v L u, own_Fw s ws L → Q v u.heap → FrameEnd s (.returned v) u L kc ks → C (.returned v) u) (hcl : cells ≤ kc) (hsl : slots ≤ ks) {pc : Nat} {L : Array Slot} (hd : decode code pc = .ok (.return_, 1)) (hq : Q none h) : own_Go p e below C T (mkF m pc L []) := by
  have hsz := own_le W
  obtain ⟨⟨hx, hby, hml, hown, hnm, hrt, hlk, hZ⟩, locs, X, eT, N⟩ := W
  subst eT
  obtain ⟨fs, hr, hrun, hended, hW, hsame⟩ := X.leave (v := none) (fun _ => rfl) hlk
  refine ⟨_, _, ?_, hrun, hended, hC _ _ _ N hq ⟨⟨_, rfl⟩, hW, hsame.mono hcl hsl⟩⟩
  exact X.returnOut hx hrt (hb hby hd) hr
theorem own_retA {Q : Option Value → Heap → Prop} {kc ks : Nat} {rt : FieldType} {z : Value} (W : own_W p l e R s m args below meth c Z y (some rt) code ml ws T h cells slots) (hC : ∀ v L u, own_Fw s ws L → Q v u.heap → FrameEnd s (.returned v) u L kc ks → C (.returned v) u) (hcl : cells ≤ kc) (hsl : slots ≤ ks) (hrr : rt.isReference = true) (hzr : z.isRef = true) {pc : Nat} {L : Array Slot} {st : List Value} (hd : decode code pc = .ok (.areturn, 1)) (hn : narrow rt z = z) (hq : Q (some z) h) : own_Go p e below C T (mkF m pc L (z :: st)) := by
  have hsz := own_le W
  obtain ⟨⟨hx, hby, hml, hown, hnm, hrt, hlk, hZ⟩, locs, X, eT, N⟩ := W
  subst eT
  obtain ⟨fs, hr, hrun, hended, hW, hsame⟩ := X.leave (v := some z) (fun h => by rw [hrt] at h; cases h) hlk
  refine ⟨_, _, ?_, hrun, hended, hC _ _ _ N hq ⟨⟨_, rfl⟩, hW, hsame.mono hcl hsl⟩⟩
  exact retOut X hx hrt hn (Or.inr (Or.inr (Or.inr (Or.inr ⟨rfl, hrr, hzr⟩)))) (hb hby hd) hr
/-- an array by its places: n of them, place j holds f j -/
def own_A (Z : State) (h : Heap) (a : Addr) (ty : FieldType) (n : Nat) (f : Nat → Value) : Prop := ∃ cl : Cell, Arr Z h a cl ty ∧ cl.slots.size = n ∧ ∀ j, j < n → cl.slots[j]? = some (f j)
def own_upd (f : Nat → Value) (k : Nat) (v : Value) : Nat → Value := fun j => if j = k then v else f j
theorem own_A.lt {a : Addr} {ty : FieldType} {n : Nat} {f : Nat → Value} (F : own_A Z h a ty n f) : a < h.size := by obtain ⟨cl, A, -⟩ := F; exact A.lt
theorem own_A.ext {h' : Heap} {a : Addr} {ty : FieldType} {n : Nat} {f : Nat → Value} (F : own_A Z h a ty n f) (E : Ext h h') : own_A Z h' a ty n f := by obtain ⟨cl, A, r⟩ := F; exact ⟨cl, A.ext E, r⟩
theorem own_A.other {h' : Heap} {a b : Addr} {sl : Nat} {v : Value} {ty : FieldType} {n : Nat} {f : Nat → Value} (F : own_A Z h b ty n f) (q : Wr h h' a sl v) (ne : b ≠ a) : own_A Z h' b ty n f := by obtain ⟨cl, A, r⟩ := F; exact ⟨cl, A.other q ne, r⟩
theorem own_A.keep {h' : Heap} {ws : List Addr} {a : Addr} {ty : FieldType} {n : Nat} {f : Nat → Value} (F : own_A Z h a ty n f) (K : Keep h h' ws) (q : a ∉ ws) : own_A Z h' a ty n f := by obtain ⟨cl, A, r⟩ := F; exact ⟨cl, ⟨K.2.1 a cl A.1 q, A.2⟩, r⟩
theorem own_A.congr {a : Addr} {ty : FieldType} {n : Nat} {f g : Nat → Value} (F : own_A Z h a ty n f) (q : ∀ j, j < n → f j = g j) : own_A Z h a ty n g := by obtain ⟨cl, A, r1, r2⟩ := F; exact ⟨cl, A, r1, fun j hj => by rw [r2 j hj, q j hj]⟩
theorem own_nn {z : Int32} {k : Nat} (hz : z.toInt = (k : Int)) : ¬ z < 0 := by rw [Int32.lt_iff_toInt_lt]; have : (0 : Int32).toInt = 0 := rfl; omega
theorem own_cl {z : Int32} {k : Nat} (hz : z.toInt = (k : Int)) : z.toNatClampNeg = k := by
  have h := nat_of (own_nn hz)
  omega
theorem own_in {z : Int32} {k n : Nat} {cl : Cell} (hz : z.toInt = (k : Int)) (hs : cl.slots.size = n) (hk : k < n) : ¬ (z < 0 ∨ cl.slots.size ≤ z.toNatClampNeg) := by
  rintro (q | q)
  · exact own_nn hz q
  · rw [own_cl hz] at q; omega
theorem own_A.set {h' : Heap} {a : Addr} {ty : FieldType} {n k : Nat} {f : Nat → Value} {v : Value} (F : own_A Z h a ty n f) (q : Wr h h' a k v) (hk : k < n) : own_A Z h' a ty n (own_upd f k v) := by
  obtain ⟨cl, A, r1, r2⟩ := F
  refine ⟨cl.setSlot k v, Arr.same q A, by rw [sz_set]; exact r1, fun j hj => ?_⟩
  by_cases e : j = k
  · subst e; simp [own_upd, Cell.setSlot, r1, hj]
  · simp only [own_upd, if_neg e, Cell.setSlot]
    rw [Array.getElem?_setIfInBounds_ne (Ne.symm e)]; exact r2 j hj
theorem own_newarray (W : own_W p l e R s m args below meth c Z y ret code ml ws T h cells slots) {aty : ArrayType} {z : Int32} (N cap : Nat) {pc : Nat} (pc' : Nat) {L : Array Slot} {st : List Value} (hd : decode code pc = .ok (.newarray aty, 2)) (w : (Jvm.Cond.arrayClass (newarray.typeOf aty)).before a0 Z = true) (hz : z.toInt = (N : Int)) (hcap : N ≤ cap) (hb8 : cap * 8 ≤ 536870912) (hc : cells + 1 ≤ R.cells) (hl : slots + cap ≤ R.slots) (hp : pc + 2 = pc') (k : ∀ T' h' a, own_W p l e R s m args below meth c Z y ret code ml ws T' h' (cells + 1) (slots + cap) → Ext h h' → a = h.size → s.heap.size ≤ a → own_A Z h' a (newarray.typeOf aty) N (fun _ => defaultValue (newarray.typeOf aty)) → own_Go p e below C T' (mkF m pc' L (.ref a :: st))) : own_Go p e below C T (mkF m pc L (.int z :: st)) := by
  have hsz := own_le W
  obtain ⟨⟨hx, hby, hml, hown, hnm, hrt, hlk, hZ⟩, locs, X, eT, Nf⟩ := W
  subst hp
  have hcl := own_cl hz
  obtain ⟨T', h', cA, X', e', E', A', st'⟩ := newP X hx hZ w eT (g := mkF m pc L (.int z :: st)) rfl (hb hby hd) rfl (own_nn hz) (cap := cap) (by rw [hcl]; exact hcap) hb8 hc hl
  refine own_st st' (k T' h' h.size ⟨⟨hx, hby, hml, hown, hnm, hrt, hlk, hZ⟩, locs, X', e', Nf⟩ E' rfl hsz ⟨_, A', by rw [sz_new, hcl], fun j hj => ?_⟩)
  simp [newA, hcl, hj]
theorem own_baload (W : own_W p l e R s m args below meth c Z y ret code ml ws T h cells slots) {a : Addr} {z : Int32} {n : Nat} {f : Nat → Value} (k : Nat) (v : Int32) {pc : Nat} (pc' : Nat) {L : Array Slot} {st : List Value} (hd : decode code pc = .ok (.baload, 1)) (F : own_A Z h a .byte n f) (hz : z.toInt = (k : Int)) (hk : k < n) (hv : f k = (.int v)) (hp : pc + 1 = pc') (kk : own_Go p e below C T (mkF m pc' L ((.int v) :: st))) : own_Go p e below C T (mkF m pc L (.int z :: .ref a :: st)) := by
  have hsz := own_le W
  obtain ⟨⟨hx, hby, hml, hown, hnm, hrt, hlk, hZ⟩, locs, X, eT, N⟩ := W
  subst hp eT
  obtain ⟨cl, A, hs, hf⟩ := F
  have hat : cl.slots[z.toNatClampNeg]? = some (.int v) := by rw [own_cl hz, hf k hk, hv]
  exact own_st (fun t q => X.baloadBytes hx A.1 (State.isArrayOf_alike hZ.alike A.2.1) A.2.2 (own_in hz hs hk) hat (g := mkF m pc L (.int z :: .ref a :: st)) rfl rfl (hb hby hd) t q) kk
theorem own_iaload (W : own_W p l e R s m args below meth c Z y ret code ml ws T h cells slots) {a : Addr} {z : Int32} {n : Nat} {f : Nat → Value} (k : Nat) (v : Int32) {pc : Nat} (pc' : Nat) {L : Array Slot} {st : List Value} (hd : decode code pc = .ok (.iaload, 1)) (F : own_A Z h a .int n f) (hz : z.toInt = (k : Int)) (hk : k < n) (hv : f k = (.int v)) (hp : pc + 1 = pc') (kk : own_Go p e below C T (mkF m pc' L ((.int v) :: st))) : own_Go p e below C T (mkF m pc L (.int z :: .ref a :: st)) := by
  have hsz := own_le W
  obtain ⟨⟨hx, hby, hml, hown, hnm, hrt, hlk, hZ⟩, locs, X, eT, N⟩ := W
  subst hp eT
  obtain ⟨cl, A, hs, hf⟩ := F
  have hat : cl.slots[z.toNatClampNeg]? = some (.int v) := by rw [own_cl hz, hf k hk, hv]
  exact own_st (fun t q => X.iaload hx A.1 (State.isArrayOf_alike hZ.alike A.2.1) A.2.2 (own_in hz hs hk) hat (g := mkF m pc L (.int z :: .ref a :: st)) rfl rfl (hb hby hd) t q) kk
theorem own_laload (W : own_W p l e R s m args below meth c Z y ret code ml ws T h cells slots) {a : Addr} {z : Int32} {n : Nat} {f : Nat → Value} (k : Nat) (v : Int64) {pc : Nat} (pc' : Nat) {L : Array Slot} {st : List Value} (hd : decode code pc = .ok (.laload, 1)) (F : own_A Z h a .long n f) (hz : z.toInt = (k : Int)) (hk : k < n) (hv : f k = (.long v)) (hp : pc + 1 = pc') (kk : own_Go p e below C T (mkF m pc' L ((.long v) :: st))) : own_Go p e below C T (mkF m pc L (.int z :: .ref a :: st)) := by
  have hsz := own_le W
  obtain ⟨⟨hx, hby, hml, hown, hnm, hrt, hlk, hZ⟩, locs, X, eT, N⟩ := W
  subst hp eT
  obtain ⟨cl, A, hs, hf⟩ := F
  have hat : cl.slots[z.toNatClampNeg]? = some (.long v) := by rw [own_cl hz, hf k hk, hv]
  exact own_st (fun t q => X.laload hx A.1 (State.isArrayOf_alike hZ.alike A.2.1) A.2.2 (own_in hz hs hk) hat (g := mkF m pc L (.int z :: .ref a :: st)) rfl rfl (hb hby hd) t q) kk
theorem own_caload (W : own_W p l e R s m args below meth c Z y ret code ml ws T h cells slots) {a : Addr} {z : Int32} {n : Nat} {f : Nat → Value} (k : Nat) (v : Int32) {pc : Nat} (pc' : Nat) {L : Array Slot} {st : List Value} (hd : decode code pc = .ok (.caload, 1)) (F : own_A Z h a .char n f) (hz : z.toInt = (k : Int)) (hk : k < n) (hv : f k = (.int v)) (hp : pc + 1 = pc') (kk : own_Go p e below C T (mkF m pc' L ((.int v) :: st))) : own_Go p e below C T (mkF m pc L (.int z :: .ref a :: st)) := by
  have hsz := own_le W
  obtain ⟨⟨hx, hby, hml, hown, hnm, hrt, hlk, hZ⟩, locs, X, eT, N⟩ := W
  subst hp eT
  obtain ⟨cl, A, hs, hf⟩ := F
  have hat : cl.slots[z.toNatClampNeg]? = some (.int v) := by rw [own_cl hz, hf k hk, hv]
  exact own_st (fun t q => X.caload hx A.1 (State.isArrayOf_alike hZ.alike A.2.1) A.2.2 (own_in hz hs hk) hat (g := mkF m pc L (.int z :: .ref a :: st)) rfl rfl (hb hby hd) t q) kk
theorem own_bastore (W : own_W p l e R s m args below meth c Z y ret code ml ws T h cells slots) {a : Addr} {z : Int32} {n : Nat} {f : Nat → Value} {xx : Int32} (k : Nat) {pc : Nat} (pc' : Nat) {L : Array Slot} {st : List Value} (hd : decode code pc = .ok (.bastore, 1)) (F : own_A Z h a .byte n f) (ha : a ∈ ws ∨ s.heap.size ≤ a) (hz : z.toInt = (k : Int)) (hk : k < n) (hp : pc + 1 = pc') (kk : ∀ T' h', own_W p l e R s m args below meth c Z y ret code ml ws T' h' cells slots → Wr h h' a k (.int xx.toInt8.toInt32) → own_A Z h' a .byte n (own_upd f k (.int xx.toInt8.toInt32)) → own_Go p e below C T' (mkF m pc' L st)) : own_Go p e below C T (mkF m pc L (.int xx :: .int z :: .ref a :: st)) := by
  have hsz := own_le W
  obtain ⟨⟨hx, hby, hml, hown, hnm, hrt, hlk, hZ⟩, locs, X, eT, N⟩ := W
  subst hp
  have F' := F
  obtain ⟨cl, A, hs, hf⟩ := F
  obtain ⟨T', h', X', e', W', st'⟩ := stB X hx hZ eT A (j := z) (own_in hz hs hk) (g := mkF m pc L (.int xx :: .int z :: .ref a :: st)) rfl rfl (hb hby hd)
  rw [own_cl hz] at W'
  exact own_st st' (kk T' h' ⟨⟨hx, hby, hml, hown, hnm, hrt, hlk, hZ⟩, _, X', e', own_Fw_snoc N ha⟩ W' (F'.set W' hk))
theorem own_iastore (W : own_W p l e R s m args below meth c Z y ret code ml ws T h cells slots) {a : Addr} {z : Int32} {n : Nat} {f : Nat → Value} {xx : Int32} (k : Nat) {pc : Nat} (pc' : Nat) {L : Array Slot} {st : List Value} (hd : decode code pc = .ok (.iastore, 1)) (F : own_A Z h a .int n f) (ha : a ∈ ws ∨ s.heap.size ≤ a) (hz : z.toInt = (k : Int)) (hk : k < n) (hp : pc + 1 = pc') (kk : ∀ T' h', own_W p l e R s m args below meth c Z y ret code ml ws T' h' cells slots → Wr h h' a k (.int xx) → own_A Z h' a .int n (own_upd f k (.int xx)) → own_Go p e below C T' (mkF m pc' L st)) : own_Go p e below C T (mkF m pc L (.int xx :: .int z :: .ref a :: st)) := by
  have hsz := own_le W
  obtain ⟨⟨hx, hby, hml, hown, hnm, hrt, hlk, hZ⟩, locs, X, eT, N⟩ := W
  subst hp
  have F' := F
  obtain ⟨cl, A, hs, hf⟩ := F
  obtain ⟨T', h', X', e', W', st'⟩ := stI X hx hZ eT A (j := z) (own_in hz hs hk) (g := mkF m pc L (.int xx :: .int z :: .ref a :: st)) rfl rfl (hb hby hd)
  rw [own_cl hz] at W'
  exact own_st st' (kk T' h' ⟨⟨hx, hby, hml, hown, hnm, hrt, hlk, hZ⟩, _, X', e', own_Fw_snoc N ha⟩ W' (F'.set W' hk))
theorem own_lastore (W : own_W p l e R s m args below meth c Z y ret code ml ws T h cells slots) {a : Addr} {z : Int32} {n : Nat} {f : Nat → Value} {xx : Int64} (k : Nat) {pc : Nat} (pc' : Nat) {L : Array Slot} {st : List Value} (hd : decode code pc = .ok (.lastore, 1)) (F : own_A Z h a .long n f) (ha : a ∈ ws ∨ s.heap.size ≤ a) (hz : z.toInt = (k : Int)) (hk : k < n) (hp : pc + 1 = pc') (kk : ∀ T' h', own_W p l e R s m args below meth c Z y ret code ml ws T' h' cells slots → Wr h h' a k (.long xx) → own_A Z h' a .long n (own_upd f k (.long xx)) → own_Go p e below C T' (mkF m pc' L st)) : own_Go p e below C T (mkF m pc L (.long xx :: .int z :: .ref a :: st)) := by
  have hsz := own_le W
  obtain ⟨⟨hx, hby, hml, hown, hnm, hrt, hlk, hZ⟩, locs, X, eT, N⟩ := W
  subst hp
  have F' := F
  obtain ⟨cl, A, hs, hf⟩ := F
  obtain ⟨T', h', X', e', W', st'⟩ := stJ X hx hZ eT A (j := z) (own_in hz hs hk) (g := mkF m pc L (.long xx :: .int z :: .ref a :: st)) rfl rfl (hb hby hd)
  rw [own_cl hz] at W'
  exact own_st st' (kk T' h' ⟨⟨hx, hby, hml, hown, hnm, hrt, hlk, hZ⟩, _, X', e', own_Fw_snoc N ha⟩ W' (F'.set W' hk))
theorem own_castore (W : own_W p l e R s m args below meth c Z y ret code ml ws T h cells slots) {a : Addr} {z : Int32} {n : Nat} {f : Nat → Value} {xx : Int32} (k : Nat) {pc : Nat} (pc' : Nat) {L : Array Slot} {st : List Value} (hd : decode code pc = .ok (.castore, 1)) (F : own_A Z h a .char n f) (ha : a ∈ ws ∨ s.heap.size ≤ a) (hz : z.toInt = (k : Int)) (hk : k < n) (hp : pc + 1 = pc') (kk : ∀ T' h', own_W p l e R s m args below meth c Z y ret code ml ws T' h' cells slots → Wr h h' a k (.int xx.toUInt32.toUInt16.toUInt32.toInt32) → own_A Z h' a .char n (own_upd f k (.int xx.toUInt32.toUInt16.toUInt32.toInt32)) → own_Go p e below C T' (mkF m pc' L st)) : own_Go p e below C T (mkF m pc L (.int xx :: .int z :: .ref a :: st)) := by
  have hsz := own_le W
  obtain ⟨⟨hx, hby, hml, hown, hnm, hrt, hlk, hZ⟩, locs, X, eT, N⟩ := W
  subst hp
  have F' := F
  obtain ⟨cl, A, hs, hf⟩ := F
  obtain ⟨T', h', X', e', W', st'⟩ := stC X hx hZ eT A (j := z) (own_in hz hs hk) (g := mkF m pc L (.int xx :: .int z :: .ref a :: st)) rfl rfl (hb hby hd)
  rw [own_cl hz] at W'
  exact own_st st' (kk T' h' ⟨⟨hx, hby, hml, hown, hnm, hrt, hlk, hZ⟩, _, X', e', own_Fw_snoc N ha⟩ W' (F'.set W' hk))
theorem own_arraylength (W : own_W p l e R s m args below meth c Z y ret code ml ws T h cells slots) {a : Addr} {ty : FieldType} {n : Nat} {f : Nat → Value} (z : Int32) {pc : Nat} (pc' : Nat) {L : Array Slot} {st : List Value} (hd : decode code pc = .ok (.arraylength, 1)) (F : own_A Z h a ty n f) (hz : n.toInt32 = z) (hp : pc + 1 = pc') (k : own_Go p e below C T (mkF m pc' L (.int z :: st))) : own_Go p e below C T (mkF m pc L (.ref a :: st)) := by
  have hsz := own_le W
  obtain ⟨⟨hx, hby, hml, hown, hnm, hrt, hlk, hZ⟩, locs, X, eT, N⟩ := W
  subst hp eT
  obtain ⟨cl, A, hs, hf⟩ := F
  subst hs hz
  exact own_st (fun t q => X.arraylength hx A.1 (State.isArrayOf_alike hZ.alike A.2.1) (g := mkF m pc L (.ref a :: st)) rfl rfl (hb hby hd) t q) k
/-- an array of references to objects of C (and of what may be stored there) -/
def own_R (Z : State) (h : Heap) (a : Addr) (C0 : String) (n : Nat) (f : Nat → Value) : Prop := ∃ cl : Cell, Arr Z h a cl (.object C0) ∧ Ovr Z cl.cls C0 ∧ cl.slots.size = n ∧ ∀ j, j < n → cl.slots[j]? = some (f j)
theorem own_R.lt {a : Addr} {C0 : String} {n : Nat} {f : Nat → Value} (F : own_R Z h a C0 n f) : a < h.size := by obtain ⟨cl, A, -⟩ := F; exact A.lt
theorem own_R.ext {h' : Heap} {a : Addr} {C0 : String} {n : Nat} {f : Nat → Value} (F : own_R Z h a C0 n f) (E : Ext h h') : own_R Z h' a C0 n f := by obtain ⟨cl, A, r⟩ := F; exact ⟨cl, A.ext E, r⟩
theorem own_R.other {h' : Heap} {a b : Addr} {sl : Nat} {v : Value} {C0 : String} {n : Nat} {f : Nat → Value} (F : own_R Z h b C0 n f) (q : Wr h h' a sl v) (ne : b ≠ a) : own_R Z h' b C0 n f := by obtain ⟨cl, A, r⟩ := F; exact ⟨cl, A.other q ne, r⟩
theorem own_R.keep {h' : Heap} {ws : List Addr} {a : Addr} {C0 : String} {n : Nat} {f : Nat → Value} (F : own_R Z h a C0 n f) (K : Keep h h' ws) (q : a ∉ ws) : own_R Z h' a C0 n f := by obtain ⟨cl, A, r⟩ := F; exact ⟨cl, ⟨K.2.1 a cl A.1 q, A.2⟩, r⟩
theorem own_R.set {h' : Heap} {a : Addr} {C0 : String} {n k : Nat} {f : Nat → Value} {v : Value} (F : own_R Z h a C0 n f) (q : Wr h h' a k v) (hk : k < n) : own_R Z h' a C0 n (own_upd f k v) := by
  obtain ⟨cl, A, O, r1, r2⟩ := F
  refine ⟨cl.setSlot k v, Arr.same q A, O, by rw [sz_set]; exact r1, fun j hj => ?_⟩
  by_cases e : j = k
  · subst e; simp [own_upd, Cell.setSlot, r1, hj]
  · simp only [own_upd, if_neg e, Cell.setSlot]
    rw [Array.getElem?_setIfInBounds_ne (Ne.symm e)]; exact r2 j hj
theorem own_anewarray (W : own_W p l e R s m args below meth c Z y ret code ml ws T h cells slots) {C0 : String} {i : Nat} {z : Int32} (N cap : Nat) {pc : Nat} (pc' : Nat) {L : Array Slot} {st : List Value} (hd : decode code pc = .ok (.anewarray i, 3)) (w1 : (Jvm.Cond.classLink y.cls i C0).before a0 Z = true) (w2 : (Jvm.Cond.arrayOver (.object C0)).before a0 Z = true) (hz : z.toInt = (N : Int)) (hcap : N ≤ cap) (hb8 : cap * 8 ≤ 536870912) (hc : cells + 1 ≤ R.cells) (hl : slots + cap ≤ R.slots) (hp : pc + 3 = pc') (k : ∀ T' h' a, own_W p l e R s m args below meth c Z y ret code ml ws T' h' (cells + 1) (slots + cap) → Ext h h' → a = h.size → s.heap.size ≤ a → own_R Z h' a C0 N (fun _ => .null) → own_Go p e below C T' (mkF m pc' L (.ref a :: st))) : own_Go p e below C T (mkF m pc L (.int z :: st)) := by
  have hsz := own_le W
  obtain ⟨⟨hx, hby, hml, hown, hnm, hrt, hlk, hZ⟩, locs, X, eT, Nf⟩ := W
  subst hp
  have hcl := own_cl hz
  obtain ⟨T', h', cA, X', e', E', A', O', st'⟩ := newR X hx hZ hown w1 w2 eT (g := mkF m pc L (.int z :: st)) rfl (hb hby hd) rfl (own_nn hz) (cap := cap) (by rw [hcl]; exact hcap) hb8 hc hl
  refine own_st st' (k T' h' h.size ⟨⟨hx, hby, hml, hown, hnm, hrt, hlk, hZ⟩, locs, X', e', Nf⟩ E' rfl hsz ⟨_, A', O', by rw [sz_new, hcl], fun j hj => ?_⟩)
  simp [newA, hcl, hj, defaultValue]
theorem own_aastore (W : own_W p l e R s m args below meth c Z y ret code ml ws T h cells slots) {a b : Addr} {C0 : String} {z : Int32} {n : Nat} {f : Nat → Value} (k : Nat) {pc : Nat} (pc' : Nat) {L : Array Slot} {st : List Value} (hd : decode code pc = .ok (.aastore, 1)) (F : own_R Z h a C0 n f) (I : Ins Z h b C0 true) (ha : a ∈ ws ∨ s.heap.size ≤ a) (hz : z.toInt = (k : Int)) (hk : k < n) (hp : pc + 1 = pc') (kk : ∀ T' h', own_W p l e R s m args below meth c Z y ret code ml ws T' h' cells slots → Wr h h' a k (.ref b) → own_R Z h' a C0 n (own_upd f k (.ref b)) → own_Go p e below C T' (mkF m pc' L st)) : own_Go p e below C T (mkF m pc L (.ref b :: .int z :: .ref a :: st)) := by
  have hsz := own_le W
  obtain ⟨⟨hx, hby, hml, hown, hnm, hrt, hlk, hZ⟩, locs, X, eT, N⟩ := W
  subst hp
  have F' := F
  obtain ⟨cl, A, O, hs, hf⟩ := F
  obtain ⟨T', h', X', e', W', st'⟩ := stR X hx hZ eT A (j := z) (own_in hz hs hk) rfl (Sto.of A O I) (g := mkF m pc L (.ref b :: .int z :: .ref a :: st)) rfl rfl (hb hby hd)
  rw [own_cl hz] at W'
  exact own_st st' (kk T' h' ⟨⟨hx, hby, hml, hown, hnm, hrt, hlk, hZ⟩, _, X', e', own_Fw_snoc N ha⟩ W' (F'.set W' hk))
theorem own_aaload (W : own_W p l e R s m args below meth c Z y ret code ml ws T h cells slots) {a : Addr} {C0 : String} {z : Int32} {n : Nat} {f : Nat → Value} (k : Nat) (v : Value) {pc : Nat} (pc' : Nat) {L : Array Slot} {st : List Value} (hd : decode code pc = .ok (.aaload, 1)) (F : own_R Z h a C0 n f) (hz : z.toInt = (k : Int)) (hk : k < n) (hv : f k = v) (hp : pc + 1 = pc') (kk : own_Go p e below C T (mkF m pc' L (v :: st))) : own_Go p e below C T (mkF m pc L (.int z :: .ref a :: st)) := by
  have hsz := own_le W
  obtain ⟨⟨hx, hby, hml, hown, hnm, hrt, hlk, hZ⟩, locs, X, eT, N⟩ := W
  subst hp eT
  obtain ⟨cl, A, O, hs, hf⟩ := F
  have hat : cl.slots[z.toNatClampNeg]? = some v := by rw [own_cl hz, hf k hk, hv]
  exact own_st (fun t q => X.aaload hx A.1 (State.isArrayOf_alike hZ.alike A.2.1) rfl A.2.2 (own_in hz hs hk) hat (g := mkF m pc L (.int z :: .ref a :: st)) rfl rfl (hb hby hd) t q) kk
theorem own_dup2 (W : own_W p l e R s m args below meth c Z y ret code ml ws T h cells slots) {a : Addr} {z : Int32} {pc : Nat} (pc' : Nat) {L : Array Slot} {st : List Value} (hd : decode code pc = .ok (.dup2, 1)) (hp : pc + 1 = pc') (k : own_Go p e below C T (mkF m pc' L (.int z :: .ref a :: .int z :: .ref a :: st))) : own_Go p e below C T (mkF m pc L (.int z :: .ref a :: st)) := by
  have hsz := own_le W
  obtain ⟨⟨hx, hby, hml, hown, hnm, hrt, hlk, hZ⟩, locs, X, eT, N⟩ := W
  subst hp
  refine own_st (fun t q => ?_) k
  show Steps p.tables e below (T.setTop { method := m, pc := pc, locals := L, stack := .int z :: .ref a :: st, locked := none }) _
  jvm_step X.here [X.here.top, hx, (hb hby hd), Value.category]
  exact q
theorem own_gd {n k : Nat} {f : Nat → Value} {d : Value} (hk : k < n) : ((List.range n).map f).getD k d = f k := by simp [List.getD, hk]
theorem own_A.arv {a : Addr} {ty : FieldType} {n : Nat} {f : Nat → Value} (F : own_A Z h a ty n f) (hn : n < 2147483648) (hf : ∀ j, j < n → fits ty (f j) = true) (d : Value) : ∃ k, Arv Z h a k ty n.toInt32 ((List.range n).map f) d := by
  obtain ⟨cl, A, r1, r2⟩ := F
  have hz : n.toInt32.toInt = (n : Int) := len_toInt hn
  refine ⟨cl.cls, cl, A, rfl, by rw [r1, own_cl hz], own_nn hz, fun k hk => ?_, fun i hi => ?_⟩
  · rw [r1] at hk
    rw [r2 k hk, own_gd hk]
  · rw [r1] at hi
    rw [own_gd hi]; exact hf i hi
theorem own_A.of_arv {a : Addr} {k : ClassId} {ty : FieldType} {z : Int32} {n : Nat} {vs : List Value} {d : Value} (F : Arv Z h a k ty z vs d) (hz : z.toInt = (n : Int)) : own_A Z h a ty n (fun j => vs.getD j d) := by
  obtain ⟨cl, A, -, r2, -, H, -⟩ := F
  rw [own_cl hz] at r2
  exact ⟨cl, A, r2, fun j hj => H j (by rw [r2]; exact hj)⟩
theorem own_cpl (f f' : Nat → Value) (n n' i j k : Nat) (d : Value) (h4 : i + k ≤ n) (h5 : j + k ≤ n') (q : Nat) (hq : q < n') :
    (((List.range n').map f').take j ++ (List.range k).map (fun t => ((List.range n).map f).getD (i + t) d) ++ ((List.range n').map f').drop (j + k)).getD q d = if j ≤ q ∧ q < j + k then f (i + (q - j)) else f' q := by
  have hl : (((List.range n').map f').take j).length = j := by simp; omega
  have hm : ((List.range k).map (fun t => ((List.range n).map f).getD (i + t) d)).length = k := by simp
  rw [List.getD_eq_getElem?_getD, List.append_assoc]
  rcases Nat.lt_or_ge q j with h1 | h1
  · rw [List.getElem?_append_left (by omega), if_neg (by omega)]
    simp [List.getElem?_take, h1, hq]
  · rw [List.getElem?_append_right (by omega), hl]
    rcases Nat.lt_or_ge q (j + k) with h2 | h2
    · rw [List.getElem?_append_left (by omega), if_pos ⟨h1, h2⟩, List.getElem?_map, List.getElem?_range (by omega)]
      simp only [Option.map_some, Option.getD_some]
      rw [own_gd (by omega)]
    · rw [List.getElem?_append_right (by omega), hm, if_neg (by omega), List.getElem?_drop]
      rw [show j + k + (q - j - k) = q by omega]
      simp [hq]
theorem own_arraycopy (W : own_W p l e R s m args below meth c Z y ret code ml [] T h cells slots) {i : Nat} {a b : Addr} {ty : FieldType} {n n' : Nat} {f f' : Nat → Value} {sp dp nn : Int32} (i1 j1 k1 wt : Nat) {pc : Nat} (pc' : Nat) {L : Array Slot} {st : List Value} (hd : decode code pc = .ok (.invokestatic i, 3)) (w1 : (Jvm.Cond.methodLink y.cls i Jvm.Stand.acN).before a0 Z = true) (w2 : (Jvm.Cond.native Jvm.Stand.acN).before a0 Z = true) (w3 : (Jvm.Cond.static Jvm.Stand.acN).before a0 Z = true) (w4 : (Jvm.Cond.initialized "java/lang/System").before a0 Z = true) (F : own_A Z h a ty n f) (G : own_A Z h b ty n' f') (hff : ∀ j, j < n → fits ty (f j) = true) (hfg : ∀ j, j < n' → fits ty (f' j) = true) (hn : n < 2147483648) (hn' : n' < 2147483648) (hrk : refKind ty = false) (hsp : sp.toInt = (i1 : Int)) (hdp : dp.toInt = (j1 : Int)) (hnn : nn.toInt = (k1 : Int)) (h4 : i1 + k1 ≤ n) (h5 : j1 + k1 ≤ n') (hob : s.heap.size ≤ b) (hL : L.size = ml) (hwt : (st.map fun v => v.category).sum ≤ wt) (hf : 1 ≤ R.frames) (hlo : wt + (nativeFrameWords "java/lang/System" "arraycopy" 5 + 11) ≤ R.locals) (hp : pc + 3 = pc') (k : ∀ T' h', own_W p l e R s m args below meth c Z y ret code ml [] T' h' cells slots → Keep h h' [b] → own_A Z h' b ty n' (fun q => if j1 ≤ q ∧ q < j1 + k1 then f (i1 + (q - j1)) else f' q) → own_Go p e below C T' (mkF m pc' L st)) : own_Go p e below C T (mkF m pc L (.int nn :: .int dp :: .ref b :: .int sp :: .ref a :: st)) := by
  have hsz := own_le W
  obtain ⟨⟨hx, hby, hml, hown, hnm, hrt, hlk, hZ⟩, locs, X, eT, N⟩ := W
  subst hp
  have NF : Fr s.heap.size locs := fun y hy => (N y hy).resolve_left (fun q => nomatch q)
  obtain ⟨ka, A⟩ := F.arv hn hff (.int 0)
  obtain ⟨kb, B⟩ := G.arv hn' hfg (.int 0)
  have ez : n.toInt32.toNatClampNeg = n := own_cl (len_toInt hn)
  have ez' : n'.toInt32.toNatClampNeg = n' := own_cl (len_toInt hn')
  obtain ⟨T', h', L', X', e', N', K', B', st'⟩ := cpA X hx hZ hown w1 w2 w3 w4 eT A B (Or.inl ⟨rfl, hrk⟩) (own_nn hsp) (own_nn hdp) (own_nn hnn) (by rw [own_cl hsp, own_cl hnn, ez]; exact h4) (by rw [own_cl hdp, own_cl hnn, ez']; exact h5) rfl (by rw [own_cl hdp, own_cl hnn]; simpa using h5) NF hob (g := mkF m pc L (.int nn :: .int dp :: .ref b :: .int sp :: .ref a :: st)) rfl (by rw [hml]; exact hL) rfl (hb hby hd) hf (W := wt) (by show 2 * 0 + _ ≤ _; omega) hlo
  refine own_st st' (k T' h' ⟨⟨hx, hby, hml, hown, hnm, hrt, hlk, hZ⟩, L', X', e', fun y hy => Or.inr (N' y hy)⟩ K' ((own_A.of_arv B' (len_toInt hn')).congr fun q hq => ?_))
  rw [own_cl hsp, own_cl hdp, own_cl hnn]
  exact own_cpl f f' n n' i1 j1 k1 _ h4 h5 q hq
theorem own_new (W : own_W p l e R s m args below meth c Z y ret code ml ws T h cells slots) {C0 : String} {i nn : Nat} {pc : Nat} (pc' : Nat) {L : Array Slot} {st : List Value} (hd : decode code pc = .ok (.new i, 3)) (w : (Jvm.Cond.classLink y.cls i C0).before a0 Z = true) (wi : (Jvm.Cond.instantiable C0 nn).before a0 Z = true) (wz : (Jvm.Cond.initialized C0).before a0 Z = true) (hc : cells + 1 ≤ R.cells) (hl : slots + nn ≤ R.slots) (hp : pc + 3 = pc') (k : ∀ T' h' a, own_W p l e R s m args below meth c Z y ret code ml ws T' h' (cells + 1) (slots + nn) → Ext h h' → a = h.size → s.heap.size ≤ a → Exa Z h' a C0 → (∀ {O nm d : String} {ty : FieldType}, Laid Z a0 C0 O nm d → parseFieldDescriptor d = some ty → Fld Z h' a O nm d (defaultValue ty)) → own_Go p e below C T' (mkF m pc' L (.ref a :: st))) : own_Go p e below C T (mkF m pc L st) := by
  have hsz := own_le W
  obtain ⟨⟨hx, hby, hml, hown, hnm, hrt, hlk, hZ⟩, locs, X, eT, N⟩ := W
  subst hp
  obtain ⟨T', h', X', e', E', A', D', -, st'⟩ := newO X hx hZ hown w wi wz eT (g := mkF m pc L st) rfl (hb hby hd) hc hl
  exact own_st st' (k T' h' h.size ⟨⟨hx, hby, hml, hown, hnm, hrt, hlk, hZ⟩, locs, X', e', N⟩ E' rfl hsz A' D')
theorem own_getfield (W : own_W p l e R s m args below meth c Z y ret code ml ws T h cells slots) {O n d : String} {i : Nat} {a : Addr} {v : Value} {pc : Nat} (pc' : Nat) {L : Array Slot} {st : List Value} (hd : decode code pc = .ok (.getfield i, 3)) (w : (Jvm.Cond.fieldLink y.cls i O n d).before a0 Z = true) (F : Fld Z h a O n d v) (hp : pc + 3 = pc') (k : ∀ T', own_W p l e R s m args below meth c Z y ret code ml ws T' h cells slots → own_Go p e below C T' (mkF m pc' L (v :: st))) : own_Go p e below C T (mkF m pc L (.ref a :: st)) := by
  have hsz := own_le W
  obtain ⟨⟨hx, hby, hml, hown, hnm, hrt, hlk, hZ⟩, locs, X, eT, N⟩ := W
  subst hp
  obtain ⟨T', X', e', st'⟩ := getF X hx hZ hown (host := "") (Or.inl w) Via.refl eT F (g := mkF m pc L (.ref a :: st)) rfl rfl (hb hby hd)
  exact own_st st' (k T' ⟨⟨hx, hby, hml, hown, hnm, hrt, hlk, hZ⟩, locs, X', e', N⟩)
theorem own_getfieldN (W : own_W p l e R s m args below meth c Z y ret code ml ws T h cells slots) {O n d host : String} {i : Nat} {a : Addr} {v : Value} {pc : Nat} (pc' : Nat) {L : Array Slot} {st : List Value} (hd : decode code pc = .ok (.getfield i, 3)) (w : (Jvm.Cond.fieldLinkNest y.cls i O n d host).before a0 Z = true) (F : Fld Z h a O n d v) (hp : pc + 3 = pc') (k : ∀ T', own_W p l e R s m args below meth c Z y ret code ml ws T' h cells slots → own_Go p e below C T' (mkF m pc' L (v :: st))) : own_Go p e below C T (mkF m pc L (.ref a :: st)) := by
  have hsz := own_le W
  obtain ⟨⟨hx, hby, hml, hown, hnm, hrt, hlk, hZ⟩, locs, X, eT, N⟩ := W
  subst hp
  obtain ⟨T', X', e', st'⟩ := getF X hx hZ hown (host := host) (Or.inr w) Via.refl eT F (g := mkF m pc L (.ref a :: st)) rfl rfl (hb hby hd)
  exact own_st st' (k T' ⟨⟨hx, hby, hml, hown, hnm, hrt, hlk, hZ⟩, locs, X', e', N⟩)
theorem own_getstatic (W : own_W p l e R s m args below meth c Z y ret code ml ws T h cells slots) {O n d : String} {i : Nat} {v : Value} {pc : Nat} (pc' : Nat) {L : Array Slot} {st : List Value} (hd : decode code pc = .ok (.getstatic i, 3)) (w : (Jvm.Cond.fieldLink y.cls i O n d).before a0 Z = true) (F : Sta Z h O n d v) (hp : pc + 3 = pc') (k : ∀ T', own_W p l e R s m args below meth c Z y ret code ml ws T' h cells slots → own_Go p e below C T' (mkF m pc' L (v :: st))) : own_Go p e below C T (mkF m pc L st) := by
  have hsz := own_le W
  obtain ⟨⟨hx, hby, hml, hown, hnm, hrt, hlk, hZ⟩, locs, X, eT, N⟩ := W
  subst hp
  obtain ⟨T', X', e', st'⟩ := getS X hx hZ hown (host := "") w Via.refl eT F (g := mkF m pc L st) rfl (hb hby hd)
  exact own_st st' (k T' ⟨⟨hx, hby, hml, hown, hnm, hrt, hlk, hZ⟩, locs, X', e', N⟩)
theorem own_putfield (W : own_W p l e R s m args below meth c Z y ret code ml ws T h cells slots) {O n d C0 : String} {i kk : Nat} {ty : FieldType} {a : Addr} {v old : Value} (v' : Value) {pc : Nat} (pc' : Nat) {L : Array Slot} {st : List Value} (hd : decode code pc = .ok (.putfield i, 3)) (w : (Jvm.Cond.fieldLink y.cls i O n d).before a0 Z = true) (F : Fld Z h a O n d old) (E : Exa Z h a C0) (La : (Jvm.Cond.lays C0 O n d).before a0 Z = true ∨ ((Jvm.Cond.laysFinal C0 O n d).before a0 Z = true ∧ y.cls = O ∧ y.name = "<init>")) (wi : (Jvm.Cond.instantiable C0 kk).before a0 Z = true) (ha : a ∈ ws ∨ s.heap.size ≤ a) (hty : parseFieldDescriptor d = some ty) (hn : narrow ty v = v') (hf : fits ty v' = true) (hp : pc + 3 = pc') (k : ∀ T' h', own_W p l e R s m args below meth c Z y ret code ml ws T' h' cells slots → Wr h h' a (Jvm.RoadKit.slotOf Z O n d) v' → Fld Z h' a O n d v' → own_Go p e below C T' (mkF m pc' L st)) : own_Go p e below C T (mkF m pc L (v :: .ref a :: st)) := by
  have hsz := own_le W
  obtain ⟨⟨hx, hby, hml, hown, hnm, hrt, hlk, hZ⟩, locs, X, eT, N⟩ := W
  subst hp
  obtain ⟨T', h', X', e', W', st'⟩ := putFN X hx hZ hown w Via.refl eT F E (by rw [hnm]; exact La) wi hty hn hf (g := mkF m pc L (v :: .ref a :: st)) rfl rfl (hb hby hd)
  exact own_st st' (k T' h' ⟨⟨hx, hby, hml, hown, hnm, hrt, hlk, hZ⟩, _, X', e', own_Fw_snoc N ha⟩ W' (F.same W'))
theorem own_callS (W : own_W p l e R s m args below meth c Z y ret code ml ws T h cells slots) {i : Nat} {yc : MethodName} {bytes : ByteArray} {maxL : Nat} {rt : Option FieldType} {rm : Room} {Q : Option Value → Heap → Prop} {ps : List FieldType} {rr : Option FieldType} {wc' : List Addr} (A : List Value) (wt : Nat) {pc : Nat} (pc' : Nat) {L : Array Slot} {st : List Value} (hd : decode code pc = .ok (.invokestatic i, 3)) (wl : (Jvm.Cond.methodLink y.cls i yc).before a0 Z = true) (wst : (Jvm.Cond.static yc).before a0 Z = true) (wz : (Jvm.Cond.initialized yc.cls).before a0 Z = true) (wc : (Jvm.Cond.code yc bytes maxL rt).before a0 Z = true) (hy : yc.cls ≠ "java/lang/invoke/MethodHandle" ∧ yc.cls ≠ "java/lang/invoke/VarHandle") (hM : own_M l Z [] yc bytes maxL rt rm wc' A.toArray h Q) (hws : ∀ b ∈ wc', b ∈ ws ∨ s.heap.size ≤ b) (hL : L.size = ml) (hds : parseMethodDescriptor yc.desc = some ⟨ps, rr⟩) (hA : A.length = ps.length) (hwt : (st.map fun v => v.category).sum ≤ wt) (hf : rm.frames + 1 ≤ R.frames) (hlo : wt + (maxL + 11) + rm.locals ≤ R.locals) (hc : cells + rm.cells ≤ R.cells) (hs : slots + rm.slots ≤ R.slots) (hp : pc + 3 = pc') (k : ∀ T' h' v, own_W p l e R s m args below meth c Z y ret code ml ws T' h' (cells + rm.cells) (slots + rm.slots) → Keep h h' wc' → (rm.cells = 0 → wc' = [] → h' = h) → Q v h' → own_Go p e below C T' (mkF m pc' L (v.toList ++ st))) : own_Go p e below C T (mkF m pc L (A.reverse ++ st)) := by
  have hsz := own_le W
  obtain ⟨⟨hx, hby, hml, hown, hnm, hrt, hlk, hZ⟩, locs, X, eT, N⟩ := W
  subst hp
  obtain ⟨_, _, ⟨T', L', k', n'⟩, -, X', ⟨Lc', hQ', l', y', z'⟩, st'⟩ := Jvm.LawKit.callS X hx (y := yc) hown (mvT hZ wl) (mvT hZ wst) (mvT hZ wz) (mvT hZ wc) hy (backOf (W := wt) hM hZ wc wz hf hlo) (g := mkF m pc L (A.reverse ++ st)) rfl (by rw [hml]; exact hL) (argsL := A) (rest := st) (lenOf hds hA) rfl (by show 2 * 0 + _ ≤ _; omega) (hb hby hd) (fun _ _ => ⟨rfl, eT, hc, hs⟩)
  dsimp only [Pt.U, Pt.locs, Pt.cells, Pt.slots] at X' l' y' z' st' hQ'
  subst l' y' z'
  exact own_st st' (k T' _ _ ⟨⟨hx, hby, hml, hown, hnm, hrt, hlk, hZ⟩, _, X', rfl, own_Fw_app N hQ'.1 hws hsz⟩ hQ'.2.1 hQ'.2.2.1 hQ'.2.2.2)
theorem own_callN (W : own_W p l e R s m args below meth c Z y ret code ml ws T h cells slots) {i : Nat} {yc : MethodName} {bytes : ByteArray} {maxL : Nat} {rm : Room} {Q : Option Value → Heap → Prop} {ps : List FieldType} {rr : Option FieldType} {a : Addr} {wc' : List Addr} (A : List Value) (wt : Nat) {pc : Nat} (pc' : Nat) {L : Array Slot} {st : List Value} (hd : decode code pc = .ok (.invokespecial i, 3)) (hi : yc.name = "<init>") (wl : (Jvm.Cond.methodLink y.cls i yc).before a0 Z = true) (wst : (Jvm.Cond.instanceMethod yc).before a0 Z = true) (wz : (Jvm.Cond.initialized yc.cls).before a0 Z = true) (wc : (Jvm.Cond.code yc bytes maxL none).before a0 Z = true) (hy : yc.cls ≠ "java/lang/invoke/MethodHandle" ∧ yc.cls ≠ "java/lang/invoke/VarHandle") (hM : own_M l Z [] yc bytes maxL none rm wc' (.ref a :: A).toArray h Q) (hws : ∀ b ∈ wc', b ∈ ws ∨ s.heap.size ≤ b) (hL : L.size = ml) (hds : parseMethodDescriptor yc.desc = some ⟨ps, rr⟩) (hA : A.length = ps.length) (hwt : (st.map fun v => v.category).sum ≤ wt) (hf : rm.frames + 1 ≤ R.frames) (hlo : wt + (maxL + 11) + rm.locals ≤ R.locals) (hc : cells + rm.cells ≤ R.cells) (hs : slots + rm.slots ≤ R.slots) (hp : pc + 3 = pc') (k : ∀ T' h' v, own_W p l e R s m args below meth c Z y ret code ml ws T' h' (cells + rm.cells) (slots + rm.slots) → Keep h h' wc' → (rm.cells = 0 → wc' = [] → h' = h) → Q v h' → own_Go p e below C T' (mkF m pc' L (v.toList ++ st))) : own_Go p e below C T (mkF m pc L (A.reverse ++ .ref a :: st)) := by
  have hsz := own_le W
  obtain ⟨⟨hx, hby, hml, hown, hnm, hrt, hlk, hZ⟩, locs, X, eT, N⟩ := W
  subst hp
  obtain ⟨_, _, ⟨T', L', k', n'⟩, -, X', ⟨Lc', hQ', l', y', z'⟩, st'⟩ := X.specialBack hx (y := yc) hi hown (mvT hZ wl) (mvT hZ wst) (mvT hZ wc) hy (backOf (W := wt) hM hZ wc wz hf hlo) (g := mkF m pc L (A.reverse ++ .ref a :: st)) rfl (by rw [hml]; exact hL) (Steps.refl _) (a := a) (argsL := A) (rest := st) (lenOf hds hA) rfl (by show 2 * 0 + _ ≤ _; omega) (hb hby hd) (fun _ _ => ⟨rfl, eT, hc, hs⟩)
  dsimp only [Pt.U, Pt.locs, Pt.cells, Pt.slots] at X' l' y' z' st' hQ'
  subst l' y' z'
  exact own_tr st' (k T' _ _ ⟨⟨hx, hby, hml, hown, hnm, hrt, hlk, hZ⟩, _, X', rfl, own_Fw_app N hQ'.1 hws hsz⟩ hQ'.2.1 hQ'.2.2.1 hQ'.2.2.2)
theorem own_callV (W : own_W p l e R s m args below meth c Z y ret code ml ws T h cells slots) {C0 : String} {i : Nat} {yc zc : MethodName} {bytes : ByteArray} {maxL : Nat} {rt : Option FieldType} {rm : Room} {Q : Option Value → Heap → Prop} {ps : List FieldType} {rr : Option FieldType} {a : Addr} {wc' : List Addr} (A : List Value) (wt : Nat) {pc : Nat} (pc' : Nat) {L : Array Slot} {st : List Value} (hd : decode code pc = .ok (.invokevirtual i, 3)) (wl : (Jvm.Cond.methodLink y.cls i yc).before a0 Z = true) (wd : (Jvm.Cond.declares yc).before a0 Z = true) (nf : NotFace s yc) (wse : (Jvm.Cond.selects C0 yc zc).before a0 Z = true) (wst : (Jvm.Cond.instanceMethod zc).before a0 Z = true) (wz : (Jvm.Cond.initialized zc.cls).before a0 Z = true) (wc : (Jvm.Cond.code zc bytes maxL rt).before a0 Z = true) (hy : yc.cls ≠ "java/lang/invoke/MethodHandle" ∧ yc.cls ≠ "java/lang/invoke/VarHandle") (E : Exa Z h a C0) (hM : own_M l Z [] zc bytes maxL rt rm wc' (.ref a :: A).toArray h Q) (hws : ∀ b ∈ wc', b ∈ ws ∨ s.heap.size ≤ b) (hL : L.size = ml) (hds : parseMethodDescriptor yc.desc = some ⟨ps, rr⟩) (hA : A.length = ps.length) (hwt : (st.map fun v => v.category).sum ≤ wt) (hf : rm.frames + 1 ≤ R.frames) (hlo : wt + (maxL + 11) + rm.locals ≤ R.locals) (hc : cells + rm.cells ≤ R.cells) (hs : slots + rm.slots ≤ R.slots) (hp : pc + 3 = pc') (k : ∀ T' h' v, own_W p l e R s m args below meth c Z y ret code ml ws T' h' (cells + rm.cells) (slots + rm.slots) → Keep h h' wc' → (rm.cells = 0 → wc' = [] → h' = h) → Q v h' → own_Go p e below C T' (mkF m pc' L (v.toList ++ st))) : own_Go p e below C T (mkF m pc L (A.reverse ++ .ref a :: st)) := by
  have hsz := own_le W
  obtain ⟨⟨hx, hby, hml, hown, hnm, hrt, hlk, hZ⟩, locs, X, eT, N⟩ := W
  subst hp
  obtain ⟨cq, kq, qa, qb, qc⟩ := isOf hZ eT E
  obtain ⟨_, _, ⟨T', L', k', n'⟩, -, X', ⟨Lc', hQ', l', y', z'⟩, st'⟩ := X.virtualBack hx (y := yc) (z := zc) hown (mvT hZ wl) (mvT hZ wd) nf (mvT hZ wse) (mvT hZ wst) hy (backOf (W := wt) hM hZ wc wz hf hlo) qa qc (g := mkF m pc L (A.reverse ++ .ref a :: st)) rfl (by rw [hml]; exact hL) (Steps.refl _) (argsL := A) (rest := st) (lenOf hds hA) rfl (by show 2 * 0 + _ ≤ _; omega) (hb hby hd) (fun _ _ => ⟨rfl, eT, hc, hs⟩)
  dsimp only [Pt.U, Pt.locs, Pt.cells, Pt.slots] at X' l' y' z' st' hQ'
  subst l' y' z'
  exact own_tr st' (k T' _ _ ⟨⟨hx, hby, hml, hown, hnm, hrt, hlk, hZ⟩, _, X', rfl, own_Fw_app N hQ'.1 hws hsz⟩ hQ'.2.1 hQ'.2.2.1 hQ'.2.2.2)
theorem own_nf (W : own_W p l e R s m args below meth c Z y ret code ml ws T h cells slots) {C0 : String} {yc : MethodName} (wse : (Jvm.Cond.selects C0 yc yc).before a0 Z = true) : NotFace s yc := by
  have hsz := own_le W
  obtain ⟨⟨hx, hby, hml, hown, hnm, hrt, hlk, hZ⟩, locs, X, eT, N⟩ := W
  exact notFace_of_selects (args := #[]) (mvT hZ wse)
theorem own_initO (W : own_W p l e R s m args below meth c Z y ret code ml ws T h cells slots) {i : Nat} {a : Addr} (wt : Nat) {pc : Nat} (pc' : Nat) {L : Array Slot} {st : List Value} (hd : decode code pc = .ok (.invokespecial i, 3)) (w1 : (Jvm.Cond.methodLink y.cls i Lib.objectInit).before a0 Z = true) (w2 : (Jvm.Cond.instanceMethod Lib.objectInit).before a0 Z = true) (w3 : (Jvm.Cond.code Lib.objectInit ⟨#[0xb1]⟩ 1 none).before a0 Z = true) (hL : L.size = ml) (hwt : (st.map fun v => v.category).sum ≤ wt) (hf : 1 ≤ R.frames) (hlo : wt + 12 ≤ R.locals) (hp : pc + 3 = pc') (k : ∀ T', own_W p l e R s m args below meth c Z y ret code ml ws T' h cells slots → own_Go p e below C T' (mkF m pc' L st)) : own_Go p e below C T (mkF m pc L (.ref a :: st)) := by
  have hsz := own_le W
  obtain ⟨⟨hx, hby, hml, hown, hnm, hrt, hlk, hZ⟩, locs, X, eT, N⟩ := W
  subst hp
  obtain ⟨T', X', e', st'⟩ := initO X hx hZ hown w1 w2 w3 eT (g := mkF m pc L (.ref a :: st)) rfl (by rw [hml]; exact hL) rfl (hb hby hd) hf (W := wt) (by show 2 * 0 + _ ≤ _; omega) hlo
  exact own_st st' (k T' ⟨⟨hx, hby, hml, hown, hnm, hrt, hlk, hZ⟩, locs, X', e', N⟩)
theorem own_b1 {P : Prop} [Decidable P] (q : P) : ¬ (if P then (1 : Int32) else 0) = 0 := by rw [if_pos q]; decide
theorem own_b0 {P : Prop} [Decidable P] (q : ¬ P) : (if P then (1 : Int32) else 0) = 0 := if_neg q
theorem own_bz {P : Prop} [Decidable P] : (if P then (1 : Int32) else 0) &&& 1 = if P then (1 : Int32) else 0 := by split <;> rfl
end OwnKit

theorem wd0 {a0 : Array Value} {Z : State} (hw : ∀ d ∈ tables_1, d.before a0 Z = true) : (Jvm.Cond.constantLong "com/example/queueloom/queueloom/engine/QuotientSumsDoubleValuePinLaw" (9 : Nat) (9223372036854775807 : Int64)).before a0 Z = true := hw _ (List.mem_of_getElem? (i := 0) rfl)
theorem wd1 {a0 : Array Value} {Z : State} (hw : ∀ d ∈ tables_1, d.before a0 Z = true) : (Jvm.Cond.methodLink "com/example/queueloom/queueloom/engine/QuotientSumsDoubleValuePinLaw" (11 : Nat) ({ cls := "java/lang/Math", name := "max", desc := "(JJ)J" } : Jvm.MethodName)).before a0 Z = true := hw _ (List.mem_of_getElem? (i := 1) rfl)
theorem wd2 {a0 : Array Value} {Z : State} (hw : ∀ d ∈ tables_1, d.before a0 Z = true) : (Jvm.Cond.static ({ cls := "java/lang/Math", name := "max", desc := "(JJ)J" } : Jvm.MethodName)).before a0 Z = true := hw _ (List.mem_of_getElem? (i := 2) rfl)
theorem wd3 {a0 : Array Value} {Z : State} (hw : ∀ d ∈ tables_1, d.before a0 Z = true) : (Jvm.Cond.initialized "java/lang/Math").before a0 Z = true := hw _ (List.mem_of_getElem? (i := 3) rfl)
theorem wd4 {a0 : Array Value} {Z : State} (hw : ∀ d ∈ tables_1, d.before a0 Z = true) : (Jvm.Cond.code ({ cls := "java/lang/Math", name := "max", desc := "(JJ)J" } : Jvm.MethodName) jdk_29_method_66_code (4 : Nat) (Option.some Jvm.ClassFile.FieldType.long)).before a0 Z = true := hw _ (List.mem_of_getElem? (i := 4) rfl)
theorem wd5 {a0 : Array Value} {Z : State} (hw : ∀ d ∈ tables_1, d.before a0 Z = true) : (Jvm.Cond.classLink "com/example/queueloom/queueloom/engine/QuotientSumsDoubleValuePinLaw" (17 : Nat) "com/example/queueloom/queueloom/engine/QuotientSums").before a0 Z = true := hw _ (List.mem_of_getElem? (i := 5) rfl)
theorem wd6 {a0 : Array Value} {Z : State} (hw : ∀ d ∈ tables_1, d.before a0 Z = true) : (Jvm.Cond.instantiable "com/example/queueloom/queueloom/engine/QuotientSums" (4 : Nat)).before a0 Z = true := hw _ (List.mem_of_getElem? (i := 6) rfl)
theorem wd7 {a0 : Array Value} {Z : State} (hw : ∀ d ∈ tables_1, d.before a0 Z = true) : (Jvm.Cond.initialized "com/example/queueloom/queueloom/engine/QuotientSums").before a0 Z = true := hw _ (List.mem_of_getElem? (i := 7) rfl)
theorem wd8 {a0 : Array Value} {Z : State} (hw : ∀ d ∈ tables_1, d.before a0 Z = true) : (Jvm.Cond.methodLink "com/example/queueloom/queueloom/engine/QuotientSumsDoubleValuePinLaw" (19 : Nat) ({ cls := "com/example/queueloom/queueloom/engine/QuotientSums", name := "<init>", desc := "(I)V" } : Jvm.MethodName)).before a0 Z = true := hw _ (List.mem_of_getElem? (i := 8) rfl)
theorem wd9 {a0 : Array Value} {Z : State} (hw : ∀ d ∈ tables_1, d.before a0 Z = true) : (Jvm.Cond.instanceMethod ({ cls := "com/example/queueloom/queueloom/engine/QuotientSums", name := "<init>", desc := "(I)V" } : Jvm.MethodName)).before a0 Z = true := hw _ (List.mem_of_getElem? (i := 9) rfl)
theorem wd10 {a0 : Array Value} {Z : State} (hw : ∀ d ∈ tables_1, d.before a0 Z = true) : (Jvm.Cond.code ({ cls := "com/example/queueloom/queueloom/engine/QuotientSums", name := "<init>", desc := "(I)V" } : Jvm.MethodName) prog_67_method_1_code (2 : Nat) (Option.none : Option Jvm.ClassFile.FieldType)).before a0 Z = true := hw _ (List.mem_of_getElem? (i := 10) rfl)
theorem wd11 {a0 : Array Value} {Z : State} (hw : ∀ d ∈ tables_1, d.before a0 Z = true) : (Jvm.Cond.methodLink "com/example/queueloom/queueloom/engine/QuotientSums" (1 : Nat) ({ cls := "java/lang/Object", name := "<init>", desc := "()V" } : Jvm.MethodName)).before a0 Z = true := hw _ (List.mem_of_getElem? (i := 11) rfl)
theorem wd12 {a0 : Array Value} {Z : State} (hw : ∀ d ∈ tables_1, d.before a0 Z = true) : (Jvm.Cond.instanceMethod ({ cls := "java/lang/Object", name := "<init>", desc := "()V" } : Jvm.MethodName)).before a0 Z = true := hw _ (List.mem_of_getElem? (i := 12) rfl)
theorem wd13 {a0 : Array Value} {Z : State} (hw : ∀ d ∈ tables_1, d.before a0 Z = true) : (Jvm.Cond.code ({ cls := "java/lang/Object", name := "<init>", desc := "()V" } : Jvm.MethodName) object_method_1_code (1 : Nat) (Option.none : Option Jvm.ClassFile.FieldType)).before a0 Z = true := hw _ (List.mem_of_getElem? (i := 13) rfl)
theorem wd14 {a0 : Array Value} {Z : State} (hw : ∀ d ∈ tables_1, d.before a0 Z = true) : (Jvm.Cond.arrayClass Jvm.ClassFile.FieldType.long).before a0 Z = true := hw _ (List.mem_of_getElem? (i := 14) rfl)
theorem wd15 {a0 : Array Value} {Z : State} (hw : ∀ d ∈ tables_1, d.before a0 Z = true) : (Jvm.Cond.fieldLink "com/example/queueloom/queueloom/engine/QuotientSums" (7 : Nat) "com/example/queueloom/queueloom/engine/QuotientSums" "numerators" "[J").before a0 Z = true := hw _ (List.mem_of_getElem? (i := 15) rfl)
theorem wd16 {a0 : Array Value} {Z : State} (hw : ∀ d ∈ tables_1, d.before a0 Z = true) : (Jvm.Cond.lays "com/example/queueloom/queueloom/engine/QuotientSums" "com/example/queueloom/queueloom/engine/QuotientSums" "numerators" "[J").before a0 Z = true := hw _ (List.mem_of_getElem? (i := 16) rfl)
theorem wd17 {a0 : Array Value} {Z : State} (hw : ∀ d ∈ tables_1, d.before a0 Z = true) : (Jvm.Cond.fieldLink "com/example/queueloom/queueloom/engine/QuotientSums" (13 : Nat) "com/example/queueloom/queueloom/engine/QuotientSums" "denominators" "[J").before a0 Z = true := hw _ (List.mem_of_getElem? (i := 17) rfl)
theorem wd18 {a0 : Array Value} {Z : State} (hw : ∀ d ∈ tables_1, d.before a0 Z = true) : (Jvm.Cond.lays "com/example/queueloom/queueloom/engine/QuotientSums" "com/example/queueloom/queueloom/engine/QuotientSums" "denominators" "[J").before a0 Z = true := hw _ (List.mem_of_getElem? (i := 18) rfl)
theorem wd19 {a0 : Array Value} {Z : State} (hw : ∀ d ∈ tables_1, d.before a0 Z = true) : (Jvm.Cond.arrayClass Jvm.ClassFile.FieldType.double).before a0 Z = true := hw _ (List.mem_of_getElem? (i := 19) rfl)
theorem wd20 {a0 : Array Value} {Z : State} (hw : ∀ d ∈ tables_1, d.before a0 Z = true) : (Jvm.Cond.fieldLink "com/example/queueloom/queueloom/engine/QuotientSums" (16 : Nat) "com/example/queueloom/queueloom/engine/QuotientSums" "approximations" "[D").before a0 Z = true := hw _ (List.mem_of_getElem? (i := 20) rfl)
theorem wd21 {a0 : Array Value} {Z : State} (hw : ∀ d ∈ tables_1, d.before a0 Z = true) : (Jvm.Cond.lays "com/example/queueloom/queueloom/engine/QuotientSums" "com/example/queueloom/queueloom/engine/QuotientSums" "approximations" "[D").before a0 Z = true := hw _ (List.mem_of_getElem? (i := 21) rfl)
theorem wd22 {a0 : Array Value} {Z : State} (hw : ∀ d ∈ tables_1, d.before a0 Z = true) : (Jvm.Cond.arrayClass Jvm.ClassFile.FieldType.int).before a0 Z = true := hw _ (List.mem_of_getElem? (i := 22) rfl)
theorem wd23 {a0 : Array Value} {Z : State} (hw : ∀ d ∈ tables_1, d.before a0 Z = true) : (Jvm.Cond.fieldLink "com/example/queueloom/queueloom/engine/QuotientSums" (20 : Nat) "com/example/queueloom/queueloom/engine/QuotientSums" "terms" "[I").before a0 Z = true := hw _ (List.mem_of_getElem? (i := 23) rfl)
theorem wd24 {a0 : Array Value} {Z : State} (hw : ∀ d ∈ tables_1, d.before a0 Z = true) : (Jvm.Cond.lays "com/example/queueloom/queueloom/engine/QuotientSums" "com/example/queueloom/queueloom/engine/QuotientSums" "terms" "[I").before a0 Z = true := hw _ (List.mem_of_getElem? (i := 24) rfl)
theorem wd25 {a0 : Array Value} {Z : State} (hw : ∀ d ∈ tables_1, d.before a0 Z = true) : (Jvm.Cond.methodLink "com/example/queueloom/queueloom/engine/QuotientSumsDoubleValuePinLaw" (22 : Nat) ({ cls := "com/example/queueloom/queueloom/engine/QuotientSums", name := "add", desc := "(IJJ)V" } : Jvm.MethodName)).before a0 Z = true := hw _ (List.mem_of_getElem? (i := 25) rfl)
theorem wd26 {a0 : Array Value} {Z : State} (hw : ∀ d ∈ tables_1, d.before a0 Z = true) : (Jvm.Cond.declares ({ cls := "com/example/queueloom/queueloom/engine/QuotientSums", name := "add", desc := "(IJJ)V" } : Jvm.MethodName)).before a0 Z = true := hw _ (List.mem_of_getElem? (i := 26) rfl)
theorem wd27 {a0 : Array Value} {Z : State} (hw : ∀ d ∈ tables_1, d.before a0 Z = true) : (Jvm.Cond.instanceMethod ({ cls := "com/example/queueloom/queueloom/engine/QuotientSums", name := "add", desc := "(IJJ)V" } : Jvm.MethodName)).before a0 Z = true := hw _ (List.mem_of_getElem? (i := 27) rfl)
theorem wd28 {a0 : Array Value} {Z : State} (hw : ∀ d ∈ tables_1, d.before a0 Z = true) : (Jvm.Cond.selects "com/example/queueloom/queueloom/engine/QuotientSums" ({ cls := "com/example/queueloom/queueloom/engine/QuotientSums", name := "add", desc := "(IJJ)V" } : Jvm.MethodName) ({ cls := "com/example/queueloom/queueloom/engine/QuotientSums", name := "add", desc := "(IJJ)V" } : Jvm.MethodName)).before a0 Z = true := hw _ (List.mem_of_getElem? (i := 28) rfl)
theorem wd29 {a0 : Array Value} {Z : State} (hw : ∀ d ∈ tables_1, d.before a0 Z = true) : (Jvm.Cond.code ({ cls := "com/example/queueloom/queueloom/engine/QuotientSums", name := "add", desc := "(IJJ)V" } : Jvm.MethodName) prog_67_method_3_code (16 : Nat) (Option.none : Option Jvm.ClassFile.FieldType)).before a0 Z = true := hw _ (List.mem_of_getElem? (i := 29) rfl)
theorem wd30 {a0 : Array Value} {Z : State} (hw : ∀ d ∈ tables_1, d.before a0 Z = true) : (Jvm.Cond.methodLink "com/example/queueloom/queueloom/engine/QuotientSums" (36 : Nat) ({ cls := "com/example/queueloom/queueloom/engine/QuotientSums", name := "greatestCommonDivisor", desc := "(JJ)J" } : Jvm.MethodName)).before a0 Z = true := hw _ (List.mem_of_getElem? (i := 30) rfl)
theorem wd31 {a0 : Array Value} {Z : State} (hw : ∀ d ∈ tables_1, d.before a0 Z = true) : (Jvm.Cond.static ({ cls := "com/example/queueloom/queueloom/engine/QuotientSums", name := "greatestCommonDivisor", desc := "(JJ)J" } : Jvm.MethodName)).before a0 Z = true := hw _ (List.mem_of_getElem? (i := 31) rfl)
theorem wd32 {a0 : Array Value} {Z : State} (hw : ∀ d ∈ tables_1, d.before a0 Z = true) : (Jvm.Cond.code ({ cls := "com/example/queueloom/queueloom/engine/QuotientSums", name := "greatestCommonDivisor", desc := "(JJ)J" } : Jvm.MethodName) prog_67_method_10_code (10 : Nat) (Option.some Jvm.ClassFile.FieldType.long)).before a0 Z = true := hw _ (List.mem_of_getElem? (i := 32) rfl)
theorem wd33 {a0 : Array Value} {Z : State} (hw : ∀ d ∈ tables_1, d.before a0 Z = true) : (Jvm.Cond.methodLink "com/example/queueloom/queueloom/engine/QuotientSums" (40 : Nat) ({ cls := "com/example/queueloom/queueloom/engine/QuotientSums", name := "product", desc := "(JJ)J" } : Jvm.MethodName)).before a0 Z = true := hw _ (List.mem_of_getElem? (i := 33) rfl)
theorem wd34 {a0 : Array Value} {Z : State} (hw : ∀ d ∈ tables_1, d.before a0 Z = true) : (Jvm.Cond.static ({ cls := "com/example/queueloom/queueloom/engine/QuotientSums", name := "product", desc := "(JJ)J" } : Jvm.MethodName)).before a0 Z = true := hw _ (List.mem_of_getElem? (i := 34) rfl)
theorem wd35 {a0 : Array Value} {Z : State} (hw : ∀ d ∈ tables_1, d.before a0 Z = true) : (Jvm.Cond.code ({ cls := "com/example/queueloom/queueloom/engine/QuotientSums", name := "product", desc := "(JJ)J" } : Jvm.MethodName) prog_67_method_8_code (6 : Nat) (Option.some Jvm.ClassFile.FieldType.long)).before a0 Z = true := hw _ (List.mem_of_getElem? (i := 35) rfl)
theorem wd36 {a0 : Array Value} {Z : State} (hw : ∀ d ∈ tables_1, d.before a0 Z = true) : (Jvm.Cond.methodLink "com/example/queueloom/queueloom/engine/QuotientSums" (78 : Nat) ({ cls := "java/lang/Math", name := "multiplyHigh", desc := "(JJ)J" } : Jvm.MethodName)).before a0 Z = true := hw _ (List.mem_of_getElem? (i := 36) rfl)
theorem wd37 {a0 : Array Value} {Z : State} (hw : ∀ d ∈ tables_1, d.before a0 Z = true) : (Jvm.Cond.static ({ cls := "java/lang/Math", name := "multiplyHigh", desc := "(JJ)J" } : Jvm.MethodName)).before a0 Z = true := hw _ (List.mem_of_getElem? (i := 37) rfl)
theorem wd38 {a0 : Array Value} {Z : State} (hw : ∀ d ∈ tables_1, d.before a0 Z = true) : (Jvm.Cond.code ({ cls := "java/lang/Math", name := "multiplyHigh", desc := "(JJ)J" } : Jvm.MethodName) jdk_29_method_45_code (20 : Nat) (Option.some Jvm.ClassFile.FieldType.long)).before a0 Z = true := hw _ (List.mem_of_getElem? (i := 38) rfl)
theorem wd39 {a0 : Array Value} {Z : State} (hw : ∀ d ∈ tables_1, d.before a0 Z = true) : (Jvm.Cond.constantLong "java/lang/Math" (138 : Nat) (4294967295 : Int64)).before a0 Z = true := hw _ (List.mem_of_getElem? (i := 39) rfl)
theorem wd40 {a0 : Array Value} {Z : State} (hw : ∀ d ∈ tables_1, d.before a0 Z = true) : (Jvm.Cond.methodLink "com/example/queueloom/queueloom/engine/QuotientSums" (43 : Nat) ({ cls := "com/example/queueloom/queueloom/engine/QuotientSums", name := "sum", desc := "(JJ)J" } : Jvm.MethodName)).before a0 Z = true := hw _ (List.mem_of_getElem? (i := 40) rfl)
theorem wd41 {a0 : Array Value} {Z : State} (hw : ∀ d ∈ tables_1, d.before a0 Z = true) : (Jvm.Cond.static ({ cls := "com/example/queueloom/queueloom/engine/QuotientSums", name := "sum", desc := "(JJ)J" } : Jvm.MethodName)).before a0 Z = true := hw _ (List.mem_of_getElem? (i := 41) rfl)
theorem wd42 {a0 : Array Value} {Z : State} (hw : ∀ d ∈ tables_1, d.before a0 Z = true) : (Jvm.Cond.code ({ cls := "com/example/queueloom/queueloom/engine/QuotientSums", name := "sum", desc := "(JJ)J" } : Jvm.MethodName) prog_67_method_9_code (6 : Nat) (Option.some Jvm.ClassFile.FieldType.long)).before a0 Z = true := hw _ (List.mem_of_getElem? (i := 42) rfl)
theorem wd43 {a0 : Array Value} {Z : State} (hw : ∀ d ∈ tables_1, d.before a0 Z = true) : (Jvm.Cond.methodLink "com/example/queueloom/queueloom/engine/QuotientSumsDoubleValuePinLaw" (26 : Nat) ({ cls := "com/example/queueloom/queueloom/engine/QuotientSums", name := "doubleValue", desc := "(I)D" } : Jvm.MethodName)).before a0 Z = true := hw _ (List.mem_of_getElem? (i := 43) rfl)
theorem wd44 {a0 : Array Value} {Z : State} (hw : ∀ d ∈ tables_1, d.before a0 Z = true) : (Jvm.Cond.declares ({ cls := "com/example/queueloom/queueloom/engine/QuotientSums", name := "doubleValue", desc := "(I)D" } : Jvm.MethodName)).before a0 Z = true := hw _ (List.mem_of_getElem? (i := 44) rfl)
theorem wd45 {a0 : Array Value} {Z : State} (hw : ∀ d ∈ tables_1, d.before a0 Z = true) : (Jvm.Cond.instanceMethod ({ cls := "com/example/queueloom/queueloom/engine/QuotientSums", name := "doubleValue", desc := "(I)D" } : Jvm.MethodName)).before a0 Z = true := hw _ (List.mem_of_getElem? (i := 45) rfl)
theorem wd46 {a0 : Array Value} {Z : State} (hw : ∀ d ∈ tables_1, d.before a0 Z = true) : (Jvm.Cond.selects "com/example/queueloom/queueloom/engine/QuotientSums" ({ cls := "com/example/queueloom/queueloom/engine/QuotientSums", name := "doubleValue", desc := "(I)D" } : Jvm.MethodName) ({ cls := "com/example/queueloom/queueloom/engine/QuotientSums", name := "doubleValue", desc := "(I)D" } : Jvm.MethodName)).before a0 Z = true := hw _ (List.mem_of_getElem? (i := 46) rfl)
theorem wd47 {a0 : Array Value} {Z : State} (hw : ∀ d ∈ tables_1, d.before a0 Z = true) : (Jvm.Cond.code ({ cls := "com/example/queueloom/queueloom/engine/QuotientSums", name := "doubleValue", desc := "(I)D" } : Jvm.MethodName) prog_67_method_6_code (4 : Nat) (Option.some Jvm.ClassFile.FieldType.double)).before a0 Z = true := hw _ (List.mem_of_getElem? (i := 47) rfl)
theorem wd48 {a0 : Array Value} {Z : State} (hw : ∀ d ∈ tables_1, d.before a0 Z = true) : (Jvm.Cond.constantLong "com/example/queueloom/queueloom/engine/QuotientSums" (83 : Nat) (-1 : Int64)).before a0 Z = true := hw _ (List.mem_of_getElem? (i := 48) rfl)
theorem d1_0 : decode jdk_29_method_66_code 0 = .ok (.lload_n 0, 1) := by decide +kernel
theorem d1_1 : decode jdk_29_method_66_code 1 = .ok (.lload_n 2, 1) := by decide +kernel
theorem d1_2 : decode jdk_29_method_66_code 2 = .ok (.lcmp, 1) := by decide +kernel
theorem d1_3 : decode jdk_29_method_66_code 3 = .ok (.ifCond .lt 7, 3) := by decide +kernel
theorem d1_10 : decode jdk_29_method_66_code 10 = .ok (.lload_n 2, 1) := by decide +kernel
theorem d1_6 : decode jdk_29_method_66_code 6 = .ok (.lload_n 0, 1) := by decide +kernel
theorem d1_7 : decode jdk_29_method_66_code 7 = .ok (.goto 4, 3) := by decide +kernel
theorem d1_11 : decode jdk_29_method_66_code 11 = .ok (.lreturn, 1) := by decide +kernel
theorem d5_0 : decode prog_67_method_10_code 0 = .ok (.lload_n 0, 1) := by decide +kernel
theorem d5_1 : decode prog_67_method_10_code 1 = .ok (.lstore 4, 2) := by decide +kernel
theorem d5_3 : decode prog_67_method_10_code 3 = .ok (.lload_n 2, 1) := by decide +kernel
theorem d5_4 : decode prog_67_method_10_code 4 = .ok (.lstore 6, 2) := by decide +kernel
theorem d5_6 : decode prog_67_method_10_code 6 = .ok (.lload 6, 2) := by decide +kernel
theorem d5_8 : decode prog_67_method_10_code 8 = .ok (.lconst 0, 1) := by decide +kernel
theorem d5_9 : decode prog_67_method_10_code 9 = .ok (.lcmp, 1) := by decide +kernel
theorem d5_10 : decode prog_67_method_10_code 10 = .ok (.ifCond .eq 21, 3) := by decide +kernel
theorem d5_13 : decode prog_67_method_10_code 13 = .ok (.lload 4, 2) := by decide +kernel
theorem d5_15 : decode prog_67_method_10_code 15 = .ok (.lload 6, 2) := by decide +kernel
theorem d5_17 : decode prog_67_method_10_code 17 = .ok (.lrem, 1) := by decide +kernel
theorem d5_18 : decode prog_67_method_10_code 18 = .ok (.lstore 8, 2) := by decide +kernel
theorem d5_20 : decode prog_67_method_10_code 20 = .ok (.lload 6, 2) := by decide +kernel
theorem d5_22 : decode prog_67_method_10_code 22 = .ok (.lstore 4, 2) := by decide +kernel
theorem d5_24 : decode prog_67_method_10_code 24 = .ok (.lload 8, 2) := by decide +kernel
theorem d5_26 : decode prog_67_method_10_code 26 = .ok (.lstore 6, 2) := by decide +kernel
theorem d5_28 : decode prog_67_method_10_code 28 = .ok (.goto (-22), 3) := by decide +kernel
theorem d5_31 : decode prog_67_method_10_code 31 = .ok (.lload 4, 2) := by decide +kernel
theorem d5_33 : decode prog_67_method_10_code 33 = .ok (.lreturn, 1) := by decide +kernel
theorem pn_5 : plainName "com/example/queueloom/queueloom/engine/QuotientSums" = true := by first | (simp [plainName, overriddenIn]; done) | decide +kernel
theorem d7_0 : decode jdk_29_method_45_code 0 = .ok (.lload_n 0, 1) := by decide +kernel
theorem d7_1 : decode jdk_29_method_45_code 1 = .ok (.bipush 32, 2) := by decide +kernel
theorem d7_3 : decode jdk_29_method_45_code 3 = .ok (.lshr, 1) := by decide +kernel
theorem d7_4 : decode jdk_29_method_45_code 4 = .ok (.lstore 4, 2) := by decide +kernel
theorem d7_6 : decode jdk_29_method_45_code 6 = .ok (.lload_n 0, 1) := by decide +kernel
theorem d7_7 : decode jdk_29_method_45_code 7 = .ok (.ldc2_w 138, 3) := by decide +kernel
theorem d7_10 : decode jdk_29_method_45_code 10 = .ok (.land, 1) := by decide +kernel
theorem d7_11 : decode jdk_29_method_45_code 11 = .ok (.lstore 6, 2) := by decide +kernel
theorem d7_13 : decode jdk_29_method_45_code 13 = .ok (.lload_n 2, 1) := by decide +kernel
theorem d7_14 : decode jdk_29_method_45_code 14 = .ok (.bipush 32, 2) := by decide +kernel
theorem d7_16 : decode jdk_29_method_45_code 16 = .ok (.lshr, 1) := by decide +kernel
theorem d7_17 : decode jdk_29_method_45_code 17 = .ok (.lstore 8, 2) := by decide +kernel
theorem d7_19 : decode jdk_29_method_45_code 19 = .ok (.lload_n 2, 1) := by decide +kernel
theorem d7_20 : decode jdk_29_method_45_code 20 = .ok (.ldc2_w 138, 3) := by decide +kernel
theorem d7_23 : decode jdk_29_method_45_code 23 = .ok (.land, 1) := by decide +kernel
theorem d7_24 : decode jdk_29_method_45_code 24 = .ok (.lstore 10, 2) := by decide +kernel
theorem d7_26 : decode jdk_29_method_45_code 26 = .ok (.lload 6, 2) := by decide +kernel
theorem d7_28 : decode jdk_29_method_45_code 28 = .ok (.lload 10, 2) := by decide +kernel
theorem d7_30 : decode jdk_29_method_45_code 30 = .ok (.lmul, 1) := by decide +kernel
theorem d7_31 : decode jdk_29_method_45_code 31 = .ok (.lstore 12, 2) := by decide +kernel
theorem d7_33 : decode jdk_29_method_45_code 33 = .ok (.lload 4, 2) := by decide +kernel
theorem d7_35 : decode jdk_29_method_45_code 35 = .ok (.lload 10, 2) := by decide +kernel
theorem d7_37 : decode jdk_29_method_45_code 37 = .ok (.lmul, 1) := by decide +kernel
theorem d7_38 : decode jdk_29_method_45_code 38 = .ok (.lload 12, 2) := by decide +kernel
theorem d7_40 : decode jdk_29_method_45_code 40 = .ok (.bipush 32, 2) := by decide +kernel
theorem d7_42 : decode jdk_29_method_45_code 42 = .ok (.lushr, 1) := by decide +kernel
theorem d7_43 : decode jdk_29_method_45_code 43 = .ok (.ladd, 1) := by decide +kernel
theorem d7_44 : decode jdk_29_method_45_code 44 = .ok (.lstore 14, 2) := by decide +kernel
theorem d7_46 : decode jdk_29_method_45_code 46 = .ok (.lload 14, 2) := by decide +kernel
theorem d7_48 : decode jdk_29_method_45_code 48 = .ok (.ldc2_w 138, 3) := by decide +kernel
theorem d7_51 : decode jdk_29_method_45_code 51 = .ok (.land, 1) := by decide +kernel
theorem d7_52 : decode jdk_29_method_45_code 52 = .ok (.lstore 16, 2) := by decide +kernel
theorem d7_54 : decode jdk_29_method_45_code 54 = .ok (.lload 14, 2) := by decide +kernel
theorem d7_56 : decode jdk_29_method_45_code 56 = .ok (.bipush 32, 2) := by decide +kernel
theorem d7_58 : decode jdk_29_method_45_code 58 = .ok (.lshr, 1) := by decide +kernel
theorem d7_59 : decode jdk_29_method_45_code 59 = .ok (.lstore 18, 2) := by decide +kernel
theorem d7_61 : decode jdk_29_method_45_code 61 = .ok (.lload 16, 2) := by decide +kernel
theorem d7_63 : decode jdk_29_method_45_code 63 = .ok (.lload 6, 2) := by decide +kernel
theorem d7_65 : decode jdk_29_method_45_code 65 = .ok (.lload 8, 2) := by decide +kernel
theorem d7_67 : decode jdk_29_method_45_code 67 = .ok (.lmul, 1) := by decide +kernel
theorem d7_68 : decode jdk_29_method_45_code 68 = .ok (.ladd, 1) := by decide +kernel
theorem d7_69 : decode jdk_29_method_45_code 69 = .ok (.lstore 16, 2) := by decide +kernel
theorem d7_71 : decode jdk_29_method_45_code 71 = .ok (.lload 4, 2) := by decide +kernel
theorem d7_73 : decode jdk_29_method_45_code 73 = .ok (.lload 8, 2) := by decide +kernel
theorem d7_75 : decode jdk_29_method_45_code 75 = .ok (.lmul, 1) := by decide +kernel
theorem d7_76 : decode jdk_29_method_45_code 76 = .ok (.lload 18, 2) := by decide +kernel
theorem d7_78 : decode jdk_29_method_45_code 78 = .ok (.ladd, 1) := by decide +kernel
theorem d7_79 : decode jdk_29_method_45_code 79 = .ok (.lload 16, 2) := by decide +kernel
theorem d7_81 : decode jdk_29_method_45_code 81 = .ok (.bipush 32, 2) := by decide +kernel
theorem d7_83 : decode jdk_29_method_45_code 83 = .ok (.lshr, 1) := by decide +kernel
theorem d7_84 : decode jdk_29_method_45_code 84 = .ok (.ladd, 1) := by decide +kernel
theorem d7_85 : decode jdk_29_method_45_code 85 = .ok (.lreturn, 1) := by decide +kernel
theorem d6_0 : decode prog_67_method_8_code 0 = .ok (.lload_n 0, 1) := by decide +kernel
theorem d6_1 : decode prog_67_method_8_code 1 = .ok (.lload_n 2, 1) := by decide +kernel
theorem d6_2 : decode prog_67_method_8_code 2 = .ok (.lmul, 1) := by decide +kernel
theorem d6_3 : decode prog_67_method_8_code 3 = .ok (.lstore 4, 2) := by decide +kernel
theorem d6_5 : decode prog_67_method_8_code 5 = .ok (.lload_n 0, 1) := by decide +kernel
theorem d6_6 : decode prog_67_method_8_code 6 = .ok (.lload_n 2, 1) := by decide +kernel
theorem pd_0 : parseMethodDescriptor "(JJ)J" = some ⟨[.long, .long], some .long⟩ := by decide +kernel
theorem d6_7 : decode prog_67_method_8_code 7 = .ok (.invokestatic 78, 3) := by decide +kernel
theorem d6_10 : decode prog_67_method_8_code 10 = .ok (.lconst 0, 1) := by decide +kernel
theorem d6_11 : decode prog_67_method_8_code 11 = .ok (.lcmp, 1) := by decide +kernel
theorem d6_12 : decode prog_67_method_8_code 12 = .ok (.ifCond .ne 15, 3) := by decide +kernel
theorem d6_15 : decode prog_67_method_8_code 15 = .ok (.lload 4, 2) := by decide +kernel
theorem d6_17 : decode prog_67_method_8_code 17 = .ok (.lconst 0, 1) := by decide +kernel
theorem d6_18 : decode prog_67_method_8_code 18 = .ok (.lcmp, 1) := by decide +kernel
theorem d6_19 : decode prog_67_method_8_code 19 = .ok (.ifCond .lt 8, 3) := by decide +kernel
theorem d6_22 : decode prog_67_method_8_code 22 = .ok (.lload 4, 2) := by decide +kernel
theorem d6_24 : decode prog_67_method_8_code 24 = .ok (.goto 6, 3) := by decide +kernel
theorem d6_30 : decode prog_67_method_8_code 30 = .ok (.lreturn, 1) := by decide +kernel
theorem pn_6 : plainName "com/example/queueloom/queueloom/engine/QuotientSums" = true := by first | (simp [plainName, overriddenIn]; done) | decide +kernel
theorem d8_0 : decode prog_67_method_9_code 0 = .ok (.lload_n 0, 1) := by decide +kernel
theorem d8_1 : decode prog_67_method_9_code 1 = .ok (.lload_n 2, 1) := by decide +kernel
theorem d8_2 : decode prog_67_method_9_code 2 = .ok (.ladd, 1) := by decide +kernel
theorem d8_3 : decode prog_67_method_9_code 3 = .ok (.lstore 4, 2) := by decide +kernel
theorem d8_5 : decode prog_67_method_9_code 5 = .ok (.lload_n 0, 1) := by decide +kernel
theorem d8_6 : decode prog_67_method_9_code 6 = .ok (.lconst 0, 1) := by decide +kernel
theorem d8_7 : decode prog_67_method_9_code 7 = .ok (.lcmp, 1) := by decide +kernel
theorem d8_8 : decode prog_67_method_9_code 8 = .ok (.ifCond .lt 21, 3) := by decide +kernel
theorem d8_11 : decode prog_67_method_9_code 11 = .ok (.lload_n 2, 1) := by decide +kernel
theorem d8_12 : decode prog_67_method_9_code 12 = .ok (.lconst 0, 1) := by decide +kernel
theorem d8_13 : decode prog_67_method_9_code 13 = .ok (.lcmp, 1) := by decide +kernel
theorem d8_14 : decode prog_67_method_9_code 14 = .ok (.ifCond .lt 15, 3) := by decide +kernel
theorem d8_17 : decode prog_67_method_9_code 17 = .ok (.lload 4, 2) := by decide +kernel
theorem d8_19 : decode prog_67_method_9_code 19 = .ok (.lconst 0, 1) := by decide +kernel
theorem d8_20 : decode prog_67_method_9_code 20 = .ok (.lcmp, 1) := by decide +kernel
theorem d8_21 : decode prog_67_method_9_code 21 = .ok (.ifCond .lt 8, 3) := by decide +kernel
theorem d8_29 : decode prog_67_method_9_code 29 = .ok (.ldc2_w 83, 3) := by decide +kernel
theorem d8_24 : decode prog_67_method_9_code 24 = .ok (.lload 4, 2) := by decide +kernel
theorem d8_26 : decode prog_67_method_9_code 26 = .ok (.goto 6, 3) := by decide +kernel
theorem d8_32 : decode prog_67_method_9_code 32 = .ok (.lreturn, 1) := by decide +kernel
theorem pn_8 : plainName "com/example/queueloom/queueloom/engine/QuotientSums" = true := by first | (simp [plainName, overriddenIn]; done) | decide +kernel
theorem d2_0 : decode prog_67_method_1_code 0 = .ok (.aload_n 0, 1) := by decide +kernel
theorem d2_1 : decode prog_67_method_1_code 1 = .ok (.invokespecial 1, 3) := by decide +kernel
theorem d2_4 : decode prog_67_method_1_code 4 = .ok (.aload_n 0, 1) := by decide +kernel
theorem d2_5 : decode prog_67_method_1_code 5 = .ok (.iload_n 1, 1) := by decide +kernel
theorem d2_6 : decode prog_67_method_1_code 6 = .ok (.newarray .long, 2) := by decide +kernel
theorem d2_8 : decode prog_67_method_1_code 8 = .ok (.putfield 7, 3) := by decide +kernel
theorem d2_11 : decode prog_67_method_1_code 11 = .ok (.aload_n 0, 1) := by decide +kernel
theorem d2_12 : decode prog_67_method_1_code 12 = .ok (.iload_n 1, 1) := by decide +kernel
theorem d2_13 : decode prog_67_method_1_code 13 = .ok (.newarray .long, 2) := by decide +kernel
theorem d2_15 : decode prog_67_method_1_code 15 = .ok (.putfield 13, 3) := by decide +kernel
theorem d2_18 : decode prog_67_method_1_code 18 = .ok (.aload_n 0, 1) := by decide +kernel
theorem d2_19 : decode prog_67_method_1_code 19 = .ok (.iload_n 1, 1) := by decide +kernel
theorem d2_20 : decode prog_67_method_1_code 20 = .ok (.newarray .double, 2) := by decide +kernel
theorem d2_22 : decode prog_67_method_1_code 22 = .ok (.putfield 16, 3) := by decide +kernel
theorem d2_25 : decode prog_67_method_1_code 25 = .ok (.aload_n 0, 1) := by decide +kernel
theorem d2_26 : decode prog_67_method_1_code 26 = .ok (.iload_n 1, 1) := by decide +kernel
theorem d2_27 : decode prog_67_method_1_code 27 = .ok (.newarray .int, 2) := by decide +kernel
theorem d2_29 : decode prog_67_method_1_code 29 = .ok (.putfield 20, 3) := by decide +kernel
theorem d2_32 : decode prog_67_method_1_code 32 = .ok (.return_, 1) := by decide +kernel
theorem pn_2 : plainName "com/example/queueloom/queueloom/engine/QuotientSums" = true := by first | (simp [plainName, overriddenIn]; done) | decide +kernel
theorem d9_0 : decode prog_67_method_6_code 0 = .ok (.aload_n 0, 1) := by decide +kernel
theorem d9_1 : decode prog_67_method_6_code 1 = .ok (.getfield 20, 3) := by decide +kernel
theorem d9_4 : decode prog_67_method_6_code 4 = .ok (.iload_n 1, 1) := by decide +kernel
theorem d9_5 : decode prog_67_method_6_code 5 = .ok (.iaload, 1) := by decide +kernel
theorem d9_6 : decode prog_67_method_6_code 6 = .ok (.ifCond .le 13, 3) := by decide +kernel
theorem d9_9 : decode prog_67_method_6_code 9 = .ok (.aload_n 0, 1) := by decide +kernel
theorem d9_10 : decode prog_67_method_6_code 10 = .ok (.getfield 16, 3) := by decide +kernel
theorem d9_13 : decode prog_67_method_6_code 13 = .ok (.iload_n 1, 1) := by decide +kernel
theorem d9_14 : decode prog_67_method_6_code 14 = .ok (.daload, 1) := by decide +kernel
theorem d9_15 : decode prog_67_method_6_code 15 = .ok (.dstore_n 2, 1) := by decide +kernel
theorem d9_16 : decode prog_67_method_6_code 16 = .ok (.goto 35, 3) := by decide +kernel
theorem d9_51 : decode prog_67_method_6_code 51 = .ok (.dload_n 2, 1) := by decide +kernel
theorem d9_52 : decode prog_67_method_6_code 52 = .ok (.dreturn, 1) := by decide +kernel
theorem pn_9 : plainName "com/example/queueloom/queueloom/engine/QuotientSums" = true := by first | (simp [plainName, overriddenIn]; done) | decide +kernel
theorem d9_19 : decode prog_67_method_6_code 19 = .ok (.aload_n 0, 1) := by decide +kernel
theorem d9_20 : decode prog_67_method_6_code 20 = .ok (.getfield 13, 3) := by decide +kernel
theorem d9_23 : decode prog_67_method_6_code 23 = .ok (.iload_n 1, 1) := by decide +kernel
theorem d9_24 : decode prog_67_method_6_code 24 = .ok (.laload, 1) := by decide +kernel
theorem d9_25 : decode prog_67_method_6_code 25 = .ok (.lconst 0, 1) := by decide +kernel
theorem d9_26 : decode prog_67_method_6_code 26 = .ok (.lcmp, 1) := by decide +kernel
theorem d9_27 : decode prog_67_method_6_code 27 = .ok (.ifCond .le 22, 3) := by decide +kernel
theorem d9_30 : decode prog_67_method_6_code 30 = .ok (.aload_n 0, 1) := by decide +kernel
theorem d9_31 : decode prog_67_method_6_code 31 = .ok (.getfield 7, 3) := by decide +kernel
theorem d9_34 : decode prog_67_method_6_code 34 = .ok (.iload_n 1, 1) := by decide +kernel
theorem d9_35 : decode prog_67_method_6_code 35 = .ok (.laload, 1) := by decide +kernel
theorem d9_36 : decode prog_67_method_6_code 36 = .ok (.l2d, 1) := by decide +kernel
theorem d9_37 : decode prog_67_method_6_code 37 = .ok (.aload_n 0, 1) := by decide +kernel
theorem d9_38 : decode prog_67_method_6_code 38 = .ok (.getfield 13, 3) := by decide +kernel
theorem d9_41 : decode prog_67_method_6_code 41 = .ok (.iload_n 1, 1) := by decide +kernel
theorem d9_42 : decode prog_67_method_6_code 42 = .ok (.laload, 1) := by decide +kernel
theorem d9_43 : decode prog_67_method_6_code 43 = .ok (.l2d, 1) := by decide +kernel
theorem d9_44 : decode prog_67_method_6_code 44 = .ok (.ddiv, 1) := by decide +kernel
theorem d9_45 : decode prog_67_method_6_code 45 = .ok (.dstore_n 2, 1) := by decide +kernel
theorem d9_46 : decode prog_67_method_6_code 46 = .ok (.goto 5, 3) := by decide +kernel
theorem d9_49 : decode prog_67_method_6_code 49 = .ok (.dconst 0, 1) := by decide +kernel
theorem d9_50 : decode prog_67_method_6_code 50 = .ok (.dstore_n 2, 1) := by decide +kernel
theorem d4_0 : decode prog_67_method_3_code 0 = .ok (.aload_n 0, 1) := by decide +kernel
theorem d4_1 : decode prog_67_method_3_code 1 = .ok (.getfield 7, 3) := by decide +kernel
theorem d4_4 : decode prog_67_method_3_code 4 = .ok (.iload_n 1, 1) := by decide +kernel
theorem d4_5 : decode prog_67_method_3_code 5 = .ok (.laload, 1) := by decide +kernel
theorem d4_6 : decode prog_67_method_3_code 6 = .ok (.lstore 6, 2) := by decide +kernel
theorem d4_8 : decode prog_67_method_3_code 8 = .ok (.aload_n 0, 1) := by decide +kernel
theorem d4_9 : decode prog_67_method_3_code 9 = .ok (.getfield 13, 3) := by decide +kernel
theorem d4_12 : decode prog_67_method_3_code 12 = .ok (.iload_n 1, 1) := by decide +kernel
theorem d4_13 : decode prog_67_method_3_code 13 = .ok (.laload, 1) := by decide +kernel
theorem d4_14 : decode prog_67_method_3_code 14 = .ok (.lstore 8, 2) := by decide +kernel
theorem d4_16 : decode prog_67_method_3_code 16 = .ok (.aload_n 0, 1) := by decide +kernel
theorem d4_17 : decode prog_67_method_3_code 17 = .ok (.getfield 20, 3) := by decide +kernel
theorem d4_20 : decode prog_67_method_3_code 20 = .ok (.iload_n 1, 1) := by decide +kernel
theorem d4_21 : decode prog_67_method_3_code 21 = .ok (.iaload, 1) := by decide +kernel
theorem d4_22 : decode prog_67_method_3_code 22 = .ok (.ifCond .le 31, 3) := by decide +kernel
theorem d4_53 : decode prog_67_method_3_code 53 = .ok (.lload 8, 2) := by decide +kernel
theorem d4_55 : decode prog_67_method_3_code 55 = .ok (.lconst 0, 1) := by decide +kernel
theorem d4_56 : decode prog_67_method_3_code 56 = .ok (.lcmp, 1) := by decide +kernel
theorem d4_57 : decode prog_67_method_3_code 57 = .ok (.ifCond .ne 21, 3) := by decide +kernel
theorem d4_60 : decode prog_67_method_3_code 60 = .ok (.aload_n 0, 1) := by decide +kernel
theorem d4_61 : decode prog_67_method_3_code 61 = .ok (.getfield 7, 3) := by decide +kernel
theorem d4_64 : decode prog_67_method_3_code 64 = .ok (.iload_n 1, 1) := by decide +kernel
theorem d4_65 : decode prog_67_method_3_code 65 = .ok (.lload_n 2, 1) := by decide +kernel
theorem d4_66 : decode prog_67_method_3_code 66 = .ok (.lastore, 1) := by decide +kernel
theorem d4_67 : decode prog_67_method_3_code 67 = .ok (.aload_n 0, 1) := by decide +kernel
theorem d4_68 : decode prog_67_method_3_code 68 = .ok (.getfield 13, 3) := by decide +kernel
theorem d4_71 : decode prog_67_method_3_code 71 = .ok (.iload_n 1, 1) := by decide +kernel
theorem d4_72 : decode prog_67_method_3_code 72 = .ok (.lload 4, 2) := by decide +kernel
theorem d4_74 : decode prog_67_method_3_code 74 = .ok (.lastore, 1) := by decide +kernel
theorem d4_75 : decode prog_67_method_3_code 75 = .ok (.goto 108, 3) := by decide +kernel
theorem d4_183 : decode prog_67_method_3_code 183 = .ok (.return_, 1) := by decide +kernel
theorem pn_4 : plainName "com/example/queueloom/queueloom/engine/QuotientSums" = true := by first | (simp [plainName, overriddenIn]; done) | decide +kernel
theorem d4_78 : decode prog_67_method_3_code 78 = .ok (.lload 8, 2) := by decide +kernel
theorem d4_80 : decode prog_67_method_3_code 80 = .ok (.lload 4, 2) := by decide +kernel
theorem d4_82 : decode prog_67_method_3_code 82 = .ok (.invokestatic 36, 3) := by decide +kernel
theorem d4_85 : decode prog_67_method_3_code 85 = .ok (.lstore 10, 2) := by decide +kernel
theorem d4_87 : decode prog_67_method_3_code 87 = .ok (.lload 8, 2) := by decide +kernel
theorem d4_89 : decode prog_67_method_3_code 89 = .ok (.lload 4, 2) := by decide +kernel
theorem d4_91 : decode prog_67_method_3_code 91 = .ok (.lload 10, 2) := by decide +kernel
theorem d4_93 : decode prog_67_method_3_code 93 = .ok (.ldiv, 1) := by decide +kernel
theorem d4_94 : decode prog_67_method_3_code 94 = .ok (.invokestatic 40, 3) := by decide +kernel
theorem d4_97 : decode prog_67_method_3_code 97 = .ok (.lstore 12, 2) := by decide +kernel
theorem d4_99 : decode prog_67_method_3_code 99 = .ok (.lload 6, 2) := by decide +kernel
theorem d4_101 : decode prog_67_method_3_code 101 = .ok (.lload 4, 2) := by decide +kernel
theorem d4_103 : decode prog_67_method_3_code 103 = .ok (.lload 10, 2) := by decide +kernel
theorem d4_105 : decode prog_67_method_3_code 105 = .ok (.ldiv, 1) := by decide +kernel
theorem d4_106 : decode prog_67_method_3_code 106 = .ok (.invokestatic 40, 3) := by decide +kernel
theorem d4_109 : decode prog_67_method_3_code 109 = .ok (.lload_n 2, 1) := by decide +kernel
theorem d4_110 : decode prog_67_method_3_code 110 = .ok (.lload 8, 2) := by decide +kernel
theorem d4_112 : decode prog_67_method_3_code 112 = .ok (.lload 10, 2) := by decide +kernel
theorem d4_114 : decode prog_67_method_3_code 114 = .ok (.ldiv, 1) := by decide +kernel
theorem d4_115 : decode prog_67_method_3_code 115 = .ok (.invokestatic 40, 3) := by decide +kernel
theorem d4_118 : decode prog_67_method_3_code 118 = .ok (.invokestatic 43, 3) := by decide +kernel
theorem d4_121 : decode prog_67_method_3_code 121 = .ok (.lstore 14, 2) := by decide +kernel
theorem d4_123 : decode prog_67_method_3_code 123 = .ok (.lload 12, 2) := by decide +kernel
theorem d4_125 : decode prog_67_method_3_code 125 = .ok (.lconst 0, 1) := by decide +kernel
theorem d4_126 : decode prog_67_method_3_code 126 = .ok (.lcmp, 1) := by decide +kernel
theorem d4_127 : decode prog_67_method_3_code 127 = .ok (.ifCond .lt 29, 3) := by decide +kernel
theorem d4_130 : decode prog_67_method_3_code 130 = .ok (.lload 14, 2) := by decide +kernel
theorem d4_132 : decode prog_67_method_3_code 132 = .ok (.lconst 0, 1) := by decide +kernel
theorem d4_133 : decode prog_67_method_3_code 133 = .ok (.lcmp, 1) := by decide +kernel
theorem d4_134 : decode prog_67_method_3_code 134 = .ok (.ifCond .lt 22, 3) := by decide +kernel
theorem d4_137 : decode prog_67_method_3_code 137 = .ok (.aload_n 0, 1) := by decide +kernel
theorem d4_138 : decode prog_67_method_3_code 138 = .ok (.getfield 7, 3) := by decide +kernel
theorem d4_141 : decode prog_67_method_3_code 141 = .ok (.iload_n 1, 1) := by decide +kernel
theorem d4_142 : decode prog_67_method_3_code 142 = .ok (.lload 14, 2) := by decide +kernel
theorem d4_144 : decode prog_67_method_3_code 144 = .ok (.lastore, 1) := by decide +kernel
theorem d4_145 : decode prog_67_method_3_code 145 = .ok (.aload_n 0, 1) := by decide +kernel
theorem d4_146 : decode prog_67_method_3_code 146 = .ok (.getfield 13, 3) := by decide +kernel
theorem d4_149 : decode prog_67_method_3_code 149 = .ok (.iload_n 1, 1) := by decide +kernel
theorem d4_150 : decode prog_67_method_3_code 150 = .ok (.lload 12, 2) := by decide +kernel
theorem d4_152 : decode prog_67_method_3_code 152 = .ok (.lastore, 1) := by decide +kernel
theorem d4_153 : decode prog_67_method_3_code 153 = .ok (.goto 30, 3) := by decide +kernel
theorem d4_156 : decode prog_67_method_3_code 156 = .ok (.aload_n 0, 1) := by decide +kernel
theorem d4_157 : decode prog_67_method_3_code 157 = .ok (.getfield 16, 3) := by decide +kernel
theorem d4_160 : decode prog_67_method_3_code 160 = .ok (.iload_n 1, 1) := by decide +kernel
theorem d4_161 : decode prog_67_method_3_code 161 = .ok (.lload 6, 2) := by decide +kernel
theorem d4_163 : decode prog_67_method_3_code 163 = .ok (.l2d, 1) := by decide +kernel
theorem d4_164 : decode prog_67_method_3_code 164 = .ok (.lload 8, 2) := by decide +kernel
theorem d4_166 : decode prog_67_method_3_code 166 = .ok (.l2d, 1) := by decide +kernel
theorem d4_167 : decode prog_67_method_3_code 167 = .ok (.ddiv, 1) := by decide +kernel
theorem d4_168 : decode prog_67_method_3_code 168 = .ok (.lload_n 2, 1) := by decide +kernel
theorem d4_169 : decode prog_67_method_3_code 169 = .ok (.l2d, 1) := by decide +kernel
theorem d4_170 : decode prog_67_method_3_code 170 = .ok (.lload 4, 2) := by decide +kernel
theorem d4_172 : decode prog_67_method_3_code 172 = .ok (.l2d, 1) := by decide +kernel
theorem d4_173 : decode prog_67_method_3_code 173 = .ok (.ddiv, 1) := by decide +kernel
theorem d4_174 : decode prog_67_method_3_code 174 = .ok (.dadd, 1) := by decide +kernel
theorem d4_175 : decode prog_67_method_3_code 175 = .ok (.dastore, 1) := by decide +kernel
theorem d4_176 : decode prog_67_method_3_code 176 = .ok (.aload_n 0, 1) := by decide +kernel
theorem d4_177 : decode prog_67_method_3_code 177 = .ok (.getfield 20, 3) := by decide +kernel
theorem d4_180 : decode prog_67_method_3_code 180 = .ok (.iload_n 1, 1) := by decide +kernel
theorem d4_181 : decode prog_67_method_3_code 181 = .ok (.iconst 2, 1) := by decide +kernel
theorem d4_182 : decode prog_67_method_3_code 182 = .ok (.iastore, 1) := by decide +kernel
theorem d4_25 : decode prog_67_method_3_code 25 = .ok (.aload_n 0, 1) := by decide +kernel
theorem d4_26 : decode prog_67_method_3_code 26 = .ok (.getfield 16, 3) := by decide +kernel
theorem d4_29 : decode prog_67_method_3_code 29 = .ok (.iload_n 1, 1) := by decide +kernel
theorem d4_30 : decode prog_67_method_3_code 30 = .ok (.dup2, 1) := by decide +kernel
theorem d4_31 : decode prog_67_method_3_code 31 = .ok (.daload, 1) := by decide +kernel
theorem d4_32 : decode prog_67_method_3_code 32 = .ok (.lload_n 2, 1) := by decide +kernel
theorem d4_33 : decode prog_67_method_3_code 33 = .ok (.l2d, 1) := by decide +kernel
theorem d4_34 : decode prog_67_method_3_code 34 = .ok (.lload 4, 2) := by decide +kernel
theorem d4_36 : decode prog_67_method_3_code 36 = .ok (.l2d, 1) := by decide +kernel
theorem d4_37 : decode prog_67_method_3_code 37 = .ok (.ddiv, 1) := by decide +kernel
theorem d4_38 : decode prog_67_method_3_code 38 = .ok (.dadd, 1) := by decide +kernel
theorem d4_39 : decode prog_67_method_3_code 39 = .ok (.dastore, 1) := by decide +kernel
theorem d4_40 : decode prog_67_method_3_code 40 = .ok (.aload_n 0, 1) := by decide +kernel
theorem d4_41 : decode prog_67_method_3_code 41 = .ok (.getfield 20, 3) := by decide +kernel
theorem d4_44 : decode prog_67_method_3_code 44 = .ok (.iload_n 1, 1) := by decide +kernel
theorem d4_45 : decode prog_67_method_3_code 45 = .ok (.dup2, 1) := by decide +kernel
theorem d4_46 : decode prog_67_method_3_code 46 = .ok (.iaload, 1) := by decide +kernel
theorem d4_47 : decode prog_67_method_3_code 47 = .ok (.iconst 1, 1) := by decide +kernel
theorem d4_48 : decode prog_67_method_3_code 48 = .ok (.iadd, 1) := by decide +kernel
theorem d4_49 : decode prog_67_method_3_code 49 = .ok (.iastore, 1) := by decide +kernel
theorem d4_50 : decode prog_67_method_3_code 50 = .ok (.goto 133, 3) := by decide +kernel
theorem pd_1 : parseMethodDescriptor "(I)V" = some ⟨[.int], none⟩ := by decide +kernel
theorem pd_2 : parseMethodDescriptor "(I)D" = some ⟨[.int], some .double⟩ := by decide +kernel
theorem pd_3 : parseMethodDescriptor "(IJJ)V" = some ⟨[.int, .long, .long], none⟩ := by decide +kernel
theorem pn_0 : plainName "com/example/queueloom/queueloom/engine/QuotientSumsDoubleValuePinLaw" = true := by first | (simp [plainName, overriddenIn]; done) | decide +kernel
section OwnDbl
variable {p : Program} {l : Launch} {e : Env} {R : Room} {s : State} {m : MethodId} {args : Array Value} {below : List Frame} {meth : Method} {c : Code} {Z : State} {y : MethodName} {ret : Option FieldType} {code : ByteArray} {ml : Nat} {ws : List Addr} {T : State} {h : Heap} {cells slots : Nat} {C : Outcome → State → Prop} {a0 : Array Value}
theorem own_dloadN (W : own_W p l e R s m args below meth c Z y ret code ml ws T h cells slots) {i : Fin 4} {v : UInt64} {pc : Nat} (pc' : Nat) {L : Array Slot} {st : List Value} (hd : decode code pc = .ok (.dload_n i, 1)) (hl : L[i.val]? = some (.val (.double v))) (hp : pc + 1 = pc') (k : own_Go p e below C T (mkF m pc' L (.double v :: st))) : own_Go p e below C T (mkF m pc L st) := by
  have hsz := own_le W
  obtain ⟨⟨hx, hby, hml, hown, hnm, hrt, hlk, hZ⟩, locs, X, eT, N⟩ := W
  subst hp
  exact own_st (fun _ k => XS.dloadN X.here hx rfl (hb hby hd) hl k) k
theorem own_dstoreN (W : own_W p l e R s m args below meth c Z y ret code ml ws T h cells slots) {i : Fin 4} {v : UInt64} {pc : Nat} (pc' : Nat) {L : Array Slot} (L' : Array Slot) {st : List Value} (hd : decode code pc = .ok (.dstore_n i, 1)) (hl : storeLocals L i.val (.double v) = some L') (hp : pc + 1 = pc') (k : own_Go p e below C T (mkF m pc' L' st)) : own_Go p e below C T (mkF m pc L (.double v :: st)) := by
  have hsz := own_le W
  obtain ⟨⟨hx, hby, hml, hown, hnm, hrt, hlk, hZ⟩, locs, X, eT, N⟩ := W
  subst hp
  exact own_st (fun _ k => XS.dstoreN X.here hx rfl (hb hby hd) rfl hl k) k
theorem own_dload (W : own_W p l e R s m args below meth c Z y ret code ml ws T h cells slots) {i : Nat} {v : UInt64} {pc : Nat} (pc' : Nat) {L : Array Slot} {st : List Value} (hd : decode code pc = .ok (.dload i, 2)) (hl : L[i]? = some (.val (.double v))) (hp : pc + 2 = pc') (k : own_Go p e below C T (mkF m pc' L (.double v :: st))) : own_Go p e below C T (mkF m pc L st) := by
  have hsz := own_le W
  obtain ⟨⟨hx, hby, hml, hown, hnm, hrt, hlk, hZ⟩, locs, X, eT, N⟩ := W
  subst hp
  exact own_st (fun _ k => XS.dload X.here hx rfl (hb hby hd) hl k) k
theorem own_dstore (W : own_W p l e R s m args below meth c Z y ret code ml ws T h cells slots) {i : Nat} {v : UInt64} {pc : Nat} (pc' : Nat) {L : Array Slot} (L' : Array Slot) {st : List Value} (hd : decode code pc = .ok (.dstore i, 2)) (hl : storeLocals L i (.double v) = some L') (hp : pc + 2 = pc') (k : own_Go p e below C T (mkF m pc' L' st)) : own_Go p e below C T (mkF m pc L (.double v :: st)) := by
  have hsz := own_le W
  obtain ⟨⟨hx, hby, hml, hown, hnm, hrt, hlk, hZ⟩, locs, X, eT, N⟩ := W
  subst hp
  exact own_st (fun _ k => XS.dstore X.here hx rfl (hb hby hd) rfl hl k) k
theorem own_dconst0 (W : own_W p l e R s m args below meth c Z y ret code ml ws T h cells slots) {pc : Nat} (pc' : Nat) {L : Array Slot} {st : List Value} (hd : decode code pc = .ok (.dconst 0, 1)) (hp : pc + 1 = pc') (k : own_Go p e below C T (mkF m pc' L (.double FP.dconst0 :: st))) : own_Go p e below C T (mkF m pc L st) := by
  have hsz := own_le W
  obtain ⟨⟨hx, hby, hml, hown, hnm, hrt, hlk, hZ⟩, locs, X, eT, N⟩ := W
  subst hp
  exact own_st (fun _ k => XS.dconst0 X.here hx rfl (hb hby hd) rfl k) k
theorem own_l2d (W : own_W p l e R s m args below meth c Z y ret code ml ws T h cells slots) {u : Int64} {pc : Nat} (pc' : Nat) {L : Array Slot} {st : List Value} (hd : decode code pc = .ok (.l2d, 1)) (hp : pc + 1 = pc') (k : own_Go p e below C T (mkF m pc' L (.double (FP.l2d u) :: st))) : own_Go p e below C T (mkF m pc L (.long u :: st)) := by
  have hsz := own_le W
  obtain ⟨⟨hx, hby, hml, hown, hnm, hrt, hlk, hZ⟩, locs, X, eT, N⟩ := W
  subst hp
  exact own_st (fun _ k => XS.l2dS X.here hx rfl (hb hby hd) rfl rfl k) k
theorem own_dadd (W : own_W p l e R s m args below meth c Z y ret code ml ws T h cells slots) {u v : UInt64} {pc : Nat} (pc' : Nat) {L : Array Slot} {st : List Value} (hd : decode code pc = .ok (.dadd, 1)) (hn : Jvm.Free.Fl.NoNaN64 (FP.dadd u v)) (hp : pc + 1 = pc') (k : own_Go p e below C T (mkF m pc' L (.double (FP.dadd u v) :: st))) : own_Go p e below C T (mkF m pc L (.double v :: .double u :: st)) := by
  have hsz := own_le W
  obtain ⟨⟨hx, hby, hml, hown, hnm, hrt, hlk, hZ⟩, locs, X, eT, N⟩ := W
  subst hp
  exact own_st (fun _ k => XS.daddS X.here hx rfl (hb hby hd) rfl hn rfl k) k
theorem own_ddiv (W : own_W p l e R s m args below meth c Z y ret code ml ws T h cells slots) {u v : UInt64} {pc : Nat} (pc' : Nat) {L : Array Slot} {st : List Value} (hd : decode code pc = .ok (.ddiv, 1)) (hn : Jvm.Free.Fl.NoNaN64 (FP.ddiv u v)) (hp : pc + 1 = pc') (k : own_Go p e below C T (mkF m pc' L (.double (FP.ddiv u v) :: st))) : own_Go p e below C T (mkF m pc L (.double v :: .double u :: st)) := by
  have hsz := own_le W
  obtain ⟨⟨hx, hby, hml, hown, hnm, hrt, hlk, hZ⟩, locs, X, eT, N⟩ := W
  subst hp
  exact own_st (fun _ k => XS.ddivS X.here hx rfl (hb hby hd) rfl hn rfl k) k
theorem own_dcmpl (W : own_W p l e R s m args below meth c Z y ret code ml ws T h cells slots) {u v : UInt64} {pc : Nat} (pc' : Nat) {L : Array Slot} {st : List Value} (hd : decode code pc = .ok (.dcmp .l, 1)) (hp : pc + 1 = pc') (k : own_Go p e below C T (mkF m pc' L (.int (cmpValue (FP.dcmp u v) .l) :: st))) : own_Go p e below C T (mkF m pc L (.double v :: .double u :: st)) := by
  have hsz := own_le W
  obtain ⟨⟨hx, hby, hml, hown, hnm, hrt, hlk, hZ⟩, locs, X, eT, N⟩ := W
  subst hp
  exact own_st (fun _ k => XS.dcmpS X.here hx rfl (hb hby hd) rfl rfl k) k
theorem own_daload (W : own_W p l e R s m args below meth c Z y ret code ml ws T h cells slots) {a : Addr} {z : Int32} {n : Nat} {f : Nat → Value} (k : Nat) (v : UInt64) {pc : Nat} (pc' : Nat) {L : Array Slot} {st : List Value} (hd : decode code pc = .ok (.daload, 1)) (F : own_A Z h a .double n f) (hz : z.toInt = (k : Int)) (hk : k < n) (hv : f k = (.double v)) (hp : pc + 1 = pc') (kk : own_Go p e below C T (mkF m pc' L (.double v :: st))) : own_Go p e below C T (mkF m pc L (.int z :: .ref a :: st)) := by
  have hsz := own_le W
  obtain ⟨⟨hx, hby, hml, hown, hnm, hrt, hlk, hZ⟩, locs, X, eT, N⟩ := W
  subst hp eT
  obtain ⟨cl, A, hs, hf⟩ := F
  have hat : cl.slots[z.toNatClampNeg]? = some (.double v) := by rw [own_cl hz, hf k hk, hv]
  exact own_st (fun t q => X.daload hx A.1 (State.isArrayOf_alike hZ.alike A.2.1) A.2.2 (own_in hz hs hk) hat (g := mkF m pc L (.int z :: .ref a :: st)) rfl rfl (hb hby hd) t q) kk
theorem own_dastore (W : own_W p l e R s m args below meth c Z y ret code ml ws T h cells slots) {a : Addr} {z : Int32} {n : Nat} {f : Nat → Value} {xx : UInt64} (k : Nat) {pc : Nat} (pc' : Nat) {L : Array Slot} {st : List Value} (hd : decode code pc = .ok (.dastore, 1)) (F : own_A Z h a .double n f) (ha : a ∈ ws ∨ s.heap.size ≤ a) (hz : z.toInt = (k : Int)) (hk : k < n) (hp : pc + 1 = pc') (kk : ∀ T' h', own_W p l e R s m args below meth c Z y ret code ml ws T' h' cells slots → Wr h h' a k (.double xx) → own_A Z h' a .double n (own_upd f k (.double xx)) → own_Go p e below C T' (mkF m pc' L st)) : own_Go p e below C T (mkF m pc L (.double xx :: .int z :: .ref a :: st)) := by
  have hsz := own_le W
  obtain ⟨⟨hx, hby, hml, hown, hnm, hrt, hlk, hZ⟩, locs, X, eT, N⟩ := W
  subst hp
  have F' := F
  obtain ⟨cl, A, hs, hf⟩ := F
  obtain ⟨T', h', X', e', W', st'⟩ := stD X hx hZ eT A (j := z) (own_in hz hs hk) (g := mkF m pc L (.double xx :: .int z :: .ref a :: st)) rfl rfl (hb hby hd)
  rw [own_cl hz] at W'
  exact own_st st' (kk T' h' ⟨⟨hx, hby, hml, hown, hnm, hrt, hlk, hZ⟩, _, X', e', own_Fw_snoc N ha⟩ W' (F'.set W' hk))
theorem own_retD {Q : Option Value → Heap → Prop} {kc ks : Nat} {z : UInt64} (W : own_W p l e R s m args below meth c Z y (some .double) code ml ws T h cells slots) (hC : ∀ v L u, own_Fw s ws L → Q v u.heap → FrameEnd s (.returned v) u L kc ks → C (.returned v) u) (hcl : cells ≤ kc) (hsl : slots ≤ ks) {pc : Nat} {L : Array Slot} {st : List Value} (hd : decode code pc = .ok (.dreturn, 1)) (hq : Q (some (.double z)) h) : own_Go p e below C T (mkF m pc L (.double z :: st)) := by
  have hsz := own_le W
  obtain ⟨⟨hx, hby, hml, hown, hnm, hrt, hlk, hZ⟩, locs, X, eT, N⟩ := W
  subst eT
  obtain ⟨fs, hr, hrun, hended, hW, hsame⟩ := X.leave (v := some (.double z)) (fun h => by rw [hrt] at h; cases h) hlk
  refine ⟨_, _, ?_, hrun, hended, hC _ _ _ N hq ⟨⟨_, rfl⟩, hW, hsame.mono hcl hsl⟩⟩
  exact retOut X hx hrt rfl (Or.inr (Or.inr (Or.inl ⟨rfl, rfl, _, rfl⟩))) (hb hby hd) hr
end OwnDbl
theorem own_off (u : Int32) : ∃ k : Nat, ((u &&& (2147483647 : Int32)) % (5 : Int32)).toInt = (k : Int) ∧ k < 5 := by
  have h1 := c_mask u 2147483647 31 (by decide) (by decide)
  have h2 := (c_irem (u &&& 2147483647) 5 5 rfl).1
  have h3 : 0 ≤ (u &&& 2147483647).toInt := by rw [h1]; omega
  have h4 := h2 h3
  exact ⟨((u &&& 2147483647) % 5).toInt.toNat, by omega, by omega⟩
theorem own_ofN {u : Int32} {k : Nat} (h : u.toInt = (k : Int)) (hk : k < 2147483648) : u = Int32.ofNat k := by
  have h1 := (back32 (own_nn h)).1
  rw [own_cl h] at h1
  exact h1.symm
theorem own_inc {u : Int32} {k : Nat} (h : u.toInt = (k : Int)) (hk : k < 2000000000) : (u + (1 : Int32)).toInt = ((k + 1 : Nat) : Int) := by
  have h1 := c_iadd u 1
  have h2 := rng32 (u + 1)
  have h3 : (1 : Int32).toInt = 1 := rfl
  omega
theorem own_ltN {u v : Int32} {i j : Nat} (hu : u.toInt = (i : Int)) (hv : v.toInt = (j : Int)) : u < v ↔ i < j := by
  rw [Int32.lt_iff_toInt_lt]; omega
theorem own_lt0 {u : Int32} : u < 0 ↔ u.toInt < 0 := by
  rw [Int32.lt_iff_toInt_lt]; have : (0 : Int32).toInt = 0 := rfl
  rw [this]
theorem own_lt5 {n : Nat} (h : n < 5) : n = 0 ∨ n = 1 ∨ n = 2 ∨ n = 3 ∨ n = 4 := by omega
theorem own_lt4 {n : Nat} (h : n < 4) : n = 0 ∨ n = 1 ∨ n = 2 ∨ n = 3 := by omega
def own_g (x0 x1 x2 x3 : Int32) (j : Nat) : Int32 := if j = 0 then x0 else if j = 1 then x1 else if j = 2 then x2 else x3
theorem own_lt0q {u : Int64} : u < 0 ↔ u.toInt < 0 := by
  rw [Int64.lt_iff_toInt_lt]; have : (0 : Int64).toInt = 0 := rfl
  rw [this]
theorem own_eqq {u v : Int64} (h : u.toInt = v.toInt) : u = v := Int64.toInt_inj.mp h
theorem own_remself {q : Int64} (h : 0 ≤ q.toInt) : (q - (q / q) * q) = 0 := by
  apply own_eqq
  rw [(c_lrem q q q.toInt rfl).1 h, Int.emod_self]
  rfl
theorem own_sr32 {u : Int64} (h0 : 0 ≤ u.toInt) : (u >>> ((32 : Int32) &&& 0x3f).toInt64).toInt = u.toInt / 4294967296 := by
  have := c_lshr u 32 32 (by decide)
  simpa using this
theorem own_sr0 {u : Int64} (h0 : 0 ≤ u.toInt) (h : u.toInt < 4294967296) : (u >>> ((32 : Int32) &&& 0x3f).toInt64) = 0 := by
  apply own_eqq
  rw [own_sr32 h0]
  show _ = (0 : Int)
  omega
theorem own_ur0 {u : Int64} (h0 : 0 ≤ u.toInt) (h : u.toInt < 4294967296) : ((u.toUInt64 >>> ((32 : Int32) &&& 0x3f).toInt64.toUInt64).toInt64) = 0 := by
  apply own_eqq
  rw [c_lushr u 32 32 (by decide) (by decide)]
  simp only [Nat.reducePow]
  show _ = (0 : Int)
  omega
theorem own_tn64 {u : Int64} {k : Nat} (h : u.toInt = (k : Int)) : u.toBitVec.toNat = k ∧ k < 9223372036854775808 := by
  have h1 : u.toBitVec.toInt = (k : Int) := h
  rw [BitVec.toInt_eq_toNat_cond] at h1
  have := u.toBitVec.isLt
  split at h1 <;> omega
theorem own_nt64 {u : Int64} {k : Nat} (h : u.toBitVec.toNat = k) (hk : k < 9223372036854775808) : u.toInt = (k : Int) := by
  show u.toBitVec.toInt = (k : Int)
  rw [BitVec.toInt_eq_toNat_cond, h]
  split
  · rfl
  · omega
theorem own_low {u : Int64} (h0 : 0 ≤ u.toInt) : (u &&& (4294967295 : Int64)).toInt = u.toInt % 4294967296 := by
  obtain ⟨X, h⟩ : ∃ X : Nat, u.toInt = (X : Int) := ⟨u.toInt.toNat, by omega⟩
  have h1 := own_tn64 h
  rw [h, own_nt64 (u := u &&& (4294967295 : Int64)) (k := X % 4294967296) ?_ (by omega)]
  · omega
  · show (u.toBitVec &&& 4294967295#64).toNat = _
    rw [BitVec.toNat_and, h1.1]
    show X &&& (2 ^ 32 - 1) = X % 2 ^ 32
    exact Nat.and_two_pow_sub_one_eq_mod X 32
theorem own_lowid {u : Int64} (h0 : 0 ≤ u.toInt) (h : u.toInt < 4294967296) : (u &&& (4294967295 : Int64)) = u := by
  apply own_eqq
  rw [own_low h0]
  omega
theorem own_max63 (u : Int64) : 0 ≤ (u &&& (9223372036854775807 : Int64)).toInt := by
  have h1 : (u &&& (9223372036854775807 : Int64)).toBitVec.toNat < 9223372036854775808 := by
    show (u.toBitVec &&& 9223372036854775807#64).toNat < _
    rw [BitVec.toNat_and]
    exact Nat.lt_of_le_of_lt Nat.and_le_right (by decide)
  rw [own_nt64 rfl h1]
  omega
theorem own_upI (g : Nat → Int32) (k : Nat) (v : Int32) : ∃ g' : Nat → Int32, (∀ j, own_upd (fun j => .int (g j)) k (.int v) j = .int (g' j)) ∧ g' k = v ∧ ∀ j, j ≠ k → g' j = g j := by
  refine ⟨fun j => if j = k then v else g j, fun j => ?_, if_pos rfl, fun j hj => if_neg hj⟩
  show (if j = k then Value.int v else Value.int (g j)) = Value.int (if j = k then v else g j)
  split <;> rfl
theorem own_upJ (g : Nat → Int64) (k : Nat) (v : Int64) : ∃ g' : Nat → Int64, (∀ j, own_upd (fun j => .long (g j)) k (.long v) j = .long (g' j)) ∧ g' k = v ∧ ∀ j, j ≠ k → g' j = g j := by
  refine ⟨fun j => if j = k then v else g j, fun j => ?_, if_pos rfl, fun j hj => if_neg hj⟩
  show (if j = k then Value.long v else Value.long (g j)) = Value.long (if j = k then v else g j)
  split <;> rfl
theorem own_upD (g : Nat → UInt64) (k : Nat) (v : UInt64) : ∃ g' : Nat → UInt64, (∀ j, own_upd (fun j => .double (g j)) k (.double v) j = .double (g' j)) ∧ g' k = v ∧ ∀ j, j ≠ k → g' j = g j := by
  refine ⟨fun j => if j = k then v else g j, fun j => ?_, if_pos rfl, fun j hj => if_neg hj⟩
  show (if j = k then Value.double v else Value.double (g j)) = Value.double (if j = k then v else g j)
  split <;> rfl
theorem own_mm {K K' : Nat} {x : UInt64} (h : Jvm.Free.Fl.Mag64 K x) (q : K ≤ K') : Jvm.Free.Fl.Mag64 K' x := by
  unfold Jvm.Free.Fl.Mag64 at *
  exact Nat.lt_of_lt_of_le h (Nat.mul_le_mul_right _ q)
theorem own_nq {d : Int64} (h : 0 < d.toInt) : d ≠ 0 := fun q => by
  rw [q] at h
  have : (0 : Int64).toInt = 0 := rfl
  omega
theorem own_qm {a d : Int64} (h : 0 < d.toInt) : Jvm.Free.Fl.Mag64 1089 (FP.ddiv (FP.l2d a) (FP.l2d d)) := by
  have h1 := Jvm.RoadKit.ddiv_mag (K := 1088) (L := 1023) (Jvm.Free.Fl.l2d_mag a) (Jvm.RoadKit.l2d_big (own_nq h)) (by omega) (by omega)
  exact own_mm h1 (by omega)
theorem own_mn {K : Nat} {x : UInt64} (h : Jvm.Free.Fl.Mag64 K x) (q : K ≤ 2047) : Jvm.Free.Fl.NoNaN64 x := (h.fin q).noNaN
theorem own_qn {a d : Int64} (h : 0 < d.toInt) : Jvm.Free.Fl.NoNaN64 (FP.ddiv (FP.l2d a) (FP.l2d d)) := own_mn (own_qm h) (by decide)
theorem own_am {K : Nat} {x y : UInt64} (hx : Jvm.Free.Fl.Mag64 K x) (hy : Jvm.Free.Fl.Mag64 K y) (q : K ≤ 2000) : Jvm.Free.Fl.Mag64 (K + 2) (FP.dadd x y) := Jvm.Free.Fl.dadd_mag hx hy (by omega)
theorem own_gt0 {d : Int64} (h : 0 < d.toInt) : (0 : Int64) < d := by rw [Int64.lt_iff_toInt_lt]; have : (0 : Int64).toInt = 0 := rfl; rw [this]; exact h
theorem ef_m1 (m : MethodId) (x0 : Int64) (x1 : Int64) : entryFrame m #[(.long x0), (.long x1)] 4 = mkF m 0 #[.val (.long x0), .second, .val (.long x1), .second] [] := by first | (simp [entryFrame, mkF, argsToLocals, Value.category]; done) | rfl
set_option maxRecDepth 65536 in
set_option maxHeartbeats 40000000 in
theorem own_m1 (l : Launch) (Z : State) (a0 : Array Value) (hw : ∀ d ∈ tables_1, d.before a0 Z = true) (wo : List Jvm.Cond) (h0 : Heap) (q1 : Int64) (q2 : Int64) :
    own_M l Z wo (⟨"java/lang/Math", "max", "(JJ)J"⟩ : MethodName) jdk_29_method_66_code 4 (some .long) ({ frames := 0, cells := 0, slots := 0, locals := 0 } : Room) [] #[(.long q1), (.long q2)] h0 (fun v h => v = some (.long (if q1 < q2 then q2 else q1))) := by
  refine own_body (Jvm.Free.JP.mathPlain rfl (by decide +kernel)) (fun m => ef_m1 m q1 q2) ?_
  intro p e s m below meth c C hC T0 W0
  refine own_lloadN W0 1 d1_0 rfl rfl ?_
  refine own_lloadN W0 2 d1_1 rfl rfl ?_
  refine own_lcmp W0 3 d1_2 rfl ?_
  suffices J1 : own_Go p e below C T0 (mkF m 11 #[.val (.long q1), .second, .val (.long q2), .second] [(.long (if q1 < q2 then q2 else q1))]) by
    by_cases c2 : q1 < q2
    · refine own_ifY W0 10 d1_3 ((if0 _ _).trans (tlt ((lw_lt q1 q2).mpr c2)).1) (by decide) (by decide) ?_
      refine own_lloadN W0 11 d1_10 rfl rfl ?_
      first | (simp only [if_pos c2] at J1; exact J1) | (simp only [if_pos c2] at J1 ⊢; exact J1)
    · refine own_ifN W0 6 d1_3 ((if0 _ _).trans (flt (mt (lw_lt q1 q2).mp c2)).1) rfl ?_
      refine own_lloadN W0 7 d1_6 rfl rfl ?_
      refine own_goto W0 11 d1_7 (by decide) (by decide) ?_
      first | (simp only [if_neg c2] at J1; exact J1) | (simp only [if_neg c2] at J1 ⊢; exact J1)
  refine own_retJ (Q := fun v h => v = some (.long (if q1 < q2 then q2 else q1))) W0 hC (by decide) (by decide) d1_11 ?_
  exact rfl
theorem ef_m5 (m : MethodId) (x0 : Int64) (x1 : Int64) : entryFrame m #[(.long x0), (.long x1)] 10 = mkF m 0 #[.val (.long x0), .second, .val (.long x1), .second, .unset, .unset, .unset, .unset, .unset, .unset] [] := by first | (simp [entryFrame, mkF, argsToLocals, Value.category]; done) | rfl
set_option maxRecDepth 65536 in
set_option maxHeartbeats 40000000 in
theorem own_m5 (l : Launch) (Z : State) (a0 : Array Value) (hw : ∀ d ∈ tables_1, d.before a0 Z = true) (wo : List Jvm.Cond) (h0 : Heap) (q1 : Int64) (q2 : Int64) (he : q1 = q2) (hp : 0 < q2.toInt) :
    own_M l Z wo (⟨"com/example/queueloom/queueloom/engine/QuotientSums", "greatestCommonDivisor", "(JJ)J"⟩ : MethodName) prog_67_method_10_code 10 (some .long) ({ frames := 0, cells := 0, slots := 0, locals := 0 } : Room) [] #[(.long q1), (.long q2)] h0 (fun v h => v = some (.long q2)) := by
  refine own_body (plainFor_of_name pn_5) (fun m => ef_m5 m q1 q2) ?_
  intro p e s m below meth c C hC T0 W0
  refine own_lloadN W0 1 d5_0 rfl rfl ?_
  refine own_lstore W0 3 #[.val (.long q1), .second, .val (.long q2), .second, .val (.long q1), .second, .unset, .unset, .unset, .unset] d5_1 rfl rfl ?_
  refine own_lloadN W0 4 d5_3 rfl rfl ?_
  refine own_lstore W0 6 #[.val (.long q1), .second, .val (.long q2), .second, .val (.long q1), .second, .val (.long q2), .second, .unset, .unset] d5_4 rfl rfl ?_
  refine own_lload W0 8 d5_6 rfl rfl ?_
  refine own_lconst W0 (0 : Int64) 9 d5_8 rfl rfl ?_
  refine own_lcmp W0 10 d5_9 rfl ?_
  refine own_ifN W0 13 d5_10 ((if0 _ _).trans (feq (mt (lw_eq q2 (0 : Int64)).mp ((fun q => by rw [q] at hp; have : (0 : Int64).toInt = 0 := rfl; omega) : ¬ (q2 = (0 : Int64))))).1) rfl ?_
  refine own_lload W0 15 d5_13 rfl rfl ?_
  refine own_lload W0 17 d5_15 rfl rfl ?_
  refine own_lrem W0 18 d5_17 (fun q => by rw [q] at hp; have : (0 : Int64).toInt = 0 := rfl; omega) rfl ?_
  refine own_lstore W0 20 #[.val (.long q1), .second, .val (.long q2), .second, .val (.long q1), .second, .val (.long q2), .second, .val (.long (q1 - (q1 / q2) * q2)), .second] d5_18 rfl rfl ?_
  refine own_lload W0 22 d5_20 rfl rfl ?_
  refine own_lstore W0 24 #[.val (.long q1), .second, .val (.long q2), .second, .val (.long q2), .second, .val (.long q2), .second, .val (.long (q1 - (q1 / q2) * q2)), .second] d5_22 rfl rfl ?_
  refine own_lload W0 26 d5_24 rfl rfl ?_
  refine own_lstore W0 28 #[.val (.long q1), .second, .val (.long q2), .second, .val (.long q2), .second, .val (.long (q1 - (q1 / q2) * q2)), .second, .val (.long (q1 - (q1 / q2) * q2)), .second] d5_26 rfl rfl ?_
  refine own_goto W0 6 d5_28 (by decide) (by decide) ?_
  refine own_lload W0 8 d5_6 rfl rfl ?_
  refine own_lconst W0 (0 : Int64) 9 d5_8 rfl rfl ?_
  refine own_lcmp W0 10 d5_9 rfl ?_
  refine own_ifY W0 31 d5_10 ((if0 _ _).trans (teq ((lw_eq (q1 - (q1 / q2) * q2) (0 : Int64)).mpr ((by rw [he]; exact own_remself (by omega)) : (q1 - (q1 / q2) * q2) = (0 : Int64)))).1) (by decide) (by decide) ?_
  refine own_lload W0 33 d5_31 rfl rfl ?_
  refine own_retJ (Q := fun v h => v = some (.long q2)) W0 hC (by decide) (by decide) d5_33 ?_
  exact rfl
theorem ef_m7 (m : MethodId) (x0 : Int64) (x1 : Int64) : entryFrame m #[(.long x0), (.long x1)] 20 = mkF m 0 #[.val (.long x0), .second, .val (.long x1), .second, .unset, .unset, .unset, .unset, .unset, .unset, .unset, .unset, .unset, .unset, .unset, .unset, .unset, .unset, .unset, .unset] [] := by first | (simp [entryFrame, mkF, argsToLocals, Value.category]; done) | rfl
set_option maxRecDepth 65536 in
set_option maxHeartbeats 40000000 in
theorem own_m7 (l : Launch) (Z : State) (a0 : Array Value) (hw : ∀ d ∈ tables_1, d.before a0 Z = true) (wo : List Jvm.Cond) (h0 : Heap) (q1 : Int64) (hp : 0 ≤ q1.toInt) :
    own_M l Z wo (⟨"java/lang/Math", "multiplyHigh", "(JJ)J"⟩ : MethodName) jdk_29_method_45_code 20 (some .long) ({ frames := 0, cells := 0, slots := 0, locals := 0 } : Room) [] #[(.long q1), (.long (1 : Int64))] h0 (fun v h => v = some (.long (0 : Int64))) := by
  refine own_body (Jvm.Free.JP.mathPlain rfl (by decide +kernel)) (fun m => ef_m7 m q1 (1 : Int64)) ?_
  intro p e s m below meth c C hC T0 W0
  refine own_lloadN W0 1 d7_0 rfl rfl ?_
  refine own_bipush W0 (32 : Int32) 3 d7_1 rfl rfl ?_
  refine own_lshr W0 4 d7_3 rfl ?_
  have h1 := own_sr32 hp
  generalize h_x1 : (q1 >>> ((32 : Int32) &&& 0x3f).toInt64) = x1 at h1 ⊢
  show own_Go p e below C T0 (mkF m 4 #[.val (.long q1), .second, .val (.long (1 : Int64)), .second, .unset, .unset, .unset, .unset, .unset, .unset, .unset, .unset, .unset, .unset, .unset, .unset, .unset, .unset, .unset, .unset] [(.long x1)])
  refine own_lstore W0 6 #[.val (.long q1), .second, .val (.long (1 : Int64)), .second, .val (.long x1), .second, .unset, .unset, .unset, .unset, .unset, .unset, .unset, .unset, .unset, .unset, .unset, .unset, .unset, .unset] d7_4 rfl rfl ?_
  refine own_lloadN W0 7 d7_6 rfl rfl ?_
  refine own_ldc2Long W0 10 d7_7 (wd39 hw) rfl ?_
  refine own_land W0 11 d7_10 rfl ?_
  have h2 := own_low hp
  have hr := rng64 q1
  generalize h_x2 : (q1 &&& (4294967295 : Int64)) = x2 at h2 ⊢
  show own_Go p e below C T0 (mkF m 11 #[.val (.long q1), .second, .val (.long (1 : Int64)), .second, .val (.long x1), .second, .unset, .unset, .unset, .unset, .unset, .unset, .unset, .unset, .unset, .unset, .unset, .unset, .unset, .unset] [(.long x2)])
  refine own_lstore W0 13 #[.val (.long q1), .second, .val (.long (1 : Int64)), .second, .val (.long x1), .second, .val (.long x2), .second, .unset, .unset, .unset, .unset, .unset, .unset, .unset, .unset, .unset, .unset, .unset, .unset] d7_11 rfl rfl ?_
  refine own_lloadN W0 14 d7_13 rfl rfl ?_
  refine own_bipush W0 (32 : Int32) 16 d7_14 rfl rfl ?_
  refine own_lshr W0 17 d7_16 rfl ?_
  rw [show ((1 : Int64) >>> ((32 : Int32) &&& 0x3f).toInt64) = (0 : Int64) from (by decide)]
  refine own_lstore W0 19 #[.val (.long q1), .second, .val (.long (1 : Int64)), .second, .val (.long x1), .second, .val (.long x2), .second, .val (.long (0 : Int64)), .second, .unset, .unset, .unset, .unset, .unset, .unset, .unset, .unset, .unset, .unset] d7_17 rfl rfl ?_
  refine own_lloadN W0 20 d7_19 rfl rfl ?_
  refine own_ldc2Long W0 23 d7_20 (wd39 hw) rfl ?_
  refine own_land W0 24 d7_23 rfl ?_
  rw [show ((1 : Int64) &&& (4294967295 : Int64)) = (1 : Int64) from (by decide)]
  refine own_lstore W0 26 #[.val (.long q1), .second, .val (.long (1 : Int64)), .second, .val (.long x1), .second, .val (.long x2), .second, .val (.long (0 : Int64)), .second, .val (.long (1 : Int64)), .second, .unset, .unset, .unset, .unset, .unset, .unset, .unset, .unset] d7_24 rfl rfl ?_
  refine own_lload W0 28 d7_26 rfl rfl ?_
  refine own_lload W0 30 d7_28 rfl rfl ?_
  refine own_lmul W0 31 d7_30 rfl ?_
  rw [show (x2 * (1 : Int64)) = x2 from Int64.mul_one _]
  refine own_lstore W0 33 #[.val (.long q1), .second, .val (.long (1 : Int64)), .second, .val (.long x1), .second, .val (.long x2), .second, .val (.long (0 : Int64)), .second, .val (.long (1 : Int64)), .second, .val (.long x2), .second, .unset, .unset, .unset, .unset, .unset, .unset] d7_31 rfl rfl ?_
  refine own_lload W0 35 d7_33 rfl rfl ?_
  refine own_lload W0 37 d7_35 rfl rfl ?_
  refine own_lmul W0 38 d7_37 rfl ?_
  rw [show (x1 * (1 : Int64)) = x1 from Int64.mul_one _]
  refine own_lload W0 40 d7_38 rfl rfl ?_
  refine own_bipush W0 (32 : Int32) 42 d7_40 rfl rfl ?_
  refine own_lushr W0 43 d7_42 rfl ?_
  rw [show ((x2.toUInt64 >>> ((32 : Int32) &&& 0x3f).toInt64.toUInt64).toInt64) = (0 : Int64) from own_ur0 (by omega) (by omega)]
  refine own_ladd W0 44 d7_43 rfl ?_
  rw [show (x1 + (0 : Int64)) = x1 from Int64.add_zero _]
  refine own_lstore W0 46 #[.val (.long q1), .second, .val (.long (1 : Int64)), .second, .val (.long x1), .second, .val (.long x2), .second, .val (.long (0 : Int64)), .second, .val (.long (1 : Int64)), .second, .val (.long x2), .second, .val (.long x1), .second, .unset, .unset, .unset, .unset] d7_44 rfl rfl ?_
  refine own_lload W0 48 d7_46 rfl rfl ?_
  refine own_ldc2Long W0 51 d7_48 (wd39 hw) rfl ?_
  refine own_land W0 52 d7_51 rfl ?_
  rw [show (x1 &&& (4294967295 : Int64)) = x1 from own_lowid (by omega) (by omega)]
  refine own_lstore W0 54 #[.val (.long q1), .second, .val (.long (1 : Int64)), .second, .val (.long x1), .second, .val (.long x2), .second, .val (.long (0 : Int64)), .second, .val (.long (1 : Int64)), .second, .val (.long x2), .second, .val (.long x1), .second, .val (.long x1), .second, .unset, .unset] d7_52 rfl rfl ?_
  refine own_lload W0 56 d7_54 rfl rfl ?_
  refine own_bipush W0 (32 : Int32) 58 d7_56 rfl rfl ?_
  refine own_lshr W0 59 d7_58 rfl ?_
  rw [show (x1 >>> ((32 : Int32) &&& 0x3f).toInt64) = (0 : Int64) from own_sr0 (by omega) (by omega)]
  refine own_lstore W0 61 #[.val (.long q1), .second, .val (.long (1 : Int64)), .second, .val (.long x1), .second, .val (.long x2), .second, .val (.long (0 : Int64)), .second, .val (.long (1 : Int64)), .second, .val (.long x2), .second, .val (.long x1), .second, .val (.long x1), .second, .val (.long (0 : Int64)), .second] d7_59 rfl rfl ?_
  refine own_lload W0 63 d7_61 rfl rfl ?_
  refine own_lload W0 65 d7_63 rfl rfl ?_
  refine own_lload W0 67 d7_65 rfl rfl ?_
  refine own_lmul W0 68 d7_67 rfl ?_
  rw [show (x2 * (0 : Int64)) = (0 : Int64) from Int64.mul_zero]
  refine own_ladd W0 69 d7_68 rfl ?_
  rw [show (x1 + (0 : Int64)) = x1 from Int64.add_zero _]
  refine own_lstore W0 71 #[.val (.long q1), .second, .val (.long (1 : Int64)), .second, .val (.long x1), .second, .val (.long x2), .second, .val (.long (0 : Int64)), .second, .val (.long (1 : Int64)), .second, .val (.long x2), .second, .val (.long x1), .second, .val (.long x1), .second, .val (.long (0 : Int64)), .second] d7_69 rfl rfl ?_
  refine own_lload W0 73 d7_71 rfl rfl ?_
  refine own_lload W0 75 d7_73 rfl rfl ?_
  refine own_lmul W0 76 d7_75 rfl ?_
  rw [show (x1 * (0 : Int64)) = (0 : Int64) from Int64.mul_zero]
  refine own_lload W0 78 d7_76 rfl rfl ?_
  refine own_ladd W0 79 d7_78 rfl ?_
  rw [show ((0 : Int64) + (0 : Int64)) = (0 : Int64) from Int64.add_zero _]
  refine own_lload W0 81 d7_79 rfl rfl ?_
  refine own_bipush W0 (32 : Int32) 83 d7_81 rfl rfl ?_
  refine own_lshr W0 84 d7_83 rfl ?_
  rw [show (x1 >>> ((32 : Int32) &&& 0x3f).toInt64) = (0 : Int64) from own_sr0 (by omega) (by omega)]
  refine own_ladd W0 85 d7_84 rfl ?_
  rw [show ((0 : Int64) + (0 : Int64)) = (0 : Int64) from Int64.add_zero _]
  refine own_retJ (Q := fun v h => v = some (.long (0 : Int64))) W0 hC (by decide) (by decide) d7_85 ?_
  exact rfl
theorem ef_m6 (m : MethodId) (x0 : Int64) (x1 : Int64) : entryFrame m #[(.long x0), (.long x1)] 6 = mkF m 0 #[.val (.long x0), .second, .val (.long x1), .second, .unset, .unset] [] := by first | (simp [entryFrame, mkF, argsToLocals, Value.category]; done) | rfl
set_option maxRecDepth 65536 in
set_option maxHeartbeats 40000000 in
theorem own_m6 (l : Launch) (Z : State) (a0 : Array Value) (hw : ∀ d ∈ tables_1, d.before a0 Z = true) (wo : List Jvm.Cond) (h0 : Heap) (q1 : Int64) (hp : 0 ≤ q1.toInt) :
    own_M l Z wo (⟨"com/example/queueloom/queueloom/engine/QuotientSums", "product", "(JJ)J"⟩ : MethodName) prog_67_method_8_code 6 (some .long) ({ frames := 1, cells := 0, slots := 0, locals := 31 } : Room) [] #[(.long q1), (.long (1 : Int64))] h0 (fun v h => v = some (.long q1)) := by
  refine own_body (plainFor_of_name pn_6) (fun m => ef_m6 m q1 (1 : Int64)) ?_
  intro p e s m below meth c C hC T0 W0
  refine own_lloadN W0 1 d6_0 rfl rfl ?_
  refine own_lloadN W0 2 d6_1 rfl rfl ?_
  refine own_lmul W0 3 d6_2 rfl ?_
  rw [show (q1 * (1 : Int64)) = q1 from Int64.mul_one _]
  refine own_lstore W0 5 #[.val (.long q1), .second, .val (.long (1 : Int64)), .second, .val (.long q1), .second] d6_3 rfl rfl ?_
  refine own_lloadN W0 6 d6_5 rfl rfl ?_
  refine own_lloadN W0 7 d6_6 rfl rfl ?_
  refine own_callS W0 (A := [(.long q1), (.long (1 : Int64))]) (wt := 0) (pc' := 10) (st := []) d6_7 (wd36 hw) (wd37 hw) (wd3 hw) (wd38 hw) (by decide) (own_m7 l Z a0 hw [] h0 q1 hp) all0 rfl pd_0 rfl (Nat.le_of_eq rfl) (by decide) (by decide) (by decide) (by decide) rfl ?_
  rintro T1 h1 _ W1 K1 P1 rfl
  rw [P1 rfl rfl] at W1
  show own_Go p e below C T1 (mkF m 10 #[.val (.long q1), .second, .val (.long (1 : Int64)), .second, .val (.long q1), .second] [(.long (0 : Int64))])
  refine own_lconst W1 (0 : Int64) 11 d6_10 rfl rfl ?_
  refine own_lcmp W1 12 d6_11 rfl ?_
  refine own_ifN W1 15 d6_12 ((if0 _ _).trans (teq ((lw_eq (0 : Int64) (0 : Int64)).mpr (rfl : (0 : Int64) = (0 : Int64)))).2) rfl ?_
  refine own_lload W1 17 d6_15 rfl rfl ?_
  refine own_lconst W1 (0 : Int64) 18 d6_17 rfl rfl ?_
  refine own_lcmp W1 19 d6_18 rfl ?_
  refine own_ifN W1 22 d6_19 ((if0 _ _).trans (flt (mt (lw_lt q1 (0 : Int64)).mp ((fun q => by rw [own_lt0q] at q; omega) : ¬ (q1 < (0 : Int64))))).1) rfl ?_
  refine own_lload W1 24 d6_22 rfl rfl ?_
  refine own_goto W1 30 d6_24 (by decide) (by decide) ?_
  refine own_retJ (Q := fun v h => v = some (.long q1)) W1 hC (by decide) (by decide) d6_30 ?_
  exact rfl
theorem ef_m8 (m : MethodId) (x0 : Int64) (x1 : Int64) : entryFrame m #[(.long x0), (.long x1)] 6 = mkF m 0 #[.val (.long x0), .second, .val (.long x1), .second, .unset, .unset] [] := by first | (simp [entryFrame, mkF, argsToLocals, Value.category]; done) | rfl
set_option maxRecDepth 65536 in
set_option maxHeartbeats 40000000 in
theorem own_m8 (l : Launch) (Z : State) (a0 : Array Value) (hw : ∀ d ∈ tables_1, d.before a0 Z = true) (wo : List Jvm.Cond) (h0 : Heap) (q1 : Int64) (q2 : Int64) (h1 : 0 ≤ q1.toInt) (h2 : 0 ≤ q2.toInt) :
    own_M l Z wo (⟨"com/example/queueloom/queueloom/engine/QuotientSums", "sum", "(JJ)J"⟩ : MethodName) prog_67_method_9_code 6 (some .long) ({ frames := 0, cells := 0, slots := 0, locals := 0 } : Room) [] #[(.long q1), (.long q2)] h0 (fun v h => v = some (.long (if (q1 + q2) < (0 : Int64) then (-1 : Int64) else (q1 + q2)))) := by
  refine own_body (plainFor_of_name pn_8) (fun m => ef_m8 m q1 q2) ?_
  intro p e s m below meth c C hC T0 W0
  refine own_lloadN W0 1 d8_0 rfl rfl ?_
  refine own_lloadN W0 2 d8_1 rfl rfl ?_
  refine own_ladd W0 3 d8_2 rfl ?_
  refine own_lstore W0 5 #[.val (.long q1), .second, .val (.long q2), .second, .val (.long (q1 + q2)), .second] d8_3 rfl rfl ?_
  refine own_lloadN W0 6 d8_5 rfl rfl ?_
  refine own_lconst W0 (0 : Int64) 7 d8_6 rfl rfl ?_
  refine own_lcmp W0 8 d8_7 rfl ?_
  refine own_ifN W0 11 d8_8 ((if0 _ _).trans (flt (mt (lw_lt q1 (0 : Int64)).mp ((fun q => by rw [own_lt0q] at q; omega) : ¬ (q1 < (0 : Int64))))).1) rfl ?_
  refine own_lloadN W0 12 d8_11 rfl rfl ?_
  refine own_lconst W0 (0 : Int64) 13 d8_12 rfl rfl ?_
  refine own_lcmp W0 14 d8_13 rfl ?_
  refine own_ifN W0 17 d8_14 ((if0 _ _).trans (flt (mt (lw_lt q2 (0 : Int64)).mp ((fun q => by rw [own_lt0q] at q; omega) : ¬ (q2 < (0 : Int64))))).1) rfl ?_
  refine own_lload W0 19 d8_17 rfl rfl ?_
  refine own_lconst W0 (0 : Int64) 20 d8_19 rfl rfl ?_
  refine own_lcmp W0 21 d8_20 rfl ?_
  suffices J1 : own_Go p e below C T0 (mkF m 32 #[.val (.long q1), .second, .val (.long q2), .second, .val (.long (q1 + q2)), .second] [(.long (if (q1 + q2) < (0 : Int64) then (-1 : Int64) else (q1 + q2)))]) by
    by_cases c2 : (q1 + q2) < (0 : Int64)
    · refine own_ifY W0 29 d8_21 ((if0 _ _).trans (tlt ((lw_lt (q1 + q2) (0 : Int64)).mpr c2)).1) (by decide) (by decide) ?_
      refine own_ldc2Long W0 32 d8_29 (wd48 hw) rfl ?_
      first | (simp only [if_pos c2] at J1; exact J1) | (simp only [if_pos c2] at J1 ⊢; exact J1)
    · refine own_ifN W0 24 d8_21 ((if0 _ _).trans (flt (mt (lw_lt (q1 + q2) (0 : Int64)).mp c2)).1) rfl ?_
      refine own_lload W0 26 d8_24 rfl rfl ?_
      refine own_goto W0 32 d8_26 (by decide) (by decide) ?_
      first | (simp only [if_neg c2] at J1; exact J1) | (simp only [if_neg c2] at J1 ⊢; exact J1)
  refine own_retJ (Q := fun v h => v = some (.long (if (q1 + q2) < (0 : Int64) then (-1 : Int64) else (q1 + q2)))) W0 hC (by decide) (by decide) d8_32 ?_
  exact rfl
theorem own_le_ {p : Program} {l : Launch} {e : Env} {R : Room} {s : State} {m : MethodId} {args : Array Value} {below : List Frame} {meth : Method} {c : Code} {Z : State} {y : MethodName} {ret : Option FieldType} {code : ByteArray} {ml : Nat} {ws : List Addr} {T : State} {h : Heap} (W : own_W p l e R s m args below meth c Z y ret code ml ws T h 0 0) {a : Addr} (q : s.heap.size ≤ a) : h.size ≤ a := by
  obtain ⟨-, locs, X, rfl, -⟩ := W
  have h1 := X.heapSize
  exact Nat.le_trans h1 q
theorem ef_m2 (m : MethodId) (x0 : Addr) (x1 : Int32) : entryFrame m #[(.ref x0), (.int x1)] 2 = mkF m 0 #[.val (.ref x0), .val (.int x1)] [] := by first | (simp [entryFrame, mkF, argsToLocals, Value.category]; done) | rfl
set_option maxRecDepth 65536 in
set_option maxHeartbeats 40000000 in
theorem own_m2 (l : Launch) (Z : State) (a0 : Array Value) (hw : ∀ d ∈ tables_1, d.before a0 Z = true) (wo : List Jvm.Cond) (h0 : Heap) (a1 : Addr) (X_a1 : Exa Z h0 a1 "com/example/queueloom/queueloom/engine/QuotientSums") (F_numerators_a1 : Fld Z h0 a1 "com/example/queueloom/queueloom/engine/QuotientSums" "numerators" "[J" .null) (F_denominators_a1 : Fld Z h0 a1 "com/example/queueloom/queueloom/engine/QuotientSums" "denominators" "[J" .null) (F_approximations_a1 : Fld Z h0 a1 "com/example/queueloom/queueloom/engine/QuotientSums" "approximations" "[D" .null) (F_terms_a1 : Fld Z h0 a1 "com/example/queueloom/queueloom/engine/QuotientSums" "terms" "[I" .null) :
    own_M l Z wo (⟨"com/example/queueloom/queueloom/engine/QuotientSums", "<init>", "(I)V"⟩ : MethodName) prog_67_method_1_code 2 none ({ frames := 1, cells := 4, slots := 8, locals := 12 } : Room) [a1] #[(.ref a1), (.int (2 : Int32))] h0 (fun v h => v = none ∧ (∃ nA dA aA tA, h0.size ≤ nA ∧ h0.size ≤ dA ∧ h0.size ≤ aA ∧ h0.size ≤ tA ∧ nA ≠ dA ∧ nA ≠ aA ∧ nA ≠ tA ∧ dA ≠ aA ∧ dA ≠ tA ∧ aA ≠ tA ∧ Fld Z h a1 "com/example/queueloom/queueloom/engine/QuotientSums" "numerators" "[J" (.ref nA) ∧ Fld Z h a1 "com/example/queueloom/queueloom/engine/QuotientSums" "denominators" "[J" (.ref dA) ∧ Fld Z h a1 "com/example/queueloom/queueloom/engine/QuotientSums" "approximations" "[D" (.ref aA) ∧ Fld Z h a1 "com/example/queueloom/queueloom/engine/QuotientSums" "terms" "[I" (.ref tA) ∧ own_A Z h nA .long 2 (fun _ => .long 0) ∧ own_A Z h dA .long 2 (fun _ => .long 0) ∧ own_A Z h aA .double 2 (fun _ => .double 0) ∧ own_A Z h tA .int 2 (fun _ => .int 0))) := by
  refine own_body (plainFor_of_name pn_2) (fun m => ef_m2 m a1 (2 : Int32)) ?_
  intro p e s m below meth c C hC T0 W0
  refine own_aloadN W0 1 d2_0 rfl rfl rfl ?_
  refine own_initO W0 0 4 d2_1 (wd11 hw) (wd12 hw) (wd13 hw) rfl (Nat.le_of_eq rfl) (by decide) (by decide) rfl ?_
  intro T1 W1
  show own_Go p e below C T1 (mkF m 4 #[.val (.ref a1), .val (.int (2 : Int32))] [])
  refine own_aloadN W1 5 d2_4 rfl rfl rfl ?_
  refine own_iloadN W1 6 d2_5 rfl rfl ?_
  refine own_newarray W1 2 2 8 d2_6 (wd14 hw) rfl (Nat.le_refl _) (by decide) (by decide) (by decide) rfl ?_
  intro T2 h2 nA W2 E2 g_nA o_nA V_nA
  have ne_a1_nA : a1 ≠ nA := by rw [g_nA]; exact Nat.ne_of_lt X_a1.lt
  have X_a1 := X_a1.ext E2
  have F_numerators_a1 := F_numerators_a1.ext E2
  have F_denominators_a1 := F_denominators_a1.ext E2
  have F_approximations_a1 := F_approximations_a1.ext E2
  have F_terms_a1 := F_terms_a1.ext E2
  show own_Go p e below C T2 (mkF m 8 #[.val (.ref a1), .val (.int (2 : Int32))] [(.ref nA), (.ref a1)])
  refine own_putfield W2 (.ref nA) 11 d2_8 (wd15 hw) F_numerators_a1 X_a1 (Or.inl (wd16 hw)) (wd6 hw) (Or.inl (List.mem_of_getElem? (i := 0) rfl)) (ty := (.array .long)) (by decide) rfl rfl rfl ?_
  intro T3 h3 W3 Wr3 F_numerators_a1
  have X_a1 := X_a1.wr Wr3
  have F_denominators_a1 := F_denominators_a1.other Wr3 (Or.inr (slot_ne (Or.inl (wd18 hw)) (Or.inl (wd16 hw)) (by decide) (t := (.array .long)) (t' := (.array .long)) (by decide) (by decide)))
  have F_approximations_a1 := F_approximations_a1.other Wr3 (Or.inr (slot_ne (Or.inl (wd21 hw)) (Or.inl (wd16 hw)) (by decide) (t := (.array .double)) (t' := (.array .long)) (by decide) (by decide)))
  have F_terms_a1 := F_terms_a1.other Wr3 (Or.inr (slot_ne (Or.inl (wd24 hw)) (Or.inl (wd16 hw)) (by decide) (t := (.array .int)) (t' := (.array .long)) (by decide) (by decide)))
  have V_nA := V_nA.other Wr3 (Ne.symm ne_a1_nA)
  show own_Go p e below C T3 (mkF m 11 #[.val (.ref a1), .val (.int (2 : Int32))] [])
  refine own_aloadN W3 12 d2_11 rfl rfl rfl ?_
  refine own_iloadN W3 13 d2_12 rfl rfl ?_
  refine own_newarray W3 2 2 15 d2_13 (wd14 hw) rfl (Nat.le_refl _) (by decide) (by decide) (by decide) rfl ?_
  intro T4 h4 dA W4 E4 g_dA o_dA V_dA
  have ne_a1_dA : a1 ≠ dA := by rw [g_dA]; exact Nat.ne_of_lt X_a1.lt
  have ne_nA_dA : nA ≠ dA := by rw [g_dA]; exact Nat.ne_of_lt V_nA.lt
  have X_a1 := X_a1.ext E4
  have F_numerators_a1 := F_numerators_a1.ext E4
  have F_denominators_a1 := F_denominators_a1.ext E4
  have F_approximations_a1 := F_approximations_a1.ext E4
  have F_terms_a1 := F_terms_a1.ext E4
  have V_nA := V_nA.ext E4
  show own_Go p e below C T4 (mkF m 15 #[.val (.ref a1), .val (.int (2 : Int32))] [(.ref dA), (.ref a1)])
  refine own_putfield W4 (.ref dA) 18 d2_15 (wd17 hw) F_denominators_a1 X_a1 (Or.inl (wd18 hw)) (wd6 hw) (Or.inl (List.mem_of_getElem? (i := 0) rfl)) (ty := (.array .long)) (by decide) rfl rfl rfl ?_
  intro T5 h5 W5 Wr5 F_denominators_a1
  have X_a1 := X_a1.wr Wr5
  have F_numerators_a1 := F_numerators_a1.other Wr5 (Or.inr (slot_ne (Or.inl (wd16 hw)) (Or.inl (wd18 hw)) (by decide) (t := (.array .long)) (t' := (.array .long)) (by decide) (by decide)))
  have F_approximations_a1 := F_approximations_a1.other Wr5 (Or.inr (slot_ne (Or.inl (wd21 hw)) (Or.inl (wd18 hw)) (by decide) (t := (.array .double)) (t' := (.array .long)) (by decide) (by decide)))
  have F_terms_a1 := F_terms_a1.other Wr5 (Or.inr (slot_ne (Or.inl (wd24 hw)) (Or.inl (wd18 hw)) (by decide) (t := (.array .int)) (t' := (.array .long)) (by decide) (by decide)))
  have V_nA := V_nA.other Wr5 (Ne.symm ne_a1_nA)
  have V_dA := V_dA.other Wr5 (Ne.symm ne_a1_dA)
  show own_Go p e below C T5 (mkF m 18 #[.val (.ref a1), .val (.int (2 : Int32))] [])
  refine own_aloadN W5 19 d2_18 rfl rfl rfl ?_
  refine own_iloadN W5 20 d2_19 rfl rfl ?_
  refine own_newarray W5 2 2 22 d2_20 (wd19 hw) rfl (Nat.le_refl _) (by decide) (by decide) (by decide) rfl ?_
  intro T6 h6 aA W6 E6 g_aA o_aA V_aA
  have ne_a1_aA : a1 ≠ aA := by rw [g_aA]; exact Nat.ne_of_lt X_a1.lt
  have ne_nA_aA : nA ≠ aA := by rw [g_aA]; exact Nat.ne_of_lt V_nA.lt
  have ne_dA_aA : dA ≠ aA := by rw [g_aA]; exact Nat.ne_of_lt V_dA.lt
  have X_a1 := X_a1.ext E6
  have F_numerators_a1 := F_numerators_a1.ext E6
  have F_denominators_a1 := F_denominators_a1.ext E6
  have F_approximations_a1 := F_approximations_a1.ext E6
  have F_terms_a1 := F_terms_a1.ext E6
  have V_nA := V_nA.ext E6
  have V_dA := V_dA.ext E6
  show own_Go p e below C T6 (mkF m 22 #[.val (.ref a1), .val (.int (2 : Int32))] [(.ref aA), (.ref a1)])
  refine own_putfield W6 (.ref aA) 25 d2_22 (wd20 hw) F_approximations_a1 X_a1 (Or.inl (wd21 hw)) (wd6 hw) (Or.inl (List.mem_of_getElem? (i := 0) rfl)) (ty := (.array .double)) (by decide) rfl rfl rfl ?_
  intro T7 h7 W7 Wr7 F_approximations_a1
  have X_a1 := X_a1.wr Wr7
  have F_numerators_a1 := F_numerators_a1.other Wr7 (Or.inr (slot_ne (Or.inl (wd16 hw)) (Or.inl (wd21 hw)) (by decide) (t := (.array .long)) (t' := (.array .double)) (by decide) (by decide)))
  have F_denominators_a1 := F_denominators_a1.other Wr7 (Or.inr (slot_ne (Or.inl (wd18 hw)) (Or.inl (wd21 hw)) (by decide) (t := (.array .long)) (t' := (.array .double)) (by decide) (by decide)))
  have F_terms_a1 := F_terms_a1.other Wr7 (Or.inr (slot_ne (Or.inl (wd24 hw)) (Or.inl (wd21 hw)) (by decide) (t := (.array .int)) (t' := (.array .double)) (by decide) (by decide)))
  have V_nA := V_nA.other Wr7 (Ne.symm ne_a1_nA)
  have V_dA := V_dA.other Wr7 (Ne.symm ne_a1_dA)
  have V_aA := V_aA.other Wr7 (Ne.symm ne_a1_aA)
  show own_Go p e below C T7 (mkF m 25 #[.val (.ref a1), .val (.int (2 : Int32))] [])
  refine own_aloadN W7 26 d2_25 rfl rfl rfl ?_
  refine own_iloadN W7 27 d2_26 rfl rfl ?_
  refine own_newarray W7 2 2 29 d2_27 (wd22 hw) rfl (Nat.le_refl _) (by decide) (by decide) (by decide) rfl ?_
  intro T8 h8 tA W8 E8 g_tA o_tA V_tA
  have ne_a1_tA : a1 ≠ tA := by rw [g_tA]; exact Nat.ne_of_lt X_a1.lt
  have ne_nA_tA : nA ≠ tA := by rw [g_tA]; exact Nat.ne_of_lt V_nA.lt
  have ne_dA_tA : dA ≠ tA := by rw [g_tA]; exact Nat.ne_of_lt V_dA.lt
  have ne_aA_tA : aA ≠ tA := by rw [g_tA]; exact Nat.ne_of_lt V_aA.lt
  have X_a1 := X_a1.ext E8
  have F_numerators_a1 := F_numerators_a1.ext E8
  have F_denominators_a1 := F_denominators_a1.ext E8
  have F_approximations_a1 := F_approximations_a1.ext E8
  have F_terms_a1 := F_terms_a1.ext E8
  have V_nA := V_nA.ext E8
  have V_dA := V_dA.ext E8
  have V_aA := V_aA.ext E8
  show own_Go p e below C T8 (mkF m 29 #[.val (.ref a1), .val (.int (2 : Int32))] [(.ref tA), (.ref a1)])
  refine own_putfield W8 (.ref tA) 32 d2_29 (wd23 hw) F_terms_a1 X_a1 (Or.inl (wd24 hw)) (wd6 hw) (Or.inl (List.mem_of_getElem? (i := 0) rfl)) (ty := (.array .int)) (by decide) rfl rfl rfl ?_
  intro T9 h9 W9 Wr9 F_terms_a1
  have X_a1 := X_a1.wr Wr9
  have F_numerators_a1 := F_numerators_a1.other Wr9 (Or.inr (slot_ne (Or.inl (wd16 hw)) (Or.inl (wd24 hw)) (by decide) (t := (.array .long)) (t' := (.array .int)) (by decide) (by decide)))
  have F_denominators_a1 := F_denominators_a1.other Wr9 (Or.inr (slot_ne (Or.inl (wd18 hw)) (Or.inl (wd24 hw)) (by decide) (t := (.array .long)) (t' := (.array .int)) (by decide) (by decide)))
  have F_approximations_a1 := F_approximations_a1.other Wr9 (Or.inr (slot_ne (Or.inl (wd21 hw)) (Or.inl (wd24 hw)) (by decide) (t := (.array .double)) (t' := (.array .int)) (by decide) (by decide)))
  have V_nA := V_nA.other Wr9 (Ne.symm ne_a1_nA)
  have V_dA := V_dA.other Wr9 (Ne.symm ne_a1_dA)
  have V_aA := V_aA.other Wr9 (Ne.symm ne_a1_aA)
  have V_tA := V_tA.other Wr9 (Ne.symm ne_a1_tA)
  show own_Go p e below C T9 (mkF m 32 #[.val (.ref a1), .val (.int (2 : Int32))] [])
  refine own_retV (Q := fun v h => v = none ∧ (∃ nA dA aA tA, h0.size ≤ nA ∧ h0.size ≤ dA ∧ h0.size ≤ aA ∧ h0.size ≤ tA ∧ nA ≠ dA ∧ nA ≠ aA ∧ nA ≠ tA ∧ dA ≠ aA ∧ dA ≠ tA ∧ aA ≠ tA ∧ Fld Z h a1 "com/example/queueloom/queueloom/engine/QuotientSums" "numerators" "[J" (.ref nA) ∧ Fld Z h a1 "com/example/queueloom/queueloom/engine/QuotientSums" "denominators" "[J" (.ref dA) ∧ Fld Z h a1 "com/example/queueloom/queueloom/engine/QuotientSums" "approximations" "[D" (.ref aA) ∧ Fld Z h a1 "com/example/queueloom/queueloom/engine/QuotientSums" "terms" "[I" (.ref tA) ∧ own_A Z h nA .long 2 (fun _ => .long 0) ∧ own_A Z h dA .long 2 (fun _ => .long 0) ∧ own_A Z h aA .double 2 (fun _ => .double 0) ∧ own_A Z h tA .int 2 (fun _ => .int 0))) W9 hC (by decide) (by decide) d2_32 ?_
  exact ⟨rfl, ⟨nA, dA, aA, tA, own_le_ W0 o_nA, own_le_ W0 o_dA, own_le_ W0 o_aA, own_le_ W0 o_tA, ne_nA_dA, ne_nA_aA, ne_nA_tA, ne_dA_aA, ne_dA_tA, ne_aA_tA, F_numerators_a1, F_denominators_a1, F_approximations_a1, F_terms_a1, V_nA, V_dA, V_aA, V_tA⟩⟩
theorem ef_m9a (m : MethodId) (x0 : Addr) (x1 : Int32) : entryFrame m #[(.ref x0), (.int x1)] 4 = mkF m 0 #[.val (.ref x0), .val (.int x1), .unset, .unset] [] := by first | (simp [entryFrame, mkF, argsToLocals, Value.category]; done) | rfl
set_option maxRecDepth 65536 in
set_option maxHeartbeats 40000000 in
theorem own_m9a (l : Launch) (Z : State) (a0 : Array Value) (hw : ∀ d ∈ tables_1, d.before a0 Z = true) (wo : List Jvm.Cond) (h0 : Heap) (a1 : Addr) (p2 : Int32) (nA : Addr) (dA : Addr) (aA : Addr) (tA : Addr) (ng : Nat → Int64) (dg : Nat → Int64) (ag : Nat → UInt64) (tg : Nat → Int32) (k : Nat) (X_a1 : Exa Z h0 a1 "com/example/queueloom/queueloom/engine/QuotientSums") (F_numerators_a1 : Fld Z h0 a1 "com/example/queueloom/queueloom/engine/QuotientSums" "numerators" "[J" (.ref nA)) (F_denominators_a1 : Fld Z h0 a1 "com/example/queueloom/queueloom/engine/QuotientSums" "denominators" "[J" (.ref dA)) (F_approximations_a1 : Fld Z h0 a1 "com/example/queueloom/queueloom/engine/QuotientSums" "approximations" "[D" (.ref aA)) (F_terms_a1 : Fld Z h0 a1 "com/example/queueloom/queueloom/engine/QuotientSums" "terms" "[I" (.ref tA)) (V_nA : own_A Z h0 nA .long 2 (fun j => .long (ng j))) (V_dA : own_A Z h0 dA .long 2 (fun j => .long (dg j))) (V_aA : own_A Z h0 aA .double 2 (fun j => .double (ag j))) (V_tA : own_A Z h0 tA .int 2 (fun j => .int (tg j))) (hk : p2.toInt = (k : Int)) (hk2 : k < 2) (ht : (0 : Int32) < tg k) :
    own_M l Z wo (⟨"com/example/queueloom/queueloom/engine/QuotientSums", "doubleValue", "(I)D"⟩ : MethodName) prog_67_method_6_code 4 (some .double) ({ frames := 0, cells := 0, slots := 0, locals := 0 } : Room) [] #[(.ref a1), (.int p2)] h0 (fun v h => v = some (.double (ag k))) := by
  refine own_body (plainFor_of_name pn_9) (fun m => ef_m9a m a1 p2) ?_
  intro p e s m below meth c C hC T0 W0
  refine own_aloadN W0 1 d9_0 rfl rfl rfl ?_
  refine own_getfield W0 4 d9_1 (wd23 hw) F_terms_a1 rfl ?_
  intro T1 W1
  show own_Go p e below C T1 (mkF m 4 #[.val (.ref a1), .val (.int p2), .unset, .unset] [(.ref tA)])
  refine own_iloadN W1 5 d9_4 rfl rfl ?_
  refine own_iaload W1 k (tg k) 6 d9_5 V_tA hk hk2 rfl rfl ?_
  refine own_ifN W1 9 d9_6 ((if0 _ _).trans (tlt (ht : (0 : Int32) < (tg k))).2.2.2) rfl ?_
  refine own_aloadN W1 10 d9_9 rfl rfl rfl ?_
  refine own_getfield W1 13 d9_10 (wd20 hw) F_approximations_a1 rfl ?_
  intro T2 W2
  show own_Go p e below C T2 (mkF m 13 #[.val (.ref a1), .val (.int p2), .unset, .unset] [(.ref aA)])
  refine own_iloadN W2 14 d9_13 rfl rfl ?_
  refine own_daload W2 k (ag k) 15 d9_14 V_aA hk hk2 rfl rfl ?_
  refine own_dstoreN W2 16 #[.val (.ref a1), .val (.int p2), .val (.double (ag k)), .second] d9_15 rfl rfl ?_
  refine own_goto W2 51 d9_16 (by decide) (by decide) ?_
  refine own_dloadN W2 52 d9_51 rfl rfl ?_
  refine own_retD (Q := fun v h => v = some (.double (ag k))) W2 hC (by decide) (by decide) d9_52 ?_
  exact rfl
theorem ef_m9q (m : MethodId) (x0 : Addr) (x1 : Int32) : entryFrame m #[(.ref x0), (.int x1)] 4 = mkF m 0 #[.val (.ref x0), .val (.int x1), .unset, .unset] [] := by first | (simp [entryFrame, mkF, argsToLocals, Value.category]; done) | rfl
set_option maxRecDepth 65536 in
set_option maxHeartbeats 40000000 in
theorem own_m9q (l : Launch) (Z : State) (a0 : Array Value) (hw : ∀ d ∈ tables_1, d.before a0 Z = true) (wo : List Jvm.Cond) (h0 : Heap) (a1 : Addr) (p2 : Int32) (nA : Addr) (dA : Addr) (aA : Addr) (tA : Addr) (ng : Nat → Int64) (dg : Nat → Int64) (ag : Nat → UInt64) (tg : Nat → Int32) (k : Nat) (X_a1 : Exa Z h0 a1 "com/example/queueloom/queueloom/engine/QuotientSums") (F_numerators_a1 : Fld Z h0 a1 "com/example/queueloom/queueloom/engine/QuotientSums" "numerators" "[J" (.ref nA)) (F_denominators_a1 : Fld Z h0 a1 "com/example/queueloom/queueloom/engine/QuotientSums" "denominators" "[J" (.ref dA)) (F_approximations_a1 : Fld Z h0 a1 "com/example/queueloom/queueloom/engine/QuotientSums" "approximations" "[D" (.ref aA)) (F_terms_a1 : Fld Z h0 a1 "com/example/queueloom/queueloom/engine/QuotientSums" "terms" "[I" (.ref tA)) (V_nA : own_A Z h0 nA .long 2 (fun j => .long (ng j))) (V_dA : own_A Z h0 dA .long 2 (fun j => .long (dg j))) (V_aA : own_A Z h0 aA .double 2 (fun j => .double (ag j))) (V_tA : own_A Z h0 tA .int 2 (fun j => .int (tg j))) (hk : p2.toInt = (k : Int)) (hk2 : k < 2) (ht : tg k = 0) (hd : 0 < (dg k).toInt) :
    own_M l Z wo (⟨"com/example/queueloom/queueloom/engine/QuotientSums", "doubleValue", "(I)D"⟩ : MethodName) prog_67_method_6_code 4 (some .double) ({ frames := 0, cells := 0, slots := 0, locals := 0 } : Room) [] #[(.ref a1), (.int p2)] h0 (fun v h => v = some (.double (FP.ddiv (FP.l2d (ng k)) (FP.l2d (dg k))))) := by
  refine own_body (plainFor_of_name pn_9) (fun m => ef_m9q m a1 p2) ?_
  intro p e s m below meth c C hC T0 W0
  refine own_aloadN W0 1 d9_0 rfl rfl rfl ?_
  refine own_getfield W0 4 d9_1 (wd23 hw) F_terms_a1 rfl ?_
  intro T1 W1
  show own_Go p e below C T1 (mkF m 4 #[.val (.ref a1), .val (.int p2), .unset, .unset] [(.ref tA)])
  refine own_iloadN W1 5 d9_4 rfl rfl ?_
  refine own_iaload W1 k (tg k) 6 d9_5 V_tA hk hk2 rfl rfl ?_
  refine own_ifY W1 19 d9_6 ((if0 _ _).trans (flt ((by rw [ht]; decide) : ¬ ((0 : Int32) < (tg k)))).2.2.2) (by decide) (by decide) ?_
  refine own_aloadN W1 20 d9_19 rfl rfl rfl ?_
  refine own_getfield W1 23 d9_20 (wd17 hw) F_denominators_a1 rfl ?_
  intro T2 W2
  show own_Go p e below C T2 (mkF m 23 #[.val (.ref a1), .val (.int p2), .unset, .unset] [(.ref dA)])
  refine own_iloadN W2 24 d9_23 rfl rfl ?_
  refine own_laload W2 k (dg k) 25 d9_24 V_dA hk hk2 rfl rfl ?_
  refine own_lconst W2 (0 : Int64) 26 d9_25 rfl rfl ?_
  refine own_lcmp W2 27 d9_26 rfl ?_
  refine own_ifN W2 30 d9_27 ((if0 _ _).trans (tlt ((lw_gt (dg k) (0 : Int64)).mpr (own_gt0 hd : (0 : Int64) < (dg k)))).2.2.2) rfl ?_
  refine own_aloadN W2 31 d9_30 rfl rfl rfl ?_
  refine own_getfield W2 34 d9_31 (wd15 hw) F_numerators_a1 rfl ?_
  intro T3 W3
  show own_Go p e below C T3 (mkF m 34 #[.val (.ref a1), .val (.int p2), .unset, .unset] [(.ref nA)])
  refine own_iloadN W3 35 d9_34 rfl rfl ?_
  refine own_laload W3 k (ng k) 36 d9_35 V_nA hk hk2 rfl rfl ?_
  refine own_l2d W3 37 d9_36 rfl ?_
  refine own_aloadN W3 38 d9_37 rfl rfl rfl ?_
  refine own_getfield W3 41 d9_38 (wd17 hw) F_denominators_a1 rfl ?_
  intro T4 W4
  show own_Go p e below C T4 (mkF m 41 #[.val (.ref a1), .val (.int p2), .unset, .unset] [(.ref dA), (.double (FP.l2d (ng k)))])
  refine own_iloadN W4 42 d9_41 rfl rfl ?_
  refine own_laload W4 k (dg k) 43 d9_42 V_dA hk hk2 rfl rfl ?_
  refine own_l2d W4 44 d9_43 rfl ?_
  refine own_ddiv W4 45 d9_44 (own_qn hd) rfl ?_
  refine own_dstoreN W4 46 #[.val (.ref a1), .val (.int p2), .val (.double (FP.ddiv (FP.l2d (ng k)) (FP.l2d (dg k)))), .second] d9_45 rfl rfl ?_
  refine own_goto W4 51 d9_46 (by decide) (by decide) ?_
  refine own_dloadN W4 52 d9_51 rfl rfl ?_
  refine own_retD (Q := fun v h => v = some (.double (FP.ddiv (FP.l2d (ng k)) (FP.l2d (dg k))))) W4 hC (by decide) (by decide) d9_52 ?_
  exact rfl
theorem ef_m9z (m : MethodId) (x0 : Addr) (x1 : Int32) : entryFrame m #[(.ref x0), (.int x1)] 4 = mkF m 0 #[.val (.ref x0), .val (.int x1), .unset, .unset] [] := by first | (simp [entryFrame, mkF, argsToLocals, Value.category]; done) | rfl
set_option maxRecDepth 65536 in
set_option maxHeartbeats 40000000 in
theorem own_m9z (l : Launch) (Z : State) (a0 : Array Value) (hw : ∀ d ∈ tables_1, d.before a0 Z = true) (wo : List Jvm.Cond) (h0 : Heap) (a1 : Addr) (p2 : Int32) (nA : Addr) (dA : Addr) (aA : Addr) (tA : Addr) (ng : Nat → Int64) (dg : Nat → Int64) (ag : Nat → UInt64) (tg : Nat → Int32) (k : Nat) (X_a1 : Exa Z h0 a1 "com/example/queueloom/queueloom/engine/QuotientSums") (F_numerators_a1 : Fld Z h0 a1 "com/example/queueloom/queueloom/engine/QuotientSums" "numerators" "[J" (.ref nA)) (F_denominators_a1 : Fld Z h0 a1 "com/example/queueloom/queueloom/engine/QuotientSums" "denominators" "[J" (.ref dA)) (F_approximations_a1 : Fld Z h0 a1 "com/example/queueloom/queueloom/engine/QuotientSums" "approximations" "[D" (.ref aA)) (F_terms_a1 : Fld Z h0 a1 "com/example/queueloom/queueloom/engine/QuotientSums" "terms" "[I" (.ref tA)) (V_nA : own_A Z h0 nA .long 2 (fun j => .long (ng j))) (V_dA : own_A Z h0 dA .long 2 (fun j => .long (dg j))) (V_aA : own_A Z h0 aA .double 2 (fun j => .double (ag j))) (V_tA : own_A Z h0 tA .int 2 (fun j => .int (tg j))) (hk : p2.toInt = (k : Int)) (hk2 : k < 2) (ht : tg k = 0) (hd : dg k = 0) :
    own_M l Z wo (⟨"com/example/queueloom/queueloom/engine/QuotientSums", "doubleValue", "(I)D"⟩ : MethodName) prog_67_method_6_code 4 (some .double) ({ frames := 0, cells := 0, slots := 0, locals := 0 } : Room) [] #[(.ref a1), (.int p2)] h0 (fun v h => v = some (.double FP.dconst0)) := by
  refine own_body (plainFor_of_name pn_9) (fun m => ef_m9z m a1 p2) ?_
  intro p e s m below meth c C hC T0 W0
  refine own_aloadN W0 1 d9_0 rfl rfl rfl ?_
  refine own_getfield W0 4 d9_1 (wd23 hw) F_terms_a1 rfl ?_
  intro T1 W1
  show own_Go p e below C T1 (mkF m 4 #[.val (.ref a1), .val (.int p2), .unset, .unset] [(.ref tA)])
  refine own_iloadN W1 5 d9_4 rfl rfl ?_
  refine own_iaload W1 k (tg k) 6 d9_5 V_tA hk hk2 rfl rfl ?_
  refine own_ifY W1 19 d9_6 ((if0 _ _).trans (flt ((by rw [ht]; decide) : ¬ ((0 : Int32) < (tg k)))).2.2.2) (by decide) (by decide) ?_
  refine own_aloadN W1 20 d9_19 rfl rfl rfl ?_
  refine own_getfield W1 23 d9_20 (wd17 hw) F_denominators_a1 rfl ?_
  intro T2 W2
  show own_Go p e below C T2 (mkF m 23 #[.val (.ref a1), .val (.int p2), .unset, .unset] [(.ref dA)])
  refine own_iloadN W2 24 d9_23 rfl rfl ?_
  refine own_laload W2 k (dg k) 25 d9_24 V_dA hk hk2 rfl rfl ?_
  refine own_lconst W2 (0 : Int64) 26 d9_25 rfl rfl ?_
  refine own_lcmp W2 27 d9_26 rfl ?_
  refine own_ifY W2 49 d9_27 ((if0 _ _).trans (flt (mt (lw_gt (dg k) (0 : Int64)).mp ((by rw [hd]; decide) : ¬ ((0 : Int64) < (dg k))))).2.2.2) (by decide) (by decide) ?_
  refine own_dconst0 W2 50 d9_49 rfl ?_
  refine own_dstoreN W2 51 #[.val (.ref a1), .val (.int p2), .val (.double FP.dconst0), .second] d9_50 rfl rfl ?_
  refine own_dloadN W2 52 d9_51 rfl rfl ?_
  refine own_retD (Q := fun v h => v = some (.double FP.dconst0)) W2 hC (by decide) (by decide) d9_52 ?_
  exact rfl
theorem ef_m4a (m : MethodId) (x0 : Addr) (x1 : Int32) (x2 : Int64) (x3 : Int64) : entryFrame m #[(.ref x0), (.int x1), (.long x2), (.long x3)] 16 = mkF m 0 #[.val (.ref x0), .val (.int x1), .val (.long x2), .second, .val (.long x3), .second, .unset, .unset, .unset, .unset, .unset, .unset, .unset, .unset, .unset, .unset] [] := by first | (simp [entryFrame, mkF, argsToLocals, Value.category]; done) | rfl
set_option maxRecDepth 65536 in
set_option maxHeartbeats 40000000 in
theorem own_m4a (l : Launch) (Z : State) (a0 : Array Value) (hw : ∀ d ∈ tables_1, d.before a0 Z = true) (wo : List Jvm.Cond) (h0 : Heap) (a1 : Addr) (p2 : Int32) (q3 : Int64) (q4 : Int64) (nA : Addr) (dA : Addr) (aA : Addr) (tA : Addr) (ng : Nat → Int64) (dg : Nat → Int64) (ag : Nat → UInt64) (tg : Nat → Int32) (k : Nat) (X_a1 : Exa Z h0 a1 "com/example/queueloom/queueloom/engine/QuotientSums") (F_numerators_a1 : Fld Z h0 a1 "com/example/queueloom/queueloom/engine/QuotientSums" "numerators" "[J" (.ref nA)) (F_denominators_a1 : Fld Z h0 a1 "com/example/queueloom/queueloom/engine/QuotientSums" "denominators" "[J" (.ref dA)) (F_approximations_a1 : Fld Z h0 a1 "com/example/queueloom/queueloom/engine/QuotientSums" "approximations" "[D" (.ref aA)) (F_terms_a1 : Fld Z h0 a1 "com/example/queueloom/queueloom/engine/QuotientSums" "terms" "[I" (.ref tA)) (V_nA : own_A Z h0 nA .long 2 (fun j => .long (ng j))) (V_dA : own_A Z h0 dA .long 2 (fun j => .long (dg j))) (V_aA : own_A Z h0 aA .double 2 (fun j => .double (ag j))) (V_tA : own_A Z h0 tA .int 2 (fun j => .int (tg j))) (ne_a1_nA : a1 ≠ nA) (ne_a1_dA : a1 ≠ dA) (ne_a1_aA : a1 ≠ aA) (ne_a1_tA : a1 ≠ tA) (ne_nA_dA : nA ≠ dA) (ne_nA_aA : nA ≠ aA) (ne_nA_tA : nA ≠ tA) (ne_dA_aA : dA ≠ aA) (ne_dA_tA : dA ≠ tA) (ne_aA_tA : aA ≠ tA) (hk : p2.toInt = (k : Int)) (hk2 : k < 2) (ht : tg k = 0) (hd : dg k = 0) :
    own_M l Z wo (⟨"com/example/queueloom/queueloom/engine/QuotientSums", "add", "(IJJ)V"⟩ : MethodName) prog_67_method_3_code 16 none ({ frames := 0, cells := 0, slots := 0, locals := 0 } : Room) [nA, dA, aA, tA] #[(.ref a1), (.int p2), (.long q3), (.long q4)] h0 (fun v h => v = none ∧ (∃ (ng' : Nat → Int64) (dg' : Nat → Int64), ng' k = q3 ∧ (∀ j, j ≠ k → ng' j = ng j) ∧ dg' k = q4 ∧ (∀ j, j ≠ k → dg' j = dg j) ∧ own_A Z h nA .long 2 (fun j => .long (ng' j)) ∧ own_A Z h dA .long 2 (fun j => .long (dg' j)) ∧ own_A Z h aA .double 2 (fun j => .double (ag j)) ∧ own_A Z h tA .int 2 (fun j => .int (tg j)))) := by
  refine own_body (plainFor_of_name pn_4) (fun m => ef_m4a m a1 p2 q3 q4) ?_
  intro p e s m below meth c C hC T0 W0
  refine own_aloadN W0 1 d4_0 rfl rfl rfl ?_
  refine own_getfield W0 4 d4_1 (wd15 hw) F_numerators_a1 rfl ?_
  intro T1 W1
  show own_Go p e below C T1 (mkF m 4 #[.val (.ref a1), .val (.int p2), .val (.long q3), .second, .val (.long q4), .second, .unset, .unset, .unset, .unset, .unset, .unset, .unset, .unset, .unset, .unset] [(.ref nA)])
  refine own_iloadN W1 5 d4_4 rfl rfl ?_
  refine own_laload W1 k (ng k) 6 d4_5 V_nA hk hk2 rfl rfl ?_
  refine own_lstore W1 8 #[.val (.ref a1), .val (.int p2), .val (.long q3), .second, .val (.long q4), .second, .val (.long (ng k)), .second, .unset, .unset, .unset, .unset, .unset, .unset, .unset, .unset] d4_6 rfl rfl ?_
  refine own_aloadN W1 9 d4_8 rfl rfl rfl ?_
  refine own_getfield W1 12 d4_9 (wd17 hw) F_denominators_a1 rfl ?_
  intro T2 W2
  show own_Go p e below C T2 (mkF m 12 #[.val (.ref a1), .val (.int p2), .val (.long q3), .second, .val (.long q4), .second, .val (.long (ng k)), .second, .unset, .unset, .unset, .unset, .unset, .unset, .unset, .unset] [(.ref dA)])
  refine own_iloadN W2 13 d4_12 rfl rfl ?_
  refine own_laload W2 k (dg k) 14 d4_13 V_dA hk hk2 rfl rfl ?_
  refine own_lstore W2 16 #[.val (.ref a1), .val (.int p2), .val (.long q3), .second, .val (.long q4), .second, .val (.long (ng k)), .second, .val (.long (dg k)), .second, .unset, .unset, .unset, .unset, .unset, .unset] d4_14 rfl rfl ?_
  refine own_aloadN W2 17 d4_16 rfl rfl rfl ?_
  refine own_getfield W2 20 d4_17 (wd23 hw) F_terms_a1 rfl ?_
  intro T3 W3
  show own_Go p e below C T3 (mkF m 20 #[.val (.ref a1), .val (.int p2), .val (.long q3), .second, .val (.long q4), .second, .val (.long (ng k)), .second, .val (.long (dg k)), .second, .unset, .unset, .unset, .unset, .unset, .unset] [(.ref tA)])
  refine own_iloadN W3 21 d4_20 rfl rfl ?_
  refine own_iaload W3 k (tg k) 22 d4_21 V_tA hk hk2 rfl rfl ?_
  refine own_ifY W3 53 d4_22 ((if0 _ _).trans (flt ((by rw [ht]; decide) : ¬ ((0 : Int32) < (tg k)))).2.2.2) (by decide) (by decide) ?_
  refine own_lload W3 55 d4_53 rfl rfl ?_
  refine own_lconst W3 (0 : Int64) 56 d4_55 rfl rfl ?_
  refine own_lcmp W3 57 d4_56 rfl ?_
  refine own_ifN W3 60 d4_57 ((if0 _ _).trans (teq ((lw_eq (dg k) (0 : Int64)).mpr (hd : (dg k) = (0 : Int64)))).2) rfl ?_
  refine own_aloadN W3 61 d4_60 rfl rfl rfl ?_
  refine own_getfield W3 64 d4_61 (wd15 hw) F_numerators_a1 rfl ?_
  intro T4 W4
  show own_Go p e below C T4 (mkF m 64 #[.val (.ref a1), .val (.int p2), .val (.long q3), .second, .val (.long q4), .second, .val (.long (ng k)), .second, .val (.long (dg k)), .second, .unset, .unset, .unset, .unset, .unset, .unset] [(.ref nA)])
  refine own_iloadN W4 65 d4_64 rfl rfl ?_
  refine own_lloadN W4 66 d4_65 rfl rfl ?_
  refine own_lastore W4 k 67 d4_66 V_nA (Or.inl (List.mem_of_getElem? (i := 0) rfl)) hk hk2 rfl ?_
  intro T5 h5 W5 Wr5 V_nA
  have X_a1 := X_a1.wr Wr5
  have F_numerators_a1 := F_numerators_a1.other Wr5 (Or.inl ne_a1_nA)
  have F_denominators_a1 := F_denominators_a1.other Wr5 (Or.inl ne_a1_nA)
  have V_dA := V_dA.other Wr5 (Ne.symm ne_nA_dA)
  have F_approximations_a1 := F_approximations_a1.other Wr5 (Or.inl ne_a1_nA)
  have V_aA := V_aA.other Wr5 (Ne.symm ne_nA_aA)
  have F_terms_a1 := F_terms_a1.other Wr5 (Or.inl ne_a1_nA)
  have V_tA := V_tA.other Wr5 (Ne.symm ne_nA_tA)
  show own_Go p e below C T5 (mkF m 67 #[.val (.ref a1), .val (.int p2), .val (.long q3), .second, .val (.long q4), .second, .val (.long (ng k)), .second, .val (.long (dg k)), .second, .unset, .unset, .unset, .unset, .unset, .unset] [])
  refine own_aloadN W5 68 d4_67 rfl rfl rfl ?_
  refine own_getfield W5 71 d4_68 (wd17 hw) F_denominators_a1 rfl ?_
  intro T6 W6
  show own_Go p e below C T6 (mkF m 71 #[.val (.ref a1), .val (.int p2), .val (.long q3), .second, .val (.long q4), .second, .val (.long (ng k)), .second, .val (.long (dg k)), .second, .unset, .unset, .unset, .unset, .unset, .unset] [(.ref dA)])
  refine own_iloadN W6 72 d4_71 rfl rfl ?_
  refine own_lload W6 74 d4_72 rfl rfl ?_
  refine own_lastore W6 k 75 d4_74 V_dA (Or.inl (List.mem_of_getElem? (i := 1) rfl)) hk hk2 rfl ?_
  intro T7 h7 W7 Wr7 V_dA
  have X_a1 := X_a1.wr Wr7
  have F_numerators_a1 := F_numerators_a1.other Wr7 (Or.inl ne_a1_dA)
  have V_nA := V_nA.other Wr7 ne_nA_dA
  have F_denominators_a1 := F_denominators_a1.other Wr7 (Or.inl ne_a1_dA)
  have F_approximations_a1 := F_approximations_a1.other Wr7 (Or.inl ne_a1_dA)
  have V_aA := V_aA.other Wr7 (Ne.symm ne_dA_aA)
  have F_terms_a1 := F_terms_a1.other Wr7 (Or.inl ne_a1_dA)
  have V_tA := V_tA.other Wr7 (Ne.symm ne_dA_tA)
  show own_Go p e below C T7 (mkF m 75 #[.val (.ref a1), .val (.int p2), .val (.long q3), .second, .val (.long q4), .second, .val (.long (ng k)), .second, .val (.long (dg k)), .second, .unset, .unset, .unset, .unset, .unset, .unset] [])
  refine own_goto W7 183 d4_75 (by decide) (by decide) ?_
  obtain ⟨ng', e_ng, a_ng, o_ng⟩ := own_upJ ng k q3
  obtain ⟨dg', e_dg, a_dg, o_dg⟩ := own_upJ dg k q4
  refine own_retV (Q := fun v h => v = none ∧ (∃ (ng' : Nat → Int64) (dg' : Nat → Int64), ng' k = q3 ∧ (∀ j, j ≠ k → ng' j = ng j) ∧ dg' k = q4 ∧ (∀ j, j ≠ k → dg' j = dg j) ∧ own_A Z h nA .long 2 (fun j => .long (ng' j)) ∧ own_A Z h dA .long 2 (fun j => .long (dg' j)) ∧ own_A Z h aA .double 2 (fun j => .double (ag j)) ∧ own_A Z h tA .int 2 (fun j => .int (tg j)))) W7 hC (by decide) (by decide) d4_183 ?_
  exact ⟨rfl, ⟨ng', dg', a_ng, o_ng, a_dg, o_dg, V_nA.congr (fun j _ => e_ng j), V_dA.congr (fun j _ => e_dg j), V_aA, V_tA⟩⟩
theorem own_divself {d q : Int64} (h : d = q) (hp : 0 < d.toInt) : d / q = 1 := by
  subst h
  apply own_eqq
  rw [(c_ldiv d d d.toInt rfl (by intro q; rw [q] at hp; have : (-1 : Int64).toInt = -1 := rfl; omega)).1 (by omega), Int.ediv_self (by omega)]
  rfl
theorem ef_m4b (m : MethodId) (x0 : Addr) (x1 : Int32) (x2 : Int64) (x3 : Int64) : entryFrame m #[(.ref x0), (.int x1), (.long x2), (.long x3)] 16 = mkF m 0 #[.val (.ref x0), .val (.int x1), .val (.long x2), .second, .val (.long x3), .second, .unset, .unset, .unset, .unset, .unset, .unset, .unset, .unset, .unset, .unset] [] := by first | (simp [entryFrame, mkF, argsToLocals, Value.category]; done) | rfl
set_option maxRecDepth 65536 in
set_option maxHeartbeats 40000000 in
theorem own_m4b (l : Launch) (Z : State) (a0 : Array Value) (hw : ∀ d ∈ tables_1, d.before a0 Z = true) (wo : List Jvm.Cond) (h0 : Heap) (a1 : Addr) (p2 : Int32) (q3 : Int64) (q4 : Int64) (nA : Addr) (dA : Addr) (aA : Addr) (tA : Addr) (ng : Nat → Int64) (dg : Nat → Int64) (ag : Nat → UInt64) (tg : Nat → Int32) (k : Nat) (X_a1 : Exa Z h0 a1 "com/example/queueloom/queueloom/engine/QuotientSums") (F_numerators_a1 : Fld Z h0 a1 "com/example/queueloom/queueloom/engine/QuotientSums" "numerators" "[J" (.ref nA)) (F_denominators_a1 : Fld Z h0 a1 "com/example/queueloom/queueloom/engine/QuotientSums" "denominators" "[J" (.ref dA)) (F_approximations_a1 : Fld Z h0 a1 "com/example/queueloom/queueloom/engine/QuotientSums" "approximations" "[D" (.ref aA)) (F_terms_a1 : Fld Z h0 a1 "com/example/queueloom/queueloom/engine/QuotientSums" "terms" "[I" (.ref tA)) (V_nA : own_A Z h0 nA .long 2 (fun j => .long (ng j))) (V_dA : own_A Z h0 dA .long 2 (fun j => .long (dg j))) (V_aA : own_A Z h0 aA .double 2 (fun j => .double (ag j))) (V_tA : own_A Z h0 tA .int 2 (fun j => .int (tg j))) (ne_a1_nA : a1 ≠ nA) (ne_a1_dA : a1 ≠ dA) (ne_a1_aA : a1 ≠ aA) (ne_a1_tA : a1 ≠ tA) (ne_nA_dA : nA ≠ dA) (ne_nA_aA : nA ≠ aA) (ne_nA_tA : nA ≠ tA) (ne_dA_aA : dA ≠ aA) (ne_dA_tA : dA ≠ tA) (ne_aA_tA : aA ≠ tA) (hk : p2.toInt = (k : Int)) (hk2 : k < 2) (ht : tg k = 0) (hd : dg k = q4) (hp : 0 < (dg k).toInt) (hn : 0 ≤ (ng k).toInt) (hq : 0 ≤ q3.toInt) (hs : ¬ ((ng k) + q3) < (0 : Int64)) :
    own_M l Z wo (⟨"com/example/queueloom/queueloom/engine/QuotientSums", "add", "(IJJ)V"⟩ : MethodName) prog_67_method_3_code 16 none ({ frames := 2, cells := 0, slots := 0, locals := 50 } : Room) [nA, dA, aA, tA] #[(.ref a1), (.int p2), (.long q3), (.long q4)] h0 (fun v h => v = none ∧ (∃ (ng' : Nat → Int64) (dg' : Nat → Int64), ng' k = ((ng k) + q3) ∧ (∀ j, j ≠ k → ng' j = ng j) ∧ dg' k = (dg k) ∧ (∀ j, j ≠ k → dg' j = dg j) ∧ own_A Z h nA .long 2 (fun j => .long (ng' j)) ∧ own_A Z h dA .long 2 (fun j => .long (dg' j)) ∧ own_A Z h aA .double 2 (fun j => .double (ag j)) ∧ own_A Z h tA .int 2 (fun j => .int (tg j)))) := by
  refine own_body (plainFor_of_name pn_4) (fun m => ef_m4b m a1 p2 q3 q4) ?_
  intro p e s m below meth c C hC T0 W0
  refine own_aloadN W0 1 d4_0 rfl rfl rfl ?_
  refine own_getfield W0 4 d4_1 (wd15 hw) F_numerators_a1 rfl ?_
  intro T1 W1
  show own_Go p e below C T1 (mkF m 4 #[.val (.ref a1), .val (.int p2), .val (.long q3), .second, .val (.long q4), .second, .unset, .unset, .unset, .unset, .unset, .unset, .unset, .unset, .unset, .unset] [(.ref nA)])
  refine own_iloadN W1 5 d4_4 rfl rfl ?_
  refine own_laload W1 k (ng k) 6 d4_5 V_nA hk hk2 rfl rfl ?_
  refine own_lstore W1 8 #[.val (.ref a1), .val (.int p2), .val (.long q3), .second, .val (.long q4), .second, .val (.long (ng k)), .second, .unset, .unset, .unset, .unset, .unset, .unset, .unset, .unset] d4_6 rfl rfl ?_
  refine own_aloadN W1 9 d4_8 rfl rfl rfl ?_
  refine own_getfield W1 12 d4_9 (wd17 hw) F_denominators_a1 rfl ?_
  intro T2 W2
  show own_Go p e below C T2 (mkF m 12 #[.val (.ref a1), .val (.int p2), .val (.long q3), .second, .val (.long q4), .second, .val (.long (ng k)), .second, .unset, .unset, .unset, .unset, .unset, .unset, .unset, .unset] [(.ref dA)])
  refine own_iloadN W2 13 d4_12 rfl rfl ?_
  refine own_laload W2 k (dg k) 14 d4_13 V_dA hk hk2 rfl rfl ?_
  refine own_lstore W2 16 #[.val (.ref a1), .val (.int p2), .val (.long q3), .second, .val (.long q4), .second, .val (.long (ng k)), .second, .val (.long (dg k)), .second, .unset, .unset, .unset, .unset, .unset, .unset] d4_14 rfl rfl ?_
  refine own_aloadN W2 17 d4_16 rfl rfl rfl ?_
  refine own_getfield W2 20 d4_17 (wd23 hw) F_terms_a1 rfl ?_
  intro T3 W3
  show own_Go p e below C T3 (mkF m 20 #[.val (.ref a1), .val (.int p2), .val (.long q3), .second, .val (.long q4), .second, .val (.long (ng k)), .second, .val (.long (dg k)), .second, .unset, .unset, .unset, .unset, .unset, .unset] [(.ref tA)])
  refine own_iloadN W3 21 d4_20 rfl rfl ?_
  refine own_iaload W3 k (tg k) 22 d4_21 V_tA hk hk2 rfl rfl ?_
  refine own_ifY W3 53 d4_22 ((if0 _ _).trans (flt ((by rw [ht]; decide) : ¬ ((0 : Int32) < (tg k)))).2.2.2) (by decide) (by decide) ?_
  refine own_lload W3 55 d4_53 rfl rfl ?_
  refine own_lconst W3 (0 : Int64) 56 d4_55 rfl rfl ?_
  refine own_lcmp W3 57 d4_56 rfl ?_
  refine own_ifY W3 78 d4_57 ((if0 _ _).trans (feq (mt (lw_eq (dg k) (0 : Int64)).mp ((fun q => by rw [q] at hp; have : (0 : Int64).toInt = 0 := rfl; omega) : ¬ ((dg k) = (0 : Int64))))).2) (by decide) (by decide) ?_
  refine own_lload W3 80 d4_78 rfl rfl ?_
  refine own_lload W3 82 d4_80 rfl rfl ?_
  refine own_callS W3 (A := [(.long (dg k)), (.long q4)]) (wt := 0) (pc' := 85) (st := []) d4_82 (wd30 hw) (wd31 hw) (wd7 hw) (wd32 hw) (by decide) (own_m5 l Z a0 hw [] h0 (dg k) q4 hd (by rw [← hd]; exact hp)) all0 rfl pd_0 rfl (Nat.le_of_eq rfl) (by decide) (by decide) (by decide) (by decide) rfl ?_
  rintro T4 h4 _ W4 K4 P4 rfl
  rw [P4 rfl rfl] at W4
  show own_Go p e below C T4 (mkF m 85 #[.val (.ref a1), .val (.int p2), .val (.long q3), .second, .val (.long q4), .second, .val (.long (ng k)), .second, .val (.long (dg k)), .second, .unset, .unset, .unset, .unset, .unset, .unset] [(.long q4)])
  refine own_lstore W4 87 #[.val (.ref a1), .val (.int p2), .val (.long q3), .second, .val (.long q4), .second, .val (.long (ng k)), .second, .val (.long (dg k)), .second, .val (.long q4), .second, .unset, .unset, .unset, .unset] d4_85 rfl rfl ?_
  refine own_lload W4 89 d4_87 rfl rfl ?_
  refine own_lload W4 91 d4_89 rfl rfl ?_
  refine own_lload W4 93 d4_91 rfl rfl ?_
  refine own_ldiv W4 94 d4_93 (own_nq (by rw [← hd]; exact hp)) rfl ?_
  rw [show (q4 / q4) = (1 : Int64) from (own_divself rfl (by rw [← hd]; exact hp))]
  refine own_callS W4 (A := [(.long (dg k)), (.long (1 : Int64))]) (wt := 0) (pc' := 97) (st := []) d4_94 (wd33 hw) (wd34 hw) (wd7 hw) (wd35 hw) (by decide) (own_m6 l Z a0 hw [] h0 (dg k) (by omega)) all0 rfl pd_0 rfl (Nat.le_of_eq rfl) (by decide) (by decide) (by decide) (by decide) rfl ?_
  rintro T5 h5 _ W5 K5 P5 rfl
  rw [P5 rfl rfl] at W5
  show own_Go p e below C T5 (mkF m 97 #[.val (.ref a1), .val (.int p2), .val (.long q3), .second, .val (.long q4), .second, .val (.long (ng k)), .second, .val (.long (dg k)), .second, .val (.long q4), .second, .unset, .unset, .unset, .unset] [(.long (dg k))])
  refine own_lstore W5 99 #[.val (.ref a1), .val (.int p2), .val (.long q3), .second, .val (.long q4), .second, .val (.long (ng k)), .second, .val (.long (dg k)), .second, .val (.long q4), .second, .val (.long (dg k)), .second, .unset, .unset] d4_97 rfl rfl ?_
  refine own_lload W5 101 d4_99 rfl rfl ?_
  refine own_lload W5 103 d4_101 rfl rfl ?_
  refine own_lload W5 105 d4_103 rfl rfl ?_
  refine own_ldiv W5 106 d4_105 (own_nq (by rw [← hd]; exact hp)) rfl ?_
  rw [show (q4 / q4) = (1 : Int64) from (own_divself rfl (by rw [← hd]; exact hp))]
  refine own_callS W5 (A := [(.long (ng k)), (.long (1 : Int64))]) (wt := 0) (pc' := 109) (st := []) d4_106 (wd33 hw) (wd34 hw) (wd7 hw) (wd35 hw) (by decide) (own_m6 l Z a0 hw [] h0 (ng k) hn) all0 rfl pd_0 rfl (Nat.le_of_eq rfl) (by decide) (by decide) (by decide) (by decide) rfl ?_
  rintro T6 h6 _ W6 K6 P6 rfl
  rw [P6 rfl rfl] at W6
  show own_Go p e below C T6 (mkF m 109 #[.val (.ref a1), .val (.int p2), .val (.long q3), .second, .val (.long q4), .second, .val (.long (ng k)), .second, .val (.long (dg k)), .second, .val (.long q4), .second, .val (.long (dg k)), .second, .unset, .unset] [(.long (ng k))])
  refine own_lloadN W6 110 d4_109 rfl rfl ?_
  refine own_lload W6 112 d4_110 rfl rfl ?_
  refine own_lload W6 114 d4_112 rfl rfl ?_
  refine own_ldiv W6 115 d4_114 (own_nq (by rw [← hd]; exact hp)) rfl ?_
  rw [show ((dg k) / q4) = (1 : Int64) from (own_divself hd hp)]
  refine own_callS W6 (A := [(.long q3), (.long (1 : Int64))]) (wt := 2) (pc' := 118) (st := [(.long (ng k))]) d4_115 (wd33 hw) (wd34 hw) (wd7 hw) (wd35 hw) (by decide) (own_m6 l Z a0 hw [] h0 q3 hq) all0 rfl pd_0 rfl (Nat.le_of_eq rfl) (by decide) (by decide) (by decide) (by decide) rfl ?_
  rintro T7 h7 _ W7 K7 P7 rfl
  rw [P7 rfl rfl] at W7
  show own_Go p e below C T7 (mkF m 118 #[.val (.ref a1), .val (.int p2), .val (.long q3), .second, .val (.long q4), .second, .val (.long (ng k)), .second, .val (.long (dg k)), .second, .val (.long q4), .second, .val (.long (dg k)), .second, .unset, .unset] [(.long q3), (.long (ng k))])
  refine own_callS W7 (A := [(.long (ng k)), (.long q3)]) (wt := 0) (pc' := 121) (st := []) d4_118 (wd40 hw) (wd41 hw) (wd7 hw) (wd42 hw) (by decide) (own_m8 l Z a0 hw [] h0 (ng k) q3 hn hq) all0 rfl pd_0 rfl (Nat.le_of_eq rfl) (by decide) (by decide) (by decide) (by decide) rfl ?_
  rintro T8 h8 _ W8 K8 P8 rfl
  rw [P8 rfl rfl] at W8
  show own_Go p e below C T8 (mkF m 121 #[.val (.ref a1), .val (.int p2), .val (.long q3), .second, .val (.long q4), .second, .val (.long (ng k)), .second, .val (.long (dg k)), .second, .val (.long q4), .second, .val (.long (dg k)), .second, .unset, .unset] [(.long (if ((ng k) + q3) < (0 : Int64) then (-1 : Int64) else ((ng k) + q3)))])
  rw [show (if ((ng k) + q3) < (0 : Int64) then (-1 : Int64) else ((ng k) + q3)) = ((ng k) + q3) from if_neg hs]
  refine own_lstore W8 123 #[.val (.ref a1), .val (.int p2), .val (.long q3), .second, .val (.long q4), .second, .val (.long (ng k)), .second, .val (.long (dg k)), .second, .val (.long q4), .second, .val (.long (dg k)), .second, .val (.long ((ng k) + q3)), .second] d4_121 rfl rfl ?_
  refine own_lload W8 125 d4_123 rfl rfl ?_
  refine own_lconst W8 (0 : Int64) 126 d4_125 rfl rfl ?_
  refine own_lcmp W8 127 d4_126 rfl ?_
  refine own_ifN W8 130 d4_127 ((if0 _ _).trans (flt (mt (lw_lt (dg k) (0 : Int64)).mp ((fun q => by rw [own_lt0q] at q; omega) : ¬ ((dg k) < (0 : Int64))))).1) rfl ?_
  refine own_lload W8 132 d4_130 rfl rfl ?_
  refine own_lconst W8 (0 : Int64) 133 d4_132 rfl rfl ?_
  refine own_lcmp W8 134 d4_133 rfl ?_
  refine own_ifN W8 137 d4_134 ((if0 _ _).trans (flt (mt (lw_lt ((ng k) + q3) (0 : Int64)).mp (hs : ¬ (((ng k) + q3) < (0 : Int64))))).1) rfl ?_
  refine own_aloadN W8 138 d4_137 rfl rfl rfl ?_
  refine own_getfield W8 141 d4_138 (wd15 hw) F_numerators_a1 rfl ?_
  intro T9 W9
  show own_Go p e below C T9 (mkF m 141 #[.val (.ref a1), .val (.int p2), .val (.long q3), .second, .val (.long q4), .second, .val (.long (ng k)), .second, .val (.long (dg k)), .second, .val (.long q4), .second, .val (.long (dg k)), .second, .val (.long ((ng k) + q3)), .second] [(.ref nA)])
  refine own_iloadN W9 142 d4_141 rfl rfl ?_
  refine own_lload W9 144 d4_142 rfl rfl ?_
  refine own_lastore W9 k 145 d4_144 V_nA (Or.inl (List.mem_of_getElem? (i := 0) rfl)) hk hk2 rfl ?_
  intro T10 h10 W10 Wr10 V_nA
  have X_a1 := X_a1.wr Wr10
  have F_numerators_a1 := F_numerators_a1.other Wr10 (Or.inl ne_a1_nA)
  have F_denominators_a1 := F_denominators_a1.other Wr10 (Or.inl ne_a1_nA)
  have V_dA := V_dA.other Wr10 (Ne.symm ne_nA_dA)
  have F_approximations_a1 := F_approximations_a1.other Wr10 (Or.inl ne_a1_nA)
  have V_aA := V_aA.other Wr10 (Ne.symm ne_nA_aA)
  have F_terms_a1 := F_terms_a1.other Wr10 (Or.inl ne_a1_nA)
  have V_tA := V_tA.other Wr10 (Ne.symm ne_nA_tA)
  show own_Go p e below C T10 (mkF m 145 #[.val (.ref a1), .val (.int p2), .val (.long q3), .second, .val (.long q4), .second, .val (.long (ng k)), .second, .val (.long (dg k)), .second, .val (.long q4), .second, .val (.long (dg k)), .second, .val (.long ((ng k) + q3)), .second] [])
  refine own_aloadN W10 146 d4_145 rfl rfl rfl ?_
  refine own_getfield W10 149 d4_146 (wd17 hw) F_denominators_a1 rfl ?_
  intro T11 W11
  show own_Go p e below C T11 (mkF m 149 #[.val (.ref a1), .val (.int p2), .val (.long q3), .second, .val (.long q4), .second, .val (.long (ng k)), .second, .val (.long (dg k)), .second, .val (.long q4), .second, .val (.long (dg k)), .second, .val (.long ((ng k) + q3)), .second] [(.ref dA)])
  refine own_iloadN W11 150 d4_149 rfl rfl ?_
  refine own_lload W11 152 d4_150 rfl rfl ?_
  refine own_lastore W11 k 153 d4_152 V_dA (Or.inl (List.mem_of_getElem? (i := 1) rfl)) hk hk2 rfl ?_
  intro T12 h12 W12 Wr12 V_dA
  have X_a1 := X_a1.wr Wr12
  have F_numerators_a1 := F_numerators_a1.other Wr12 (Or.inl ne_a1_dA)
  have V_nA := V_nA.other Wr12 ne_nA_dA
  have F_denominators_a1 := F_denominators_a1.other Wr12 (Or.inl ne_a1_dA)
  have F_approximations_a1 := F_approximations_a1.other Wr12 (Or.inl ne_a1_dA)
  have V_aA := V_aA.other Wr12 (Ne.symm ne_dA_aA)
  have F_terms_a1 := F_terms_a1.other Wr12 (Or.inl ne_a1_dA)
  have V_tA := V_tA.other Wr12 (Ne.symm ne_dA_tA)
  show own_Go p e below C T12 (mkF m 153 #[.val (.ref a1), .val (.int p2), .val (.long q3), .second, .val (.long q4), .second, .val (.long (ng k)), .second, .val (.long (dg k)), .second, .val (.long q4), .second, .val (.long (dg k)), .second, .val (.long ((ng k) + q3)), .second] [])
  refine own_goto W12 183 d4_153 (by decide) (by decide) ?_
  obtain ⟨ng', e_ng, a_ng, o_ng⟩ := own_upJ ng k ((ng k) + q3)
  obtain ⟨dg', e_dg, a_dg, o_dg⟩ := own_upJ dg k (dg k)
  refine own_retV (Q := fun v h => v = none ∧ (∃ (ng' : Nat → Int64) (dg' : Nat → Int64), ng' k = ((ng k) + q3) ∧ (∀ j, j ≠ k → ng' j = ng j) ∧ dg' k = (dg k) ∧ (∀ j, j ≠ k → dg' j = dg j) ∧ own_A Z h nA .long 2 (fun j => .long (ng' j)) ∧ own_A Z h dA .long 2 (fun j => .long (dg' j)) ∧ own_A Z h aA .double 2 (fun j => .double (ag j)) ∧ own_A Z h tA .int 2 (fun j => .int (tg j)))) W12 hC (by decide) (by decide) d4_183 ?_
  exact ⟨rfl, ⟨ng', dg', a_ng, o_ng, a_dg, o_dg, V_nA.congr (fun j _ => e_ng j), V_dA.congr (fun j _ => e_dg j), V_aA, V_tA⟩⟩
theorem ef_m4c (m : MethodId) (x0 : Addr) (x1 : Int32) (x2 : Int64) (x3 : Int64) : entryFrame m #[(.ref x0), (.int x1), (.long x2), (.long x3)] 16 = mkF m 0 #[.val (.ref x0), .val (.int x1), .val (.long x2), .second, .val (.long x3), .second, .unset, .unset, .unset, .unset, .unset, .unset, .unset, .unset, .unset, .unset] [] := by first | (simp [entryFrame, mkF, argsToLocals, Value.category]; done) | rfl
set_option maxRecDepth 65536 in
set_option maxHeartbeats 40000000 in
theorem own_m4c (l : Launch) (Z : State) (a0 : Array Value) (hw : ∀ d ∈ tables_1, d.before a0 Z = true) (wo : List Jvm.Cond) (h0 : Heap) (a1 : Addr) (p2 : Int32) (q3 : Int64) (q4 : Int64) (nA : Addr) (dA : Addr) (aA : Addr) (tA : Addr) (ng : Nat → Int64) (dg : Nat → Int64) (ag : Nat → UInt64) (tg : Nat → Int32) (k : Nat) (X_a1 : Exa Z h0 a1 "com/example/queueloom/queueloom/engine/QuotientSums") (F_numerators_a1 : Fld Z h0 a1 "com/example/queueloom/queueloom/engine/QuotientSums" "numerators" "[J" (.ref nA)) (F_denominators_a1 : Fld Z h0 a1 "com/example/queueloom/queueloom/engine/QuotientSums" "denominators" "[J" (.ref dA)) (F_approximations_a1 : Fld Z h0 a1 "com/example/queueloom/queueloom/engine/QuotientSums" "approximations" "[D" (.ref aA)) (F_terms_a1 : Fld Z h0 a1 "com/example/queueloom/queueloom/engine/QuotientSums" "terms" "[I" (.ref tA)) (V_nA : own_A Z h0 nA .long 2 (fun j => .long (ng j))) (V_dA : own_A Z h0 dA .long 2 (fun j => .long (dg j))) (V_aA : own_A Z h0 aA .double 2 (fun j => .double (ag j))) (V_tA : own_A Z h0 tA .int 2 (fun j => .int (tg j))) (ne_a1_nA : a1 ≠ nA) (ne_a1_dA : a1 ≠ dA) (ne_a1_aA : a1 ≠ aA) (ne_a1_tA : a1 ≠ tA) (ne_nA_dA : nA ≠ dA) (ne_nA_aA : nA ≠ aA) (ne_nA_tA : nA ≠ tA) (ne_dA_aA : dA ≠ aA) (ne_dA_tA : dA ≠ tA) (ne_aA_tA : aA ≠ tA) (hk : p2.toInt = (k : Int)) (hk2 : k < 2) (ht : tg k = 0) (hd : dg k = q4) (hp : 0 < (dg k).toInt) (hp4 : 0 < q4.toInt) (hn : 0 ≤ (ng k).toInt) (hq : 0 ≤ q3.toInt) (hs : ((ng k) + q3) < (0 : Int64)) :
    own_M l Z wo (⟨"com/example/queueloom/queueloom/engine/QuotientSums", "add", "(IJJ)V"⟩ : MethodName) prog_67_method_3_code 16 none ({ frames := 2, cells := 0, slots := 0, locals := 50 } : Room) [nA, dA, aA, tA] #[(.ref a1), (.int p2), (.long q3), (.long q4)] h0 (fun v h => v = none ∧ (∃ (ag' : Nat → UInt64) (tg' : Nat → Int32), ag' k = (FP.dadd (FP.ddiv (FP.l2d (ng k)) (FP.l2d (dg k))) (FP.ddiv (FP.l2d q3) (FP.l2d q4))) ∧ (∀ j, j ≠ k → ag' j = ag j) ∧ tg' k = (2 : Int32) ∧ (∀ j, j ≠ k → tg' j = tg j) ∧ own_A Z h nA .long 2 (fun j => .long (ng j)) ∧ own_A Z h dA .long 2 (fun j => .long (dg j)) ∧ own_A Z h aA .double 2 (fun j => .double (ag' j)) ∧ own_A Z h tA .int 2 (fun j => .int (tg' j)))) := by
  refine own_body (plainFor_of_name pn_4) (fun m => ef_m4c m a1 p2 q3 q4) ?_
  intro p e s m below meth c C hC T0 W0
  refine own_aloadN W0 1 d4_0 rfl rfl rfl ?_
  refine own_getfield W0 4 d4_1 (wd15 hw) F_numerators_a1 rfl ?_
  intro T1 W1
  show own_Go p e below C T1 (mkF m 4 #[.val (.ref a1), .val (.int p2), .val (.long q3), .second, .val (.long q4), .second, .unset, .unset, .unset, .unset, .unset, .unset, .unset, .unset, .unset, .unset] [(.ref nA)])
  refine own_iloadN W1 5 d4_4 rfl rfl ?_
  refine own_laload W1 k (ng k) 6 d4_5 V_nA hk hk2 rfl rfl ?_
  refine own_lstore W1 8 #[.val (.ref a1), .val (.int p2), .val (.long q3), .second, .val (.long q4), .second, .val (.long (ng k)), .second, .unset, .unset, .unset, .unset, .unset, .unset, .unset, .unset] d4_6 rfl rfl ?_
  refine own_aloadN W1 9 d4_8 rfl rfl rfl ?_
  refine own_getfield W1 12 d4_9 (wd17 hw) F_denominators_a1 rfl ?_
  intro T2 W2
  show own_Go p e below C T2 (mkF m 12 #[.val (.ref a1), .val (.int p2), .val (.long q3), .second, .val (.long q4), .second, .val (.long (ng k)), .second, .unset, .unset, .unset, .unset, .unset, .unset, .unset, .unset] [(.ref dA)])
  refine own_iloadN W2 13 d4_12 rfl rfl ?_
  refine own_laload W2 k (dg k) 14 d4_13 V_dA hk hk2 rfl rfl ?_
  refine own_lstore W2 16 #[.val (.ref a1), .val (.int p2), .val (.long q3), .second, .val (.long q4), .second, .val (.long (ng k)), .second, .val (.long (dg k)), .second, .unset, .unset, .unset, .unset, .unset, .unset] d4_14 rfl rfl ?_
  refine own_aloadN W2 17 d4_16 rfl rfl rfl ?_
  refine own_getfield W2 20 d4_17 (wd23 hw) F_terms_a1 rfl ?_
  intro T3 W3
  show own_Go p e below C T3 (mkF m 20 #[.val (.ref a1), .val (.int p2), .val (.long q3), .second, .val (.long q4), .second, .val (.long (ng k)), .second, .val (.long (dg k)), .second, .unset, .unset, .unset, .unset, .unset, .unset] [(.ref tA)])
  refine own_iloadN W3 21 d4_20 rfl rfl ?_
  refine own_iaload W3 k (tg k) 22 d4_21 V_tA hk hk2 rfl rfl ?_
  refine own_ifY W3 53 d4_22 ((if0 _ _).trans (flt ((by rw [ht]; decide) : ¬ ((0 : Int32) < (tg k)))).2.2.2) (by decide) (by decide) ?_
  refine own_lload W3 55 d4_53 rfl rfl ?_
  refine own_lconst W3 (0 : Int64) 56 d4_55 rfl rfl ?_
  refine own_lcmp W3 57 d4_56 rfl ?_
  refine own_ifY W3 78 d4_57 ((if0 _ _).trans (feq (mt (lw_eq (dg k) (0 : Int64)).mp ((fun q => by rw [q] at hp; have : (0 : Int64).toInt = 0 := rfl; omega) : ¬ ((dg k) = (0 : Int64))))).2) (by decide) (by decide) ?_
  refine own_lload W3 80 d4_78 rfl rfl ?_
  refine own_lload W3 82 d4_80 rfl rfl ?_
  refine own_callS W3 (A := [(.long (dg k)), (.long q4)]) (wt := 0) (pc' := 85) (st := []) d4_82 (wd30 hw) (wd31 hw) (wd7 hw) (wd32 hw) (by decide) (own_m5 l Z a0 hw [] h0 (dg k) q4 hd (by rw [← hd]; exact hp)) all0 rfl pd_0 rfl (Nat.le_of_eq rfl) (by decide) (by decide) (by decide) (by decide) rfl ?_
  rintro T4 h4 _ W4 K4 P4 rfl
  rw [P4 rfl rfl] at W4
  show own_Go p e below C T4 (mkF m 85 #[.val (.ref a1), .val (.int p2), .val (.long q3), .second, .val (.long q4), .second, .val (.long (ng k)), .second, .val (.long (dg k)), .second, .unset, .unset, .unset, .unset, .unset, .unset] [(.long q4)])
  refine own_lstore W4 87 #[.val (.ref a1), .val (.int p2), .val (.long q3), .second, .val (.long q4), .second, .val (.long (ng k)), .second, .val (.long (dg k)), .second, .val (.long q4), .second, .unset, .unset, .unset, .unset] d4_85 rfl rfl ?_
  refine own_lload W4 89 d4_87 rfl rfl ?_
  refine own_lload W4 91 d4_89 rfl rfl ?_
  refine own_lload W4 93 d4_91 rfl rfl ?_
  refine own_ldiv W4 94 d4_93 (own_nq (by rw [← hd]; exact hp)) rfl ?_
  rw [show (q4 / q4) = (1 : Int64) from (own_divself rfl (by rw [← hd]; exact hp))]
  refine own_callS W4 (A := [(.long (dg k)), (.long (1 : Int64))]) (wt := 0) (pc' := 97) (st := []) d4_94 (wd33 hw) (wd34 hw) (wd7 hw) (wd35 hw) (by decide) (own_m6 l Z a0 hw [] h0 (dg k) (by omega)) all0 rfl pd_0 rfl (Nat.le_of_eq rfl) (by decide) (by decide) (by decide) (by decide) rfl ?_
  rintro T5 h5 _ W5 K5 P5 rfl
  rw [P5 rfl rfl] at W5
  show own_Go p e below C T5 (mkF m 97 #[.val (.ref a1), .val (.int p2), .val (.long q3), .second, .val (.long q4), .second, .val (.long (ng k)), .second, .val (.long (dg k)), .second, .val (.long q4), .second, .unset, .unset, .unset, .unset] [(.long (dg k))])
  refine own_lstore W5 99 #[.val (.ref a1), .val (.int p2), .val (.long q3), .second, .val (.long q4), .second, .val (.long (ng k)), .second, .val (.long (dg k)), .second, .val (.long q4), .second, .val (.long (dg k)), .second, .unset, .unset] d4_97 rfl rfl ?_
  refine own_lload W5 101 d4_99 rfl rfl ?_
  refine own_lload W5 103 d4_101 rfl rfl ?_
  refine own_lload W5 105 d4_103 rfl rfl ?_
  refine own_ldiv W5 106 d4_105 (own_nq (by rw [← hd]; exact hp)) rfl ?_
  rw [show (q4 / q4) = (1 : Int64) from (own_divself rfl (by rw [← hd]; exact hp))]
  refine own_callS W5 (A := [(.long (ng k)), (.long (1 : Int64))]) (wt := 0) (pc' := 109) (st := []) d4_106 (wd33 hw) (wd34 hw) (wd7 hw) (wd35 hw) (by decide) (own_m6 l Z a0 hw [] h0 (ng k) hn) all0 rfl pd_0 rfl (Nat.le_of_eq rfl) (by decide) (by decide) (by decide) (by decide) rfl ?_
  rintro T6 h6 _ W6 K6 P6 rfl
  rw [P6 rfl rfl] at W6
  show own_Go p e below C T6 (mkF m 109 #[.val (.ref a1), .val (.int p2), .val (.long q3), .second, .val (.long q4), .second, .val (.long (ng k)), .second, .val (.long (dg k)), .second, .val (.long q4), .second, .val (.long (dg k)), .second, .unset, .unset] [(.long (ng k))])
  refine own_lloadN W6 110 d4_109 rfl rfl ?_
  refine own_lload W6 112 d4_110 rfl rfl ?_
  refine own_lload W6 114 d4_112 rfl rfl ?_
  refine own_ldiv W6 115 d4_114 (own_nq (by rw [← hd]; exact hp)) rfl ?_
  rw [show ((dg k) / q4) = (1 : Int64) from (own_divself hd hp)]
  refine own_callS W6 (A := [(.long q3), (.long (1 : Int64))]) (wt := 2) (pc' := 118) (st := [(.long (ng k))]) d4_115 (wd33 hw) (wd34 hw) (wd7 hw) (wd35 hw) (by decide) (own_m6 l Z a0 hw [] h0 q3 hq) all0 rfl pd_0 rfl (Nat.le_of_eq rfl) (by decide) (by decide) (by decide) (by decide) rfl ?_
  rintro T7 h7 _ W7 K7 P7 rfl
  rw [P7 rfl rfl] at W7
  show own_Go p e below C T7 (mkF m 118 #[.val (.ref a1), .val (.int p2), .val (.long q3), .second, .val (.long q4), .second, .val (.long (ng k)), .second, .val (.long (dg k)), .second, .val (.long q4), .second, .val (.long (dg k)), .second, .unset, .unset] [(.long q3), (.long (ng k))])
  refine own_callS W7 (A := [(.long (ng k)), (.long q3)]) (wt := 0) (pc' := 121) (st := []) d4_118 (wd40 hw) (wd41 hw) (wd7 hw) (wd42 hw) (by decide) (own_m8 l Z a0 hw [] h0 (ng k) q3 hn hq) all0 rfl pd_0 rfl (Nat.le_of_eq rfl) (by decide) (by decide) (by decide) (by decide) rfl ?_
  rintro T8 h8 _ W8 K8 P8 rfl
  rw [P8 rfl rfl] at W8
  show own_Go p e below C T8 (mkF m 121 #[.val (.ref a1), .val (.int p2), .val (.long q3), .second, .val (.long q4), .second, .val (.long (ng k)), .second, .val (.long (dg k)), .second, .val (.long q4), .second, .val (.long (dg k)), .second, .unset, .unset] [(.long (if ((ng k) + q3) < (0 : Int64) then (-1 : Int64) else ((ng k) + q3)))])
  rw [show (if ((ng k) + q3) < (0 : Int64) then (-1 : Int64) else ((ng k) + q3)) = (-1 : Int64) from if_pos hs]
  refine own_lstore W8 123 #[.val (.ref a1), .val (.int p2), .val (.long q3), .second, .val (.long q4), .second, .val (.long (ng k)), .second, .val (.long (dg k)), .second, .val (.long q4), .second, .val (.long (dg k)), .second, .val (.long (-1 : Int64)), .second] d4_121 rfl rfl ?_
  refine own_lload W8 125 d4_123 rfl rfl ?_
  refine own_lconst W8 (0 : Int64) 126 d4_125 rfl rfl ?_
  refine own_lcmp W8 127 d4_126 rfl ?_
  refine own_ifN W8 130 d4_127 ((if0 _ _).trans (flt (mt (lw_lt (dg k) (0 : Int64)).mp ((fun q => by rw [own_lt0q] at q; omega) : ¬ ((dg k) < (0 : Int64))))).1) rfl ?_
  refine own_lload W8 132 d4_130 rfl rfl ?_
  refine own_lconst W8 (0 : Int64) 133 d4_132 rfl rfl ?_
  refine own_lcmp W8 134 d4_133 rfl ?_
  refine own_ifY W8 156 d4_134 ((if0 _ _).trans (tlt ((lw_lt (-1 : Int64) (0 : Int64)).mpr ((by decide) : (-1 : Int64) < (0 : Int64)))).1) (by decide) (by decide) ?_
  refine own_aloadN W8 157 d4_156 rfl rfl rfl ?_
  refine own_getfield W8 160 d4_157 (wd20 hw) F_approximations_a1 rfl ?_
  intro T9 W9
  show own_Go p e below C T9 (mkF m 160 #[.val (.ref a1), .val (.int p2), .val (.long q3), .second, .val (.long q4), .second, .val (.long (ng k)), .second, .val (.long (dg k)), .second, .val (.long q4), .second, .val (.long (dg k)), .second, .val (.long (-1 : Int64)), .second] [(.ref aA)])
  refine own_iloadN W9 161 d4_160 rfl rfl ?_
  refine own_lload W9 163 d4_161 rfl rfl ?_
  refine own_l2d W9 164 d4_163 rfl ?_
  refine own_lload W9 166 d4_164 rfl rfl ?_
  refine own_l2d W9 167 d4_166 rfl ?_
  refine own_ddiv W9 168 d4_167 (own_qn hp) rfl ?_
  refine own_lloadN W9 169 d4_168 rfl rfl ?_
  refine own_l2d W9 170 d4_169 rfl ?_
  refine own_lload W9 172 d4_170 rfl rfl ?_
  refine own_l2d W9 173 d4_172 rfl ?_
  refine own_ddiv W9 174 d4_173 (own_qn hp4) rfl ?_
  refine own_dadd W9 175 d4_174 (own_mn (own_am (own_qm hp) (own_qm hp4) (by decide)) (by decide)) rfl ?_
  refine own_dastore W9 k 176 d4_175 V_aA (Or.inl (List.mem_of_getElem? (i := 2) rfl)) hk hk2 rfl ?_
  intro T10 h10 W10 Wr10 V_aA
  have X_a1 := X_a1.wr Wr10
  have F_numerators_a1 := F_numerators_a1.other Wr10 (Or.inl ne_a1_aA)
  have V_nA := V_nA.other Wr10 ne_nA_aA
  have F_denominators_a1 := F_denominators_a1.other Wr10 (Or.inl ne_a1_aA)
  have V_dA := V_dA.other Wr10 ne_dA_aA
  have F_approximations_a1 := F_approximations_a1.other Wr10 (Or.inl ne_a1_aA)
  have F_terms_a1 := F_terms_a1.other Wr10 (Or.inl ne_a1_aA)
  have V_tA := V_tA.other Wr10 (Ne.symm ne_aA_tA)
  show own_Go p e below C T10 (mkF m 176 #[.val (.ref a1), .val (.int p2), .val (.long q3), .second, .val (.long q4), .second, .val (.long (ng k)), .second, .val (.long (dg k)), .second, .val (.long q4), .second, .val (.long (dg k)), .second, .val (.long (-1 : Int64)), .second] [])
  refine own_aloadN W10 177 d4_176 rfl rfl rfl ?_
  refine own_getfield W10 180 d4_177 (wd23 hw) F_terms_a1 rfl ?_
  intro T11 W11
  show own_Go p e below C T11 (mkF m 180 #[.val (.ref a1), .val (.int p2), .val (.long q3), .second, .val (.long q4), .second, .val (.long (ng k)), .second, .val (.long (dg k)), .second, .val (.long q4), .second, .val (.long (dg k)), .second, .val (.long (-1 : Int64)), .second] [(.ref tA)])
  refine own_iloadN W11 181 d4_180 rfl rfl ?_
  refine own_iconst W11 (2 : Int32) 182 d4_181 rfl rfl ?_
  refine own_iastore W11 k 183 d4_182 V_tA (Or.inl (List.mem_of_getElem? (i := 3) rfl)) hk hk2 rfl ?_
  intro T12 h12 W12 Wr12 V_tA
  have X_a1 := X_a1.wr Wr12
  have F_numerators_a1 := F_numerators_a1.other Wr12 (Or.inl ne_a1_tA)
  have V_nA := V_nA.other Wr12 ne_nA_tA
  have F_denominators_a1 := F_denominators_a1.other Wr12 (Or.inl ne_a1_tA)
  have V_dA := V_dA.other Wr12 ne_dA_tA
  have F_approximations_a1 := F_approximations_a1.other Wr12 (Or.inl ne_a1_tA)
  have V_aA := V_aA.other Wr12 ne_aA_tA
  have F_terms_a1 := F_terms_a1.other Wr12 (Or.inl ne_a1_tA)
  show own_Go p e below C T12 (mkF m 183 #[.val (.ref a1), .val (.int p2), .val (.long q3), .second, .val (.long q4), .second, .val (.long (ng k)), .second, .val (.long (dg k)), .second, .val (.long q4), .second, .val (.long (dg k)), .second, .val (.long (-1 : Int64)), .second] [])
  obtain ⟨ag', e_ag, a_ag, o_ag⟩ := own_upD ag k (FP.dadd (FP.ddiv (FP.l2d (ng k)) (FP.l2d (dg k))) (FP.ddiv (FP.l2d q3) (FP.l2d q4)))
  obtain ⟨tg', e_tg, a_tg, o_tg⟩ := own_upI tg k (2 : Int32)
  refine own_retV (Q := fun v h => v = none ∧ (∃ (ag' : Nat → UInt64) (tg' : Nat → Int32), ag' k = (FP.dadd (FP.ddiv (FP.l2d (ng k)) (FP.l2d (dg k))) (FP.ddiv (FP.l2d q3) (FP.l2d q4))) ∧ (∀ j, j ≠ k → ag' j = ag j) ∧ tg' k = (2 : Int32) ∧ (∀ j, j ≠ k → tg' j = tg j) ∧ own_A Z h nA .long 2 (fun j => .long (ng j)) ∧ own_A Z h dA .long 2 (fun j => .long (dg j)) ∧ own_A Z h aA .double 2 (fun j => .double (ag' j)) ∧ own_A Z h tA .int 2 (fun j => .int (tg' j)))) W12 hC (by decide) (by decide) d4_183 ?_
  exact ⟨rfl, ⟨ag', tg', a_ag, o_ag, a_tg, o_tg, V_nA, V_dA, V_aA.congr (fun j _ => e_ag j), V_tA.congr (fun j _ => e_tg j)⟩⟩
theorem ef_m4d (m : MethodId) (x0 : Addr) (x1 : Int32) (x2 : Int64) (x3 : Int64) : entryFrame m #[(.ref x0), (.int x1), (.long x2), (.long x3)] 16 = mkF m 0 #[.val (.ref x0), .val (.int x1), .val (.long x2), .second, .val (.long x3), .second, .unset, .unset, .unset, .unset, .unset, .unset, .unset, .unset, .unset, .unset] [] := by first | (simp [entryFrame, mkF, argsToLocals, Value.category]; done) | rfl
set_option maxRecDepth 65536 in
set_option maxHeartbeats 40000000 in
theorem own_m4d (l : Launch) (Z : State) (a0 : Array Value) (hw : ∀ d ∈ tables_1, d.before a0 Z = true) (wo : List Jvm.Cond) (h0 : Heap) (a1 : Addr) (p2 : Int32) (q3 : Int64) (q4 : Int64) (nA : Addr) (dA : Addr) (aA : Addr) (tA : Addr) (ng : Nat → Int64) (dg : Nat → Int64) (ag : Nat → UInt64) (tg : Nat → Int32) (k : Nat) (X_a1 : Exa Z h0 a1 "com/example/queueloom/queueloom/engine/QuotientSums") (F_numerators_a1 : Fld Z h0 a1 "com/example/queueloom/queueloom/engine/QuotientSums" "numerators" "[J" (.ref nA)) (F_denominators_a1 : Fld Z h0 a1 "com/example/queueloom/queueloom/engine/QuotientSums" "denominators" "[J" (.ref dA)) (F_approximations_a1 : Fld Z h0 a1 "com/example/queueloom/queueloom/engine/QuotientSums" "approximations" "[D" (.ref aA)) (F_terms_a1 : Fld Z h0 a1 "com/example/queueloom/queueloom/engine/QuotientSums" "terms" "[I" (.ref tA)) (V_nA : own_A Z h0 nA .long 2 (fun j => .long (ng j))) (V_dA : own_A Z h0 dA .long 2 (fun j => .long (dg j))) (V_aA : own_A Z h0 aA .double 2 (fun j => .double (ag j))) (V_tA : own_A Z h0 tA .int 2 (fun j => .int (tg j))) (ne_a1_nA : a1 ≠ nA) (ne_a1_dA : a1 ≠ dA) (ne_a1_aA : a1 ≠ aA) (ne_a1_tA : a1 ≠ tA) (ne_nA_dA : nA ≠ dA) (ne_nA_aA : nA ≠ aA) (ne_nA_tA : nA ≠ tA) (ne_dA_aA : dA ≠ aA) (ne_dA_tA : dA ≠ tA) (ne_aA_tA : aA ≠ tA) (hk : p2.toInt = (k : Int)) (hk2 : k < 2) (ht : tg k = 2) (hp4 : 0 < q4.toInt) (ha : Jvm.Free.Fl.Mag64 1091 (ag k)) :
    own_M l Z wo (⟨"com/example/queueloom/queueloom/engine/QuotientSums", "add", "(IJJ)V"⟩ : MethodName) prog_67_method_3_code 16 none ({ frames := 0, cells := 0, slots := 0, locals := 0 } : Room) [nA, dA, aA, tA] #[(.ref a1), (.int p2), (.long q3), (.long q4)] h0 (fun v h => v = none ∧ (∃ (ag' : Nat → UInt64) (tg' : Nat → Int32), ag' k = (FP.dadd (ag k) (FP.ddiv (FP.l2d q3) (FP.l2d q4))) ∧ (∀ j, j ≠ k → ag' j = ag j) ∧ tg' k = ((tg k) + (1 : Int32)) ∧ (∀ j, j ≠ k → tg' j = tg j) ∧ own_A Z h nA .long 2 (fun j => .long (ng j)) ∧ own_A Z h dA .long 2 (fun j => .long (dg j)) ∧ own_A Z h aA .double 2 (fun j => .double (ag' j)) ∧ own_A Z h tA .int 2 (fun j => .int (tg' j)))) := by
  refine own_body (plainFor_of_name pn_4) (fun m => ef_m4d m a1 p2 q3 q4) ?_
  intro p e s m below meth c C hC T0 W0
  refine own_aloadN W0 1 d4_0 rfl rfl rfl ?_
  refine own_getfield W0 4 d4_1 (wd15 hw) F_numerators_a1 rfl ?_
  intro T1 W1
  show own_Go p e below C T1 (mkF m 4 #[.val (.ref a1), .val (.int p2), .val (.long q3), .second, .val (.long q4), .second, .unset, .unset, .unset, .unset, .unset, .unset, .unset, .unset, .unset, .unset] [(.ref nA)])
  refine own_iloadN W1 5 d4_4 rfl rfl ?_
  refine own_laload W1 k (ng k) 6 d4_5 V_nA hk hk2 rfl rfl ?_
  refine own_lstore W1 8 #[.val (.ref a1), .val (.int p2), .val (.long q3), .second, .val (.long q4), .second, .val (.long (ng k)), .second, .unset, .unset, .unset, .unset, .unset, .unset, .unset, .unset] d4_6 rfl rfl ?_
  refine own_aloadN W1 9 d4_8 rfl rfl rfl ?_
  refine own_getfield W1 12 d4_9 (wd17 hw) F_denominators_a1 rfl ?_
  intro T2 W2
  show own_Go p e below C T2 (mkF m 12 #[.val (.ref a1), .val (.int p2), .val (.long q3), .second, .val (.long q4), .second, .val (.long (ng k)), .second, .unset, .unset, .unset, .unset, .unset, .unset, .unset, .unset] [(.ref dA)])
  refine own_iloadN W2 13 d4_12 rfl rfl ?_
  refine own_laload W2 k (dg k) 14 d4_13 V_dA hk hk2 rfl rfl ?_
  refine own_lstore W2 16 #[.val (.ref a1), .val (.int p2), .val (.long q3), .second, .val (.long q4), .second, .val (.long (ng k)), .second, .val (.long (dg k)), .second, .unset, .unset, .unset, .unset, .unset, .unset] d4_14 rfl rfl ?_
  refine own_aloadN W2 17 d4_16 rfl rfl rfl ?_
  refine own_getfield W2 20 d4_17 (wd23 hw) F_terms_a1 rfl ?_
  intro T3 W3
  show own_Go p e below C T3 (mkF m 20 #[.val (.ref a1), .val (.int p2), .val (.long q3), .second, .val (.long q4), .second, .val (.long (ng k)), .second, .val (.long (dg k)), .second, .unset, .unset, .unset, .unset, .unset, .unset] [(.ref tA)])
  refine own_iloadN W3 21 d4_20 rfl rfl ?_
  refine own_iaload W3 k (tg k) 22 d4_21 V_tA hk hk2 rfl rfl ?_
  refine own_ifN W3 25 d4_22 ((if0 _ _).trans (tlt ((by rw [ht]; decide) : (0 : Int32) < (tg k))).2.2.2) rfl ?_
  refine own_aloadN W3 26 d4_25 rfl rfl rfl ?_
  refine own_getfield W3 29 d4_26 (wd20 hw) F_approximations_a1 rfl ?_
  intro T4 W4
  show own_Go p e below C T4 (mkF m 29 #[.val (.ref a1), .val (.int p2), .val (.long q3), .second, .val (.long q4), .second, .val (.long (ng k)), .second, .val (.long (dg k)), .second, .unset, .unset, .unset, .unset, .unset, .unset] [(.ref aA)])
  refine own_iloadN W4 30 d4_29 rfl rfl ?_
  refine own_dup2 W4 31 d4_30 rfl ?_
  refine own_daload W4 k (ag k) 32 d4_31 V_aA hk hk2 rfl rfl ?_
  refine own_lloadN W4 33 d4_32 rfl rfl ?_
  refine own_l2d W4 34 d4_33 rfl ?_
  refine own_lload W4 36 d4_34 rfl rfl ?_
  refine own_l2d W4 37 d4_36 rfl ?_
  refine own_ddiv W4 38 d4_37 (own_qn hp4) rfl ?_
  refine own_dadd W4 39 d4_38 (own_mn (own_am ha (own_mm (own_qm hp4) (by decide)) (by decide)) (by decide)) rfl ?_
  refine own_dastore W4 k 40 d4_39 V_aA (Or.inl (List.mem_of_getElem? (i := 2) rfl)) hk hk2 rfl ?_
  intro T5 h5 W5 Wr5 V_aA
  have X_a1 := X_a1.wr Wr5
  have F_numerators_a1 := F_numerators_a1.other Wr5 (Or.inl ne_a1_aA)
  have V_nA := V_nA.other Wr5 ne_nA_aA
  have F_denominators_a1 := F_denominators_a1.other Wr5 (Or.inl ne_a1_aA)
  have V_dA := V_dA.other Wr5 ne_dA_aA
  have F_approximations_a1 := F_approximations_a1.other Wr5 (Or.inl ne_a1_aA)
  have F_terms_a1 := F_terms_a1.other Wr5 (Or.inl ne_a1_aA)
  have V_tA := V_tA.other Wr5 (Ne.symm ne_aA_tA)
  show own_Go p e below C T5 (mkF m 40 #[.val (.ref a1), .val (.int p2), .val (.long q3), .second, .val (.long q4), .second, .val (.long (ng k)), .second, .val (.long (dg k)), .second, .unset, .unset, .unset, .unset, .unset, .unset] [])
  refine own_aloadN W5 41 d4_40 rfl rfl rfl ?_
  refine own_getfield W5 44 d4_41 (wd23 hw) F_terms_a1 rfl ?_
  intro T6 W6
  show own_Go p e below C T6 (mkF m 44 #[.val (.ref a1), .val (.int p2), .val (.long q3), .second, .val (.long q4), .second, .val (.long (ng k)), .second, .val (.long (dg k)), .second, .unset, .unset, .unset, .unset, .unset, .unset] [(.ref tA)])
  refine own_iloadN W6 45 d4_44 rfl rfl ?_
  refine own_dup2 W6 46 d4_45 rfl ?_
  refine own_iaload W6 k (tg k) 47 d4_46 V_tA hk hk2 rfl rfl ?_
  refine own_iconst W6 (1 : Int32) 48 d4_47 rfl rfl ?_
  refine own_iadd W6 49 d4_48 rfl ?_
  refine own_iastore W6 k 50 d4_49 V_tA (Or.inl (List.mem_of_getElem? (i := 3) rfl)) hk hk2 rfl ?_
  intro T7 h7 W7 Wr7 V_tA
  have X_a1 := X_a1.wr Wr7
  have F_numerators_a1 := F_numerators_a1.other Wr7 (Or.inl ne_a1_tA)
  have V_nA := V_nA.other Wr7 ne_nA_tA
  have F_denominators_a1 := F_denominators_a1.other Wr7 (Or.inl ne_a1_tA)
  have V_dA := V_dA.other Wr7 ne_dA_tA
  have F_approximations_a1 := F_approximations_a1.other Wr7 (Or.inl ne_a1_tA)
  have V_aA := V_aA.other Wr7 ne_aA_tA
  have F_terms_a1 := F_terms_a1.other Wr7 (Or.inl ne_a1_tA)
  show own_Go p e below C T7 (mkF m 50 #[.val (.ref a1), .val (.int p2), .val (.long q3), .second, .val (.long q4), .second, .val (.long (ng k)), .second, .val (.long (dg k)), .second, .unset, .unset, .unset, .unset, .unset, .unset] [])
  refine own_goto W7 183 d4_50 (by decide) (by decide) ?_
  obtain ⟨ag', e_ag, a_ag, o_ag⟩ := own_upD ag k (FP.dadd (ag k) (FP.ddiv (FP.l2d q3) (FP.l2d q4)))
  obtain ⟨tg', e_tg, a_tg, o_tg⟩ := own_upI tg k ((tg k) + (1 : Int32))
  refine own_retV (Q := fun v h => v = none ∧ (∃ (ag' : Nat → UInt64) (tg' : Nat → Int32), ag' k = (FP.dadd (ag k) (FP.ddiv (FP.l2d q3) (FP.l2d q4))) ∧ (∀ j, j ≠ k → ag' j = ag j) ∧ tg' k = ((tg k) + (1 : Int32)) ∧ (∀ j, j ≠ k → tg' j = tg j) ∧ own_A Z h nA .long 2 (fun j => .long (ng j)) ∧ own_A Z h dA .long 2 (fun j => .long (dg j)) ∧ own_A Z h aA .double 2 (fun j => .double (ag' j)) ∧ own_A Z h tA .int 2 (fun j => .int (tg' j)))) W7 hC (by decide) (by decide) d4_183 ?_
  exact ⟨rfl, ⟨ag', tg', a_ag, o_ag, a_tg, o_tg, V_nA, V_dA, V_aA.congr (fun j _ => e_ag j), V_tA.congr (fun j _ => e_tg j)⟩⟩
theorem own_den {d : Int64} : 0 < (if (1 : Int64) < d then d else (1 : Int64)).toInt := by
  split
  · rename_i h
    rw [Int64.lt_iff_toInt_lt] at h
    have : (1 : Int64).toInt = 1 := rfl
    omega
  · decide
theorem own_bit1 (u : Int32) : ∃ k : Nat, (((u.toUInt32 >>> ((2 : Int32) &&& 31).toUInt32).toInt32) &&& (1 : Int32)).toInt = (k : Int) ∧ k < 2 := by
  have h1 := c_mask ((u.toUInt32 >>> ((2 : Int32) &&& 31).toUInt32).toInt32) 1 1 (by decide) (by decide)
  simp only [Nat.reducePow] at h1
  exact ⟨((((u.toUInt32 >>> ((2 : Int32) &&& 31).toUInt32).toInt32) &&& (1 : Int32)).toInt).toNat, by omega, by omega⟩
theorem own_m3 (u : Int32) : ∃ k : Nat, (u &&& (3 : Int32)).toInt = (k : Int) ∧ k < 4 := by
  have h1 := c_mask u 3 2 (by decide) (by decide)
  simp only [Nat.reducePow] at h1
  exact ⟨((u &&& (3 : Int32)).toInt).toNat, by omega, by omega⟩
theorem own_oth {ix : Int32} {k : Nat} (h : ix.toInt = (k : Int)) (hk : k < 2) : ∃ j : Nat, ((1 : Int32) - ix).toInt = (j : Int) ∧ j < 2 ∧ j ≠ k := by
  have h1 := c_isub 1 ix
  have h2 := rng32 ((1 : Int32) - ix)
  have h3 : (1 : Int32).toInt = 1 := rfl
  exact ⟨1 - k, by omega, by omega, by omega⟩
theorem own_lit32 {u : Int32} {n : Nat} (h : u.toInt = (n : Int)) (z : Int32) (hz : z.toInt = (n : Int)) : u = z := Int32.toInt_inj.mp (h.trans hz.symm)
theorem ef_m0 (m : MethodId) (x0 : Int64) (x1 : Int64) (x2 : Int64) (x3 : Int64) (x4 : Int32) : entryFrame m #[(.long x0), (.long x1), (.long x2), (.long x3), (.int x4)] maxLocals = mkF m 0 #[.val (.long x0), .second, .val (.long x1), .second, .val (.long x2), .second, .val (.long x3), .second, .val (.int x4), .unset, .unset, .unset, .unset, .unset, .unset, .unset, .unset, .unset, .unset, .unset, .unset, .unset, .unset, .unset, .unset, .unset, .unset, .unset] [] := by first | (simp [entryFrame, mkF, argsToLocals, Value.category, maxLocals]; done) | rfl
set_option maxRecDepth 65536 in
set_option maxHeartbeats 40000000 in
theorem own_md0 (l : Launch) (Z : State) (a0 : Array Value) (hw : ∀ d ∈ tables_1, d.before a0 Z = true) (h0 : Heap) (q1 : Int64) (q2 : Int64) (q3 : Int64) (q4 : Int64) (p5 : Int32) (p : Program) (e : Env) (s : State) (m : MethodId) (below : List Frame) (meth : Method) (c : Code) (C : Outcome → State → Prop) (hC : ∀ v L u, own_Fw s [] L → (v = some (.int (1 : Int32))) → FrameEnd s (.returned v) u L room_1.cells room_1.slots → C (.returned v) u) (T : State) (h : Heap) (a1 nA dA aA tA : Addr) (vx vy vz de : Int64) (ix io : Int32) (k : Nat) (W : own_W p l e room_1 s m #[(.long q1), (.long q2), (.long q3), (.long q4), (.int p5)] below meth c Z x ret code maxLocals [] T h (0 + 0 + 1 + 4) (0 + 0 + 4 + 8)) (o_nA : s.heap.size ≤ nA) (o_dA : s.heap.size ≤ dA) (o_aA : s.heap.size ≤ aA) (o_tA : s.heap.size ≤ tA) (X_a1 : Exa Z h a1 "com/example/queueloom/queueloom/engine/QuotientSums") (F_numerators_a1 : Fld Z h a1 "com/example/queueloom/queueloom/engine/QuotientSums" "numerators" "[J" (.ref nA)) (F_denominators_a1 : Fld Z h a1 "com/example/queueloom/queueloom/engine/QuotientSums" "denominators" "[J" (.ref dA)) (F_approximations_a1 : Fld Z h a1 "com/example/queueloom/queueloom/engine/QuotientSums" "approximations" "[D" (.ref aA)) (F_terms_a1 : Fld Z h a1 "com/example/queueloom/queueloom/engine/QuotientSums" "terms" "[I" (.ref tA)) (V_nA : own_A Z h nA .long 2 (fun _ => .long 0)) (V_dA : own_A Z h dA .long 2 (fun _ => .long 0)) (V_aA : own_A Z h aA .double 2 (fun _ => .double 0)) (V_tA : own_A Z h tA .int 2 (fun _ => .int 0)) (ne_a1_nA : a1 ≠ nA) (ne_a1_dA : a1 ≠ dA) (ne_a1_aA : a1 ≠ aA) (ne_a1_tA : a1 ≠ tA) (ne_nA_dA : nA ≠ dA) (ne_nA_aA : nA ≠ aA) (ne_nA_tA : nA ≠ tA) (ne_dA_aA : dA ≠ aA) (ne_dA_tA : dA ≠ tA) (ne_aA_tA : aA ≠ tA) (hvx : 0 ≤ vx.toInt) (hvy : 0 ≤ vy.toInt) (hvz : 0 ≤ vz.toInt) (hde : 0 < de.toInt) (hk : ix.toInt = (k : Int)) (hk2 : k < 2) (hko : ∃ j : Nat, io.toInt = (j : Int) ∧ j < 2 ∧ j ≠ k) :
    own_Go p e below C T (mkF m 67 #[.val (.long q1), .second, .val (.long q2), .second, .val (.long q3), .second, .val (.long q4), .second, .val (.int p5), .val (.long vx), .second, .val (.long vy), .second, .val (.long vz), .second, .val (.long de), .second, .val (.int (0 : Int32)), .val (.int ix), .val (.int io), .val (.ref a1), .unset, .unset, .unset, .unset, .unset, .unset, .unset] [(.int (1 : Int32)), (.int (0 : Int32))]) := by
  obtain ⟨jo, hjo, hjo2, hjk⟩ := hko
  refine own_icmpY W 81 at_67 ((tlt ((by decide) : (0 : Int32) < (1 : Int32))).1) (by decide) (by decide) ?_
  refine own_iload W 83 at_81 rfl rfl ?_
  refine own_iconst W (2 : Int32) 84 at_83 rfl rfl ?_
  refine own_icmpY W 98 at_84 ((tlt ((by decide) : (0 : Int32) < (2 : Int32))).1) (by decide) (by decide) ?_
  refine own_iload W 100 at_98 rfl rfl ?_
  refine own_iconst W (3 : Int32) 101 at_100 rfl rfl ?_
  refine own_icmpY W 115 at_101 ((tlt ((by decide) : (0 : Int32) < (3 : Int32))).1) (by decide) (by decide) ?_
  refine own_iload W 117 at_115 rfl rfl ?_
  refine own_ifN W 120 at_117 ((if0 _ _).trans (teq (rfl : (0 : Int32) = (0 : Int32))).2) rfl ?_
  refine own_dconst0 W 121 at_120 rfl ?_
  refine own_dstore W 123 #[.val (.long q1), .second, .val (.long q2), .second, .val (.long q3), .second, .val (.long q4), .second, .val (.int p5), .val (.long vx), .second, .val (.long vy), .second, .val (.long vz), .second, .val (.long de), .second, .val (.int (0 : Int32)), .val (.int ix), .val (.int io), .val (.ref a1), .val (.double FP.dconst0), .second, .unset, .unset, .unset, .unset, .unset] at_121 rfl rfl ?_
  refine own_goto W 280 at_123 (by decide) (by decide) ?_
  refine own_aload W 282 at_280 rfl rfl rfl ?_
  refine own_iload W 284 at_282 rfl rfl ?_
  refine own_callV W (A := [(.int ix)]) (wt := 0) (pc' := 287) (st := []) at_284 (wd43 hw) (wd44 hw) (own_nf W (wd46 hw)) (wd46 hw) (wd45 hw) (wd7 hw) (wd47 hw) (by decide) X_a1 (own_m9z l Z a0 hw [] h a1 ix nA dA aA tA (fun _ => 0) (fun _ => 0) (fun _ => 0) (fun _ => 0) k X_a1 F_numerators_a1 F_denominators_a1 F_approximations_a1 F_terms_a1 V_nA V_dA V_aA V_tA hk hk2 rfl rfl) all0 rfl pd_2 rfl (Nat.le_of_eq rfl) (by decide) (by decide) (by decide) (by decide) rfl ?_
  rintro T1004 h1004 _ W1004 K1004 P1004 rfl
  rw [P1004 rfl rfl] at W1004
  show own_Go p e below C T1004 (mkF m 287 #[.val (.long q1), .second, .val (.long q2), .second, .val (.long q3), .second, .val (.long q4), .second, .val (.int p5), .val (.long vx), .second, .val (.long vy), .second, .val (.long vz), .second, .val (.long de), .second, .val (.int (0 : Int32)), .val (.int ix), .val (.int io), .val (.ref a1), .val (.double FP.dconst0), .second, .unset, .unset, .unset, .unset, .unset] [(.double FP.dconst0)])
  refine own_dload W1004 289 at_287 rfl rfl ?_
  refine own_dcmpl W1004 290 at_289 rfl ?_
  refine own_ifN W1004 293 at_290 ((if0 _ _).trans (teq ((Jvm.RoadKit.dcmpV_eq rfl (by decide) .l) : (cmpValue (FP.dcmp FP.dconst0 FP.dconst0) .l) = (0 : Int32))).2) rfl ?_
  refine own_aload W1004 295 at_293 rfl rfl rfl ?_
  refine own_iload W1004 297 at_295 rfl rfl ?_
  refine own_callV W1004 (A := [(.int io)]) (wt := 0) (pc' := 300) (st := []) at_297 (wd43 hw) (wd44 hw) (own_nf W1004 (wd46 hw)) (wd46 hw) (wd45 hw) (wd7 hw) (wd47 hw) (by decide) X_a1 (own_m9z l Z a0 hw [] h a1 io nA dA aA tA (fun _ => 0) (fun _ => 0) (fun _ => 0) (fun _ => 0) jo X_a1 F_numerators_a1 F_denominators_a1 F_approximations_a1 F_terms_a1 V_nA V_dA V_aA V_tA hjo hjo2 (rfl) (rfl)) all0 rfl pd_2 rfl (Nat.le_of_eq rfl) (by decide) (by decide) (by decide) (by decide) rfl ?_
  rintro T1005 h1005 _ W1005 K1005 P1005 rfl
  rw [P1005 rfl rfl] at W1005
  show own_Go p e below C T1005 (mkF m 300 #[.val (.long q1), .second, .val (.long q2), .second, .val (.long q3), .second, .val (.long q4), .second, .val (.int p5), .val (.long vx), .second, .val (.long vy), .second, .val (.long vz), .second, .val (.long de), .second, .val (.int (0 : Int32)), .val (.int ix), .val (.int io), .val (.ref a1), .val (.double FP.dconst0), .second, .unset, .unset, .unset, .unset, .unset] [(.double FP.dconst0)])
  refine own_dconst0 W1005 301 at_300 rfl ?_
  refine own_dcmpl W1005 302 at_301 rfl ?_
  refine own_ifN W1005 305 at_302 ((if0 _ _).trans (teq ((Jvm.RoadKit.dcmpV_self (by decide) .l) : (cmpValue (FP.dcmp FP.dconst0 FP.dconst0) .l) = (0 : Int32))).2) rfl ?_
  refine own_iconst W1005 (1 : Int32) 306 at_305 rfl rfl ?_
  refine own_goto W1005 310 at_306 (by decide) (by decide) ?_
  refine own_retZ (Q := fun v h => v = some (.int (1 : Int32))) W1005 hC (by decide) (by decide) at_310 ?_
  exact rfl
set_option maxRecDepth 65536 in
set_option maxHeartbeats 40000000 in
theorem own_md1 (l : Launch) (Z : State) (a0 : Array Value) (hw : ∀ d ∈ tables_1, d.before a0 Z = true) (h0 : Heap) (q1 : Int64) (q2 : Int64) (q3 : Int64) (q4 : Int64) (p5 : Int32) (p : Program) (e : Env) (s : State) (m : MethodId) (below : List Frame) (meth : Method) (c : Code) (C : Outcome → State → Prop) (hC : ∀ v L u, own_Fw s [] L → (v = some (.int (1 : Int32))) → FrameEnd s (.returned v) u L room_1.cells room_1.slots → C (.returned v) u) (T : State) (h : Heap) (a1 nA dA aA tA : Addr) (vx vy vz de : Int64) (ix io : Int32) (k : Nat) (W : own_W p l e room_1 s m #[(.long q1), (.long q2), (.long q3), (.long q4), (.int p5)] below meth c Z x ret code maxLocals [] T h (0 + 0 + 1 + 4) (0 + 0 + 4 + 8)) (o_nA : s.heap.size ≤ nA) (o_dA : s.heap.size ≤ dA) (o_aA : s.heap.size ≤ aA) (o_tA : s.heap.size ≤ tA) (X_a1 : Exa Z h a1 "com/example/queueloom/queueloom/engine/QuotientSums") (F_numerators_a1 : Fld Z h a1 "com/example/queueloom/queueloom/engine/QuotientSums" "numerators" "[J" (.ref nA)) (F_denominators_a1 : Fld Z h a1 "com/example/queueloom/queueloom/engine/QuotientSums" "denominators" "[J" (.ref dA)) (F_approximations_a1 : Fld Z h a1 "com/example/queueloom/queueloom/engine/QuotientSums" "approximations" "[D" (.ref aA)) (F_terms_a1 : Fld Z h a1 "com/example/queueloom/queueloom/engine/QuotientSums" "terms" "[I" (.ref tA)) (V_nA : own_A Z h nA .long 2 (fun _ => .long 0)) (V_dA : own_A Z h dA .long 2 (fun _ => .long 0)) (V_aA : own_A Z h aA .double 2 (fun _ => .double 0)) (V_tA : own_A Z h tA .int 2 (fun _ => .int 0)) (ne_a1_nA : a1 ≠ nA) (ne_a1_dA : a1 ≠ dA) (ne_a1_aA : a1 ≠ aA) (ne_a1_tA : a1 ≠ tA) (ne_nA_dA : nA ≠ dA) (ne_nA_aA : nA ≠ aA) (ne_nA_tA : nA ≠ tA) (ne_dA_aA : dA ≠ aA) (ne_dA_tA : dA ≠ tA) (ne_aA_tA : aA ≠ tA) (hvx : 0 ≤ vx.toInt) (hvy : 0 ≤ vy.toInt) (hvz : 0 ≤ vz.toInt) (hde : 0 < de.toInt) (hk : ix.toInt = (k : Int)) (hk2 : k < 2) (hko : ∃ j : Nat, io.toInt = (j : Int) ∧ j < 2 ∧ j ≠ k) :
    own_Go p e below C T (mkF m 67 #[.val (.long q1), .second, .val (.long q2), .second, .val (.long q3), .second, .val (.long q4), .second, .val (.int p5), .val (.long vx), .second, .val (.long vy), .second, .val (.long vz), .second, .val (.long de), .second, .val (.int (1 : Int32)), .val (.int ix), .val (.int io), .val (.ref a1), .unset, .unset, .unset, .unset, .unset, .unset, .unset] [(.int (1 : Int32)), (.int (1 : Int32))]) := by
  obtain ⟨jo, hjo, hjo2, hjk⟩ := hko
  refine own_icmpN W 70 at_67 ((flt ((by decide) : ¬ ((1 : Int32) < (1 : Int32)))).1) rfl ?_
  refine own_aload W 72 at_70 rfl rfl rfl ?_
  refine own_iload W 74 at_72 rfl rfl ?_
  refine own_lload W 76 at_74 rfl rfl ?_
  refine own_lload W 78 at_76 rfl rfl ?_
  refine own_callV W (A := [(.int ix), (.long vx), (.long de)]) (wt := 0) (pc' := 81) (st := []) at_78 (wd25 hw) (wd26 hw) (own_nf W (wd28 hw)) (wd28 hw) (wd27 hw) (wd7 hw) (wd29 hw) (by decide) X_a1 (own_m4a l Z a0 hw [] h a1 ix vx de nA dA aA tA (fun _ => 0) (fun _ => 0) (fun _ => 0) (fun _ => 0) k X_a1 F_numerators_a1 F_denominators_a1 F_approximations_a1 F_terms_a1 V_nA V_dA V_aA V_tA ne_a1_nA ne_a1_dA ne_a1_aA ne_a1_tA ne_nA_dA ne_nA_aA ne_nA_tA ne_dA_aA ne_dA_tA ne_aA_tA hk hk2 rfl rfl) (allS (Or.inr o_nA) (allS (Or.inr o_dA) (allS (Or.inr o_aA) (allS (Or.inr o_tA) all0)))) rfl pd_3 rfl (Nat.le_of_eq rfl) (by decide) (by decide) (by decide) (by decide) rfl ?_
  rintro T1004 h1004 _ W1004 K1004 P1004 ⟨rfl, ⟨ng1, dg1, ang1, bng1, adg1, bdg1, V_nA, V_dA, V_aA, V_tA⟩⟩
  have X_a1 := X_a1.keep K1004
  have F_numerators_a1 := F_numerators_a1.keep K1004 (ninS ne_a1_nA (ninS ne_a1_dA (ninS ne_a1_aA (ninS ne_a1_tA nin0))))
  have F_denominators_a1 := F_denominators_a1.keep K1004 (ninS ne_a1_nA (ninS ne_a1_dA (ninS ne_a1_aA (ninS ne_a1_tA nin0))))
  have F_approximations_a1 := F_approximations_a1.keep K1004 (ninS ne_a1_nA (ninS ne_a1_dA (ninS ne_a1_aA (ninS ne_a1_tA nin0))))
  have F_terms_a1 := F_terms_a1.keep K1004 (ninS ne_a1_nA (ninS ne_a1_dA (ninS ne_a1_aA (ninS ne_a1_tA nin0))))
  show own_Go p e below C T1004 (mkF m 81 #[.val (.long q1), .second, .val (.long q2), .second, .val (.long q3), .second, .val (.long q4), .second, .val (.int p5), .val (.long vx), .second, .val (.long vy), .second, .val (.long vz), .second, .val (.long de), .second, .val (.int (1 : Int32)), .val (.int ix), .val (.int io), .val (.ref a1), .unset, .unset, .unset, .unset, .unset, .unset, .unset] [])
  refine own_iload W1004 83 at_81 rfl rfl ?_
  refine own_iconst W1004 (2 : Int32) 84 at_83 rfl rfl ?_
  refine own_icmpY W1004 98 at_84 ((tlt ((by decide) : (1 : Int32) < (2 : Int32))).1) (by decide) (by decide) ?_
  refine own_iload W1004 100 at_98 rfl rfl ?_
  refine own_iconst W1004 (3 : Int32) 101 at_100 rfl rfl ?_
  refine own_icmpY W1004 115 at_101 ((tlt ((by decide) : (1 : Int32) < (3 : Int32))).1) (by decide) (by decide) ?_
  refine own_iload W1004 117 at_115 rfl rfl ?_
  refine own_ifY W1004 126 at_117 ((if0 _ _).trans (feq ((by decide) : ¬ ((1 : Int32) = (0 : Int32)))).2) (by decide) (by decide) ?_
  refine own_iload W1004 128 at_126 rfl rfl ?_
  refine own_iconst W1004 (1 : Int32) 129 at_128 rfl rfl ?_
  refine own_icmpN W1004 132 at_129 ((teq (rfl : (1 : Int32) = (1 : Int32))).2) rfl ?_
  refine own_lload W1004 134 at_132 rfl rfl ?_
  refine own_l2d W1004 135 at_134 rfl ?_
  refine own_lload W1004 137 at_135 rfl rfl ?_
  refine own_l2d W1004 138 at_137 rfl ?_
  refine own_ddiv W1004 139 at_138 (own_qn hde) rfl ?_
  refine own_dstore W1004 141 #[.val (.long q1), .second, .val (.long q2), .second, .val (.long q3), .second, .val (.long q4), .second, .val (.int p5), .val (.long vx), .second, .val (.long vy), .second, .val (.long vz), .second, .val (.long de), .second, .val (.int (1 : Int32)), .val (.int ix), .val (.int io), .val (.ref a1), .val (.double (FP.ddiv (FP.l2d vx) (FP.l2d de))), .second, .unset, .unset, .unset, .unset, .unset] at_139 rfl rfl ?_
  refine own_goto W1004 280 at_141 (by decide) (by decide) ?_
  refine own_aload W1004 282 at_280 rfl rfl rfl ?_
  refine own_iload W1004 284 at_282 rfl rfl ?_
  refine own_callV W1004 (A := [(.int ix)]) (wt := 0) (pc' := 287) (st := []) at_284 (wd43 hw) (wd44 hw) (own_nf W1004 (wd46 hw)) (wd46 hw) (wd45 hw) (wd7 hw) (wd47 hw) (by decide) X_a1 (own_m9q l Z a0 hw [] h1004 a1 ix nA dA aA tA ng1 dg1 (fun _ => 0) (fun _ => 0) k X_a1 F_numerators_a1 F_denominators_a1 F_approximations_a1 F_terms_a1 V_nA V_dA V_aA V_tA hk hk2 rfl (by rw [adg1]; exact hde)) all0 rfl pd_2 rfl (Nat.le_of_eq rfl) (by decide) (by decide) (by decide) (by decide) rfl ?_
  rintro T1005 h1005 _ W1005 K1005 P1005 rfl
  rw [P1005 rfl rfl] at W1005
  show own_Go p e below C T1005 (mkF m 287 #[.val (.long q1), .second, .val (.long q2), .second, .val (.long q3), .second, .val (.long q4), .second, .val (.int p5), .val (.long vx), .second, .val (.long vy), .second, .val (.long vz), .second, .val (.long de), .second, .val (.int (1 : Int32)), .val (.int ix), .val (.int io), .val (.ref a1), .val (.double (FP.ddiv (FP.l2d vx) (FP.l2d de))), .second, .unset, .unset, .unset, .unset, .unset] [(.double (FP.ddiv (FP.l2d (ng1 k)) (FP.l2d (dg1 k))))])
  refine own_dload W1005 289 at_287 rfl rfl ?_
  refine own_dcmpl W1005 290 at_289 rfl ?_
  refine own_ifN W1005 293 at_290 ((if0 _ _).trans (teq ((Jvm.RoadKit.dcmpV_eq (by rw [ang1, adg1]) (own_qn (by rw [adg1]; exact hde)) .l) : (cmpValue (FP.dcmp (FP.ddiv (FP.l2d (ng1 k)) (FP.l2d (dg1 k))) (FP.ddiv (FP.l2d vx) (FP.l2d de))) .l) = (0 : Int32))).2) rfl ?_
  refine own_aload W1005 295 at_293 rfl rfl rfl ?_
  refine own_iload W1005 297 at_295 rfl rfl ?_
  refine own_callV W1005 (A := [(.int io)]) (wt := 0) (pc' := 300) (st := []) at_297 (wd43 hw) (wd44 hw) (own_nf W1005 (wd46 hw)) (wd46 hw) (wd45 hw) (wd7 hw) (wd47 hw) (by decide) X_a1 (own_m9z l Z a0 hw [] h1004 a1 io nA dA aA tA ng1 dg1 (fun _ => 0) (fun _ => 0) jo X_a1 F_numerators_a1 F_denominators_a1 F_approximations_a1 F_terms_a1 V_nA V_dA V_aA V_tA hjo hjo2 (rfl) (by rw [bdg1 jo hjk])) all0 rfl pd_2 rfl (Nat.le_of_eq rfl) (by decide) (by decide) (by decide) (by decide) rfl ?_
  rintro T1006 h1006 _ W1006 K1006 P1006 rfl
  rw [P1006 rfl rfl] at W1006
  show own_Go p e below C T1006 (mkF m 300 #[.val (.long q1), .second, .val (.long q2), .second, .val (.long q3), .second, .val (.long q4), .second, .val (.int p5), .val (.long vx), .second, .val (.long vy), .second, .val (.long vz), .second, .val (.long de), .second, .val (.int (1 : Int32)), .val (.int ix), .val (.int io), .val (.ref a1), .val (.double (FP.ddiv (FP.l2d vx) (FP.l2d de))), .second, .unset, .unset, .unset, .unset, .unset] [(.double FP.dconst0)])
  refine own_dconst0 W1006 301 at_300 rfl ?_
  refine own_dcmpl W1006 302 at_301 rfl ?_
  refine own_ifN W1006 305 at_302 ((if0 _ _).trans (teq ((Jvm.RoadKit.dcmpV_self (by decide) .l) : (cmpValue (FP.dcmp FP.dconst0 FP.dconst0) .l) = (0 : Int32))).2) rfl ?_
  refine own_iconst W1006 (1 : Int32) 306 at_305 rfl rfl ?_
  refine own_goto W1006 310 at_306 (by decide) (by decide) ?_
  refine own_retZ (Q := fun v h => v = some (.int (1 : Int32))) W1006 hC (by decide) (by decide) at_310 ?_
  exact rfl
set_option maxRecDepth 65536 in
set_option maxHeartbeats 40000000 in
theorem own_md2 (l : Launch) (Z : State) (a0 : Array Value) (hw : ∀ d ∈ tables_1, d.before a0 Z = true) (h0 : Heap) (q1 : Int64) (q2 : Int64) (q3 : Int64) (q4 : Int64) (p5 : Int32) (p : Program) (e : Env) (s : State) (m : MethodId) (below : List Frame) (meth : Method) (c : Code) (C : Outcome → State → Prop) (hC : ∀ v L u, own_Fw s [] L → (v = some (.int (1 : Int32))) → FrameEnd s (.returned v) u L room_1.cells room_1.slots → C (.returned v) u) (T : State) (h : Heap) (a1 nA dA aA tA : Addr) (vx vy vz de : Int64) (ix io : Int32) (k : Nat) (W : own_W p l e room_1 s m #[(.long q1), (.long q2), (.long q3), (.long q4), (.int p5)] below meth c Z x ret code maxLocals [] T h (0 + 0 + 1 + 4) (0 + 0 + 4 + 8)) (o_nA : s.heap.size ≤ nA) (o_dA : s.heap.size ≤ dA) (o_aA : s.heap.size ≤ aA) (o_tA : s.heap.size ≤ tA) (X_a1 : Exa Z h a1 "com/example/queueloom/queueloom/engine/QuotientSums") (F_numerators_a1 : Fld Z h a1 "com/example/queueloom/queueloom/engine/QuotientSums" "numerators" "[J" (.ref nA)) (F_denominators_a1 : Fld Z h a1 "com/example/queueloom/queueloom/engine/QuotientSums" "denominators" "[J" (.ref dA)) (F_approximations_a1 : Fld Z h a1 "com/example/queueloom/queueloom/engine/QuotientSums" "approximations" "[D" (.ref aA)) (F_terms_a1 : Fld Z h a1 "com/example/queueloom/queueloom/engine/QuotientSums" "terms" "[I" (.ref tA)) (V_nA : own_A Z h nA .long 2 (fun _ => .long 0)) (V_dA : own_A Z h dA .long 2 (fun _ => .long 0)) (V_aA : own_A Z h aA .double 2 (fun _ => .double 0)) (V_tA : own_A Z h tA .int 2 (fun _ => .int 0)) (ne_a1_nA : a1 ≠ nA) (ne_a1_dA : a1 ≠ dA) (ne_a1_aA : a1 ≠ aA) (ne_a1_tA : a1 ≠ tA) (ne_nA_dA : nA ≠ dA) (ne_nA_aA : nA ≠ aA) (ne_nA_tA : nA ≠ tA) (ne_dA_aA : dA ≠ aA) (ne_dA_tA : dA ≠ tA) (ne_aA_tA : aA ≠ tA) (hvx : 0 ≤ vx.toInt) (hvy : 0 ≤ vy.toInt) (hvz : 0 ≤ vz.toInt) (hde : 0 < de.toInt) (hk : ix.toInt = (k : Int)) (hk2 : k < 2) (hko : ∃ j : Nat, io.toInt = (j : Int) ∧ j < 2 ∧ j ≠ k) :
    own_Go p e below C T (mkF m 67 #[.val (.long q1), .second, .val (.long q2), .second, .val (.long q3), .second, .val (.long q4), .second, .val (.int p5), .val (.long vx), .second, .val (.long vy), .second, .val (.long vz), .second, .val (.long de), .second, .val (.int (2 : Int32)), .val (.int ix), .val (.int io), .val (.ref a1), .unset, .unset, .unset, .unset, .unset, .unset, .unset] [(.int (1 : Int32)), (.int (2 : Int32))]) := by
  obtain ⟨jo, hjo, hjo2, hjk⟩ := hko
  refine own_icmpN W 70 at_67 ((flt ((by decide) : ¬ ((2 : Int32) < (1 : Int32)))).1) rfl ?_
  refine own_aload W 72 at_70 rfl rfl rfl ?_
  refine own_iload W 74 at_72 rfl rfl ?_
  refine own_lload W 76 at_74 rfl rfl ?_
  refine own_lload W 78 at_76 rfl rfl ?_
  refine own_callV W (A := [(.int ix), (.long vx), (.long de)]) (wt := 0) (pc' := 81) (st := []) at_78 (wd25 hw) (wd26 hw) (own_nf W (wd28 hw)) (wd28 hw) (wd27 hw) (wd7 hw) (wd29 hw) (by decide) X_a1 (own_m4a l Z a0 hw [] h a1 ix vx de nA dA aA tA (fun _ => 0) (fun _ => 0) (fun _ => 0) (fun _ => 0) k X_a1 F_numerators_a1 F_denominators_a1 F_approximations_a1 F_terms_a1 V_nA V_dA V_aA V_tA ne_a1_nA ne_a1_dA ne_a1_aA ne_a1_tA ne_nA_dA ne_nA_aA ne_nA_tA ne_dA_aA ne_dA_tA ne_aA_tA hk hk2 rfl rfl) (allS (Or.inr o_nA) (allS (Or.inr o_dA) (allS (Or.inr o_aA) (allS (Or.inr o_tA) all0)))) rfl pd_3 rfl (Nat.le_of_eq rfl) (by decide) (by decide) (by decide) (by decide) rfl ?_
  rintro T1004 h1004 _ W1004 K1004 P1004 ⟨rfl, ⟨ng1, dg1, ang1, bng1, adg1, bdg1, V_nA, V_dA, V_aA, V_tA⟩⟩
  have X_a1 := X_a1.keep K1004
  have F_numerators_a1 := F_numerators_a1.keep K1004 (ninS ne_a1_nA (ninS ne_a1_dA (ninS ne_a1_aA (ninS ne_a1_tA nin0))))
  have F_denominators_a1 := F_denominators_a1.keep K1004 (ninS ne_a1_nA (ninS ne_a1_dA (ninS ne_a1_aA (ninS ne_a1_tA nin0))))
  have F_approximations_a1 := F_approximations_a1.keep K1004 (ninS ne_a1_nA (ninS ne_a1_dA (ninS ne_a1_aA (ninS ne_a1_tA nin0))))
  have F_terms_a1 := F_terms_a1.keep K1004 (ninS ne_a1_nA (ninS ne_a1_dA (ninS ne_a1_aA (ninS ne_a1_tA nin0))))
  show own_Go p e below C T1004 (mkF m 81 #[.val (.long q1), .second, .val (.long q2), .second, .val (.long q3), .second, .val (.long q4), .second, .val (.int p5), .val (.long vx), .second, .val (.long vy), .second, .val (.long vz), .second, .val (.long de), .second, .val (.int (2 : Int32)), .val (.int ix), .val (.int io), .val (.ref a1), .unset, .unset, .unset, .unset, .unset, .unset, .unset] [])
  refine own_iload W1004 83 at_81 rfl rfl ?_
  refine own_iconst W1004 (2 : Int32) 84 at_83 rfl rfl ?_
  refine own_icmpN W1004 87 at_84 ((flt ((by decide) : ¬ ((2 : Int32) < (2 : Int32)))).1) rfl ?_
  refine own_aload W1004 89 at_87 rfl rfl rfl ?_
  refine own_iload W1004 91 at_89 rfl rfl ?_
  refine own_lload W1004 93 at_91 rfl rfl ?_
  refine own_lload W1004 95 at_93 rfl rfl ?_
  by_cases cxy : (vx + vy) < (0 : Int64)
  · refine own_callV W1004 (A := [(.int ix), (.long vy), (.long de)]) (wt := 0) (pc' := 98) (st := []) at_95 (wd25 hw) (wd26 hw) (own_nf W1004 (wd28 hw)) (wd28 hw) (wd27 hw) (wd7 hw) (wd29 hw) (by decide) X_a1 (own_m4c l Z a0 hw [] h1004 a1 ix vy de nA dA aA tA ng1 dg1 (fun _ => 0) (fun _ => 0) k X_a1 F_numerators_a1 F_denominators_a1 F_approximations_a1 F_terms_a1 V_nA V_dA V_aA V_tA ne_a1_nA ne_a1_dA ne_a1_aA ne_a1_tA ne_nA_dA ne_nA_aA ne_nA_tA ne_dA_aA ne_dA_tA ne_aA_tA hk hk2 rfl adg1 (by rw [adg1]; exact hde) hde (by rw [ang1]; exact hvx) hvy (by rw [ang1]; exact cxy)) (allS (Or.inr o_nA) (allS (Or.inr o_dA) (allS (Or.inr o_aA) (allS (Or.inr o_tA) all0)))) rfl pd_3 rfl (Nat.le_of_eq rfl) (by decide) (by decide) (by decide) (by decide) rfl ?_
    rintro T1005 h1005 _ W1005 K1005 P1005 ⟨rfl, ⟨ag2, tg2, aag2, bag2, atg2, btg2, V_nA, V_dA, V_aA, V_tA⟩⟩
    have X_a1 := X_a1.keep K1005
    have F_numerators_a1 := F_numerators_a1.keep K1005 (ninS ne_a1_nA (ninS ne_a1_dA (ninS ne_a1_aA (ninS ne_a1_tA nin0))))
    have F_denominators_a1 := F_denominators_a1.keep K1005 (ninS ne_a1_nA (ninS ne_a1_dA (ninS ne_a1_aA (ninS ne_a1_tA nin0))))
    have F_approximations_a1 := F_approximations_a1.keep K1005 (ninS ne_a1_nA (ninS ne_a1_dA (ninS ne_a1_aA (ninS ne_a1_tA nin0))))
    have F_terms_a1 := F_terms_a1.keep K1005 (ninS ne_a1_nA (ninS ne_a1_dA (ninS ne_a1_aA (ninS ne_a1_tA nin0))))
    show own_Go p e below C T1005 (mkF m 98 #[.val (.long q1), .second, .val (.long q2), .second, .val (.long q3), .second, .val (.long q4), .second, .val (.int p5), .val (.long vx), .second, .val (.long vy), .second, .val (.long vz), .second, .val (.long de), .second, .val (.int (2 : Int32)), .val (.int ix), .val (.int io), .val (.ref a1), .unset, .unset, .unset, .unset, .unset, .unset, .unset] [])
    refine own_iload W1005 100 at_98 rfl rfl ?_
    refine own_iconst W1005 (3 : Int32) 101 at_100 rfl rfl ?_
    refine own_icmpY W1005 115 at_101 ((tlt ((by decide) : (2 : Int32) < (3 : Int32))).1) (by decide) (by decide) ?_
    refine own_iload W1005 117 at_115 rfl rfl ?_
    refine own_ifY W1005 126 at_117 ((if0 _ _).trans (feq ((by decide) : ¬ ((2 : Int32) = (0 : Int32)))).2) (by decide) (by decide) ?_
    refine own_iload W1005 128 at_126 rfl rfl ?_
    refine own_iconst W1005 (1 : Int32) 129 at_128 rfl rfl ?_
    refine own_icmpY W1005 144 at_129 ((feq ((by decide) : ¬ ((2 : Int32) = (1 : Int32)))).2) (by decide) (by decide) ?_
    refine own_lload W1005 146 at_144 rfl rfl ?_
    refine own_lload W1005 148 at_146 rfl rfl ?_
    refine own_ladd W1005 149 at_148 rfl ?_
    refine own_lstore W1005 151 #[.val (.long q1), .second, .val (.long q2), .second, .val (.long q3), .second, .val (.long q4), .second, .val (.int p5), .val (.long vx), .second, .val (.long vy), .second, .val (.long vz), .second, .val (.long de), .second, .val (.int (2 : Int32)), .val (.int ix), .val (.int io), .val (.ref a1), .unset, .unset, .val (.long (vx + vy)), .second, .unset, .unset, .unset] at_149 rfl rfl ?_
    refine own_lload W1005 153 at_151 rfl rfl ?_
    refine own_lconst W1005 (0 : Int64) 154 at_153 rfl rfl ?_
    refine own_lcmp W1005 155 at_154 rfl ?_
    refine own_ifY W1005 162 at_155 ((if0 _ _).trans (tlt ((lw_lt (vx + vy) (0 : Int64)).mpr (cxy : (vx + vy) < (0 : Int64)))).1) (by decide) (by decide) ?_
    refine own_iconst W1005 (0 : Int32) 163 at_162 rfl rfl ?_
    refine own_istore W1005 165 #[.val (.long q1), .second, .val (.long q2), .second, .val (.long q3), .second, .val (.long q4), .second, .val (.int p5), .val (.long vx), .second, .val (.long vy), .second, .val (.long vz), .second, .val (.long de), .second, .val (.int (2 : Int32)), .val (.int ix), .val (.int io), .val (.ref a1), .unset, .unset, .val (.long (vx + vy)), .second, .val (.int (0 : Int32)), .unset, .unset] at_163 rfl rfl ?_
    refine own_iload W1005 167 at_165 rfl rfl ?_
    refine own_iconst W1005 (2 : Int32) 168 at_167 rfl rfl ?_
    refine own_icmpN W1005 171 at_168 ((teq (rfl : (2 : Int32) = (2 : Int32))).2) rfl ?_
    refine own_iload W1005 173 at_171 rfl rfl ?_
    refine own_ifY W1005 186 at_173 ((if0 _ _).trans (teq (rfl : (0 : Int32) = (0 : Int32))).1) (by decide) (by decide) ?_
    refine own_lload W1005 188 at_186 rfl rfl ?_
    refine own_l2d W1005 189 at_188 rfl ?_
    refine own_lload W1005 191 at_189 rfl rfl ?_
    refine own_l2d W1005 192 at_191 rfl ?_
    refine own_ddiv W1005 193 at_192 (own_qn hde) rfl ?_
    refine own_lload W1005 195 at_193 rfl rfl ?_
    refine own_l2d W1005 196 at_195 rfl ?_
    refine own_lload W1005 198 at_196 rfl rfl ?_
    refine own_l2d W1005 199 at_198 rfl ?_
    refine own_ddiv W1005 200 at_199 (own_qn hde) rfl ?_
    refine own_dadd W1005 201 at_200 (own_mn (own_am (own_qm hde) (own_qm hde) (by decide)) (by decide)) rfl ?_
    refine own_dstore W1005 203 #[.val (.long q1), .second, .val (.long q2), .second, .val (.long q3), .second, .val (.long q4), .second, .val (.int p5), .val (.long vx), .second, .val (.long vy), .second, .val (.long vz), .second, .val (.long de), .second, .val (.int (2 : Int32)), .val (.int ix), .val (.int io), .val (.ref a1), .val (.double (FP.dadd (FP.ddiv (FP.l2d vx) (FP.l2d de)) (FP.ddiv (FP.l2d vy) (FP.l2d de)))), .second, .val (.long (vx + vy)), .second, .val (.int (0 : Int32)), .unset, .unset] at_201 rfl rfl ?_
    refine own_goto W1005 280 at_203 (by decide) (by decide) ?_
    refine own_aload W1005 282 at_280 rfl rfl rfl ?_
    refine own_iload W1005 284 at_282 rfl rfl ?_
    refine own_callV W1005 (A := [(.int ix)]) (wt := 0) (pc' := 287) (st := []) at_284 (wd43 hw) (wd44 hw) (own_nf W1005 (wd46 hw)) (wd46 hw) (wd45 hw) (wd7 hw) (wd47 hw) (by decide) X_a1 (own_m9a l Z a0 hw [] h1005 a1 ix nA dA aA tA ng1 dg1 ag2 tg2 k X_a1 F_numerators_a1 F_denominators_a1 F_approximations_a1 F_terms_a1 V_nA V_dA V_aA V_tA hk hk2 (by rw [atg2]; decide)) all0 rfl pd_2 rfl (Nat.le_of_eq rfl) (by decide) (by decide) (by decide) (by decide) rfl ?_
    rintro T1006 h1006 _ W1006 K1006 P1006 rfl
    rw [P1006 rfl rfl] at W1006
    show own_Go p e below C T1006 (mkF m 287 #[.val (.long q1), .second, .val (.long q2), .second, .val (.long q3), .second, .val (.long q4), .second, .val (.int p5), .val (.long vx), .second, .val (.long vy), .second, .val (.long vz), .second, .val (.long de), .second, .val (.int (2 : Int32)), .val (.int ix), .val (.int io), .val (.ref a1), .val (.double (FP.dadd (FP.ddiv (FP.l2d vx) (FP.l2d de)) (FP.ddiv (FP.l2d vy) (FP.l2d de)))), .second, .val (.long (vx + vy)), .second, .val (.int (0 : Int32)), .unset, .unset] [(.double (ag2 k))])
    refine own_dload W1006 289 at_287 rfl rfl ?_
    refine own_dcmpl W1006 290 at_289 rfl ?_
    refine own_ifN W1006 293 at_290 ((if0 _ _).trans (teq ((Jvm.RoadKit.dcmpV_eq (by rw [aag2, ang1, adg1]) (by rw [aag2]; exact own_mn (own_am (own_qm (by rw [adg1]; exact hde)) (own_qm hde) (by decide)) (by decide)) .l) : (cmpValue (FP.dcmp (ag2 k) (FP.dadd (FP.ddiv (FP.l2d vx) (FP.l2d de)) (FP.ddiv (FP.l2d vy) (FP.l2d de)))) .l) = (0 : Int32))).2) rfl ?_
    refine own_aload W1006 295 at_293 rfl rfl rfl ?_
    refine own_iload W1006 297 at_295 rfl rfl ?_
    refine own_callV W1006 (A := [(.int io)]) (wt := 0) (pc' := 300) (st := []) at_297 (wd43 hw) (wd44 hw) (own_nf W1006 (wd46 hw)) (wd46 hw) (wd45 hw) (wd7 hw) (wd47 hw) (by decide) X_a1 (own_m9z l Z a0 hw [] h1005 a1 io nA dA aA tA ng1 dg1 ag2 tg2 jo X_a1 F_numerators_a1 F_denominators_a1 F_approximations_a1 F_terms_a1 V_nA V_dA V_aA V_tA hjo hjo2 (by rw [btg2 jo hjk]) (by rw [bdg1 jo hjk])) all0 rfl pd_2 rfl (Nat.le_of_eq rfl) (by decide) (by decide) (by decide) (by decide) rfl ?_
    rintro T1007 h1007 _ W1007 K1007 P1007 rfl
    rw [P1007 rfl rfl] at W1007
    show own_Go p e below C T1007 (mkF m 300 #[.val (.long q1), .second, .val (.long q2), .second, .val (.long q3), .second, .val (.long q4), .second, .val (.int p5), .val (.long vx), .second, .val (.long vy), .second, .val (.long vz), .second, .val (.long de), .second, .val (.int (2 : Int32)), .val (.int ix), .val (.int io), .val (.ref a1), .val (.double (FP.dadd (FP.ddiv (FP.l2d vx) (FP.l2d de)) (FP.ddiv (FP.l2d vy) (FP.l2d de)))), .second, .val (.long (vx + vy)), .second, .val (.int (0 : Int32)), .unset, .unset] [(.double FP.dconst0)])
    refine own_dconst0 W1007 301 at_300 rfl ?_
    refine own_dcmpl W1007 302 at_301 rfl ?_
    refine own_ifN W1007 305 at_302 ((if0 _ _).trans (teq ((Jvm.RoadKit.dcmpV_self (by decide) .l) : (cmpValue (FP.dcmp FP.dconst0 FP.dconst0) .l) = (0 : Int32))).2) rfl ?_
    refine own_iconst W1007 (1 : Int32) 306 at_305 rfl rfl ?_
    refine own_goto W1007 310 at_306 (by decide) (by decide) ?_
    refine own_retZ (Q := fun v h => v = some (.int (1 : Int32))) W1007 hC (by decide) (by decide) at_310 ?_
    exact rfl
  · refine own_callV W1004 (A := [(.int ix), (.long vy), (.long de)]) (wt := 0) (pc' := 98) (st := []) at_95 (wd25 hw) (wd26 hw) (own_nf W1004 (wd28 hw)) (wd28 hw) (wd27 hw) (wd7 hw) (wd29 hw) (by decide) X_a1 (own_m4b l Z a0 hw [] h1004 a1 ix vy de nA dA aA tA ng1 dg1 (fun _ => 0) (fun _ => 0) k X_a1 F_numerators_a1 F_denominators_a1 F_approximations_a1 F_terms_a1 V_nA V_dA V_aA V_tA ne_a1_nA ne_a1_dA ne_a1_aA ne_a1_tA ne_nA_dA ne_nA_aA ne_nA_tA ne_dA_aA ne_dA_tA ne_aA_tA hk hk2 rfl adg1 (by rw [adg1]; exact hde) (by rw [ang1]; exact hvx) hvy (by rw [ang1]; exact cxy)) (allS (Or.inr o_nA) (allS (Or.inr o_dA) (allS (Or.inr o_aA) (allS (Or.inr o_tA) all0)))) rfl pd_3 rfl (Nat.le_of_eq rfl) (by decide) (by decide) (by decide) (by decide) rfl ?_
    rintro T1008 h1008 _ W1008 K1008 P1008 ⟨rfl, ⟨ng2, dg2, ang2, bng2, adg2, bdg2, V_nA, V_dA, V_aA, V_tA⟩⟩
    have X_a1 := X_a1.keep K1008
    have F_numerators_a1 := F_numerators_a1.keep K1008 (ninS ne_a1_nA (ninS ne_a1_dA (ninS ne_a1_aA (ninS ne_a1_tA nin0))))
    have F_denominators_a1 := F_denominators_a1.keep K1008 (ninS ne_a1_nA (ninS ne_a1_dA (ninS ne_a1_aA (ninS ne_a1_tA nin0))))
    have F_approximations_a1 := F_approximations_a1.keep K1008 (ninS ne_a1_nA (ninS ne_a1_dA (ninS ne_a1_aA (ninS ne_a1_tA nin0))))
    have F_terms_a1 := F_terms_a1.keep K1008 (ninS ne_a1_nA (ninS ne_a1_dA (ninS ne_a1_aA (ninS ne_a1_tA nin0))))
    show own_Go p e below C T1008 (mkF m 98 #[.val (.long q1), .second, .val (.long q2), .second, .val (.long q3), .second, .val (.long q4), .second, .val (.int p5), .val (.long vx), .second, .val (.long vy), .second, .val (.long vz), .second, .val (.long de), .second, .val (.int (2 : Int32)), .val (.int ix), .val (.int io), .val (.ref a1), .unset, .unset, .unset, .unset, .unset, .unset, .unset] [])
    refine own_iload W1008 100 at_98 rfl rfl ?_
    refine own_iconst W1008 (3 : Int32) 101 at_100 rfl rfl ?_
    refine own_icmpY W1008 115 at_101 ((tlt ((by decide) : (2 : Int32) < (3 : Int32))).1) (by decide) (by decide) ?_
    refine own_iload W1008 117 at_115 rfl rfl ?_
    refine own_ifY W1008 126 at_117 ((if0 _ _).trans (feq ((by decide) : ¬ ((2 : Int32) = (0 : Int32)))).2) (by decide) (by decide) ?_
    refine own_iload W1008 128 at_126 rfl rfl ?_
    refine own_iconst W1008 (1 : Int32) 129 at_128 rfl rfl ?_
    refine own_icmpY W1008 144 at_129 ((feq ((by decide) : ¬ ((2 : Int32) = (1 : Int32)))).2) (by decide) (by decide) ?_
    refine own_lload W1008 146 at_144 rfl rfl ?_
    refine own_lload W1008 148 at_146 rfl rfl ?_
    refine own_ladd W1008 149 at_148 rfl ?_
    refine own_lstore W1008 151 #[.val (.long q1), .second, .val (.long q2), .second, .val (.long q3), .second, .val (.long q4), .second, .val (.int p5), .val (.long vx), .second, .val (.long vy), .second, .val (.long vz), .second, .val (.long de), .second, .val (.int (2 : Int32)), .val (.int ix), .val (.int io), .val (.ref a1), .unset, .unset, .val (.long (vx + vy)), .second, .unset, .unset, .unset] at_149 rfl rfl ?_
    refine own_lload W1008 153 at_151 rfl rfl ?_
    refine own_lconst W1008 (0 : Int64) 154 at_153 rfl rfl ?_
    refine own_lcmp W1008 155 at_154 rfl ?_
    refine own_ifN W1008 158 at_155 ((if0 _ _).trans (flt (mt (lw_lt (vx + vy) (0 : Int64)).mp (cxy : ¬ ((vx + vy) < (0 : Int64))))).1) rfl ?_
    refine own_iconst W1008 (1 : Int32) 159 at_158 rfl rfl ?_
    refine own_goto W1008 163 at_159 (by decide) (by decide) ?_
    refine own_istore W1008 165 #[.val (.long q1), .second, .val (.long q2), .second, .val (.long q3), .second, .val (.long q4), .second, .val (.int p5), .val (.long vx), .second, .val (.long vy), .second, .val (.long vz), .second, .val (.long de), .second, .val (.int (2 : Int32)), .val (.int ix), .val (.int io), .val (.ref a1), .unset, .unset, .val (.long (vx + vy)), .second, .val (.int (1 : Int32)), .unset, .unset] at_163 rfl rfl ?_
    refine own_iload W1008 167 at_165 rfl rfl ?_
    refine own_iconst W1008 (2 : Int32) 168 at_167 rfl rfl ?_
    refine own_icmpN W1008 171 at_168 ((teq (rfl : (2 : Int32) = (2 : Int32))).2) rfl ?_
    refine own_iload W1008 173 at_171 rfl rfl ?_
    refine own_ifN W1008 176 at_173 ((if0 _ _).trans (feq ((by decide) : ¬ ((1 : Int32) = (0 : Int32)))).1) rfl ?_
    refine own_lload W1008 178 at_176 rfl rfl ?_
    refine own_l2d W1008 179 at_178 rfl ?_
    refine own_lload W1008 181 at_179 rfl rfl ?_
    refine own_l2d W1008 182 at_181 rfl ?_
    refine own_ddiv W1008 183 at_182 (own_qn hde) rfl ?_
    refine own_goto W1008 201 at_183 (by decide) (by decide) ?_
    refine own_dstore W1008 203 #[.val (.long q1), .second, .val (.long q2), .second, .val (.long q3), .second, .val (.long q4), .second, .val (.int p5), .val (.long vx), .second, .val (.long vy), .second, .val (.long vz), .second, .val (.long de), .second, .val (.int (2 : Int32)), .val (.int ix), .val (.int io), .val (.ref a1), .val (.double (FP.ddiv (FP.l2d (vx + vy)) (FP.l2d de))), .second, .val (.long (vx + vy)), .second, .val (.int (1 : Int32)), .unset, .unset] at_201 rfl rfl ?_
    refine own_goto W1008 280 at_203 (by decide) (by decide) ?_
    refine own_aload W1008 282 at_280 rfl rfl rfl ?_
    refine own_iload W1008 284 at_282 rfl rfl ?_
    refine own_callV W1008 (A := [(.int ix)]) (wt := 0) (pc' := 287) (st := []) at_284 (wd43 hw) (wd44 hw) (own_nf W1008 (wd46 hw)) (wd46 hw) (wd45 hw) (wd7 hw) (wd47 hw) (by decide) X_a1 (own_m9q l Z a0 hw [] h1008 a1 ix nA dA aA tA ng2 dg2 (fun _ => 0) (fun _ => 0) k X_a1 F_numerators_a1 F_denominators_a1 F_approximations_a1 F_terms_a1 V_nA V_dA V_aA V_tA hk hk2 rfl (by rw [adg2, adg1]; exact hde)) all0 rfl pd_2 rfl (Nat.le_of_eq rfl) (by decide) (by decide) (by decide) (by decide) rfl ?_
    rintro T1009 h1009 _ W1009 K1009 P1009 rfl
    rw [P1009 rfl rfl] at W1009
    show own_Go p e below C T1009 (mkF m 287 #[.val (.long q1), .second, .val (.long q2), .second, .val (.long q3), .second, .val (.long q4), .second, .val (.int p5), .val (.long vx), .second, .val (.long vy), .second, .val (.long vz), .second, .val (.long de), .second, .val (.int (2 : Int32)), .val (.int ix), .val (.int io), .val (.ref a1), .val (.double (FP.ddiv (FP.l2d (vx + vy)) (FP.l2d de))), .second, .val (.long (vx + vy)), .second, .val (.int (1 : Int32)), .unset, .unset] [(.double (FP.ddiv (FP.l2d (ng2 k)) (FP.l2d (dg2 k))))])
    refine own_dload W1009 289 at_287 rfl rfl ?_
    refine own_dcmpl W1009 290 at_289 rfl ?_
    refine own_ifN W1009 293 at_290 ((if0 _ _).trans (teq ((Jvm.RoadKit.dcmpV_eq (by rw [ang2, adg2, ang1, adg1]) (own_qn (by rw [adg2, adg1]; exact hde)) .l) : (cmpValue (FP.dcmp (FP.ddiv (FP.l2d (ng2 k)) (FP.l2d (dg2 k))) (FP.ddiv (FP.l2d (vx + vy)) (FP.l2d de))) .l) = (0 : Int32))).2) rfl ?_
    refine own_aload W1009 295 at_293 rfl rfl rfl ?_
    refine own_iload W1009 297 at_295 rfl rfl ?_
    refine own_callV W1009 (A := [(.int io)]) (wt := 0) (pc' := 300) (st := []) at_297 (wd43 hw) (wd44 hw) (own_nf W1009 (wd46 hw)) (wd46 hw) (wd45 hw) (wd7 hw) (wd47 hw) (by decide) X_a1 (own_m9z l Z a0 hw [] h1008 a1 io nA dA aA tA ng2 dg2 (fun _ => 0) (fun _ => 0) jo X_a1 F_numerators_a1 F_denominators_a1 F_approximations_a1 F_terms_a1 V_nA V_dA V_aA V_tA hjo hjo2 (rfl) (by rw [bdg2 jo hjk, bdg1 jo hjk])) all0 rfl pd_2 rfl (Nat.le_of_eq rfl) (by decide) (by decide) (by decide) (by decide) rfl ?_
    rintro T1010 h1010 _ W1010 K1010 P1010 rfl
    rw [P1010 rfl rfl] at W1010
    show own_Go p e below C T1010 (mkF m 300 #[.val (.long q1), .second, .val (.long q2), .second, .val (.long q3), .second, .val (.long q4), .second, .val (.int p5), .val (.long vx), .second, .val (.long vy), .second, .val (.long vz), .second, .val (.long de), .second, .val (.int (2 : Int32)), .val (.int ix), .val (.int io), .val (.ref a1), .val (.double (FP.ddiv (FP.l2d (vx + vy)) (FP.l2d de))), .second, .val (.long (vx + vy)), .second, .val (.int (1 : Int32)), .unset, .unset] [(.double FP.dconst0)])
    refine own_dconst0 W1010 301 at_300 rfl ?_
    refine own_dcmpl W1010 302 at_301 rfl ?_
    refine own_ifN W1010 305 at_302 ((if0 _ _).trans (teq ((Jvm.RoadKit.dcmpV_self (by decide) .l) : (cmpValue (FP.dcmp FP.dconst0 FP.dconst0) .l) = (0 : Int32))).2) rfl ?_
    refine own_iconst W1010 (1 : Int32) 306 at_305 rfl rfl ?_
    refine own_goto W1010 310 at_306 (by decide) (by decide) ?_
    refine own_retZ (Q := fun v h => v = some (.int (1 : Int32))) W1010 hC (by decide) (by decide) at_310 ?_
    exact rfl
set_option maxRecDepth 65536 in
set_option maxHeartbeats 40000000 in
theorem own_md3 (l : Launch) (Z : State) (a0 : Array Value) (hw : ∀ d ∈ tables_1, d.before a0 Z = true) (h0 : Heap) (q1 : Int64) (q2 : Int64) (q3 : Int64) (q4 : Int64) (p5 : Int32) (p : Program) (e : Env) (s : State) (m : MethodId) (below : List Frame) (meth : Method) (c : Code) (C : Outcome → State → Prop) (hC : ∀ v L u, own_Fw s [] L → (v = some (.int (1 : Int32))) → FrameEnd s (.returned v) u L room_1.cells room_1.slots → C (.returned v) u) (T : State) (h : Heap) (a1 nA dA aA tA : Addr) (vx vy vz de : Int64) (ix io : Int32) (k : Nat) (W : own_W p l e room_1 s m #[(.long q1), (.long q2), (.long q3), (.long q4), (.int p5)] below meth c Z x ret code maxLocals [] T h (0 + 0 + 1 + 4) (0 + 0 + 4 + 8)) (o_nA : s.heap.size ≤ nA) (o_dA : s.heap.size ≤ dA) (o_aA : s.heap.size ≤ aA) (o_tA : s.heap.size ≤ tA) (X_a1 : Exa Z h a1 "com/example/queueloom/queueloom/engine/QuotientSums") (F_numerators_a1 : Fld Z h a1 "com/example/queueloom/queueloom/engine/QuotientSums" "numerators" "[J" (.ref nA)) (F_denominators_a1 : Fld Z h a1 "com/example/queueloom/queueloom/engine/QuotientSums" "denominators" "[J" (.ref dA)) (F_approximations_a1 : Fld Z h a1 "com/example/queueloom/queueloom/engine/QuotientSums" "approximations" "[D" (.ref aA)) (F_terms_a1 : Fld Z h a1 "com/example/queueloom/queueloom/engine/QuotientSums" "terms" "[I" (.ref tA)) (V_nA : own_A Z h nA .long 2 (fun _ => .long 0)) (V_dA : own_A Z h dA .long 2 (fun _ => .long 0)) (V_aA : own_A Z h aA .double 2 (fun _ => .double 0)) (V_tA : own_A Z h tA .int 2 (fun _ => .int 0)) (ne_a1_nA : a1 ≠ nA) (ne_a1_dA : a1 ≠ dA) (ne_a1_aA : a1 ≠ aA) (ne_a1_tA : a1 ≠ tA) (ne_nA_dA : nA ≠ dA) (ne_nA_aA : nA ≠ aA) (ne_nA_tA : nA ≠ tA) (ne_dA_aA : dA ≠ aA) (ne_dA_tA : dA ≠ tA) (ne_aA_tA : aA ≠ tA) (hvx : 0 ≤ vx.toInt) (hvy : 0 ≤ vy.toInt) (hvz : 0 ≤ vz.toInt) (hde : 0 < de.toInt) (hk : ix.toInt = (k : Int)) (hk2 : k < 2) (hko : ∃ j : Nat, io.toInt = (j : Int) ∧ j < 2 ∧ j ≠ k) :
    own_Go p e below C T (mkF m 67 #[.val (.long q1), .second, .val (.long q2), .second, .val (.long q3), .second, .val (.long q4), .second, .val (.int p5), .val (.long vx), .second, .val (.long vy), .second, .val (.long vz), .second, .val (.long de), .second, .val (.int (3 : Int32)), .val (.int ix), .val (.int io), .val (.ref a1), .unset, .unset, .unset, .unset, .unset, .unset, .unset] [(.int (1 : Int32)), (.int (3 : Int32))]) := by
  obtain ⟨jo, hjo, hjo2, hjk⟩ := hko
  refine own_icmpN W 70 at_67 ((flt ((by decide) : ¬ ((3 : Int32) < (1 : Int32)))).1) rfl ?_
  refine own_aload W 72 at_70 rfl rfl rfl ?_
  refine own_iload W 74 at_72 rfl rfl ?_
  refine own_lload W 76 at_74 rfl rfl ?_
  refine own_lload W 78 at_76 rfl rfl ?_
  refine own_callV W (A := [(.int ix), (.long vx), (.long de)]) (wt := 0) (pc' := 81) (st := []) at_78 (wd25 hw) (wd26 hw) (own_nf W (wd28 hw)) (wd28 hw) (wd27 hw) (wd7 hw) (wd29 hw) (by decide) X_a1 (own_m4a l Z a0 hw [] h a1 ix vx de nA dA aA tA (fun _ => 0) (fun _ => 0) (fun _ => 0) (fun _ => 0) k X_a1 F_numerators_a1 F_denominators_a1 F_approximations_a1 F_terms_a1 V_nA V_dA V_aA V_tA ne_a1_nA ne_a1_dA ne_a1_aA ne_a1_tA ne_nA_dA ne_nA_aA ne_nA_tA ne_dA_aA ne_dA_tA ne_aA_tA hk hk2 rfl rfl) (allS (Or.inr o_nA) (allS (Or.inr o_dA) (allS (Or.inr o_aA) (allS (Or.inr o_tA) all0)))) rfl pd_3 rfl (Nat.le_of_eq rfl) (by decide) (by decide) (by decide) (by decide) rfl ?_
  rintro T1004 h1004 _ W1004 K1004 P1004 ⟨rfl, ⟨ng1, dg1, ang1, bng1, adg1, bdg1, V_nA, V_dA, V_aA, V_tA⟩⟩
  have X_a1 := X_a1.keep K1004
  have F_numerators_a1 := F_numerators_a1.keep K1004 (ninS ne_a1_nA (ninS ne_a1_dA (ninS ne_a1_aA (ninS ne_a1_tA nin0))))
  have F_denominators_a1 := F_denominators_a1.keep K1004 (ninS ne_a1_nA (ninS ne_a1_dA (ninS ne_a1_aA (ninS ne_a1_tA nin0))))
  have F_approximations_a1 := F_approximations_a1.keep K1004 (ninS ne_a1_nA (ninS ne_a1_dA (ninS ne_a1_aA (ninS ne_a1_tA nin0))))
  have F_terms_a1 := F_terms_a1.keep K1004 (ninS ne_a1_nA (ninS ne_a1_dA (ninS ne_a1_aA (ninS ne_a1_tA nin0))))
  show own_Go p e below C T1004 (mkF m 81 #[.val (.long q1), .second, .val (.long q2), .second, .val (.long q3), .second, .val (.long q4), .second, .val (.int p5), .val (.long vx), .second, .val (.long vy), .second, .val (.long vz), .second, .val (.long de), .second, .val (.int (3 : Int32)), .val (.int ix), .val (.int io), .val (.ref a1), .unset, .unset, .unset, .unset, .unset, .unset, .unset] [])
  refine own_iload W1004 83 at_81 rfl rfl ?_
  refine own_iconst W1004 (2 : Int32) 84 at_83 rfl rfl ?_
  refine own_icmpN W1004 87 at_84 ((flt ((by decide) : ¬ ((3 : Int32) < (2 : Int32)))).1) rfl ?_
  refine own_aload W1004 89 at_87 rfl rfl rfl ?_
  refine own_iload W1004 91 at_89 rfl rfl ?_
  refine own_lload W1004 93 at_91 rfl rfl ?_
  refine own_lload W1004 95 at_93 rfl rfl ?_
  by_cases cxy : (vx + vy) < (0 : Int64)
  · refine own_callV W1004 (A := [(.int ix), (.long vy), (.long de)]) (wt := 0) (pc' := 98) (st := []) at_95 (wd25 hw) (wd26 hw) (own_nf W1004 (wd28 hw)) (wd28 hw) (wd27 hw) (wd7 hw) (wd29 hw) (by decide) X_a1 (own_m4c l Z a0 hw [] h1004 a1 ix vy de nA dA aA tA ng1 dg1 (fun _ => 0) (fun _ => 0) k X_a1 F_numerators_a1 F_denominators_a1 F_approximations_a1 F_terms_a1 V_nA V_dA V_aA V_tA ne_a1_nA ne_a1_dA ne_a1_aA ne_a1_tA ne_nA_dA ne_nA_aA ne_nA_tA ne_dA_aA ne_dA_tA ne_aA_tA hk hk2 rfl adg1 (by rw [adg1]; exact hde) hde (by rw [ang1]; exact hvx) hvy (by rw [ang1]; exact cxy)) (allS (Or.inr o_nA) (allS (Or.inr o_dA) (allS (Or.inr o_aA) (allS (Or.inr o_tA) all0)))) rfl pd_3 rfl (Nat.le_of_eq rfl) (by decide) (by decide) (by decide) (by decide) rfl ?_
    rintro T1005 h1005 _ W1005 K1005 P1005 ⟨rfl, ⟨ag2, tg2, aag2, bag2, atg2, btg2, V_nA, V_dA, V_aA, V_tA⟩⟩
    have X_a1 := X_a1.keep K1005
    have F_numerators_a1 := F_numerators_a1.keep K1005 (ninS ne_a1_nA (ninS ne_a1_dA (ninS ne_a1_aA (ninS ne_a1_tA nin0))))
    have F_denominators_a1 := F_denominators_a1.keep K1005 (ninS ne_a1_nA (ninS ne_a1_dA (ninS ne_a1_aA (ninS ne_a1_tA nin0))))
    have F_approximations_a1 := F_approximations_a1.keep K1005 (ninS ne_a1_nA (ninS ne_a1_dA (ninS ne_a1_aA (ninS ne_a1_tA nin0))))
    have F_terms_a1 := F_terms_a1.keep K1005 (ninS ne_a1_nA (ninS ne_a1_dA (ninS ne_a1_aA (ninS ne_a1_tA nin0))))
    show own_Go p e below C T1005 (mkF m 98 #[.val (.long q1), .second, .val (.long q2), .second, .val (.long q3), .second, .val (.long q4), .second, .val (.int p5), .val (.long vx), .second, .val (.long vy), .second, .val (.long vz), .second, .val (.long de), .second, .val (.int (3 : Int32)), .val (.int ix), .val (.int io), .val (.ref a1), .unset, .unset, .unset, .unset, .unset, .unset, .unset] [])
    refine own_iload W1005 100 at_98 rfl rfl ?_
    refine own_iconst W1005 (3 : Int32) 101 at_100 rfl rfl ?_
    refine own_icmpN W1005 104 at_101 ((flt ((by decide) : ¬ ((3 : Int32) < (3 : Int32)))).1) rfl ?_
    refine own_aload W1005 106 at_104 rfl rfl rfl ?_
    refine own_iload W1005 108 at_106 rfl rfl ?_
    refine own_lload W1005 110 at_108 rfl rfl ?_
    refine own_lload W1005 112 at_110 rfl rfl ?_
    refine own_callV W1005 (A := [(.int ix), (.long vz), (.long de)]) (wt := 0) (pc' := 115) (st := []) at_112 (wd25 hw) (wd26 hw) (own_nf W1005 (wd28 hw)) (wd28 hw) (wd27 hw) (wd7 hw) (wd29 hw) (by decide) X_a1 (own_m4d l Z a0 hw [] h1005 a1 ix vz de nA dA aA tA ng1 dg1 ag2 tg2 k X_a1 F_numerators_a1 F_denominators_a1 F_approximations_a1 F_terms_a1 V_nA V_dA V_aA V_tA ne_a1_nA ne_a1_dA ne_a1_aA ne_a1_tA ne_nA_dA ne_nA_aA ne_nA_tA ne_dA_aA ne_dA_tA ne_aA_tA hk hk2 atg2 hde (by rw [aag2]; exact own_am (own_qm (by rw [adg1]; exact hde)) (own_qm hde) (by decide))) (allS (Or.inr o_nA) (allS (Or.inr o_dA) (allS (Or.inr o_aA) (allS (Or.inr o_tA) all0)))) rfl pd_3 rfl (Nat.le_of_eq rfl) (by decide) (by decide) (by decide) (by decide) rfl ?_
    rintro T1006 h1006 _ W1006 K1006 P1006 ⟨rfl, ⟨ag3, tg3, aag3, bag3, atg3, btg3, V_nA, V_dA, V_aA, V_tA⟩⟩
    have X_a1 := X_a1.keep K1006
    have F_numerators_a1 := F_numerators_a1.keep K1006 (ninS ne_a1_nA (ninS ne_a1_dA (ninS ne_a1_aA (ninS ne_a1_tA nin0))))
    have F_denominators_a1 := F_denominators_a1.keep K1006 (ninS ne_a1_nA (ninS ne_a1_dA (ninS ne_a1_aA (ninS ne_a1_tA nin0))))
    have F_approximations_a1 := F_approximations_a1.keep K1006 (ninS ne_a1_nA (ninS ne_a1_dA (ninS ne_a1_aA (ninS ne_a1_tA nin0))))
    have F_terms_a1 := F_terms_a1.keep K1006 (ninS ne_a1_nA (ninS ne_a1_dA (ninS ne_a1_aA (ninS ne_a1_tA nin0))))
    show own_Go p e below C T1006 (mkF m 115 #[.val (.long q1), .second, .val (.long q2), .second, .val (.long q3), .second, .val (.long q4), .second, .val (.int p5), .val (.long vx), .second, .val (.long vy), .second, .val (.long vz), .second, .val (.long de), .second, .val (.int (3 : Int32)), .val (.int ix), .val (.int io), .val (.ref a1), .unset, .unset, .unset, .unset, .unset, .unset, .unset] [])
    refine own_iload W1006 117 at_115 rfl rfl ?_
    refine own_ifY W1006 126 at_117 ((if0 _ _).trans (feq ((by decide) : ¬ ((3 : Int32) = (0 : Int32)))).2) (by decide) (by decide) ?_
    refine own_iload W1006 128 at_126 rfl rfl ?_
    refine own_iconst W1006 (1 : Int32) 129 at_128 rfl rfl ?_
    refine own_icmpY W1006 144 at_129 ((feq ((by decide) : ¬ ((3 : Int32) = (1 : Int32)))).2) (by decide) (by decide) ?_
    refine own_lload W1006 146 at_144 rfl rfl ?_
    refine own_lload W1006 148 at_146 rfl rfl ?_
    refine own_ladd W1006 149 at_148 rfl ?_
    refine own_lstore W1006 151 #[.val (.long q1), .second, .val (.long q2), .second, .val (.long q3), .second, .val (.long q4), .second, .val (.int p5), .val (.long vx), .second, .val (.long vy), .second, .val (.long vz), .second, .val (.long de), .second, .val (.int (3 : Int32)), .val (.int ix), .val (.int io), .val (.ref a1), .unset, .unset, .val (.long (vx + vy)), .second, .unset, .unset, .unset] at_149 rfl rfl ?_
    refine own_lload W1006 153 at_151 rfl rfl ?_
    refine own_lconst W1006 (0 : Int64) 154 at_153 rfl rfl ?_
    refine own_lcmp W1006 155 at_154 rfl ?_
    refine own_ifY W1006 162 at_155 ((if0 _ _).trans (tlt ((lw_lt (vx + vy) (0 : Int64)).mpr (cxy : (vx + vy) < (0 : Int64)))).1) (by decide) (by decide) ?_
    refine own_iconst W1006 (0 : Int32) 163 at_162 rfl rfl ?_
    refine own_istore W1006 165 #[.val (.long q1), .second, .val (.long q2), .second, .val (.long q3), .second, .val (.long q4), .second, .val (.int p5), .val (.long vx), .second, .val (.long vy), .second, .val (.long vz), .second, .val (.long de), .second, .val (.int (3 : Int32)), .val (.int ix), .val (.int io), .val (.ref a1), .unset, .unset, .val (.long (vx + vy)), .second, .val (.int (0 : Int32)), .unset, .unset] at_163 rfl rfl ?_
    refine own_iload W1006 167 at_165 rfl rfl ?_
    refine own_iconst W1006 (2 : Int32) 168 at_167 rfl rfl ?_
    refine own_icmpY W1006 206 at_168 ((feq ((by decide) : ¬ ((3 : Int32) = (2 : Int32)))).2) (by decide) (by decide) ?_
    refine own_iload W1006 208 at_206 rfl rfl ?_
    refine own_ifN W1006 211 at_208 ((if0 _ _).trans (teq (rfl : (0 : Int32) = (0 : Int32))).2) rfl ?_
    refine own_lload W1006 213 at_211 rfl rfl ?_
    refine own_l2d W1006 214 at_213 rfl ?_
    refine own_lload W1006 216 at_214 rfl rfl ?_
    refine own_l2d W1006 217 at_216 rfl ?_
    refine own_ddiv W1006 218 at_217 (own_qn hde) rfl ?_
    refine own_lload W1006 220 at_218 rfl rfl ?_
    refine own_l2d W1006 221 at_220 rfl ?_
    refine own_lload W1006 223 at_221 rfl rfl ?_
    refine own_l2d W1006 224 at_223 rfl ?_
    refine own_ddiv W1006 225 at_224 (own_qn hde) rfl ?_
    refine own_dadd W1006 226 at_225 (own_mn (own_am (own_qm hde) (own_qm hde) (by decide)) (by decide)) rfl ?_
    refine own_lload W1006 228 at_226 rfl rfl ?_
    refine own_l2d W1006 229 at_228 rfl ?_
    refine own_lload W1006 231 at_229 rfl rfl ?_
    refine own_l2d W1006 232 at_231 rfl ?_
    refine own_ddiv W1006 233 at_232 (own_qn hde) rfl ?_
    refine own_dadd W1006 234 at_233 (own_mn (own_am (own_am (own_qm hde) (own_qm hde) (by decide)) (own_mm (own_qm hde) (by decide)) (by decide)) (by decide)) rfl ?_
    refine own_dstore W1006 236 #[.val (.long q1), .second, .val (.long q2), .second, .val (.long q3), .second, .val (.long q4), .second, .val (.int p5), .val (.long vx), .second, .val (.long vy), .second, .val (.long vz), .second, .val (.long de), .second, .val (.int (3 : Int32)), .val (.int ix), .val (.int io), .val (.ref a1), .val (.double (FP.dadd (FP.dadd (FP.ddiv (FP.l2d vx) (FP.l2d de)) (FP.ddiv (FP.l2d vy) (FP.l2d de))) (FP.ddiv (FP.l2d vz) (FP.l2d de)))), .second, .val (.long (vx + vy)), .second, .val (.int (0 : Int32)), .unset, .unset] at_234 rfl rfl ?_
    refine own_goto W1006 280 at_236 (by decide) (by decide) ?_
    refine own_aload W1006 282 at_280 rfl rfl rfl ?_
    refine own_iload W1006 284 at_282 rfl rfl ?_
    refine own_callV W1006 (A := [(.int ix)]) (wt := 0) (pc' := 287) (st := []) at_284 (wd43 hw) (wd44 hw) (own_nf W1006 (wd46 hw)) (wd46 hw) (wd45 hw) (wd7 hw) (wd47 hw) (by decide) X_a1 (own_m9a l Z a0 hw [] h1006 a1 ix nA dA aA tA ng1 dg1 ag3 tg3 k X_a1 F_numerators_a1 F_denominators_a1 F_approximations_a1 F_terms_a1 V_nA V_dA V_aA V_tA hk hk2 (by rw [atg3, atg2]; decide)) all0 rfl pd_2 rfl (Nat.le_of_eq rfl) (by decide) (by decide) (by decide) (by decide) rfl ?_
    rintro T1007 h1007 _ W1007 K1007 P1007 rfl
    rw [P1007 rfl rfl] at W1007
    show own_Go p e below C T1007 (mkF m 287 #[.val (.long q1), .second, .val (.long q2), .second, .val (.long q3), .second, .val (.long q4), .second, .val (.int p5), .val (.long vx), .second, .val (.long vy), .second, .val (.long vz), .second, .val (.long de), .second, .val (.int (3 : Int32)), .val (.int ix), .val (.int io), .val (.ref a1), .val (.double (FP.dadd (FP.dadd (FP.ddiv (FP.l2d vx) (FP.l2d de)) (FP.ddiv (FP.l2d vy) (FP.l2d de))) (FP.ddiv (FP.l2d vz) (FP.l2d de)))), .second, .val (.long (vx + vy)), .second, .val (.int (0 : Int32)), .unset, .unset] [(.double (ag3 k))])
    refine own_dload W1007 289 at_287 rfl rfl ?_
    refine own_dcmpl W1007 290 at_289 rfl ?_
    refine own_ifN W1007 293 at_290 ((if0 _ _).trans (teq ((Jvm.RoadKit.dcmpV_eq (by rw [aag3, aag2, ang1, adg1]) (by rw [aag3, aag2, ang1, adg1]; exact (own_mn (own_am (own_am (own_qm hde) (own_qm hde) (by decide)) (own_mm (own_qm hde) (by decide)) (by decide)) (by decide))) .l) : (cmpValue (FP.dcmp (ag3 k) (FP.dadd (FP.dadd (FP.ddiv (FP.l2d vx) (FP.l2d de)) (FP.ddiv (FP.l2d vy) (FP.l2d de))) (FP.ddiv (FP.l2d vz) (FP.l2d de)))) .l) = (0 : Int32))).2) rfl ?_
    refine own_aload W1007 295 at_293 rfl rfl rfl ?_
    refine own_iload W1007 297 at_295 rfl rfl ?_
    refine own_callV W1007 (A := [(.int io)]) (wt := 0) (pc' := 300) (st := []) at_297 (wd43 hw) (wd44 hw) (own_nf W1007 (wd46 hw)) (wd46 hw) (wd45 hw) (wd7 hw) (wd47 hw) (by decide) X_a1 (own_m9z l Z a0 hw [] h1006 a1 io nA dA aA tA ng1 dg1 ag3 tg3 jo X_a1 F_numerators_a1 F_denominators_a1 F_approximations_a1 F_terms_a1 V_nA V_dA V_aA V_tA hjo hjo2 (by rw [btg3 jo hjk, btg2 jo hjk]) (by rw [bdg1 jo hjk])) all0 rfl pd_2 rfl (Nat.le_of_eq rfl) (by decide) (by decide) (by decide) (by decide) rfl ?_
    rintro T1008 h1008 _ W1008 K1008 P1008 rfl
    rw [P1008 rfl rfl] at W1008
    show own_Go p e below C T1008 (mkF m 300 #[.val (.long q1), .second, .val (.long q2), .second, .val (.long q3), .second, .val (.long q4), .second, .val (.int p5), .val (.long vx), .second, .val (.long vy), .second, .val (.long vz), .second, .val (.long de), .second, .val (.int (3 : Int32)), .val (.int ix), .val (.int io), .val (.ref a1), .val (.double (FP.dadd (FP.dadd (FP.ddiv (FP.l2d vx) (FP.l2d de)) (FP.ddiv (FP.l2d vy) (FP.l2d de))) (FP.ddiv (FP.l2d vz) (FP.l2d de)))), .second, .val (.long (vx + vy)), .second, .val (.int (0 : Int32)), .unset, .unset] [(.double FP.dconst0)])
    refine own_dconst0 W1008 301 at_300 rfl ?_
    refine own_dcmpl W1008 302 at_301 rfl ?_
    refine own_ifN W1008 305 at_302 ((if0 _ _).trans (teq ((Jvm.RoadKit.dcmpV_self (by decide) .l) : (cmpValue (FP.dcmp FP.dconst0 FP.dconst0) .l) = (0 : Int32))).2) rfl ?_
    refine own_iconst W1008 (1 : Int32) 306 at_305 rfl rfl ?_
    refine own_goto W1008 310 at_306 (by decide) (by decide) ?_
    refine own_retZ (Q := fun v h => v = some (.int (1 : Int32))) W1008 hC (by decide) (by decide) at_310 ?_
    exact rfl
  · refine own_callV W1004 (A := [(.int ix), (.long vy), (.long de)]) (wt := 0) (pc' := 98) (st := []) at_95 (wd25 hw) (wd26 hw) (own_nf W1004 (wd28 hw)) (wd28 hw) (wd27 hw) (wd7 hw) (wd29 hw) (by decide) X_a1 (own_m4b l Z a0 hw [] h1004 a1 ix vy de nA dA aA tA ng1 dg1 (fun _ => 0) (fun _ => 0) k X_a1 F_numerators_a1 F_denominators_a1 F_approximations_a1 F_terms_a1 V_nA V_dA V_aA V_tA ne_a1_nA ne_a1_dA ne_a1_aA ne_a1_tA ne_nA_dA ne_nA_aA ne_nA_tA ne_dA_aA ne_dA_tA ne_aA_tA hk hk2 rfl adg1 (by rw [adg1]; exact hde) (by rw [ang1]; exact hvx) hvy (by rw [ang1]; exact cxy)) (allS (Or.inr o_nA) (allS (Or.inr o_dA) (allS (Or.inr o_aA) (allS (Or.inr o_tA) all0)))) rfl pd_3 rfl (Nat.le_of_eq rfl) (by decide) (by decide) (by decide) (by decide) rfl ?_
    rintro T1009 h1009 _ W1009 K1009 P1009 ⟨rfl, ⟨ng2, dg2, ang2, bng2, adg2, bdg2, V_nA, V_dA, V_aA, V_tA⟩⟩
    have X_a1 := X_a1.keep K1009
    have F_numerators_a1 := F_numerators_a1.keep K1009 (ninS ne_a1_nA (ninS ne_a1_dA (ninS ne_a1_aA (ninS ne_a1_tA nin0))))
    have F_denominators_a1 := F_denominators_a1.keep K1009 (ninS ne_a1_nA (ninS ne_a1_dA (ninS ne_a1_aA (ninS ne_a1_tA nin0))))
    have F_approximations_a1 := F_approximations_a1.keep K1009 (ninS ne_a1_nA (ninS ne_a1_dA (ninS ne_a1_aA (ninS ne_a1_tA nin0))))
    have F_terms_a1 := F_terms_a1.keep K1009 (ninS ne_a1_nA (ninS ne_a1_dA (ninS ne_a1_aA (ninS ne_a1_tA nin0))))
    show own_Go p e below C T1009 (mkF m 98 #[.val (.long q1), .second, .val (.long q2), .second, .val (.long q3), .second, .val (.long q4), .second, .val (.int p5), .val (.long vx), .second, .val (.long vy), .second, .val (.long vz), .second, .val (.long de), .second, .val (.int (3 : Int32)), .val (.int ix), .val (.int io), .val (.ref a1), .unset, .unset, .unset, .unset, .unset, .unset, .unset] [])
    refine own_iload W1009 100 at_98 rfl rfl ?_
    refine own_iconst W1009 (3 : Int32) 101 at_100 rfl rfl ?_
    refine own_icmpN W1009 104 at_101 ((flt ((by decide) : ¬ ((3 : Int32) < (3 : Int32)))).1) rfl ?_
    refine own_aload W1009 106 at_104 rfl rfl rfl ?_
    refine own_iload W1009 108 at_106 rfl rfl ?_
    refine own_lload W1009 110 at_108 rfl rfl ?_
    refine own_lload W1009 112 at_110 rfl rfl ?_
    by_cases cz : ((vx + vy) + vz) < (0 : Int64)
    · refine own_callV W1009 (A := [(.int ix), (.long vz), (.long de)]) (wt := 0) (pc' := 115) (st := []) at_112 (wd25 hw) (wd26 hw) (own_nf W1009 (wd28 hw)) (wd28 hw) (wd27 hw) (wd7 hw) (wd29 hw) (by decide) X_a1 (own_m4c l Z a0 hw [] h1009 a1 ix vz de nA dA aA tA ng2 dg2 (fun _ => 0) (fun _ => 0) k X_a1 F_numerators_a1 F_denominators_a1 F_approximations_a1 F_terms_a1 V_nA V_dA V_aA V_tA ne_a1_nA ne_a1_dA ne_a1_aA ne_a1_tA ne_nA_dA ne_nA_aA ne_nA_tA ne_dA_aA ne_dA_tA ne_aA_tA hk hk2 rfl (by rw [adg2, adg1]) (by rw [adg2, adg1]; exact hde) hde (by rw [ang2, ang1]; rw [own_lt0q] at cxy; omega) hvz (by rw [ang2, ang1]; exact cz)) (allS (Or.inr o_nA) (allS (Or.inr o_dA) (allS (Or.inr o_aA) (allS (Or.inr o_tA) all0)))) rfl pd_3 rfl (Nat.le_of_eq rfl) (by decide) (by decide) (by decide) (by decide) rfl ?_
      rintro T1010 h1010 _ W1010 K1010 P1010 ⟨rfl, ⟨ag3, tg3, aag3, bag3, atg3, btg3, V_nA, V_dA, V_aA, V_tA⟩⟩
      have X_a1 := X_a1.keep K1010
      have F_numerators_a1 := F_numerators_a1.keep K1010 (ninS ne_a1_nA (ninS ne_a1_dA (ninS ne_a1_aA (ninS ne_a1_tA nin0))))
      have F_denominators_a1 := F_denominators_a1.keep K1010 (ninS ne_a1_nA (ninS ne_a1_dA (ninS ne_a1_aA (ninS ne_a1_tA nin0))))
      have F_approximations_a1 := F_approximations_a1.keep K1010 (ninS ne_a1_nA (ninS ne_a1_dA (ninS ne_a1_aA (ninS ne_a1_tA nin0))))
      have F_terms_a1 := F_terms_a1.keep K1010 (ninS ne_a1_nA (ninS ne_a1_dA (ninS ne_a1_aA (ninS ne_a1_tA nin0))))
      show own_Go p e below C T1010 (mkF m 115 #[.val (.long q1), .second, .val (.long q2), .second, .val (.long q3), .second, .val (.long q4), .second, .val (.int p5), .val (.long vx), .second, .val (.long vy), .second, .val (.long vz), .second, .val (.long de), .second, .val (.int (3 : Int32)), .val (.int ix), .val (.int io), .val (.ref a1), .unset, .unset, .unset, .unset, .unset, .unset, .unset] [])
      refine own_iload W1010 117 at_115 rfl rfl ?_
      refine own_ifY W1010 126 at_117 ((if0 _ _).trans (feq ((by decide) : ¬ ((3 : Int32) = (0 : Int32)))).2) (by decide) (by decide) ?_
      refine own_iload W1010 128 at_126 rfl rfl ?_
      refine own_iconst W1010 (1 : Int32) 129 at_128 rfl rfl ?_
      refine own_icmpY W1010 144 at_129 ((feq ((by decide) : ¬ ((3 : Int32) = (1 : Int32)))).2) (by decide) (by decide) ?_
      refine own_lload W1010 146 at_144 rfl rfl ?_
      refine own_lload W1010 148 at_146 rfl rfl ?_
      refine own_ladd W1010 149 at_148 rfl ?_
      refine own_lstore W1010 151 #[.val (.long q1), .second, .val (.long q2), .second, .val (.long q3), .second, .val (.long q4), .second, .val (.int p5), .val (.long vx), .second, .val (.long vy), .second, .val (.long vz), .second, .val (.long de), .second, .val (.int (3 : Int32)), .val (.int ix), .val (.int io), .val (.ref a1), .unset, .unset, .val (.long (vx + vy)), .second, .unset, .unset, .unset] at_149 rfl rfl ?_
      refine own_lload W1010 153 at_151 rfl rfl ?_
      refine own_lconst W1010 (0 : Int64) 154 at_153 rfl rfl ?_
      refine own_lcmp W1010 155 at_154 rfl ?_
      refine own_ifN W1010 158 at_155 ((if0 _ _).trans (flt (mt (lw_lt (vx + vy) (0 : Int64)).mp (cxy : ¬ ((vx + vy) < (0 : Int64))))).1) rfl ?_
      refine own_iconst W1010 (1 : Int32) 159 at_158 rfl rfl ?_
      refine own_goto W1010 163 at_159 (by decide) (by decide) ?_
      refine own_istore W1010 165 #[.val (.long q1), .second, .val (.long q2), .second, .val (.long q3), .second, .val (.long q4), .second, .val (.int p5), .val (.long vx), .second, .val (.long vy), .second, .val (.long vz), .second, .val (.long de), .second, .val (.int (3 : Int32)), .val (.int ix), .val (.int io), .val (.ref a1), .unset, .unset, .val (.long (vx + vy)), .second, .val (.int (1 : Int32)), .unset, .unset] at_163 rfl rfl ?_
      refine own_iload W1010 167 at_165 rfl rfl ?_
      refine own_iconst W1010 (2 : Int32) 168 at_167 rfl rfl ?_
      refine own_icmpY W1010 206 at_168 ((feq ((by decide) : ¬ ((3 : Int32) = (2 : Int32)))).2) (by decide) (by decide) ?_
      refine own_iload W1010 208 at_206 rfl rfl ?_
      refine own_ifY W1010 239 at_208 ((if0 _ _).trans (feq ((by decide) : ¬ ((1 : Int32) = (0 : Int32)))).2) (by decide) (by decide) ?_
      refine own_lload W1010 241 at_239 rfl rfl ?_
      refine own_lload W1010 243 at_241 rfl rfl ?_
      refine own_ladd W1010 244 at_243 rfl ?_
      refine own_lstore W1010 246 #[.val (.long q1), .second, .val (.long q2), .second, .val (.long q3), .second, .val (.long q4), .second, .val (.int p5), .val (.long vx), .second, .val (.long vy), .second, .val (.long vz), .second, .val (.long de), .second, .val (.int (3 : Int32)), .val (.int ix), .val (.int io), .val (.ref a1), .unset, .unset, .val (.long (vx + vy)), .second, .val (.int (1 : Int32)), .val (.long ((vx + vy) + vz)), .second] at_244 rfl rfl ?_
      refine own_lload W1010 248 at_246 rfl rfl ?_
      refine own_lconst W1010 (0 : Int64) 249 at_248 rfl rfl ?_
      refine own_lcmp W1010 250 at_249 rfl ?_
      refine own_ifY W1010 263 at_250 ((if0 _ _).trans (tlt ((lw_lt ((vx + vy) + vz) (0 : Int64)).mpr (cz : ((vx + vy) + vz) < (0 : Int64)))).1) (by decide) (by decide) ?_
      refine own_lload W1010 265 at_263 rfl rfl ?_
      refine own_l2d W1010 266 at_265 rfl ?_
      refine own_lload W1010 268 at_266 rfl rfl ?_
      refine own_l2d W1010 269 at_268 rfl ?_
      refine own_ddiv W1010 270 at_269 (own_qn hde) rfl ?_
      refine own_lload W1010 272 at_270 rfl rfl ?_
      refine own_l2d W1010 273 at_272 rfl ?_
      refine own_lload W1010 275 at_273 rfl rfl ?_
      refine own_l2d W1010 276 at_275 rfl ?_
      refine own_ddiv W1010 277 at_276 (own_qn hde) rfl ?_
      refine own_dadd W1010 278 at_277 (own_mn (own_am (own_qm hde) (own_qm hde) (by decide)) (by decide)) rfl ?_
      refine own_dstore W1010 280 #[.val (.long q1), .second, .val (.long q2), .second, .val (.long q3), .second, .val (.long q4), .second, .val (.int p5), .val (.long vx), .second, .val (.long vy), .second, .val (.long vz), .second, .val (.long de), .second, .val (.int (3 : Int32)), .val (.int ix), .val (.int io), .val (.ref a1), .val (.double (FP.dadd (FP.ddiv (FP.l2d (vx + vy)) (FP.l2d de)) (FP.ddiv (FP.l2d vz) (FP.l2d de)))), .second, .val (.long (vx + vy)), .second, .val (.int (1 : Int32)), .val (.long ((vx + vy) + vz)), .second] at_278 rfl rfl ?_
      refine own_aload W1010 282 at_280 rfl rfl rfl ?_
      refine own_iload W1010 284 at_282 rfl rfl ?_
      refine own_callV W1010 (A := [(.int ix)]) (wt := 0) (pc' := 287) (st := []) at_284 (wd43 hw) (wd44 hw) (own_nf W1010 (wd46 hw)) (wd46 hw) (wd45 hw) (wd7 hw) (wd47 hw) (by decide) X_a1 (own_m9a l Z a0 hw [] h1010 a1 ix nA dA aA tA ng2 dg2 ag3 tg3 k X_a1 F_numerators_a1 F_denominators_a1 F_approximations_a1 F_terms_a1 V_nA V_dA V_aA V_tA hk hk2 (by rw [atg3]; decide)) all0 rfl pd_2 rfl (Nat.le_of_eq rfl) (by decide) (by decide) (by decide) (by decide) rfl ?_
      rintro T1011 h1011 _ W1011 K1011 P1011 rfl
      rw [P1011 rfl rfl] at W1011
      show own_Go p e below C T1011 (mkF m 287 #[.val (.long q1), .second, .val (.long q2), .second, .val (.long q3), .second, .val (.long q4), .second, .val (.int p5), .val (.long vx), .second, .val (.long vy), .second, .val (.long vz), .second, .val (.long de), .second, .val (.int (3 : Int32)), .val (.int ix), .val (.int io), .val (.ref a1), .val (.double (FP.dadd (FP.ddiv (FP.l2d (vx + vy)) (FP.l2d de)) (FP.ddiv (FP.l2d vz) (FP.l2d de)))), .second, .val (.long (vx + vy)), .second, .val (.int (1 : Int32)), .val (.long ((vx + vy) + vz)), .second] [(.double (ag3 k))])
      refine own_dload W1011 289 at_287 rfl rfl ?_
      refine own_dcmpl W1011 290 at_289 rfl ?_
      refine own_ifN W1011 293 at_290 ((if0 _ _).trans (teq ((Jvm.RoadKit.dcmpV_eq (by rw [aag3, ang2, adg2, ang1, adg1]) (by rw [aag3, ang2, adg2, ang1, adg1]; exact own_mn (own_am (own_qm hde) (own_qm hde) (by decide)) (by decide)) .l) : (cmpValue (FP.dcmp (ag3 k) (FP.dadd (FP.ddiv (FP.l2d (vx + vy)) (FP.l2d de)) (FP.ddiv (FP.l2d vz) (FP.l2d de)))) .l) = (0 : Int32))).2) rfl ?_
      refine own_aload W1011 295 at_293 rfl rfl rfl ?_
      refine own_iload W1011 297 at_295 rfl rfl ?_
      refine own_callV W1011 (A := [(.int io)]) (wt := 0) (pc' := 300) (st := []) at_297 (wd43 hw) (wd44 hw) (own_nf W1011 (wd46 hw)) (wd46 hw) (wd45 hw) (wd7 hw) (wd47 hw) (by decide) X_a1 (own_m9z l Z a0 hw [] h1010 a1 io nA dA aA tA ng2 dg2 ag3 tg3 jo X_a1 F_numerators_a1 F_denominators_a1 F_approximations_a1 F_terms_a1 V_nA V_dA V_aA V_tA hjo hjo2 (by rw [btg3 jo hjk]) (by rw [bdg2 jo hjk, bdg1 jo hjk])) all0 rfl pd_2 rfl (Nat.le_of_eq rfl) (by decide) (by decide) (by decide) (by decide) rfl ?_
      rintro T1012 h1012 _ W1012 K1012 P1012 rfl
      rw [P1012 rfl rfl] at W1012
      show own_Go p e below C T1012 (mkF m 300 #[.val (.long q1), .second, .val (.long q2), .second, .val (.long q3), .second, .val (.long q4), .second, .val (.int p5), .val (.long vx), .second, .val (.long vy), .second, .val (.long vz), .second, .val (.long de), .second, .val (.int (3 : Int32)), .val (.int ix), .val (.int io), .val (.ref a1), .val (.double (FP.dadd (FP.ddiv (FP.l2d (vx + vy)) (FP.l2d de)) (FP.ddiv (FP.l2d vz) (FP.l2d de)))), .second, .val (.long (vx + vy)), .second, .val (.int (1 : Int32)), .val (.long ((vx + vy) + vz)), .second] [(.double FP.dconst0)])
      refine own_dconst0 W1012 301 at_300 rfl ?_
      refine own_dcmpl W1012 302 at_301 rfl ?_
      refine own_ifN W1012 305 at_302 ((if0 _ _).trans (teq ((Jvm.RoadKit.dcmpV_self (by decide) .l) : (cmpValue (FP.dcmp FP.dconst0 FP.dconst0) .l) = (0 : Int32))).2) rfl ?_
      refine own_iconst W1012 (1 : Int32) 306 at_305 rfl rfl ?_
      refine own_goto W1012 310 at_306 (by decide) (by decide) ?_
      refine own_retZ (Q := fun v h => v = some (.int (1 : Int32))) W1012 hC (by decide) (by decide) at_310 ?_
      exact rfl
    · refine own_callV W1009 (A := [(.int ix), (.long vz), (.long de)]) (wt := 0) (pc' := 115) (st := []) at_112 (wd25 hw) (wd26 hw) (own_nf W1009 (wd28 hw)) (wd28 hw) (wd27 hw) (wd7 hw) (wd29 hw) (by decide) X_a1 (own_m4b l Z a0 hw [] h1009 a1 ix vz de nA dA aA tA ng2 dg2 (fun _ => 0) (fun _ => 0) k X_a1 F_numerators_a1 F_denominators_a1 F_approximations_a1 F_terms_a1 V_nA V_dA V_aA V_tA ne_a1_nA ne_a1_dA ne_a1_aA ne_a1_tA ne_nA_dA ne_nA_aA ne_nA_tA ne_dA_aA ne_dA_tA ne_aA_tA hk hk2 rfl (by rw [adg2, adg1]) (by rw [adg2, adg1]; exact hde) (by rw [ang2, ang1]; rw [own_lt0q] at cxy; omega) hvz (by rw [ang2, ang1]; exact cz)) (allS (Or.inr o_nA) (allS (Or.inr o_dA) (allS (Or.inr o_aA) (allS (Or.inr o_tA) all0)))) rfl pd_3 rfl (Nat.le_of_eq rfl) (by decide) (by decide) (by decide) (by decide) rfl ?_
      rintro T1013 h1013 _ W1013 K1013 P1013 ⟨rfl, ⟨ng3, dg3, ang3, bng3, adg3, bdg3, V_nA, V_dA, V_aA, V_tA⟩⟩
      have X_a1 := X_a1.keep K1013
      have F_numerators_a1 := F_numerators_a1.keep K1013 (ninS ne_a1_nA (ninS ne_a1_dA (ninS ne_a1_aA (ninS ne_a1_tA nin0))))
      have F_denominators_a1 := F_denominators_a1.keep K1013 (ninS ne_a1_nA (ninS ne_a1_dA (ninS ne_a1_aA (ninS ne_a1_tA nin0))))
      have F_approximations_a1 := F_approximations_a1.keep K1013 (ninS ne_a1_nA (ninS ne_a1_dA (ninS ne_a1_aA (ninS ne_a1_tA nin0))))
      have F_terms_a1 := F_terms_a1.keep K1013 (ninS ne_a1_nA (ninS ne_a1_dA (ninS ne_a1_aA (ninS ne_a1_tA nin0))))
      show own_Go p e below C T1013 (mkF m 115 #[.val (.long q1), .second, .val (.long q2), .second, .val (.long q3), .second, .val (.long q4), .second, .val (.int p5), .val (.long vx), .second, .val (.long vy), .second, .val (.long vz), .second, .val (.long de), .second, .val (.int (3 : Int32)), .val (.int ix), .val (.int io), .val (.ref a1), .unset, .unset, .unset, .unset, .unset, .unset, .unset] [])
      refine own_iload W1013 117 at_115 rfl rfl ?_
      refine own_ifY W1013 126 at_117 ((if0 _ _).trans (feq ((by decide) : ¬ ((3 : Int32) = (0 : Int32)))).2) (by decide) (by decide) ?_
      refine own_iload W1013 128 at_126 rfl rfl ?_
      refine own_iconst W1013 (1 : Int32) 129 at_128 rfl rfl ?_
      refine own_icmpY W1013 144 at_129 ((feq ((by decide) : ¬ ((3 : Int32) = (1 : Int32)))).2) (by decide) (by decide) ?_
      refine own_lload W1013 146 at_144 rfl rfl ?_
      refine own_lload W1013 148 at_146 rfl rfl ?_
      refine own_ladd W1013 149 at_148 rfl ?_
      refine own_lstore W1013 151 #[.val (.long q1), .second, .val (.long q2), .second, .val (.long q3), .second, .val (.long q4), .second, .val (.int p5), .val (.long vx), .second, .val (.long vy), .second, .val (.long vz), .second, .val (.long de), .second, .val (.int (3 : Int32)), .val (.int ix), .val (.int io), .val (.ref a1), .unset, .unset, .val (.long (vx + vy)), .second, .unset, .unset, .unset] at_149 rfl rfl ?_
      refine own_lload W1013 153 at_151 rfl rfl ?_
      refine own_lconst W1013 (0 : Int64) 154 at_153 rfl rfl ?_
      refine own_lcmp W1013 155 at_154 rfl ?_
      refine own_ifN W1013 158 at_155 ((if0 _ _).trans (flt (mt (lw_lt (vx + vy) (0 : Int64)).mp (cxy : ¬ ((vx + vy) < (0 : Int64))))).1) rfl ?_
      refine own_iconst W1013 (1 : Int32) 159 at_158 rfl rfl ?_
      refine own_goto W1013 163 at_159 (by decide) (by decide) ?_
      refine own_istore W1013 165 #[.val (.long q1), .second, .val (.long q2), .second, .val (.long q3), .second, .val (.long q4), .second, .val (.int p5), .val (.long vx), .second, .val (.long vy), .second, .val (.long vz), .second, .val (.long de), .second, .val (.int (3 : Int32)), .val (.int ix), .val (.int io), .val (.ref a1), .unset, .unset, .val (.long (vx + vy)), .second, .val (.int (1 : Int32)), .unset, .unset] at_163 rfl rfl ?_
      refine own_iload W1013 167 at_165 rfl rfl ?_
      refine own_iconst W1013 (2 : Int32) 168 at_167 rfl rfl ?_
      refine own_icmpY W1013 206 at_168 ((feq ((by decide) : ¬ ((3 : Int32) = (2 : Int32)))).2) (by decide) (by decide) ?_
      refine own_iload W1013 208 at_206 rfl rfl ?_
      refine own_ifY W1013 239 at_208 ((if0 _ _).trans (feq ((by decide) : ¬ ((1 : Int32) = (0 : Int32)))).2) (by decide) (by decide) ?_
      refine own_lload W1013 241 at_239 rfl rfl ?_
      refine own_lload W1013 243 at_241 rfl rfl ?_
      refine own_ladd W1013 244 at_243 rfl ?_
      refine own_lstore W1013 246 #[.val (.long q1), .second, .val (.long q2), .second, .val (.long q3), .second, .val (.long q4), .second, .val (.int p5), .val (.long vx), .second, .val (.long vy), .second, .val (.long vz), .second, .val (.long de), .second, .val (.int (3 : Int32)), .val (.int ix), .val (.int io), .val (.ref a1), .unset, .unset, .val (.long (vx + vy)), .second, .val (.int (1 : Int32)), .val (.long ((vx + vy) + vz)), .second] at_244 rfl rfl ?_
      refine own_lload W1013 248 at_246 rfl rfl ?_
      refine own_lconst W1013 (0 : Int64) 249 at_248 rfl rfl ?_
      refine own_lcmp W1013 250 at_249 rfl ?_
      refine own_ifN W1013 253 at_250 ((if0 _ _).trans (flt (mt (lw_lt ((vx + vy) + vz) (0 : Int64)).mp (cz : ¬ (((vx + vy) + vz) < (0 : Int64))))).1) rfl ?_
      refine own_lload W1013 255 at_253 rfl rfl ?_
      refine own_l2d W1013 256 at_255 rfl ?_
      refine own_lload W1013 258 at_256 rfl rfl ?_
      refine own_l2d W1013 259 at_258 rfl ?_
      refine own_ddiv W1013 260 at_259 (own_qn hde) rfl ?_
      refine own_goto W1013 278 at_260 (by decide) (by decide) ?_
      refine own_dstore W1013 280 #[.val (.long q1), .second, .val (.long q2), .second, .val (.long q3), .second, .val (.long q4), .second, .val (.int p5), .val (.long vx), .second, .val (.long vy), .second, .val (.long vz), .second, .val (.long de), .second, .val (.int (3 : Int32)), .val (.int ix), .val (.int io), .val (.ref a1), .val (.double (FP.ddiv (FP.l2d ((vx + vy) + vz)) (FP.l2d de))), .second, .val (.long (vx + vy)), .second, .val (.int (1 : Int32)), .val (.long ((vx + vy) + vz)), .second] at_278 rfl rfl ?_
      refine own_aload W1013 282 at_280 rfl rfl rfl ?_
      refine own_iload W1013 284 at_282 rfl rfl ?_
      refine own_callV W1013 (A := [(.int ix)]) (wt := 0) (pc' := 287) (st := []) at_284 (wd43 hw) (wd44 hw) (own_nf W1013 (wd46 hw)) (wd46 hw) (wd45 hw) (wd7 hw) (wd47 hw) (by decide) X_a1 (own_m9q l Z a0 hw [] h1013 a1 ix nA dA aA tA ng3 dg3 (fun _ => 0) (fun _ => 0) k X_a1 F_numerators_a1 F_denominators_a1 F_approximations_a1 F_terms_a1 V_nA V_dA V_aA V_tA hk hk2 rfl (by rw [adg3, adg2, adg1]; exact hde)) all0 rfl pd_2 rfl (Nat.le_of_eq rfl) (by decide) (by decide) (by decide) (by decide) rfl ?_
      rintro T1014 h1014 _ W1014 K1014 P1014 rfl
      rw [P1014 rfl rfl] at W1014
      show own_Go p e below C T1014 (mkF m 287 #[.val (.long q1), .second, .val (.long q2), .second, .val (.long q3), .second, .val (.long q4), .second, .val (.int p5), .val (.long vx), .second, .val (.long vy), .second, .val (.long vz), .second, .val (.long de), .second, .val (.int (3 : Int32)), .val (.int ix), .val (.int io), .val (.ref a1), .val (.double (FP.ddiv (FP.l2d ((vx + vy) + vz)) (FP.l2d de))), .second, .val (.long (vx + vy)), .second, .val (.int (1 : Int32)), .val (.long ((vx + vy) + vz)), .second] [(.double (FP.ddiv (FP.l2d (ng3 k)) (FP.l2d (dg3 k))))])
      refine own_dload W1014 289 at_287 rfl rfl ?_
      refine own_dcmpl W1014 290 at_289 rfl ?_
      refine own_ifN W1014 293 at_290 ((if0 _ _).trans (teq ((Jvm.RoadKit.dcmpV_eq (by rw [ang3, adg3, ang2, adg2, ang1, adg1]) (own_qn (by rw [adg3, adg2, adg1]; exact hde)) .l) : (cmpValue (FP.dcmp (FP.ddiv (FP.l2d (ng3 k)) (FP.l2d (dg3 k))) (FP.ddiv (FP.l2d ((vx + vy) + vz)) (FP.l2d de))) .l) = (0 : Int32))).2) rfl ?_
      refine own_aload W1014 295 at_293 rfl rfl rfl ?_
      refine own_iload W1014 297 at_295 rfl rfl ?_
      refine own_callV W1014 (A := [(.int io)]) (wt := 0) (pc' := 300) (st := []) at_297 (wd43 hw) (wd44 hw) (own_nf W1014 (wd46 hw)) (wd46 hw) (wd45 hw) (wd7 hw) (wd47 hw) (by decide) X_a1 (own_m9z l Z a0 hw [] h1013 a1 io nA dA aA tA ng3 dg3 (fun _ => 0) (fun _ => 0) jo X_a1 F_numerators_a1 F_denominators_a1 F_approximations_a1 F_terms_a1 V_nA V_dA V_aA V_tA hjo hjo2 (rfl) (by rw [bdg3 jo hjk, bdg2 jo hjk, bdg1 jo hjk])) all0 rfl pd_2 rfl (Nat.le_of_eq rfl) (by decide) (by decide) (by decide) (by decide) rfl ?_
      rintro T1015 h1015 _ W1015 K1015 P1015 rfl
      rw [P1015 rfl rfl] at W1015
      show own_Go p e below C T1015 (mkF m 300 #[.val (.long q1), .second, .val (.long q2), .second, .val (.long q3), .second, .val (.long q4), .second, .val (.int p5), .val (.long vx), .second, .val (.long vy), .second, .val (.long vz), .second, .val (.long de), .second, .val (.int (3 : Int32)), .val (.int ix), .val (.int io), .val (.ref a1), .val (.double (FP.ddiv (FP.l2d ((vx + vy) + vz)) (FP.l2d de))), .second, .val (.long (vx + vy)), .second, .val (.int (1 : Int32)), .val (.long ((vx + vy) + vz)), .second] [(.double FP.dconst0)])
      refine own_dconst0 W1015 301 at_300 rfl ?_
      refine own_dcmpl W1015 302 at_301 rfl ?_
      refine own_ifN W1015 305 at_302 ((if0 _ _).trans (teq ((Jvm.RoadKit.dcmpV_self (by decide) .l) : (cmpValue (FP.dcmp FP.dconst0 FP.dconst0) .l) = (0 : Int32))).2) rfl ?_
      refine own_iconst W1015 (1 : Int32) 306 at_305 rfl rfl ?_
      refine own_goto W1015 310 at_306 (by decide) (by decide) ?_
      refine own_retZ (Q := fun v h => v = some (.int (1 : Int32))) W1015 hC (by decide) (by decide) at_310 ?_
      exact rfl
set_option maxRecDepth 65536 in
set_option maxHeartbeats 40000000 in
theorem own_m0 (l : Launch) (Z : State) (a0 : Array Value) (hw : ∀ d ∈ tables_1, d.before a0 Z = true) (wo : List Jvm.Cond) (h0 : Heap) (q1 : Int64) (q2 : Int64) (q3 : Int64) (q4 : Int64) (p5 : Int32) :
    own_M l Z wo x code maxLocals ret room_1 [] #[(.long q1), (.long q2), (.long q3), (.long q4), (.int p5)] h0 (fun v h => v = some (.int (1 : Int32))) := by
  refine own_body (plainFor_of_name pn_0) (fun m => ef_m0 m q1 q2 q3 q4 p5) ?_
  intro p e s m below meth c C hC T0 W0
  refine own_lloadN W0 1 at_0 rfl rfl ?_
  refine own_ldc2Long W0 4 at_1 (wd0 hw) rfl ?_
  refine own_land W0 5 at_4 rfl ?_
  refine own_lstore W0 7 #[.val (.long q1), .second, .val (.long q2), .second, .val (.long q3), .second, .val (.long q4), .second, .val (.int p5), .val (.long (q1 &&& (9223372036854775807 : Int64))), .second, .unset, .unset, .unset, .unset, .unset, .unset, .unset, .unset, .unset, .unset, .unset, .unset, .unset, .unset, .unset, .unset, .unset] at_5 rfl rfl ?_
  refine own_lloadN W0 8 at_7 rfl rfl ?_
  refine own_ldc2Long W0 11 at_8 (wd0 hw) rfl ?_
  refine own_land W0 12 at_11 rfl ?_
  refine own_lstore W0 14 #[.val (.long q1), .second, .val (.long q2), .second, .val (.long q3), .second, .val (.long q4), .second, .val (.int p5), .val (.long (q1 &&& (9223372036854775807 : Int64))), .second, .val (.long (q2 &&& (9223372036854775807 : Int64))), .second, .unset, .unset, .unset, .unset, .unset, .unset, .unset, .unset, .unset, .unset, .unset, .unset, .unset, .unset, .unset] at_12 rfl rfl ?_
  refine own_lload W0 16 at_14 rfl rfl ?_
  refine own_ldc2Long W0 19 at_16 (wd0 hw) rfl ?_
  refine own_land W0 20 at_19 rfl ?_
  refine own_lstore W0 22 #[.val (.long q1), .second, .val (.long q2), .second, .val (.long q3), .second, .val (.long q4), .second, .val (.int p5), .val (.long (q1 &&& (9223372036854775807 : Int64))), .second, .val (.long (q2 &&& (9223372036854775807 : Int64))), .second, .val (.long (q3 &&& (9223372036854775807 : Int64))), .second, .unset, .unset, .unset, .unset, .unset, .unset, .unset, .unset, .unset, .unset, .unset, .unset, .unset] at_20 rfl rfl ?_
  refine own_lconst W0 (1 : Int64) 23 at_22 rfl rfl ?_
  refine own_lload W0 25 at_23 rfl rfl ?_
  refine own_ldc2Long W0 28 at_25 (wd0 hw) rfl ?_
  refine own_land W0 29 at_28 rfl ?_
  have hvx := own_max63 q1
  generalize h_vx : (q1 &&& (9223372036854775807 : Int64)) = vx at hvx ⊢
  show own_Go p e below C T0 (mkF m 29 #[.val (.long q1), .second, .val (.long q2), .second, .val (.long q3), .second, .val (.long q4), .second, .val (.int p5), .val (.long vx), .second, .val (.long (q2 &&& (9223372036854775807 : Int64))), .second, .val (.long (q3 &&& (9223372036854775807 : Int64))), .second, .unset, .unset, .unset, .unset, .unset, .unset, .unset, .unset, .unset, .unset, .unset, .unset, .unset] [(.long (q4 &&& (9223372036854775807 : Int64))), (.long (1 : Int64))])
  have hvy := own_max63 q2
  generalize h_vy : (q2 &&& (9223372036854775807 : Int64)) = vy at hvy ⊢
  show own_Go p e below C T0 (mkF m 29 #[.val (.long q1), .second, .val (.long q2), .second, .val (.long q3), .second, .val (.long q4), .second, .val (.int p5), .val (.long vx), .second, .val (.long vy), .second, .val (.long (q3 &&& (9223372036854775807 : Int64))), .second, .unset, .unset, .unset, .unset, .unset, .unset, .unset, .unset, .unset, .unset, .unset, .unset, .unset] [(.long (q4 &&& (9223372036854775807 : Int64))), (.long (1 : Int64))])
  have hvz := own_max63 q3
  generalize h_vz : (q3 &&& (9223372036854775807 : Int64)) = vz at hvz ⊢
  show own_Go p e below C T0 (mkF m 29 #[.val (.long q1), .second, .val (.long q2), .second, .val (.long q3), .second, .val (.long q4), .second, .val (.int p5), .val (.long vx), .second, .val (.long vy), .second, .val (.long vz), .second, .unset, .unset, .unset, .unset, .unset, .unset, .unset, .unset, .unset, .unset, .unset, .unset, .unset] [(.long (q4 &&& (9223372036854775807 : Int64))), (.long (1 : Int64))])
  have hvd := own_max63 q4
  generalize h_vd : (q4 &&& (9223372036854775807 : Int64)) = vd at hvd ⊢
  show own_Go p e below C T0 (mkF m 29 #[.val (.long q1), .second, .val (.long q2), .second, .val (.long q3), .second, .val (.long q4), .second, .val (.int p5), .val (.long vx), .second, .val (.long vy), .second, .val (.long vz), .second, .unset, .unset, .unset, .unset, .unset, .unset, .unset, .unset, .unset, .unset, .unset, .unset, .unset] [(.long vd), (.long (1 : Int64))])
  refine own_callS W0 (A := [(.long (1 : Int64)), (.long vd)]) (wt := 0) (pc' := 32) (st := []) at_29 (wd1 hw) (wd2 hw) (wd3 hw) (wd4 hw) (by decide) (own_m1 l Z a0 hw [] h0 (1 : Int64) vd) all0 rfl pd_0 rfl (Nat.le_of_eq rfl) (by decide) (by decide) (by decide) (by decide) rfl ?_
  rintro T1 h1 _ W1 K1 P1 rfl
  rw [P1 rfl rfl] at W1
  show own_Go p e below C T1 (mkF m 32 #[.val (.long q1), .second, .val (.long q2), .second, .val (.long q3), .second, .val (.long q4), .second, .val (.int p5), .val (.long vx), .second, .val (.long vy), .second, .val (.long vz), .second, .unset, .unset, .unset, .unset, .unset, .unset, .unset, .unset, .unset, .unset, .unset, .unset, .unset] [(.long (if (1 : Int64) < vd then vd else (1 : Int64)))])
  have hde := own_den (d := vd)
  generalize h_de : (if (1 : Int64) < vd then vd else (1 : Int64)) = de at hde ⊢
  show own_Go p e below C T1 (mkF m 32 #[.val (.long q1), .second, .val (.long q2), .second, .val (.long q3), .second, .val (.long q4), .second, .val (.int p5), .val (.long vx), .second, .val (.long vy), .second, .val (.long vz), .second, .unset, .unset, .unset, .unset, .unset, .unset, .unset, .unset, .unset, .unset, .unset, .unset, .unset] [(.long de)])
  refine own_lstore W1 34 #[.val (.long q1), .second, .val (.long q2), .second, .val (.long q3), .second, .val (.long q4), .second, .val (.int p5), .val (.long vx), .second, .val (.long vy), .second, .val (.long vz), .second, .val (.long de), .second, .unset, .unset, .unset, .unset, .unset, .unset, .unset, .unset, .unset, .unset, .unset] at_32 rfl rfl ?_
  refine own_iload W1 36 at_34 rfl rfl ?_
  refine own_iconst W1 (3 : Int32) 37 at_36 rfl rfl ?_
  refine own_iand W1 38 at_37 rfl ?_
  refine own_istore W1 40 #[.val (.long q1), .second, .val (.long q2), .second, .val (.long q3), .second, .val (.long q4), .second, .val (.int p5), .val (.long vx), .second, .val (.long vy), .second, .val (.long vz), .second, .val (.long de), .second, .val (.int (p5 &&& (3 : Int32))), .unset, .unset, .unset, .unset, .unset, .unset, .unset, .unset, .unset, .unset] at_38 rfl rfl ?_
  refine own_iload W1 42 at_40 rfl rfl ?_
  refine own_iconst W1 (2 : Int32) 43 at_42 rfl rfl ?_
  refine own_iushr W1 44 at_43 rfl ?_
  refine own_iconst W1 (1 : Int32) 45 at_44 rfl rfl ?_
  refine own_iand W1 46 at_45 rfl ?_
  obtain ⟨k, hk, hk2⟩ := own_bit1 p5
  generalize h_ix : (((p5.toUInt32 >>> ((2 : Int32) &&& 31).toUInt32).toInt32) &&& (1 : Int32)) = ix at hk ⊢
  show own_Go p e below C T1 (mkF m 46 #[.val (.long q1), .second, .val (.long q2), .second, .val (.long q3), .second, .val (.long q4), .second, .val (.int p5), .val (.long vx), .second, .val (.long vy), .second, .val (.long vz), .second, .val (.long de), .second, .val (.int (p5 &&& (3 : Int32))), .unset, .unset, .unset, .unset, .unset, .unset, .unset, .unset, .unset, .unset] [(.int ix)])
  refine own_istore W1 48 #[.val (.long q1), .second, .val (.long q2), .second, .val (.long q3), .second, .val (.long q4), .second, .val (.int p5), .val (.long vx), .second, .val (.long vy), .second, .val (.long vz), .second, .val (.long de), .second, .val (.int (p5 &&& (3 : Int32))), .val (.int ix), .unset, .unset, .unset, .unset, .unset, .unset, .unset, .unset, .unset] at_46 rfl rfl ?_
  refine own_iconst W1 (1 : Int32) 49 at_48 rfl rfl ?_
  refine own_iload W1 51 at_49 rfl rfl ?_
  refine own_isub W1 52 at_51 rfl ?_
  have hko := own_oth hk hk2
  generalize h_io : ((1 : Int32) - ix) = io at hko ⊢
  show own_Go p e below C T1 (mkF m 52 #[.val (.long q1), .second, .val (.long q2), .second, .val (.long q3), .second, .val (.long q4), .second, .val (.int p5), .val (.long vx), .second, .val (.long vy), .second, .val (.long vz), .second, .val (.long de), .second, .val (.int (p5 &&& (3 : Int32))), .val (.int ix), .unset, .unset, .unset, .unset, .unset, .unset, .unset, .unset, .unset] [(.int io)])
  obtain ⟨md, hmd, hmd4⟩ := own_m3 p5
  generalize h_mo : (p5 &&& (3 : Int32)) = mo at hmd ⊢
  show own_Go p e below C T1 (mkF m 52 #[.val (.long q1), .second, .val (.long q2), .second, .val (.long q3), .second, .val (.long q4), .second, .val (.int p5), .val (.long vx), .second, .val (.long vy), .second, .val (.long vz), .second, .val (.long de), .second, .val (.int mo), .val (.int ix), .unset, .unset, .unset, .unset, .unset, .unset, .unset, .unset, .unset] [(.int io)])
  refine own_istore W1 54 #[.val (.long q1), .second, .val (.long q2), .second, .val (.long q3), .second, .val (.long q4), .second, .val (.int p5), .val (.long vx), .second, .val (.long vy), .second, .val (.long vz), .second, .val (.long de), .second, .val (.int mo), .val (.int ix), .val (.int io), .unset, .unset, .unset, .unset, .unset, .unset, .unset, .unset] at_52 rfl rfl ?_
  refine own_new W1 57 at_54 (wd5 hw) (wd6 hw) (wd7 hw) (by decide) (by decide) rfl ?_
  intro T2 h2 a1 W2 E2 g_a1 o_a1 X_a1 D_a1
  have F_numerators_a1 : Fld Z h2 a1 "com/example/queueloom/queueloom/engine/QuotientSums" "numerators" "[J" .null := D_a1 (Or.inl (wd16 hw)) (ty := (.array .long)) (by decide)
  have F_denominators_a1 : Fld Z h2 a1 "com/example/queueloom/queueloom/engine/QuotientSums" "denominators" "[J" .null := D_a1 (Or.inl (wd18 hw)) (ty := (.array .long)) (by decide)
  have F_approximations_a1 : Fld Z h2 a1 "com/example/queueloom/queueloom/engine/QuotientSums" "approximations" "[D" .null := D_a1 (Or.inl (wd21 hw)) (ty := (.array .double)) (by decide)
  have F_terms_a1 : Fld Z h2 a1 "com/example/queueloom/queueloom/engine/QuotientSums" "terms" "[I" .null := D_a1 (Or.inl (wd24 hw)) (ty := (.array .int)) (by decide)
  show own_Go p e below C T2 (mkF m 57 #[.val (.long q1), .second, .val (.long q2), .second, .val (.long q3), .second, .val (.long q4), .second, .val (.int p5), .val (.long vx), .second, .val (.long vy), .second, .val (.long vz), .second, .val (.long de), .second, .val (.int mo), .val (.int ix), .val (.int io), .unset, .unset, .unset, .unset, .unset, .unset, .unset, .unset] [(.ref a1)])
  refine own_dup W2 58 at_57 rfl rfl ?_
  refine own_iconst W2 (2 : Int32) 59 at_58 rfl rfl ?_
  have hal := X_a1.lt
  refine own_callN W2 (A := [(.int (2 : Int32))]) (wt := 1) (pc' := 62) (st := [(.ref a1)]) at_59 rfl (wd8 hw) (wd9 hw) (wd7 hw) (wd10 hw) (by decide) (own_m2 l Z a0 hw [] h2 a1 X_a1 F_numerators_a1 F_denominators_a1 F_approximations_a1 F_terms_a1) (allS (Or.inr o_a1) all0) rfl pd_1 rfl (Nat.le_of_eq rfl) (by decide) (by decide) (by decide) (by decide) rfl ?_
  rintro T3 h3 _ W3 K3 P3 ⟨rfl, ⟨nA, dA, aA, tA, o_nA, o_dA, o_aA, o_tA, ne_nA_dA, ne_nA_aA, ne_nA_tA, ne_dA_aA, ne_dA_tA, ne_aA_tA, F_numerators_a1, F_denominators_a1, F_approximations_a1, F_terms_a1, V_nA, V_dA, V_aA, V_tA⟩⟩
  have X_a1 := X_a1.keep K3
  show own_Go p e below C T3 (mkF m 62 #[.val (.long q1), .second, .val (.long q2), .second, .val (.long q3), .second, .val (.long q4), .second, .val (.int p5), .val (.long vx), .second, .val (.long vy), .second, .val (.long vz), .second, .val (.long de), .second, .val (.int mo), .val (.int ix), .val (.int io), .unset, .unset, .unset, .unset, .unset, .unset, .unset, .unset] [(.ref a1)])
  have ne_a1_nA : a1 ≠ nA := Nat.ne_of_lt (Nat.lt_of_lt_of_le hal o_nA)
  have o_nA : s.heap.size ≤ nA := Nat.le_trans (Nat.le_trans o_a1 (Nat.le_of_lt hal)) o_nA
  have ne_a1_dA : a1 ≠ dA := Nat.ne_of_lt (Nat.lt_of_lt_of_le hal o_dA)
  have o_dA : s.heap.size ≤ dA := Nat.le_trans (Nat.le_trans o_a1 (Nat.le_of_lt hal)) o_dA
  have ne_a1_aA : a1 ≠ aA := Nat.ne_of_lt (Nat.lt_of_lt_of_le hal o_aA)
  have o_aA : s.heap.size ≤ aA := Nat.le_trans (Nat.le_trans o_a1 (Nat.le_of_lt hal)) o_aA
  have ne_a1_tA : a1 ≠ tA := Nat.ne_of_lt (Nat.lt_of_lt_of_le hal o_tA)
  have o_tA : s.heap.size ≤ tA := Nat.le_trans (Nat.le_trans o_a1 (Nat.le_of_lt hal)) o_tA
  refine own_astore W3 64 #[.val (.long q1), .second, .val (.long q2), .second, .val (.long q3), .second, .val (.long q4), .second, .val (.int p5), .val (.long vx), .second, .val (.long vy), .second, .val (.long vz), .second, .val (.long de), .second, .val (.int mo), .val (.int ix), .val (.int io), .val (.ref a1), .unset, .unset, .unset, .unset, .unset, .unset, .unset] at_62 rfl rfl rfl ?_
  refine own_iload W3 66 at_64 rfl rfl ?_
  refine own_iconst W3 (1 : Int32) 67 at_66 rfl rfl ?_
  rcases own_lt4 hmd4 with rfl | rfl | rfl | rfl
  · obtain rfl : mo = (0 : Int32) := own_lit32 hmd _ rfl
    show own_Go p e below C T3 (mkF m 67 #[.val (.long q1), .second, .val (.long q2), .second, .val (.long q3), .second, .val (.long q4), .second, .val (.int p5), .val (.long vx), .second, .val (.long vy), .second, .val (.long vz), .second, .val (.long de), .second, .val (.int (0 : Int32)), .val (.int ix), .val (.int io), .val (.ref a1), .unset, .unset, .unset, .unset, .unset, .unset, .unset] [(.int (1 : Int32)), (.int (0 : Int32))])
    exact own_md0 l Z a0 hw h0 q1 q2 q3 q4 p5 p e s m below meth c C hC T3 h3 a1 nA dA aA tA vx vy vz de ix io k W3 o_nA o_dA o_aA o_tA X_a1 F_numerators_a1 F_denominators_a1 F_approximations_a1 F_terms_a1 V_nA V_dA V_aA V_tA ne_a1_nA ne_a1_dA ne_a1_aA ne_a1_tA ne_nA_dA ne_nA_aA ne_nA_tA ne_dA_aA ne_dA_tA ne_aA_tA hvx hvy hvz hde hk hk2 hko
  · obtain rfl : mo = (1 : Int32) := own_lit32 hmd _ rfl
    show own_Go p e below C T3 (mkF m 67 #[.val (.long q1), .second, .val (.long q2), .second, .val (.long q3), .second, .val (.long q4), .second, .val (.int p5), .val (.long vx), .second, .val (.long vy), .second, .val (.long vz), .second, .val (.long de), .second, .val (.int (1 : Int32)), .val (.int ix), .val (.int io), .val (.ref a1), .unset, .unset, .unset, .unset, .unset, .unset, .unset] [(.int (1 : Int32)), (.int (1 : Int32))])
    exact own_md1 l Z a0 hw h0 q1 q2 q3 q4 p5 p e s m below meth c C hC T3 h3 a1 nA dA aA tA vx vy vz de ix io k W3 o_nA o_dA o_aA o_tA X_a1 F_numerators_a1 F_denominators_a1 F_approximations_a1 F_terms_a1 V_nA V_dA V_aA V_tA ne_a1_nA ne_a1_dA ne_a1_aA ne_a1_tA ne_nA_dA ne_nA_aA ne_nA_tA ne_dA_aA ne_dA_tA ne_aA_tA hvx hvy hvz hde hk hk2 hko
  · obtain rfl : mo = (2 : Int32) := own_lit32 hmd _ rfl
    show own_Go p e below C T3 (mkF m 67 #[.val (.long q1), .second, .val (.long q2), .second, .val (.long q3), .second, .val (.long q4), .second, .val (.int p5), .val (.long vx), .second, .val (.long vy), .second, .val (.long vz), .second, .val (.long de), .second, .val (.int (2 : Int32)), .val (.int ix), .val (.int io), .val (.ref a1), .unset, .unset, .unset, .unset, .unset, .unset, .unset] [(.int (1 : Int32)), (.int (2 : Int32))])
    exact own_md2 l Z a0 hw h0 q1 q2 q3 q4 p5 p e s m below meth c C hC T3 h3 a1 nA dA aA tA vx vy vz de ix io k W3 o_nA o_dA o_aA o_tA X_a1 F_numerators_a1 F_denominators_a1 F_approximations_a1 F_terms_a1 V_nA V_dA V_aA V_tA ne_a1_nA ne_a1_dA ne_a1_aA ne_a1_tA ne_nA_dA ne_nA_aA ne_nA_tA ne_dA_aA ne_dA_tA ne_aA_tA hvx hvy hvz hde hk hk2 hko
  · obtain rfl : mo = (3 : Int32) := own_lit32 hmd _ rfl
    show own_Go p e below C T3 (mkF m 67 #[.val (.long q1), .second, .val (.long q2), .second, .val (.long q3), .second, .val (.long q4), .second, .val (.int p5), .val (.long vx), .second, .val (.long vy), .second, .val (.long vz), .second, .val (.long de), .second, .val (.int (3 : Int32)), .val (.int ix), .val (.int io), .val (.ref a1), .unset, .unset, .unset, .unset, .unset, .unset, .unset] [(.int (1 : Int32)), (.int (3 : Int32))])
    exact own_md3 l Z a0 hw h0 q1 q2 q3 q4 p5 p e s m below meth c C hC T3 h3 a1 nA dA aA tA vx vy vz de ix io k W3 o_nA o_dA o_aA o_tA X_a1 F_numerators_a1 F_denominators_a1 F_approximations_a1 F_terms_a1 V_nA V_dA V_aA V_tA ne_a1_nA ne_a1_dA ne_a1_aA ne_a1_tA ne_nA_dA ne_nA_aA ne_nA_tA ne_dA_aA ne_dA_tA ne_aA_tA hvx hvy hvz hde hk hk2 hko
set_option maxRecDepth 65536 in
set_option maxHeartbeats 40000000 in
theorem comes_1 {Post : Tables → Env → Array Value → State → Outcome → State → Prop} (hpost : ∀ tb e args s v u, (limb_1_1.after args s (.returned v) u = true ∧ limb_1_2.after args s (.returned v) u = true ∧ True) → FrameEnd s (.returned v) u (Jvm.fieldLocs frame_1_writes args s ++ Jvm.arrayLocs frame_1_arrays args s ++ Jvm.staticLocs frame_1_statics s) 24 128 → Post tb e args s (.returned v) u) :
    ArmFor flags0 classFile x code maxLocals ret World_1 tables_1 room_1 Calls_1 rest_1 Pre_1 Post := by
  intro l hfl _ _ p e ha hc hk s m args below hf hA hF happ hP
  obtain ⟨hcalls, hrest, hpre⟩ := hP
  obtain ⟨-, -, -, hnamed, -, -, -, hat⟩ := (Spec.applies_iff hf).mp happ
  obtain ⟨hg, hn⟩ := and_e (Cond.before_iff.mp (show (Jvm.Cond.and given_1 narrow_1).before args s = true from hpre))
  obtain ⟨g1, g2⟩ := and_e hg
  obtain ⟨g3, g4⟩ := and_e g2
  obtain ⟨g5, g6⟩ := and_e g4
  obtain ⟨g7, g8⟩ := and_e g6
  obtain ⟨g9, g10⟩ := and_e g8
  obtain ⟨w0, w1, w2, w3, w4, rfl⟩ : ∃ w0 w1 w2 w3 w4 : Value, args = #[w0, w1, w2, w3, w4] := by
    have hs : args.size = 5 := by simpa [Cond.value, given_1] using g1
    obtain ⟨L⟩ := args
    match L, hs with
    | [w0, w1, w2, w3, w4], _ => exact ⟨w0, w1, w2, w3, w4, rfl⟩
  have hw := fun d (hd : d ∈ tables_1) => atoms_spec (ws := Jvm.Cond.code x code maxLocals ret :: tables_1) hat d (List.mem_cons_of_mem _ hd)
  have hfit : Fit s := fun {y c} hc i hi => by
    obtain ⟨ha, rfl⟩ := Array.getElem?_eq_some_iff.mp hc
    have q := List.all_eq_true.mp ((Array.all_eq_true_iff_forall_mem.mp hF) _ (Array.getElem_mem ha)) i (List.mem_range.mpr hi)
    simpa [Array.getElem?_eq_getElem hi] using q
  obtain ⟨i0, ei0⟩ := isL_v g3
  obtain rfl : w0 = (.long i0) := Option.some.inj ei0
  obtain ⟨i1, ei1⟩ := isL_v g5
  obtain rfl : w1 = (.long i1) := Option.some.inj ei1
  obtain ⟨i2, ei2⟩ := isL_v g7
  obtain rfl : w2 = (.long i2) := Option.some.inj ei2
  obtain ⟨i3, ei3⟩ := isL_v g9
  obtain rfl : w3 = (.long i3) := Option.some.inj ei3
  obtain ⟨i4, ei4⟩ := is_v g10
  obtain rfl : w4 = (.int i4) := Option.some.inj ei4
  obtain ⟨n, o, h1, h2, h3, _, L, rfl, ⟨N, -, -, rfl⟩, hq⟩ := own_m0 l s _ hw tables_1 s.heap i0 i1 i2 i3 i4  p e ha hc hk s m _ below hf ((Spec.applies_iff_loose hf).mp happ).1 ⟨rfl, State.Warmed39.refl s, rfl⟩ trivial
  refine ⟨n, _, h1, h2, h3, hpost _ _ _ _ _ _ ⟨Cond.after_iff.mpr rfl, Cond.after_iff.mpr (eq_i res_at (Term.int_eval (1)) rfl), trivial⟩ ⟨hq.1, hq.2.1, (hq.2.2.sift fun y hy => Or.inr ((N y hy).resolve_left (fun q => nomatch q))).mono (by decide) (by decide)⟩⟩
theorem main_1_1 : Claimed_1_1 := comes_1 fun _ _ _ _ _ _ h hF => ⟨h.1, hF⟩
theorem main_1_2 : Claimed_1_2 := comes_1 fun _ _ _ _ _ _ h hF => ⟨h.2.1, hF⟩
end Jvm.Pilot.@@N@@
namespace Jvm.Pilot.@@N@@
open Jvm Jvm.ClassFile Sem Op Lib Jvm.Free Jvm.Stand Jvm.Pilot.@@N@@.Jvm.D
/-! MADE BY PROGRAM (witnessworld.py) out of the Statement's table words and the real class files: 12 classes; the members and pool entries that the words name. The judged class is class 1, her method 1. -/
namespace start1
open Jvm.ClassFile
def u (s : String) : CpInfo := .utf8 (stringToUtf16 s)
/-- a pool by its gaps: so many unusable entries, then the entry; so many at the end -/
def gap : Nat → List CpInfo → List CpInfo
  | 0, r => r
  | n + 1, r => .unusable :: gap n r
def poolList (es : List (Nat × CpInfo)) (last : Nat) : List CpInfo := es.foldr (fun e r => gap e.1 (e.2 :: r)) (gap last [])
def pool (es : List (Nat × CpInfo)) (last : Nat) : Array CpInfo := ⟨poolList es last⟩
def fileOf (pool : Array CpInfo) (this : Nat) (attrs : Array Attribute := #[]) (ms : Array MethodInfo := #[]) (fl : Nat := 33) (sup : Nat := 0) (ifs : Array Nat := #[]) (fds : Array FieldInfo := #[]) : ClassFile where
  minorVersion := 0
  majorVersion := 65
  constantPool := pool
  accessFlags := fl
  thisClass := this
  superClass := sup
  interfaces := ifs
  fields := fds
  methods := ms
  attributes := attrs
def plain (name : String) (sup : Option ClassId) : Class where
  name := name
  kind := .ordinary
  loader := none
  accessFlags := 33
  super := sup
  interfaces := #[]
  cf := none
  fields := #[]
  methods := #[]
  instanceTypes := #[]
  staticTypes := #[]
  resolved := #[]
  callSites := []
  init := .initialized
  statics := none
  mirror := none

def pool0 : Array CpInfo := pool [(5, u "<init>"), (0, u "()V"), (1, .class_ 10), (1, u "java/lang/Object")] 113

def k0c0 : Code := { maxStack := 0, maxLocals := 1, code := object_method_1_code, exceptionTable := #[], attributes := #[] }
def k0m0 : Method := { name := "<init>", desc := "()V", sig := { parameters := [], returnType := none }, accessFlags := 1, code := some k0c0 }
/-- java/lang/Object -/
def k0 : Class := { plain "java/lang/Object" none with
  accessFlags := 33
  interfaces := #[]
  cf := some (fileOf pool0 8 #[] #[{ accessFlags := 1, nameIndex := 5, descriptorIndex := 6, attributes := #[] }] 33 0 #[] #[])
  fields := #[]
  methods := #[k0m0]
  instanceTypes := #[]
  staticTypes := #[]
  resolved := Array.replicate 124 none
  statics := none }

def pool1 : Array CpInfo := pool [(2, .class_ 4), (1, u "java/lang/Object"), (0, u "<init>"), (0, u "()V"), (2, .long 9223372036854775807), (1, .methodref 12 13), (0, .class_ 14), (0, .nameAndType 15 16), (0, u "java/lang/Math"), (0, u "max"), (0, u "(JJ)J"), (0, .class_ 18), (0, u "com/example/queueloom/queueloom/engine/QuotientSums"), (0, .methodref 17 20), (0, .nameAndType 5 21), (0, u "(I)V"), (0, .methodref 17 23), (0, .nameAndType 24 25), (0, u "add"), (0, u "(IJJ)V"), (0, .methodref 17 27), (0, .nameAndType 28 29), (0, u "doubleValue"), (0, u "(I)D"), (0, .class_ 31), (0, u "com/example/queueloom/queueloom/engine/QuotientSumsDoubleValuePinLaw"), (2, u "law"), (0, u "(JJJJI)Z")] 3

def k1m0 : Method := { name := "<init>", desc := "()V", sig := { parameters := [], returnType := none }, accessFlags := 1, code := none }
def k1c1 : Code := { maxStack := 6, maxLocals := 28, code := code, exceptionTable := #[], attributes := #[] }
def k1m1 : Method := { name := "law", desc := "(JJJJI)Z", sig := { parameters := [.long, .long, .long, .long, .int], returnType := some .boolean }, accessFlags := 9, code := some k1c1 }
/-- com/example/queueloom/queueloom/engine/QuotientSumsDoubleValuePinLaw -/
def k1 : Class := { plain "com/example/queueloom/queueloom/engine/QuotientSumsDoubleValuePinLaw" (some 0) with
  accessFlags := 49
  interfaces := #[]
  cf := some (fileOf pool1 30 #[] #[{ accessFlags := 1, nameIndex := 5, descriptorIndex := 6, attributes := #[] }, { accessFlags := 9, nameIndex := 34, descriptorIndex := 35, attributes := #[] }] 49 2 #[] #[])
  fields := #[]
  methods := #[k1m0, k1m1]
  instanceTypes := #[]
  staticTypes := #[]
  resolved := Array.replicate 39 none
  statics := none }

def pool2 : Array CpInfo := pool [(1, .class_ 2), (0, u "java/lang/Math"), (1, .class_ 6), (1, u "java/lang/Object"), (0, u "<init>"), (0, u "()V"), (89, .class_ 100), (1, u "java/lang/Math$RandomNumberGeneratorHolder"), (20, u "(JJ)J"), (16, .long 4294967295), (3, u "multiplyHigh"), (29, u "negativeZeroFloatBits"), (0, u "J"), (2, u "negativeZeroDoubleBits"), (21, u "max"), (46, u "$assertionsDisabled"), (0, u "Z"), (91, u "twoToTheDoubleScaleDown"), (0, u "D"), (4, u "twoToTheDoubleScaleUp"), (9, u "E"), (3, u "PI"), (2, u "TAU"), (2, u "DEGREES_TO_RADIANS"), (0, u "RADIANS_TO_DEGREES")] 94

def k2m0 : Method := { name := "<init>", desc := "()V", sig := { parameters := [], returnType := none }, accessFlags := 2, code := none }
def k2c1 : Code := { maxStack := 6, maxLocals := 20, code := jdk_29_method_45_code, exceptionTable := #[], attributes := #[] }
def k2m1 : Method := { name := "multiplyHigh", desc := "(JJ)J", sig := { parameters := [.long, .long], returnType := some .long }, accessFlags := 9, code := some k2c1 }
def k2c2 : Code := { maxStack := 4, maxLocals := 4, code := jdk_29_method_66_code, exceptionTable := #[], attributes := #[] }
def k2m2 : Method := { name := "max", desc := "(JJ)J", sig := { parameters := [.long, .long], returnType := some .long }, accessFlags := 9, code := some k2c2 }
/-- java/lang/Math -/
def k2 : Class := { plain "java/lang/Math" (some 0) with
  accessFlags := 49
  interfaces := #[]
  cf := some (fileOf pool2 1 #[.nestMembers #[98]] #[{ accessFlags := 2, nameIndex := 7, descriptorIndex := 8, attributes := #[] }, { accessFlags := 9, nameIndex := 142, descriptorIndex := 121, attributes := #[] }, { accessFlags := 9, nameIndex := 198, descriptorIndex := 121, attributes := #[] }] 49 4 #[] #[{ accessFlags := 25, nameIndex := 354, descriptorIndex := 339, attributes := #[] }, { accessFlags := 25, nameIndex := 358, descriptorIndex := 339, attributes := #[] }, { accessFlags := 25, nameIndex := 361, descriptorIndex := 339, attributes := #[] }, { accessFlags := 26, nameIndex := 364, descriptorIndex := 339, attributes := #[] }, { accessFlags := 26, nameIndex := 365, descriptorIndex := 339, attributes := #[] }, { accessFlags := 26, nameIndex := 172, descriptorIndex := 173, attributes := #[] }, { accessFlags := 26, nameIndex := 176, descriptorIndex := 173, attributes := #[] }, { accessFlags := 8, nameIndex := 344, descriptorIndex := 339, attributes := #[] }, { accessFlags := 8, nameIndex := 338, descriptorIndex := 339, attributes := #[] }, { accessFlags := 4120, nameIndex := 245, descriptorIndex := 246, attributes := #[] }])
  fields := #[{ name := "E", type := .double, accessFlags := 25, slot := 0, constantValue := 0 }, { name := "PI", type := .double, accessFlags := 25, slot := 1, constantValue := 0 }, { name := "TAU", type := .double, accessFlags := 25, slot := 2, constantValue := 0 }, { name := "DEGREES_TO_RADIANS", type := .double, accessFlags := 26, slot := 3, constantValue := 0 }, { name := "RADIANS_TO_DEGREES", type := .double, accessFlags := 26, slot := 4, constantValue := 0 }, { name := "negativeZeroFloatBits", type := .long, accessFlags := 26, slot := 5, constantValue := 0 }, { name := "negativeZeroDoubleBits", type := .long, accessFlags := 26, slot := 6, constantValue := 0 }, { name := "twoToTheDoubleScaleUp", type := .double, accessFlags := 8, slot := 7, constantValue := 0 }, { name := "twoToTheDoubleScaleDown", type := .double, accessFlags := 8, slot := 8, constantValue := 0 }, { name := "$assertionsDisabled", type := .boolean, accessFlags := 4120, slot := 9, constantValue := 0 }]
  methods := #[k2m0, k2m1, k2m2]
  instanceTypes := #[]
  staticTypes := #[.double, .double, .double, .double, .double, .long, .long, .double, .double, .boolean]
  resolved := Array.replicate 460 none
  statics := none }

def pool3 : Array CpInfo := pool [(1, .methodref 2 3), (0, .class_ 4), (0, .nameAndType 5 6), (0, u "java/lang/Object"), (0, u "<init>"), (0, u "()V"), (0, .fieldref 8 9), (0, .class_ 10), (0, .nameAndType 11 12), (0, u "com/example/queueloom/queueloom/engine/QuotientSums"), (0, u "numerators"), (0, u "[J"), (0, .fieldref 8 14), (0, .nameAndType 15 12), (0, u "denominators"), (0, .fieldref 8 17), (0, .nameAndType 18 19), (0, u "approximations"), (0, u "[D"), (0, .fieldref 8 21), (0, .nameAndType 22 23), (0, u "terms"), (0, u "[I"), (12, .methodref 8 37), (0, .nameAndType 38 39), (0, u "greatestCommonDivisor"), (0, u "(JJ)J"), (0, .methodref 8 41), (0, .nameAndType 42 39), (0, u "product"), (0, .methodref 8 44), (0, .nameAndType 45 39), (0, u "sum"), (2, u "doubleValue"), (0, u "(I)D"), (2, u "add"), (0, u "(IJJ)V"), (24, .methodref 79 80), (0, .class_ 81), (0, .nameAndType 82 39), (0, u "java/lang/Math"), (0, u "multiplyHigh"), (0, .long 18446744073709551615), (1, u "TWO_UNITS"), (0, u "D"), (1, u "(I)V")] 14

def k3c0 : Code := { maxStack := 2, maxLocals := 2, code := prog_67_method_1_code, exceptionTable := #[], attributes := #[] }
def k3m0 : Method := { name := "<init>", desc := "(I)V", sig := { parameters := [.int], returnType := none }, accessFlags := 0, code := some k3c0 }
def k3c1 : Code := { maxStack := 8, maxLocals := 16, code := prog_67_method_3_code, exceptionTable := #[], attributes := #[] }
def k3m1 : Method := { name := "add", desc := "(IJJ)V", sig := { parameters := [.int, .long, .long], returnType := none }, accessFlags := 0, code := some k3c1 }
def k3c2 : Code := { maxStack := 4, maxLocals := 4, code := prog_67_method_6_code, exceptionTable := #[], attributes := #[] }
def k3m2 : Method := { name := "doubleValue", desc := "(I)D", sig := { parameters := [.int], returnType := some .double }, accessFlags := 0, code := some k3c2 }
def k3c3 : Code := { maxStack := 4, maxLocals := 6, code := prog_67_method_8_code, exceptionTable := #[], attributes := #[] }
def k3m3 : Method := { name := "product", desc := "(JJ)J", sig := { parameters := [.long, .long], returnType := some .long }, accessFlags := 8, code := some k3c3 }
def k3c4 : Code := { maxStack := 4, maxLocals := 6, code := prog_67_method_9_code, exceptionTable := #[], attributes := #[] }
def k3m4 : Method := { name := "sum", desc := "(JJ)J", sig := { parameters := [.long, .long], returnType := some .long }, accessFlags := 10, code := some k3c4 }
def k3c5 : Code := { maxStack := 4, maxLocals := 10, code := prog_67_method_10_code, exceptionTable := #[], attributes := #[] }
def k3m5 : Method := { name := "greatestCommonDivisor", desc := "(JJ)J", sig := { parameters := [.long, .long], returnType := some .long }, accessFlags := 10, code := some k3c5 }
/-- com/example/queueloom/queueloom/engine/QuotientSums -/
def k3 : Class := { plain "com/example/queueloom/queueloom/engine/QuotientSums" (some 0) with
  accessFlags := 48
  interfaces := #[]
  cf := some (fileOf pool3 8 #[] #[{ accessFlags := 0, nameIndex := 5, descriptorIndex := 88, attributes := #[] }, { accessFlags := 0, nameIndex := 52, descriptorIndex := 53, attributes := #[] }, { accessFlags := 0, nameIndex := 48, descriptorIndex := 49, attributes := #[] }, { accessFlags := 8, nameIndex := 42, descriptorIndex := 39, attributes := #[] }, { accessFlags := 10, nameIndex := 45, descriptorIndex := 39, attributes := #[] }, { accessFlags := 10, nameIndex := 38, descriptorIndex := 39, attributes := #[] }] 48 2 #[] #[{ accessFlags := 26, nameIndex := 85, descriptorIndex := 86, attributes := #[] }, { accessFlags := 2, nameIndex := 11, descriptorIndex := 12, attributes := #[] }, { accessFlags := 2, nameIndex := 15, descriptorIndex := 12, attributes := #[] }, { accessFlags := 2, nameIndex := 18, descriptorIndex := 19, attributes := #[] }, { accessFlags := 2, nameIndex := 22, descriptorIndex := 23, attributes := #[] }])
  fields := #[{ name := "TWO_UNITS", type := .double, accessFlags := 26, slot := 0, constantValue := 0 }, { name := "numerators", type := (.array .long), accessFlags := 2, slot := 0, constantValue := 0 }, { name := "denominators", type := (.array .long), accessFlags := 2, slot := 1, constantValue := 0 }, { name := "approximations", type := (.array .double), accessFlags := 2, slot := 2, constantValue := 0 }, { name := "terms", type := (.array .int), accessFlags := 2, slot := 3, constantValue := 0 }]
  methods := #[k3m0, k3m1, k3m2, k3m3, k3m4, k3m5]
  instanceTypes := #[(.array .long), (.array .long), (.array .double), (.array .int)]
  staticTypes := #[.double]
  resolved := Array.replicate 103 none
  statics := none }

def pool4 : Array CpInfo := pool [(1, u "java/lang/Cloneable"), (0, .class_ 1), (0, u "java/lang/Object"), (0, .class_ 3)] 3

/-- java/lang/Cloneable -/
def k4 : Class := { plain "java/lang/Cloneable" (some 0) with
  accessFlags := 1537
  interfaces := #[]
  cf := some (fileOf pool4 2 #[] #[] 1537 4 #[] #[])
  fields := #[]
  methods := #[]
  instanceTypes := #[]
  staticTypes := #[]
  resolved := Array.replicate 8 none
  statics := none }

def pool5 : Array CpInfo := pool [(1, u "java/io/Serializable"), (0, .class_ 1), (0, u "java/lang/Object"), (0, .class_ 3)] 3

/-- java/io/Serializable -/
def k5 : Class := { plain "java/io/Serializable" (some 0) with
  accessFlags := 1537
  interfaces := #[]
  cf := some (fileOf pool5 2 #[] #[] 1537 4 #[] #[])
  fields := #[]
  methods := #[]
  instanceTypes := #[]
  staticTypes := #[]
  resolved := Array.replicate 8 none
  statics := none }

/-- the primitive byte -/
def k6 : Class := { plain "byte" none with kind := .primitive 'B', accessFlags := 0x411 }
/-- [B -/
def k7 : Class := { plain "[B" (some 0) with kind := .array 6 .byte, interfaces := #[4, 5], accessFlags := 1041 }

/-- the primitive int -/
def k8 : Class := { plain "int" none with kind := .primitive 'I', accessFlags := 0x411 }
/-- [I -/
def k9 : Class := { plain "[I" (some 0) with kind := .array 8 .int, interfaces := #[4, 5], accessFlags := 1041 }

/-- the primitive long -/
def k10 : Class := { plain "long" none with kind := .primitive 'J', accessFlags := 0x411 }
/-- [J -/
def k11 : Class := { plain "[J" (some 0) with kind := .array 10 .long, interfaces := #[4, 5], accessFlags := 1041 }

def heap : Heap := #[]
def k12 : Class := { plain "double" none with kind := .primitive 'D', accessFlags := 0x411 }
def k13 : Class := { plain "[D" (some 0) with kind := .array 12 .double, interfaces := #[4, 5], accessFlags := 1041 }
def classes : Array Class := #[k0, k1, k2, k3, k4, k5, k6, k7, k8, k9, k10, k11, k12, k13]
def interned : List (Array UInt16 × Addr) := []
def slotsUsed : Nat := 0
def theMethod : MethodId := ⟨1, 1⟩
def args0 : Array Value := #[.long 5, .long 6, .long 7, .long 3, .int 7]
def aboutOver (below : List Frame) : State where
  vm := { classes := classes, interned := interned.toArray }
  heap := heap
  slotsUsed := slotsUsed
  threads := #[{ frames := .invoking theMethod args0 :: below }]
def below0 : List Frame := [.native { method := ⟨0, 0⟩, args := #[] }]
def about1 : State := aboutOver below0
def p0 : Program := .bare "" "" ""
def e0 : Env := launch0.env 0 0 0
theorem w_frames : about1.frames = Frame.invoking theMethod args0 :: below0 := rfl
set_option maxRecDepth 65536 in
theorem w_args : argsFit about1.vm theMethod args0 = true := by decide +kernel
set_option maxRecDepth 65536 in
theorem w_heap : heapFits about1 = true := by decide +kernel
set_option maxRecDepth 65536 in
theorem w_runnable : about1.curStatus? = some .runnable := by decide +kernel
set_option maxRecDepth 65536 in
theorem w_alone : about1.alone = true := by decide +kernel
set_option maxRecDepth 65536 in
theorem w_named : about1.methodNamed? x = some theMethod := by decide +kernel
set_option maxRecDepth 65536 in
theorem w_hears : about1.hears theMethod below0 = true := by decide +kernel
set_option maxRecDepth 65536 in
theorem w_ripe : about1.ripe theMethod args0 below0 = true := by decide +kernel
theorem w_running : about1.status = .running := rfl
set_option maxRecDepth 65536 in
theorem w_room : about1.hasRoom e0.platform room_1 = true :=
  launch0.hasRoom_least _ room_1 (by decide +kernel) (by decide +kernel) (by decide +kernel) (by decide +kernel) (by decide +kernel) (by decide +kernel)
theorem allAtoms_all (ts : List Jvm.Cond) (a : Array Jvm.Value) (st : Jvm.State) : (allAtoms ts).before a st = ts.all (fun c => c.before a st) := by
  induction ts with
  | nil => rfl
  | cons c t ih =>
    show (Jvm.Cond.and c (allAtoms t)).before a st = _
    rw [Jvm.Cond.before_and, ih, List.all_cons]
def words1 : List Jvm.Cond := Jvm.Cond.code x code maxLocals ret :: tables_1
/-- a 'code' word, met by the world's own term for the bytes: nothing is compared byte by byte -/
theorem code_word {y : MethodName} {bytes : ByteArray} {mx : Nat} {rt : Option FieldType} {a : Array Value} {s : State} {m : MethodId} {meth : Method} {c : Code} (h1 : s.methodNamed? y = some m) (h2 : s.vm.method? m = some meth) (h3 : meth.code = some c) (h4 : c.code = bytes)
    (h5 : (c.maxLocals == mx && c.exceptionTable.isEmpty && decide (c.maxStack ≤ mostOperands) && decide (meth.sig.returnType = rt) && !meth.locks && decide (parseMethodDescriptor y.desc = some meth.sig)) = true) : (Jvm.Cond.code y bytes mx rt).before a s = true := by
  simp only [Bool.and_eq_true, beq_iff_eq, Bool.not_eq_true', decide_eq_true_eq] at h5
  obtain ⟨⟨⟨⟨⟨g1, g2⟩, g3⟩, g4⟩, g5⟩, g6⟩ := h5
  simp [Cond.before, Cond.holds, Cond.value, h1, h2, h3, h4, g1, g2, g3, g4, g5, g6]
def isCode : Jvm.Cond → Bool
  | .code _ _ _ _ => true
  | _ => false
theorem all_split {L : List Jvm.Cond} {P : Jvm.Cond → Bool} (h1 : L.all (fun c => isCode c || P c) = true) (h2 : ∀ c ∈ L.filter isCode, P c = true) : L.all P = true := by
  refine List.all_eq_true.mpr fun c hc => ?_
  have h := List.all_eq_true.mp h1 c hc
  rcases Bool.eq_false_or_eq_true (isCode c) with hi | hi
  · exact h2 c (List.mem_filter.mpr ⟨hc, hi⟩)
  · simpa [hi] using h
set_option maxRecDepth 65536 in
theorem w_c0 : (Jvm.Cond.code x code maxLocals ret).before args0 about1 = true := code_word (m := ⟨1, 1⟩) (meth := k1m1) (c := k1c1) (by decide +kernel) rfl rfl rfl (by decide +kernel)
set_option maxRecDepth 65536 in
theorem w_c1 : (Jvm.Cond.code ({ cls := "java/lang/Math", name := "max", desc := "(JJ)J" } : Jvm.MethodName) jdk_29_method_66_code (4 : Nat) (Option.some Jvm.ClassFile.FieldType.long)).before args0 about1 = true := code_word (m := ⟨2, 2⟩) (meth := k2m2) (c := k2c2) (by decide +kernel) rfl rfl rfl (by decide +kernel)
set_option maxRecDepth 65536 in
theorem w_c2 : (Jvm.Cond.code ({ cls := "com/example/queueloom/queueloom/engine/QuotientSums", name := "<init>", desc := "(I)V" } : Jvm.MethodName) prog_67_method_1_code (2 : Nat) (Option.none : Option Jvm.ClassFile.FieldType)).before args0 about1 = true := code_word (m := ⟨3, 0⟩) (meth := k3m0) (c := k3c0) (by decide +kernel) rfl rfl rfl (by decide +kernel)
set_option maxRecDepth 65536 in
theorem w_c3 : (Jvm.Cond.code ({ cls := "java/lang/Object", name := "<init>", desc := "()V" } : Jvm.MethodName) object_method_1_code (1 : Nat) (Option.none : Option Jvm.ClassFile.FieldType)).before args0 about1 = true := code_word (m := ⟨0, 0⟩) (meth := k0m0) (c := k0c0) (by decide +kernel) rfl rfl rfl (by decide +kernel)
set_option maxRecDepth 65536 in
theorem w_c4 : (Jvm.Cond.code ({ cls := "com/example/queueloom/queueloom/engine/QuotientSums", name := "add", desc := "(IJJ)V" } : Jvm.MethodName) prog_67_method_3_code (16 : Nat) (Option.none : Option Jvm.ClassFile.FieldType)).before args0 about1 = true := code_word (m := ⟨3, 1⟩) (meth := k3m1) (c := k3c1) (by decide +kernel) rfl rfl rfl (by decide +kernel)
set_option maxRecDepth 65536 in
theorem w_c5 : (Jvm.Cond.code ({ cls := "com/example/queueloom/queueloom/engine/QuotientSums", name := "greatestCommonDivisor", desc := "(JJ)J" } : Jvm.MethodName) prog_67_method_10_code (10 : Nat) (Option.some Jvm.ClassFile.FieldType.long)).before args0 about1 = true := code_word (m := ⟨3, 5⟩) (meth := k3m5) (c := k3c5) (by decide +kernel) rfl rfl rfl (by decide +kernel)
set_option maxRecDepth 65536 in
theorem w_c6 : (Jvm.Cond.code ({ cls := "com/example/queueloom/queueloom/engine/QuotientSums", name := "product", desc := "(JJ)J" } : Jvm.MethodName) prog_67_method_8_code (6 : Nat) (Option.some Jvm.ClassFile.FieldType.long)).before args0 about1 = true := code_word (m := ⟨3, 3⟩) (meth := k3m3) (c := k3c3) (by decide +kernel) rfl rfl rfl (by decide +kernel)
set_option maxRecDepth 65536 in
theorem w_c7 : (Jvm.Cond.code ({ cls := "java/lang/Math", name := "multiplyHigh", desc := "(JJ)J" } : Jvm.MethodName) jdk_29_method_45_code (20 : Nat) (Option.some Jvm.ClassFile.FieldType.long)).before args0 about1 = true := code_word (m := ⟨2, 1⟩) (meth := k2m1) (c := k2c1) (by decide +kernel) rfl rfl rfl (by decide +kernel)
set_option maxRecDepth 65536 in
theorem w_c8 : (Jvm.Cond.code ({ cls := "com/example/queueloom/queueloom/engine/QuotientSums", name := "sum", desc := "(JJ)J" } : Jvm.MethodName) prog_67_method_9_code (6 : Nat) (Option.some Jvm.ClassFile.FieldType.long)).before args0 about1 = true := code_word (m := ⟨3, 4⟩) (meth := k3m4) (c := k3c4) (by decide +kernel) rfl rfl rfl (by decide +kernel)
set_option maxRecDepth 65536 in
theorem w_c9 : (Jvm.Cond.code ({ cls := "com/example/queueloom/queueloom/engine/QuotientSums", name := "doubleValue", desc := "(I)D" } : Jvm.MethodName) prog_67_method_6_code (4 : Nat) (Option.some Jvm.ClassFile.FieldType.double)).before args0 about1 = true := code_word (m := ⟨3, 2⟩) (meth := k3m2) (c := k3c2) (by decide +kernel) rfl rfl rfl (by decide +kernel)
def codes1 : List Jvm.Cond := [Jvm.Cond.code x code maxLocals ret, Jvm.Cond.code ({ cls := "java/lang/Math", name := "max", desc := "(JJ)J" } : Jvm.MethodName) jdk_29_method_66_code (4 : Nat) (Option.some Jvm.ClassFile.FieldType.long), Jvm.Cond.code ({ cls := "com/example/queueloom/queueloom/engine/QuotientSums", name := "<init>", desc := "(I)V" } : Jvm.MethodName) prog_67_method_1_code (2 : Nat) (Option.none : Option Jvm.ClassFile.FieldType), Jvm.Cond.code ({ cls := "java/lang/Object", name := "<init>", desc := "()V" } : Jvm.MethodName) object_method_1_code (1 : Nat) (Option.none : Option Jvm.ClassFile.FieldType), Jvm.Cond.code ({ cls := "com/example/queueloom/queueloom/engine/QuotientSums", name := "add", desc := "(IJJ)V" } : Jvm.MethodName) prog_67_method_3_code (16 : Nat) (Option.none : Option Jvm.ClassFile.FieldType), Jvm.Cond.code ({ cls := "com/example/queueloom/queueloom/engine/QuotientSums", name := "greatestCommonDivisor", desc := "(JJ)J" } : Jvm.MethodName) prog_67_method_10_code (10 : Nat) (Option.some Jvm.ClassFile.FieldType.long), Jvm.Cond.code ({ cls := "com/example/queueloom/queueloom/engine/QuotientSums", name := "product", desc := "(JJ)J" } : Jvm.MethodName) prog_67_method_8_code (6 : Nat) (Option.some Jvm.ClassFile.FieldType.long), Jvm.Cond.code ({ cls := "java/lang/Math", name := "multiplyHigh", desc := "(JJ)J" } : Jvm.MethodName) jdk_29_method_45_code (20 : Nat) (Option.some Jvm.ClassFile.FieldType.long), Jvm.Cond.code ({ cls := "com/example/queueloom/queueloom/engine/QuotientSums", name := "sum", desc := "(JJ)J" } : Jvm.MethodName) prog_67_method_9_code (6 : Nat) (Option.some Jvm.ClassFile.FieldType.long), Jvm.Cond.code ({ cls := "com/example/queueloom/queueloom/engine/QuotientSums", name := "doubleValue", desc := "(I)D" } : Jvm.MethodName) prog_67_method_6_code (4 : Nat) (Option.some Jvm.ClassFile.FieldType.double)]
set_option maxRecDepth 65536 in
theorem codes_eq : words1.filter isCode = codes1 := rfl
theorem w_codes : ∀ c ∈ words1.filter isCode, c.before args0 about1 = true := by
  rw [codes_eq]
  intro c hc
  simp only [codes1, List.mem_cons, List.not_mem_nil, or_false] at hc
  rcases hc with rfl | rfl | rfl | rfl | rfl | rfl | rfl | rfl | rfl | rfl
  · exact w_c0
  · exact w_c1
  · exact w_c2
  · exact w_c3
  · exact w_c4
  · exact w_c5
  · exact w_c6
  · exact w_c7
  · exact w_c8
  · exact w_c9
set_option maxRecDepth 65536 in
theorem w_t1 : (words1.take 24).all (fun c => isCode c || c.before args0 about1) = true := by decide +kernel
set_option maxRecDepth 65536 in
theorem w_t2 : ((words1.drop 24).take 24).all (fun c => isCode c || c.before args0 about1) = true := by decide +kernel
set_option maxRecDepth 65536 in
theorem w_t3 : ((words1.drop 24).drop 24).all (fun c => isCode c || c.before args0 about1) = true := by decide +kernel
theorem w_tables : (allAtoms (Jvm.Cond.code x code maxLocals ret :: tables_1)).before args0 about1 = true := by
  rw [allAtoms_all]
  show words1.all (fun c => c.before args0 about1) = true
  refine all_split ?_ w_codes
  rw [← List.take_append_drop 24 words1, List.all_append, w_t1, ← List.take_append_drop 24 (words1.drop 24), List.all_append, w_t2, w_t3]
  rfl
set_option maxRecDepth 65536 in
theorem w_case : (Jvm.Cond.and given_1 narrow_1).before args0 about1 = true := by decide +kernel
theorem w_applies : (headSpec (Jvm.Cond.code x code maxLocals ret :: tables_1) room_1).applies x e0.platform about1 = true :=
  (Spec.applies_iff w_frames).mpr ⟨w_running, w_runnable, w_alone, w_named, w_hears, w_ripe, w_room, w_tables⟩
theorem atStart : AtStart classFile x code maxLocals ret World_1 tables_1 room_1 Calls_1 rest_1 Pre_1 launch0 p0 e0 about1 theMethod args0 below0 :=
  ⟨lists_1, trivial, launch0.admits_env _ _ _, launch0.least_env, fairChoices_fair.cas, fairChoices_fair.clock, w_frames, w_args, w_heap, w_applies, trivial, trivial, w_case⟩
end start1
theorem witness_1 : WitnessClaimed_1 := ⟨start1.p0, start1.e0, start1.about1, start1.theMethod, start1.args0, start1.below0, start1.atStart⟩
end Jvm.Pilot.@@N@@
