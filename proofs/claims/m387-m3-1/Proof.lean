import JvmDerived
import JvmDerived.Pilot.@@N@@Statement
import JvmDerived.Pilot.@@N@@Code
set_option linter.unusedVariables false
set_option linter.unusedSimpArgs false
namespace Jvm.Pilot.@@N@@
open Jvm Jvm.ClassFile Sem Op Lib Jvm.Free Jvm.Stand Jvm.LawKit Jvm.RoadKit Bundle Jvm.Pilot.@@N@@.Jvm.D
section OwnKit
variable {p : Program} {l : Launch} {e : Env} {R : Room} {s : State} {m : MethodId} {args : Array Value} {below : List Frame} {meth : Method} {c : Code} {Z : State} {y : MethodName} {ret : Option FieldType} {code : ByteArray} {ml : Nat} {ws : List Addr} {T : State} {h : Heap} {cells slots : Nat} {C : Outcome → State → Prop} {a0 : Array Value}
/-- the run goes on from this frame to an end that C allows -/
def own_Go (p : Program) (e : Env) (below : List Frame) (C : Outcome → State → Prop) (T : State) (g : JFrame) : Prop :=
  ∃ u o, Steps p.tables e below (T.setTop g) u ∧ u.status = .running ∧ Ended u below o ∧ C o u
/-- what was written lies at one of ws, or is new since s -/
def own_Fw (s : State) (ws : List Addr) (L : List Loc) : Prop := ∀ y ∈ L, y.base ∈ ws ∨ s.heap.size ≤ y.base
/-- where the walk stands: what is fixed of this body; the heap h; nothing old written but at ws -/
def own_W (p : Program) (l : Launch) (e : Env) (R : Room) (s : State) (m : MethodId) (args : Array Value) (below : List Frame) (meth : Method) (c : Code) (Z : State) (y : MethodName) (ret : Option FieldType) (code : ByteArray) (ml : Nat) (ws : List Addr) (T : State) (h : Heap) (cells slots : Nat) : Prop :=
  (p.tables.exec = Jvm.exec ∧ c.code = code ∧ c.maxLocals = ml ∧ s.vm.findClass y.cls = some m.cls ∧ meth.name = y.name ∧ meth.sig.returnType = ret ∧ meth.locks = false ∧ Z.Warmed39 s.vm) ∧ ∃ locs, Stand p l e R s m args below meth c T locs cells slots ∧ T.heap = h ∧ own_Fw s ws locs
/-- what a call leaves: written at ws or new alone; all else kept; where nothing is made or written the heap itself; and Q -/
def own_Q (ws : List Addr) (rm : Room) (h0 : Heap) (Q : Option Value → Heap → Prop) (v : Option Value) (h : Heap) (L : List Loc) : Prop := (∀ y ∈ L, y.base ∈ ws ∨ h0.size ≤ y.base) ∧ Keep h0 h ws ∧ (rm.cells = 0 → ws = [] → h = h0) ∧ Q v h
/-- a body's contract: called with A at the heap h0 it returns, Q holds of what it returns and of the heap, nothing old is written but at ws -/
def own_M (l : Launch) (Z : State) (wo : List Jvm.Cond) (y : MethodName) (bytes : ByteArray) (maxL : Nat) (ret : Option FieldType) (rm : Room) (ws : List Addr) (A : Array Value) (h0 : Heap) (Q : Option Value → Heap → Prop) : Prop :=
  MetFree l y (head1 (Jvm.Cond.code y bytes maxL ret :: wo) rm) (fun a U => a = A ∧ Z.Warmed39 U.vm ∧ U.heap = h0) (fun _ _ _ _ _ => True) (fun _ U o U' => ∃ v L, o = .returned v ∧ own_Q ws rm h0 Q v U'.heap L ∧ FrameEnd U o U' L rm.cells rm.slots)
theorem own_keep {u : State} {L : List Loc} {k n : Nat} (q : s.sameButNew ({ u with vm := s.vm } : State) L k n) (F : own_Fw s ws L) : Keep s.heap u.heap ws := by
  obtain ⟨-, q2, -, -, -, q6⟩ := q
  refine ⟨q2, fun x c hx hn => ?_, fun x c hx => ?_⟩
  · obtain ⟨c', h1, h2, h3, h4⟩ := q6 x c hx
    have h5 : c'.slots = c.slots := by
      apply Array.ext_getElem?
      intro i
      refine h4 i fun hm => ?_
      rcases F _ hm with w | w
      · exact hn w
      · exact absurd (Array.getElem?_eq_some_iff.mp hx).1 (Nat.not_lt.mpr w)
    rw [h5] at h2
    rw [h2] at h1
    exact h1
  · obtain ⟨c', h1, h2, h3, h4⟩ := q6 x c hx
    exact ⟨c', h1, by rw [h2], by rw [h2], h3⟩
theorem own_same0 {u : State} {L : List Loc} {n : Nat} (q : s.sameButNew ({ u with vm := s.vm } : State) L 0 n) (K : Keep s.heap u.heap []) : u.heap = s.heap := by
  obtain ⟨-, q2, q3, -⟩ := q
  apply Array.ext_getElem?
  intro i
  rcases Nat.lt_or_ge i s.heap.size with hi | hi
  · have hs : s.heap[i]? = some s.heap[i] := Array.getElem?_eq_getElem hi
    rw [hs]
    exact K.2.1 i _ hs nin0
  · have h1 : u.heap.size ≤ i := Nat.le_trans q3 hi
    rw [Array.getElem?_eq_none hi, Array.getElem?_eq_none h1]
theorem own_st {T' : State} {g g' : JFrame} (q : ∀ t, Steps p.tables e below (T'.setTop g') t → Steps p.tables e below (T.setTop g) t) (k : own_Go p e below C T' g') : own_Go p e below C T g := by
  obtain ⟨u, o, h1, h2⟩ := k
  exact ⟨u, o, q _ h1, h2⟩
theorem own_tr {T' : State} {g g' : JFrame} (q : Steps p.tables e below (T.setTop g) (T'.setTop g')) (k : own_Go p e below C T' g') : own_Go p e below C T g := by
  obtain ⟨u, o, h1, h2⟩ := k
  exact ⟨u, o, q.trans h1, h2⟩
theorem own_body {wo : List Jvm.Cond} {maxL : Nat} {rm : Room} {A : Array Value} {h0 : Heap} {Q : Option Value → Heap → Prop} {L0 : Array Slot} (hpl : plainFor y = true) (hef : ∀ m, entryFrame m A maxL = mkF m 0 L0 [])
    (body : ∀ p e s m below meth c (C : Outcome → State → Prop) (_ : ∀ v L u, own_Fw s ws L → Q v u.heap → FrameEnd s (.returned v) u L rm.cells rm.slots → C (.returned v) u) T0,
      own_W p l e rm s m A below meth c Z y ret code maxL ws T0 h0 0 0 → own_Go p e below C T0 (mkF m 0 L0 [])) :
    own_M l Z wo y code maxL ret rm ws A h0 Q := by
  refine MetFree.of_bodySF hpl hisR ?_
  intro p e s m args below meth c s₁ Bd hml0 hP hK
  obtain ⟨rfl, hZ, rfl⟩ := hP
  have X0 : Stand p l e rm s m _ below meth c s₁ [] 0 0 := Stand.of_body Bd
  have e0 : s₁.heap = s.heap := by rw [Bd.state]; rfl
  have hlk : meth.locks = false := BodyLoose.notSynchronized Bd
  have k := body p e s m below meth c (fun o U' => ∃ v L, o = .returned v ∧ own_Q ws rm s.heap Q v U'.heap L ∧ FrameEnd s o U' L rm.cells rm.slots)
    (fun v L u h1 h2 h3 => by
      have K := own_keep h3.2.2 h1
      refine ⟨v, L, rfl, ⟨h1, K, fun hc hw => ?_, h2⟩, h3⟩
      subst hw
      have h4 := h3.2.2
      rw [hc] at h4
      exact own_same0 h4 K) s₁
    ⟨⟨Bd.exec, Bd.bytes, hml0, findClass_of_methodNamed Bd.named, (name_of_methodNamed Bd.named Bd.method).1, Bd.returns, hlk, hZ⟩, [], X0, e0, fun _ hy => nomatch hy⟩
  obtain ⟨u, o, h1, h2⟩ := k
  exact ⟨u, o, castTop (hef m) h1, h2⟩
theorem own_Fw_snoc {L : List Loc} {a : Addr} {sl : Nat} (N : own_Fw s ws L) (q : a ∈ ws ∨ s.heap.size ≤ a) : own_Fw s ws (L ++ [⟨a, sl⟩]) := fun y hy => by
  rcases List.mem_append.mp hy with w | w
  · exact N y w
  · cases List.mem_singleton.mp w; exact q
theorem own_Fw_app {L L' : List Loc} {wc' : List Addr} (N : own_Fw s ws L) (q : ∀ y ∈ L', y.base ∈ wc' ∨ h.size ≤ y.base) (r : ∀ b ∈ wc', b ∈ ws ∨ s.heap.size ≤ b) (z : s.heap.size ≤ h.size) : own_Fw s ws (L ++ L') := fun y hy => by
  rcases List.mem_append.mp hy with w | w
  · exact N y w
  · rcases q y w with u | u
    · exact r _ u
    · exact Or.inr (Nat.le_trans z u)
theorem own_le (W : own_W p l e R s m args below meth c Z y ret code ml ws T h cells slots) : s.heap.size ≤ h.size := by
  obtain ⟨-, locs, X, rfl, -⟩ := W
  exact X.same.2.1
theorem own_iadd (W : own_W p l e R s m args below meth c Z y ret code ml ws T h cells slots) {u v : Int32} {pc : Nat} (pc' : Nat) {L : Array Slot} {st : List Value} (hd : decode code pc = .ok (.iadd, 1))  (hp : pc + 1 = pc') (k : own_Go p e below C T (mkF m pc' L (.int (u + v) :: st))) : own_Go p e below C T (mkF m pc L (.int v :: .int u :: st)) := by
  have hsz := own_le W
  obtain ⟨⟨hx, hby, hml, hown, hnm, hrt, hlk, hZ⟩, locs, X, eT, N⟩ := W
  subst hp
  exact own_st (fun _ k => XS.iadd X.here hx rfl (hb hby hd) rfl k) k
theorem own_ladd (W : own_W p l e R s m args below meth c Z y ret code ml ws T h cells slots) {u v : Int64} {pc : Nat} (pc' : Nat) {L : Array Slot} {st : List Value} (hd : decode code pc = .ok (.ladd, 1))  (hp : pc + 1 = pc') (k : own_Go p e below C T (mkF m pc' L (.long (u + v) :: st))) : own_Go p e below C T (mkF m pc L (.long v :: .long u :: st)) := by
  have hsz := own_le W
  obtain ⟨⟨hx, hby, hml, hown, hnm, hrt, hlk, hZ⟩, locs, X, eT, N⟩ := W
  subst hp
  exact own_st (fun _ k => XS.ladd X.here hx rfl (hb hby hd) rfl k) k
theorem own_isub (W : own_W p l e R s m args below meth c Z y ret code ml ws T h cells slots) {u v : Int32} {pc : Nat} (pc' : Nat) {L : Array Slot} {st : List Value} (hd : decode code pc = .ok (.isub, 1))  (hp : pc + 1 = pc') (k : own_Go p e below C T (mkF m pc' L (.int (u - v) :: st))) : own_Go p e below C T (mkF m pc L (.int v :: .int u :: st)) := by
  have hsz := own_le W
  obtain ⟨⟨hx, hby, hml, hown, hnm, hrt, hlk, hZ⟩, locs, X, eT, N⟩ := W
  subst hp
  exact own_st (fun _ k => XS.isub X.here hx rfl (hb hby hd) rfl k) k
theorem own_lsub (W : own_W p l e R s m args below meth c Z y ret code ml ws T h cells slots) {u v : Int64} {pc : Nat} (pc' : Nat) {L : Array Slot} {st : List Value} (hd : decode code pc = .ok (.lsub, 1))  (hp : pc + 1 = pc') (k : own_Go p e below C T (mkF m pc' L (.long (u - v) :: st))) : own_Go p e below C T (mkF m pc L (.long v :: .long u :: st)) := by
  have hsz := own_le W
  obtain ⟨⟨hx, hby, hml, hown, hnm, hrt, hlk, hZ⟩, locs, X, eT, N⟩ := W
  subst hp
  exact own_st (fun _ k => XS.lsub X.here hx rfl (hb hby hd) rfl k) k
theorem own_imul (W : own_W p l e R s m args below meth c Z y ret code ml ws T h cells slots) {u v : Int32} {pc : Nat} (pc' : Nat) {L : Array Slot} {st : List Value} (hd : decode code pc = .ok (.imul, 1))  (hp : pc + 1 = pc') (k : own_Go p e below C T (mkF m pc' L (.int (u * v) :: st))) : own_Go p e below C T (mkF m pc L (.int v :: .int u :: st)) := by
  have hsz := own_le W
  obtain ⟨⟨hx, hby, hml, hown, hnm, hrt, hlk, hZ⟩, locs, X, eT, N⟩ := W
  subst hp
  exact own_st (fun _ k => XS.imul X.here hx rfl (hb hby hd) rfl k) k
theorem own_lmul (W : own_W p l e R s m args below meth c Z y ret code ml ws T h cells slots) {u v : Int64} {pc : Nat} (pc' : Nat) {L : Array Slot} {st : List Value} (hd : decode code pc = .ok (.lmul, 1))  (hp : pc + 1 = pc') (k : own_Go p e below C T (mkF m pc' L (.long (u * v) :: st))) : own_Go p e below C T (mkF m pc L (.long v :: .long u :: st)) := by
  have hsz := own_le W
  obtain ⟨⟨hx, hby, hml, hown, hnm, hrt, hlk, hZ⟩, locs, X, eT, N⟩ := W
  subst hp
  exact own_st (fun _ k => XS.lmul X.here hx rfl (hb hby hd) rfl k) k
theorem own_iand (W : own_W p l e R s m args below meth c Z y ret code ml ws T h cells slots) {u v : Int32} {pc : Nat} (pc' : Nat) {L : Array Slot} {st : List Value} (hd : decode code pc = .ok (.iand, 1))  (hp : pc + 1 = pc') (k : own_Go p e below C T (mkF m pc' L (.int (u &&& v) :: st))) : own_Go p e below C T (mkF m pc L (.int v :: .int u :: st)) := by
  have hsz := own_le W
  obtain ⟨⟨hx, hby, hml, hown, hnm, hrt, hlk, hZ⟩, locs, X, eT, N⟩ := W
  subst hp
  exact own_st (fun _ k => XS.iand X.here hx rfl (hb hby hd) rfl k) k
theorem own_land (W : own_W p l e R s m args below meth c Z y ret code ml ws T h cells slots) {u v : Int64} {pc : Nat} (pc' : Nat) {L : Array Slot} {st : List Value} (hd : decode code pc = .ok (.land, 1))  (hp : pc + 1 = pc') (k : own_Go p e below C T (mkF m pc' L (.long (u &&& v) :: st))) : own_Go p e below C T (mkF m pc L (.long v :: .long u :: st)) := by
  have hsz := own_le W
  obtain ⟨⟨hx, hby, hml, hown, hnm, hrt, hlk, hZ⟩, locs, X, eT, N⟩ := W
  subst hp
  exact own_st (fun _ k => XS.land X.here hx rfl (hb hby hd) rfl k) k
theorem own_ior (W : own_W p l e R s m args below meth c Z y ret code ml ws T h cells slots) {u v : Int32} {pc : Nat} (pc' : Nat) {L : Array Slot} {st : List Value} (hd : decode code pc = .ok (.ior, 1))  (hp : pc + 1 = pc') (k : own_Go p e below C T (mkF m pc' L (.int (u ||| v) :: st))) : own_Go p e below C T (mkF m pc L (.int v :: .int u :: st)) := by
  have hsz := own_le W
  obtain ⟨⟨hx, hby, hml, hown, hnm, hrt, hlk, hZ⟩, locs, X, eT, N⟩ := W
  subst hp
  exact own_st (fun _ k => XS.ior X.here hx rfl (hb hby hd) rfl k) k
theorem own_lor (W : own_W p l e R s m args below meth c Z y ret code ml ws T h cells slots) {u v : Int64} {pc : Nat} (pc' : Nat) {L : Array Slot} {st : List Value} (hd : decode code pc = .ok (.lor, 1))  (hp : pc + 1 = pc') (k : own_Go p e below C T (mkF m pc' L (.long (u ||| v) :: st))) : own_Go p e below C T (mkF m pc L (.long v :: .long u :: st)) := by
  have hsz := own_le W
  obtain ⟨⟨hx, hby, hml, hown, hnm, hrt, hlk, hZ⟩, locs, X, eT, N⟩ := W
  subst hp
  exact own_st (fun _ k => XS.lor X.here hx rfl (hb hby hd) rfl k) k
theorem own_ixor (W : own_W p l e R s m args below meth c Z y ret code ml ws T h cells slots) {u v : Int32} {pc : Nat} (pc' : Nat) {L : Array Slot} {st : List Value} (hd : decode code pc = .ok (.ixor, 1))  (hp : pc + 1 = pc') (k : own_Go p e below C T (mkF m pc' L (.int (u ^^^ v) :: st))) : own_Go p e below C T (mkF m pc L (.int v :: .int u :: st)) := by
  have hsz := own_le W
  obtain ⟨⟨hx, hby, hml, hown, hnm, hrt, hlk, hZ⟩, locs, X, eT, N⟩ := W
  subst hp
  exact own_st (fun _ k => XS.ixor X.here hx rfl (hb hby hd) rfl k) k
theorem own_lxor (W : own_W p l e R s m args below meth c Z y ret code ml ws T h cells slots) {u v : Int64} {pc : Nat} (pc' : Nat) {L : Array Slot} {st : List Value} (hd : decode code pc = .ok (.lxor, 1))  (hp : pc + 1 = pc') (k : own_Go p e below C T (mkF m pc' L (.long (u ^^^ v) :: st))) : own_Go p e below C T (mkF m pc L (.long v :: .long u :: st)) := by
  have hsz := own_le W
  obtain ⟨⟨hx, hby, hml, hown, hnm, hrt, hlk, hZ⟩, locs, X, eT, N⟩ := W
  subst hp
  exact own_st (fun _ k => XS.lxor X.here hx rfl (hb hby hd) rfl k) k
theorem own_ishl (W : own_W p l e R s m args below meth c Z y ret code ml ws T h cells slots) {u v : Int32} {pc : Nat} (pc' : Nat) {L : Array Slot} {st : List Value} (hd : decode code pc = .ok (.ishl, 1))  (hp : pc + 1 = pc') (k : own_Go p e below C T (mkF m pc' L (.int (u <<< (v &&& 31)) :: st))) : own_Go p e below C T (mkF m pc L (.int v :: .int u :: st)) := by
  have hsz := own_le W
  obtain ⟨⟨hx, hby, hml, hown, hnm, hrt, hlk, hZ⟩, locs, X, eT, N⟩ := W
  subst hp
  exact own_st (fun _ k => XS.ishl X.here hx rfl (hb hby hd) rfl k) k
theorem own_ishr (W : own_W p l e R s m args below meth c Z y ret code ml ws T h cells slots) {u v : Int32} {pc : Nat} (pc' : Nat) {L : Array Slot} {st : List Value} (hd : decode code pc = .ok (.ishr, 1))  (hp : pc + 1 = pc') (k : own_Go p e below C T (mkF m pc' L (.int (u >>> (v &&& 31)) :: st))) : own_Go p e below C T (mkF m pc L (.int v :: .int u :: st)) := by
  have hsz := own_le W
  obtain ⟨⟨hx, hby, hml, hown, hnm, hrt, hlk, hZ⟩, locs, X, eT, N⟩ := W
  subst hp
  exact own_st (fun _ k => XS.ishr X.here hx rfl (hb hby hd) rfl k) k
theorem own_iushr (W : own_W p l e R s m args below meth c Z y ret code ml ws T h cells slots) {u v : Int32} {pc : Nat} (pc' : Nat) {L : Array Slot} {st : List Value} (hd : decode code pc = .ok (.iushr, 1))  (hp : pc + 1 = pc') (k : own_Go p e below C T (mkF m pc' L (.int ((u.toUInt32 >>> (v &&& 31).toUInt32).toInt32) :: st))) : own_Go p e below C T (mkF m pc L (.int v :: .int u :: st)) := by
  have hsz := own_le W
  obtain ⟨⟨hx, hby, hml, hown, hnm, hrt, hlk, hZ⟩, locs, X, eT, N⟩ := W
  subst hp
  exact own_st (fun _ k => XS.iushr X.here hx rfl (hb hby hd) rfl k) k
theorem own_lshl (W : own_W p l e R s m args below meth c Z y ret code ml ws T h cells slots) {u : Int64} {v : Int32} {pc : Nat} (pc' : Nat) {L : Array Slot} {st : List Value} (hd : decode code pc = .ok (.lshl, 1))  (hp : pc + 1 = pc') (k : own_Go p e below C T (mkF m pc' L (.long (u <<< (v &&& 0x3f).toInt64) :: st))) : own_Go p e below C T (mkF m pc L (.int v :: .long u :: st)) := by
  have hsz := own_le W
  obtain ⟨⟨hx, hby, hml, hown, hnm, hrt, hlk, hZ⟩, locs, X, eT, N⟩ := W
  subst hp
  exact own_st (fun _ k => XS.lshl X.here hx rfl (hb hby hd) rfl k) k
theorem own_lshr (W : own_W p l e R s m args below meth c Z y ret code ml ws T h cells slots) {u : Int64} {v : Int32} {pc : Nat} (pc' : Nat) {L : Array Slot} {st : List Value} (hd : decode code pc = .ok (.lshr, 1))  (hp : pc + 1 = pc') (k : own_Go p e below C T (mkF m pc' L (.long (u >>> (v &&& 0x3f).toInt64) :: st))) : own_Go p e below C T (mkF m pc L (.int v :: .long u :: st)) := by
  have hsz := own_le W
  obtain ⟨⟨hx, hby, hml, hown, hnm, hrt, hlk, hZ⟩, locs, X, eT, N⟩ := W
  subst hp
  exact own_st (fun _ k => XS.lshr X.here hx rfl (hb hby hd) rfl k) k
theorem own_lushr (W : own_W p l e R s m args below meth c Z y ret code ml ws T h cells slots) {u : Int64} {v : Int32} {pc : Nat} (pc' : Nat) {L : Array Slot} {st : List Value} (hd : decode code pc = .ok (.lushr, 1))  (hp : pc + 1 = pc') (k : own_Go p e below C T (mkF m pc' L (.long ((u.toUInt64 >>> (v &&& 0x3f).toInt64.toUInt64).toInt64) :: st))) : own_Go p e below C T (mkF m pc L (.int v :: .long u :: st)) := by
  have hsz := own_le W
  obtain ⟨⟨hx, hby, hml, hown, hnm, hrt, hlk, hZ⟩, locs, X, eT, N⟩ := W
  subst hp
  exact own_st (fun _ k => XS.lushr X.here hx rfl (hb hby hd) rfl k) k
theorem own_ineg (W : own_W p l e R s m args below meth c Z y ret code ml ws T h cells slots) {u : Int32} {pc : Nat} (pc' : Nat) {L : Array Slot} {st : List Value} (hd : decode code pc = .ok (.ineg, 1))  (hp : pc + 1 = pc') (k : own_Go p e below C T (mkF m pc' L (.int (-u) :: st))) : own_Go p e below C T (mkF m pc L (.int u :: st)) := by
  have hsz := own_le W
  obtain ⟨⟨hx, hby, hml, hown, hnm, hrt, hlk, hZ⟩, locs, X, eT, N⟩ := W
  subst hp
  exact own_st (fun _ k => XS.ineg X.here hx rfl (hb hby hd) rfl k) k
theorem own_lneg (W : own_W p l e R s m args below meth c Z y ret code ml ws T h cells slots) {u : Int64} {pc : Nat} (pc' : Nat) {L : Array Slot} {st : List Value} (hd : decode code pc = .ok (.lneg, 1))  (hp : pc + 1 = pc') (k : own_Go p e below C T (mkF m pc' L (.long (-u) :: st))) : own_Go p e below C T (mkF m pc L (.long u :: st)) := by
  have hsz := own_le W
  obtain ⟨⟨hx, hby, hml, hown, hnm, hrt, hlk, hZ⟩, locs, X, eT, N⟩ := W
  subst hp
  exact own_st (fun _ k => XS.lneg X.here hx rfl (hb hby hd) rfl k) k
theorem own_i2l (W : own_W p l e R s m args below meth c Z y ret code ml ws T h cells slots) {u : Int32} {pc : Nat} (pc' : Nat) {L : Array Slot} {st : List Value} (hd : decode code pc = .ok (.i2l, 1))  (hp : pc + 1 = pc') (k : own_Go p e below C T (mkF m pc' L (.long u.toInt64 :: st))) : own_Go p e below C T (mkF m pc L (.int u :: st)) := by
  have hsz := own_le W
  obtain ⟨⟨hx, hby, hml, hown, hnm, hrt, hlk, hZ⟩, locs, X, eT, N⟩ := W
  subst hp
  exact own_st (fun _ k => XS.i2l X.here hx rfl (hb hby hd) rfl k) k
theorem own_l2i (W : own_W p l e R s m args below meth c Z y ret code ml ws T h cells slots) {u : Int64} {pc : Nat} (pc' : Nat) {L : Array Slot} {st : List Value} (hd : decode code pc = .ok (.l2i, 1))  (hp : pc + 1 = pc') (k : own_Go p e below C T (mkF m pc' L (.int u.toInt32 :: st))) : own_Go p e below C T (mkF m pc L (.long u :: st)) := by
  have hsz := own_le W
  obtain ⟨⟨hx, hby, hml, hown, hnm, hrt, hlk, hZ⟩, locs, X, eT, N⟩ := W
  subst hp
  exact own_st (fun _ k => XS.l2i X.here hx rfl (hb hby hd) rfl k) k
theorem own_i2b (W : own_W p l e R s m args below meth c Z y ret code ml ws T h cells slots) {u : Int32} {pc : Nat} (pc' : Nat) {L : Array Slot} {st : List Value} (hd : decode code pc = .ok (.i2b, 1))  (hp : pc + 1 = pc') (k : own_Go p e below C T (mkF m pc' L (.int u.toInt8.toInt32 :: st))) : own_Go p e below C T (mkF m pc L (.int u :: st)) := by
  have hsz := own_le W
  obtain ⟨⟨hx, hby, hml, hown, hnm, hrt, hlk, hZ⟩, locs, X, eT, N⟩ := W
  subst hp
  exact own_st (fun _ k => XS.i2b X.here hx rfl (hb hby hd) rfl k) k
theorem own_i2c (W : own_W p l e R s m args below meth c Z y ret code ml ws T h cells slots) {u : Int32} {pc : Nat} (pc' : Nat) {L : Array Slot} {st : List Value} (hd : decode code pc = .ok (.i2c, 1))  (hp : pc + 1 = pc') (k : own_Go p e below C T (mkF m pc' L (.int u.toUInt32.toUInt16.toUInt32.toInt32 :: st))) : own_Go p e below C T (mkF m pc L (.int u :: st)) := by
  have hsz := own_le W
  obtain ⟨⟨hx, hby, hml, hown, hnm, hrt, hlk, hZ⟩, locs, X, eT, N⟩ := W
  subst hp
  exact own_st (fun _ k => XS.i2c X.here hx rfl (hb hby hd) rfl k) k
theorem own_lcmp (W : own_W p l e R s m args below meth c Z y ret code ml ws T h cells slots) {u v : Int64} {pc : Nat} (pc' : Nat) {L : Array Slot} {st : List Value} (hd : decode code pc = .ok (.lcmp, 1))  (hp : pc + 1 = pc') (k : own_Go p e below C T (mkF m pc' L (.int (lcmpW u v) :: st))) : own_Go p e below C T (mkF m pc L (.long v :: .long u :: st)) := by
  have hsz := own_le W
  obtain ⟨⟨hx, hby, hml, hown, hnm, hrt, hlk, hZ⟩, locs, X, eT, N⟩ := W
  subst hp
  exact own_st (fun _ k => XS.lcmp X.here hx rfl (hb hby hd) rfl k) k
theorem own_idiv (W : own_W p l e R s m args below meth c Z y ret code ml ws T h cells slots) {u v : Int32} {pc : Nat} (pc' : Nat) {L : Array Slot} {st : List Value} (hd : decode code pc = .ok (.idiv, 1)) (hv : v ≠ 0) (hp : pc + 1 = pc') (k : own_Go p e below C T (mkF m pc' L (.int (u / v) :: st))) : own_Go p e below C T (mkF m pc L (.int v :: .int u :: st)) := by
  have hsz := own_le W
  obtain ⟨⟨hx, hby, hml, hown, hnm, hrt, hlk, hZ⟩, locs, X, eT, N⟩ := W
  subst hp
  exact own_st (fun _ k => XS.idiv X.here hx rfl (hb hby hd) rfl hv k) k
theorem own_ldiv (W : own_W p l e R s m args below meth c Z y ret code ml ws T h cells slots) {u v : Int64} {pc : Nat} (pc' : Nat) {L : Array Slot} {st : List Value} (hd : decode code pc = .ok (.ldiv, 1)) (hv : v ≠ 0) (hp : pc + 1 = pc') (k : own_Go p e below C T (mkF m pc' L (.long (u / v) :: st))) : own_Go p e below C T (mkF m pc L (.long v :: .long u :: st)) := by
  have hsz := own_le W
  obtain ⟨⟨hx, hby, hml, hown, hnm, hrt, hlk, hZ⟩, locs, X, eT, N⟩ := W
  subst hp
  exact own_st (fun _ k => XS.ldiv X.here hx rfl (hb hby hd) rfl hv k) k
theorem own_lrem (W : own_W p l e R s m args below meth c Z y ret code ml ws T h cells slots) {u v : Int64} {pc : Nat} (pc' : Nat) {L : Array Slot} {st : List Value} (hd : decode code pc = .ok (.lrem, 1)) (hv : v ≠ 0) (hp : pc + 1 = pc') (k : own_Go p e below C T (mkF m pc' L (.long (u - (u / v) * v) :: st))) : own_Go p e below C T (mkF m pc L (.long v :: .long u :: st)) := by
  have hsz := own_le W
  obtain ⟨⟨hx, hby, hml, hown, hnm, hrt, hlk, hZ⟩, locs, X, eT, N⟩ := W
  subst hp
  exact own_st (fun _ k => XS.lrem X.here hx rfl (hb hby hd) rfl hv k) k
theorem own_irem (W : own_W p l e R s m args below meth c Z y ret code ml ws T h cells slots) {u v : Int32} {pc : Nat} (pc' : Nat) {L : Array Slot} {st : List Value} (hd : decode code pc = .ok (.irem, 1)) (hv : v ≠ 0) (hp : pc + 1 = pc') (k : own_Go p e below C T (mkF m pc' L (.int (u % v) :: st))) : own_Go p e below C T (mkF m pc L (.int v :: .int u :: st)) := by
  have hsz := own_le W
  obtain ⟨⟨hx, hby, hml, hown, hnm, hrt, hlk, hZ⟩, locs, X, eT, N⟩ := W
  subst hp
  exact own_st (fun _ k => iremM X hx rfl (hb hby hd) rfl hv k) k
theorem own_iconst (W : own_W p l e R s m args below meth c Z y ret code ml ws T h cells slots) {i : Int} (v : Int32) {pc : Nat} (pc' : Nat) {L : Array Slot} {st : List Value} (hd : decode code pc = .ok (.iconst i, 1)) (hv : Int32.ofInt i = v) (hp : pc + 1 = pc') (k : own_Go p e below C T (mkF m pc' L (.int v :: st))) : own_Go p e below C T (mkF m pc L st) := by
  have hsz := own_le W
  obtain ⟨⟨hx, hby, hml, hown, hnm, hrt, hlk, hZ⟩, locs, X, eT, N⟩ := W
  subst hp hv
  exact own_st (fun _ k => XS.iconst X.here hx rfl (hb hby hd) k) k
theorem own_bipush (W : own_W p l e R s m args below meth c Z y ret code ml ws T h cells slots) {i : Int} (v : Int32) {pc : Nat} (pc' : Nat) {L : Array Slot} {st : List Value} (hd : decode code pc = .ok (.bipush i, 2)) (hv : (Int8.ofInt i).toInt32 = v) (hp : pc + 2 = pc') (k : own_Go p e below C T (mkF m pc' L (.int v :: st))) : own_Go p e below C T (mkF m pc L st) := by
  have hsz := own_le W
  obtain ⟨⟨hx, hby, hml, hown, hnm, hrt, hlk, hZ⟩, locs, X, eT, N⟩ := W
  subst hp hv
  exact own_st (fun _ k => XS.bipush X.here hx rfl (hb hby hd) k) k
theorem own_sipush (W : own_W p l e R s m args below meth c Z y ret code ml ws T h cells slots) {i : Int} (v : Int32) {pc : Nat} (pc' : Nat) {L : Array Slot} {st : List Value} (hd : decode code pc = .ok (.sipush i, 3)) (hv : (Int16.ofInt i).toInt32 = v) (hp : pc + 3 = pc') (k : own_Go p e below C T (mkF m pc' L (.int v :: st))) : own_Go p e below C T (mkF m pc L st) := by
  have hsz := own_le W
  obtain ⟨⟨hx, hby, hml, hown, hnm, hrt, hlk, hZ⟩, locs, X, eT, N⟩ := W
  subst hp hv
  exact own_st (fun _ k => XS.sipush X.here hx rfl (hb hby hd) k) k
theorem own_lconst (W : own_W p l e R s m args below meth c Z y ret code ml ws T h cells slots) {i : Fin 2} (v : Int64) {pc : Nat} (pc' : Nat) {L : Array Slot} {st : List Value} (hd : decode code pc = .ok (.lconst i, 1)) (hv : Int64.ofNat i.val = v) (hp : pc + 1 = pc') (k : own_Go p e below C T (mkF m pc' L (.long v :: st))) : own_Go p e below C T (mkF m pc L st) := by
  have hsz := own_le W
  obtain ⟨⟨hx, hby, hml, hown, hnm, hrt, hlk, hZ⟩, locs, X, eT, N⟩ := W
  subst hp hv
  exact own_st (fun _ k => XS.lconst X.here hx rfl (hb hby hd) k) k
theorem own_aconst_null (W : own_W p l e R s m args below meth c Z y ret code ml ws T h cells slots) {pc : Nat} (pc' : Nat) {L : Array Slot} {st : List Value} (hd : decode code pc = .ok (.aconst_null, 1)) (hp : pc + 1 = pc') (k : own_Go p e below C T (mkF m pc' L (.null :: st))) : own_Go p e below C T (mkF m pc L st) := by
  have hsz := own_le W
  obtain ⟨⟨hx, hby, hml, hown, hnm, hrt, hlk, hZ⟩, locs, X, eT, N⟩ := W
  subst hp
  exact own_st (fun _ k => XS.aconstNull X.here hx rfl (hb hby hd) k) k
theorem own_ldcInt (W : own_W p l e R s m args below meth c Z y ret code ml ws T h cells slots) {i : Nat} {v : Int32} {pc : Nat} (pc' : Nat) {L : Array Slot} {st : List Value} (hd : decode code pc = .ok (.ldc i, 2)) (w : (Jvm.Cond.constant y.cls i v).before a0 Z = true) (hp : pc + 2 = pc') (k : own_Go p e below C T (mkF m pc' L (.int v :: st))) : own_Go p e below C T (mkF m pc L st) := by
  have hsz := own_le W
  obtain ⟨⟨hx, hby, hml, hown, hnm, hrt, hlk, hZ⟩, locs, X, eT, N⟩ := W
  subst hp
  exact own_st (fun _ k => X.ldcInt hx hown (mvT hZ w) (g := mkF m pc L st) rfl (hb hby hd) _ k) k
theorem own_ldc2Long (W : own_W p l e R s m args below meth c Z y ret code ml ws T h cells slots) {i : Nat} {v : Int64} {pc : Nat} (pc' : Nat) {L : Array Slot} {st : List Value} (hd : decode code pc = .ok (.ldc2_w i, 3)) (w : (Jvm.Cond.constantLong y.cls i v).before a0 Z = true) (hp : pc + 3 = pc') (k : own_Go p e below C T (mkF m pc' L (.long v :: st))) : own_Go p e below C T (mkF m pc L st) := by
  have hsz := own_le W
  obtain ⟨⟨hx, hby, hml, hown, hnm, hrt, hlk, hZ⟩, locs, X, eT, N⟩ := W
  subst hp
  exact own_st (fun _ k => X.ldc2Long hx hown (mvT hZ w) (g := mkF m pc L st) rfl (hb hby hd) _ k) k
theorem own_iloadN (W : own_W p l e R s m args below meth c Z y ret code ml ws T h cells slots) {i : Fin 4} {v : Int32} {pc : Nat} (pc' : Nat) {L : Array Slot} {st : List Value} (hd : decode code pc = .ok (.iload_n i, 1)) (hl : L[i.val]? = some (.val (.int v))) (hp : pc + 1 = pc') (k : own_Go p e below C T (mkF m pc' L (.int v :: st))) : own_Go p e below C T (mkF m pc L st) := by
  have hsz := own_le W
  obtain ⟨⟨hx, hby, hml, hown, hnm, hrt, hlk, hZ⟩, locs, X, eT, N⟩ := W
  subst hp
  exact own_st (fun _ k => XS.iloadN X.here hx rfl (hb hby hd) hl k) k
theorem own_iload (W : own_W p l e R s m args below meth c Z y ret code ml ws T h cells slots) {i : Nat} {v : Int32} {pc : Nat} (pc' : Nat) {L : Array Slot} {st : List Value} (hd : decode code pc = .ok (.iload i, 2)) (hl : L[i]? = some (.val (.int v))) (hp : pc + 2 = pc') (k : own_Go p e below C T (mkF m pc' L (.int v :: st))) : own_Go p e below C T (mkF m pc L st) := by
  have hsz := own_le W
  obtain ⟨⟨hx, hby, hml, hown, hnm, hrt, hlk, hZ⟩, locs, X, eT, N⟩ := W
  subst hp
  exact own_st (fun _ k => XS.iload X.here hx rfl (hb hby hd) hl k) k
theorem own_lloadN (W : own_W p l e R s m args below meth c Z y ret code ml ws T h cells slots) {i : Fin 4} {v : Int64} {pc : Nat} (pc' : Nat) {L : Array Slot} {st : List Value} (hd : decode code pc = .ok (.lload_n i, 1)) (hl : L[i.val]? = some (.val (.long v))) (hp : pc + 1 = pc') (k : own_Go p e below C T (mkF m pc' L (.long v :: st))) : own_Go p e below C T (mkF m pc L st) := by
  have hsz := own_le W
  obtain ⟨⟨hx, hby, hml, hown, hnm, hrt, hlk, hZ⟩, locs, X, eT, N⟩ := W
  subst hp
  exact own_st (fun _ k => XS.lloadN X.here hx rfl (hb hby hd) hl k) k
theorem own_lload (W : own_W p l e R s m args below meth c Z y ret code ml ws T h cells slots) {i : Nat} {v : Int64} {pc : Nat} (pc' : Nat) {L : Array Slot} {st : List Value} (hd : decode code pc = .ok (.lload i, 2)) (hl : L[i]? = some (.val (.long v))) (hp : pc + 2 = pc') (k : own_Go p e below C T (mkF m pc' L (.long v :: st))) : own_Go p e below C T (mkF m pc L st) := by
  have hsz := own_le W
  obtain ⟨⟨hx, hby, hml, hown, hnm, hrt, hlk, hZ⟩, locs, X, eT, N⟩ := W
  subst hp
  exact own_st (fun _ k => XS.lload X.here hx rfl (hb hby hd) hl k) k
theorem own_aloadN (W : own_W p l e R s m args below meth c Z y ret code ml ws T h cells slots) {i : Fin 4} {v : Value} {pc : Nat} (pc' : Nat) {L : Array Slot} {st : List Value} (hd : decode code pc = .ok (.aload_n i, 1)) (hl : L[i.val]? = some (.val v)) (hv : v.isRef = true) (hp : pc + 1 = pc') (k : own_Go p e below C T (mkF m pc' L (v :: st))) : own_Go p e below C T (mkF m pc L st) := by
  have hsz := own_le W
  obtain ⟨⟨hx, hby, hml, hown, hnm, hrt, hlk, hZ⟩, locs, X, eT, N⟩ := W
  subst hp
  exact own_st (fun _ k => XS.aloadN X.here hx rfl (hb hby hd) hl hv k) k
theorem own_aload (W : own_W p l e R s m args below meth c Z y ret code ml ws T h cells slots) {i : Nat} {v : Value} {pc : Nat} (pc' : Nat) {L : Array Slot} {st : List Value} (hd : decode code pc = .ok (.aload i, 2)) (hl : L[i]? = some (.val v)) (hv : v.isRef = true) (hp : pc + 2 = pc') (k : own_Go p e below C T (mkF m pc' L (v :: st))) : own_Go p e below C T (mkF m pc L st) := by
  have hsz := own_le W
  obtain ⟨⟨hx, hby, hml, hown, hnm, hrt, hlk, hZ⟩, locs, X, eT, N⟩ := W
  subst hp
  exact own_st (fun _ k => XS.aload X.here hx rfl (hb hby hd) hl hv k) k
theorem own_istoreN (W : own_W p l e R s m args below meth c Z y ret code ml ws T h cells slots) {i : Fin 4} {v : Int32} {pc : Nat} (pc' : Nat) {L : Array Slot} (L' : Array Slot) {st : List Value} (hd : decode code pc = .ok (.istore_n i, 1)) (hl : storeLocals L i.val (.int v) = some L') (hp : pc + 1 = pc') (k : own_Go p e below C T (mkF m pc' L' st)) : own_Go p e below C T (mkF m pc L (.int v :: st)) := by
  have hsz := own_le W
  obtain ⟨⟨hx, hby, hml, hown, hnm, hrt, hlk, hZ⟩, locs, X, eT, N⟩ := W
  subst hp
  exact own_st (fun _ k => XS.istoreN X.here hx rfl (hb hby hd) rfl hl k) k
theorem own_istore (W : own_W p l e R s m args below meth c Z y ret code ml ws T h cells slots) {i : Nat} {v : Int32} {pc : Nat} (pc' : Nat) {L : Array Slot} (L' : Array Slot) {st : List Value} (hd : decode code pc = .ok (.istore i, 2)) (hl : storeLocals L i (.int v) = some L') (hp : pc + 2 = pc') (k : own_Go p e below C T (mkF m pc' L' st)) : own_Go p e below C T (mkF m pc L (.int v :: st)) := by
  have hsz := own_le W
  obtain ⟨⟨hx, hby, hml, hown, hnm, hrt, hlk, hZ⟩, locs, X, eT, N⟩ := W
  subst hp
  exact own_st (fun _ k => XS.istore X.here hx rfl (hb hby hd) rfl hl k) k
theorem own_lstoreN (W : own_W p l e R s m args below meth c Z y ret code ml ws T h cells slots) {i : Fin 4} {v : Int64} {pc : Nat} (pc' : Nat) {L : Array Slot} (L' : Array Slot) {st : List Value} (hd : decode code pc = .ok (.lstore_n i, 1)) (hl : storeLocals L i.val (.long v) = some L') (hp : pc + 1 = pc') (k : own_Go p e below C T (mkF m pc' L' st)) : own_Go p e below C T (mkF m pc L (.long v :: st)) := by
  have hsz := own_le W
  obtain ⟨⟨hx, hby, hml, hown, hnm, hrt, hlk, hZ⟩, locs, X, eT, N⟩ := W
  subst hp
  exact own_st (fun _ k => XS.lstoreN X.here hx rfl (hb hby hd) rfl hl k) k
theorem own_lstore (W : own_W p l e R s m args below meth c Z y ret code ml ws T h cells slots) {i : Nat} {v : Int64} {pc : Nat} (pc' : Nat) {L : Array Slot} (L' : Array Slot) {st : List Value} (hd : decode code pc = .ok (.lstore i, 2)) (hl : storeLocals L i (.long v) = some L') (hp : pc + 2 = pc') (k : own_Go p e below C T (mkF m pc' L' st)) : own_Go p e below C T (mkF m pc L (.long v :: st)) := by
  have hsz := own_le W
  obtain ⟨⟨hx, hby, hml, hown, hnm, hrt, hlk, hZ⟩, locs, X, eT, N⟩ := W
  subst hp
  exact own_st (fun _ k => XS.lstore X.here hx rfl (hb hby hd) rfl hl k) k
theorem own_astoreN (W : own_W p l e R s m args below meth c Z y ret code ml ws T h cells slots) {i : Fin 4} {v : Value} {pc : Nat} (pc' : Nat) {L : Array Slot} (L' : Array Slot) {st : List Value} (hd : decode code pc = .ok (.astore_n i, 1)) (hv : v.isRef = true) (hl : storeLocals L i.val v = some L') (hp : pc + 1 = pc') (k : own_Go p e below C T (mkF m pc' L' st)) : own_Go p e below C T (mkF m pc L (v :: st)) := by
  have hsz := own_le W
  obtain ⟨⟨hx, hby, hml, hown, hnm, hrt, hlk, hZ⟩, locs, X, eT, N⟩ := W
  subst hp
  exact own_st (fun _ k => XS.astoreN X.here hx rfl (hb hby hd) rfl hv hl k) k
theorem own_astore (W : own_W p l e R s m args below meth c Z y ret code ml ws T h cells slots) {i : Nat} {v : Value} {pc : Nat} (pc' : Nat) {L : Array Slot} (L' : Array Slot) {st : List Value} (hd : decode code pc = .ok (.astore i, 2)) (hv : v.isRef = true) (hl : storeLocals L i v = some L') (hp : pc + 2 = pc') (k : own_Go p e below C T (mkF m pc' L' st)) : own_Go p e below C T (mkF m pc L (v :: st)) := by
  have hsz := own_le W
  obtain ⟨⟨hx, hby, hml, hown, hnm, hrt, hlk, hZ⟩, locs, X, eT, N⟩ := W
  subst hp
  exact own_st (fun _ k => XS.astore X.here hx rfl (hb hby hd) rfl hv hl k) k
theorem own_iinc (W : own_W p l e R s m args below meth c Z y ret code ml ws T h cells slots) {i : Nat} {cst : Int} {v : Int32} (v' : Int32) {pc : Nat} (pc' : Nat) {L : Array Slot} (L' : Array Slot) {st : List Value} (hd : decode code pc = .ok (.iinc i cst, 3)) (hv : L[i]? = some (.val (.int v))) (hv' : v + Int32.ofInt cst = v') (hl : storeLocals L i (.int v') = some L') (hp : pc + 3 = pc') (k : own_Go p e below C T (mkF m pc' L' st)) : own_Go p e below C T (mkF m pc L st) := by
  have hsz := own_le W
  obtain ⟨⟨hx, hby, hml, hown, hnm, hrt, hlk, hZ⟩, locs, X, eT, N⟩ := W
  subst hp hv'
  exact own_st (fun _ k => XS.iinc X.here hx rfl (hb hby hd) hv hl k) k
theorem own_dup (W : own_W p l e R s m args below meth c Z y ret code ml ws T h cells slots) {v : Value} {pc : Nat} (pc' : Nat) {L : Array Slot} {st : List Value} (hd : decode code pc = .ok (.dup, 1)) (hc : v.category = 1) (hp : pc + 1 = pc') (k : own_Go p e below C T (mkF m pc' L (v :: v :: st))) : own_Go p e below C T (mkF m pc L (v :: st)) := by
  have hsz := own_le W
  obtain ⟨⟨hx, hby, hml, hown, hnm, hrt, hlk, hZ⟩, locs, X, eT, N⟩ := W
  subst hp
  exact own_st (fun _ k => XS.dup X.here hx rfl (hb hby hd) rfl hc k) k
theorem own_pop (W : own_W p l e R s m args below meth c Z y ret code ml ws T h cells slots) {v : Value} {pc : Nat} (pc' : Nat) {L : Array Slot} {st : List Value} (hd : decode code pc = .ok (.pop, 1)) (hc : v.category = 1) (hp : pc + 1 = pc') (k : own_Go p e below C T (mkF m pc' L st)) : own_Go p e below C T (mkF m pc L (v :: st)) := by
  have hsz := own_le W
  obtain ⟨⟨hx, hby, hml, hown, hnm, hrt, hlk, hZ⟩, locs, X, eT, N⟩ := W
  subst hp
  exact own_st (fun _ k => XS.pop X.here hx rfl (hb hby hd) rfl hc k) k
theorem own_dup_x1 (W : own_W p l e R s m args below meth c Z y ret code ml ws T h cells slots) {u v : Value} {pc : Nat} (pc' : Nat) {L : Array Slot} {st : List Value} (hd : decode code pc = .ok (.dup_x1, 1)) (hc : v.category = 1) (hc' : u.category = 1) (hp : pc + 1 = pc') (k : own_Go p e below C T (mkF m pc' L (v :: u :: v :: st))) : own_Go p e below C T (mkF m pc L (v :: u :: st)) := by
  have hsz := own_le W
  obtain ⟨⟨hx, hby, hml, hown, hnm, hrt, hlk, hZ⟩, locs, X, eT, N⟩ := W
  subst hp
  exact own_st (fun _ k => XS.dupX1 X.here hx rfl (hb hby hd) rfl hc hc' k) k
theorem own_goto (W : own_W p l e R s m args below meth c Z y ret code ml ws T h cells slots) {o : Int} {pc : Nat} (pc' : Nat) {L : Array Slot} {st : List Value} (hd : decode code pc = .ok (.goto o, 3)) (ho : 0 ≤ (pc : Int) + o) (hp : ((pc : Int) + o).toNat = pc') (k : own_Go p e below C T (mkF m pc' L st)) : own_Go p e below C T (mkF m pc L st) := by
  have hsz := own_le W
  obtain ⟨⟨hx, hby, hml, hown, hnm, hrt, hlk, hZ⟩, locs, X, eT, N⟩ := W
  exact own_st (fun _ k => XS.goto X.here hx rfl rfl (hb hby hd) ho hp k) k
theorem own_ifY (W : own_W p l e R s m args below meth c Z y ret code ml ws T h cells slots) {cd : ClassFile.Cond} {o : Int} {u : Int32} {pc : Nat} (pc' : Nat) {L : Array Slot} {st : List Value} (hd : decode code pc = .ok (.ifCond cd o, 3)) (hc : ifCond.holds cd u = true) (ho : 0 ≤ (pc : Int) + o) (hp : ((pc : Int) + o).toNat = pc') (k : own_Go p e below C T (mkF m pc' L st)) : own_Go p e below C T (mkF m pc L (.int u :: st)) := by
  have hsz := own_le W
  obtain ⟨⟨hx, hby, hml, hown, hnm, hrt, hlk, hZ⟩, locs, X, eT, N⟩ := W
  exact own_st (fun _ k => XS.ifYes X.here hx rfl rfl (hb hby hd) rfl hc ho hp k) k
theorem own_ifN (W : own_W p l e R s m args below meth c Z y ret code ml ws T h cells slots) {cd : ClassFile.Cond} {o : Int} {u : Int32} {pc : Nat} (pc' : Nat) {L : Array Slot} {st : List Value} (hd : decode code pc = .ok (.ifCond cd o, 3)) (hc : ifCond.holds cd u = false) (hp : pc + 3 = pc') (k : own_Go p e below C T (mkF m pc' L st)) : own_Go p e below C T (mkF m pc L (.int u :: st)) := by
  have hsz := own_le W
  obtain ⟨⟨hx, hby, hml, hown, hnm, hrt, hlk, hZ⟩, locs, X, eT, N⟩ := W
  subst hp
  exact own_st (fun _ k => XS.ifNo X.here hx rfl (hb hby hd) rfl hc k) k
theorem own_icmpY (W : own_W p l e R s m args below meth c Z y ret code ml ws T h cells slots) {cd : ClassFile.Cond} {o : Int} {u v : Int32} {pc : Nat} (pc' : Nat) {L : Array Slot} {st : List Value} (hd : decode code pc = .ok (.if_icmp cd o, 3)) (hc : if_icmp.holds cd u v = true) (ho : 0 ≤ (pc : Int) + o) (hp : ((pc : Int) + o).toNat = pc') (k : own_Go p e below C T (mkF m pc' L st)) : own_Go p e below C T (mkF m pc L (.int v :: .int u :: st)) := by
  have hsz := own_le W
  obtain ⟨⟨hx, hby, hml, hown, hnm, hrt, hlk, hZ⟩, locs, X, eT, N⟩ := W
  exact own_st (fun _ k => XS.icmpYes X.here hx rfl rfl (hb hby hd) rfl hc ho hp k) k
theorem own_icmpN (W : own_W p l e R s m args below meth c Z y ret code ml ws T h cells slots) {cd : ClassFile.Cond} {o : Int} {u v : Int32} {pc : Nat} (pc' : Nat) {L : Array Slot} {st : List Value} (hd : decode code pc = .ok (.if_icmp cd o, 3)) (hc : if_icmp.holds cd u v = false) (hp : pc + 3 = pc') (k : own_Go p e below C T (mkF m pc' L st)) : own_Go p e below C T (mkF m pc L (.int v :: .int u :: st)) := by
  have hsz := own_le W
  obtain ⟨⟨hx, hby, hml, hown, hnm, hrt, hlk, hZ⟩, locs, X, eT, N⟩ := W
  subst hp
  exact own_st (fun _ k => XS.icmpNo X.here hx rfl (hb hby hd) rfl hc k) k
theorem own_ifnullY (W : own_W p l e R s m args below meth c Z y ret code ml ws T h cells slots) {o : Int}  {pc : Nat} (pc' : Nat) {L : Array Slot} {st : List Value} (hd : decode code pc = .ok (.ifnull o, 3)) (ho : 0 ≤ (pc : Int) + o) (hp : ((pc : Int) + o).toNat = pc') (k : own_Go p e below C T (mkF m pc' L st)) : own_Go p e below C T (mkF m pc L (.null :: st)) := by
  have hsz := own_le W
  obtain ⟨⟨hx, hby, hml, hown, hnm, hrt, hlk, hZ⟩, locs, X, eT, N⟩ := W
  exact own_st (fun _ k => XS.ifnullYes X.here hx rfl rfl (hb hby hd) rfl ho hp k) k
theorem own_ifnullN (W : own_W p l e R s m args below meth c Z y ret code ml ws T h cells slots) {o : Int} {b : Addr} {pc : Nat} (pc' : Nat) {L : Array Slot} {st : List Value} (hd : decode code pc = .ok (.ifnull o, 3)) (hp : pc + 3 = pc') (k : own_Go p e below C T (mkF m pc' L st)) : own_Go p e below C T (mkF m pc L (.ref b :: st)) := by
  have hsz := own_le W
  obtain ⟨⟨hx, hby, hml, hown, hnm, hrt, hlk, hZ⟩, locs, X, eT, N⟩ := W
  subst hp
  exact own_st (fun _ k => XS.ifnullNo X.here hx rfl (hb hby hd) rfl k) k
theorem own_ifnonnullY (W : own_W p l e R s m args below meth c Z y ret code ml ws T h cells slots) {o : Int} {b : Addr} {pc : Nat} (pc' : Nat) {L : Array Slot} {st : List Value} (hd : decode code pc = .ok (.ifnonnull o, 3)) (ho : 0 ≤ (pc : Int) + o) (hp : ((pc : Int) + o).toNat = pc') (k : own_Go p e below C T (mkF m pc' L st)) : own_Go p e below C T (mkF m pc L (.ref b :: st)) := by
  have hsz := own_le W
  obtain ⟨⟨hx, hby, hml, hown, hnm, hrt, hlk, hZ⟩, locs, X, eT, N⟩ := W
  exact own_st (fun _ k => XS.ifnonnullYes X.here hx rfl rfl (hb hby hd) rfl ho hp k) k
theorem own_ifnonnullN (W : own_W p l e R s m args below meth c Z y ret code ml ws T h cells slots) {o : Int}  {pc : Nat} (pc' : Nat) {L : Array Slot} {st : List Value} (hd : decode code pc = .ok (.ifnonnull o, 3)) (hp : pc + 3 = pc') (k : own_Go p e below C T (mkF m pc' L st)) : own_Go p e below C T (mkF m pc L (.null :: st)) := by
  have hsz := own_le W
  obtain ⟨⟨hx, hby, hml, hown, hnm, hrt, hlk, hZ⟩, locs, X, eT, N⟩ := W
  subst hp
  exact own_st (fun _ k => XS.ifnonnullNo X.here hx rfl (hb hby hd) rfl k) k
theorem own_acmp (W : own_W p l e R s m args below meth c Z y ret code ml ws T h cells slots) {cd : ACond} {o : Int} {u v : Value} {same : Bool} {pc : Nat} (pc' : Nat) {L : Array Slot} {st : List Value} (hd : decode code pc = .ok (.if_acmp cd o, 3)) (h1 : u.isRef = true) (h2 : v.isRef = true) (hq : decide (u = v) = same) (ho : 0 ≤ (pc : Int) + o) (hp : pc' = if acV cd same = true then ((pc : Int) + o).toNat else pc + 3) (k : own_Go p e below C T (mkF m pc' L st)) : own_Go p e below C T (mkF m pc L (v :: u :: st)) := by
  have hsz := own_le W
  obtain ⟨⟨hx, hby, hml, hown, hnm, hrt, hlk, hZ⟩, locs, X, eT, N⟩ := W
  exact own_st (fun _ k => Jvm.RoadKit.acmp X hx rfl h1 h2 rfl (hb hby hd) rfl hq ho hp k) k
theorem own_retI {Q : Option Value → Heap → Prop} {kc ks : Nat} {z : Int32}  (W : own_W p l e R s m args below meth c Z y (some .int) code ml ws T h cells slots) (hC : ∀ v L u, own_Fw s ws L → Q v u.heap → FrameEnd s (.returned v) u L kc ks → C (.returned v) u) (hcl : cells ≤ kc) (hsl : slots ≤ ks) {pc : Nat} {L : Array Slot} {st : List Value} (hd : decode code pc = .ok (.ireturn, 1)) (hq : Q (some (.int z)) h) : own_Go p e below C T (mkF m pc L (.int z :: st)) := by
  have hsz := own_le W
  obtain ⟨⟨hx, hby, hml, hown, hnm, hrt, hlk, hZ⟩, locs, X, eT, N⟩ := W
  subst eT
  obtain ⟨fs, hr, hrun, hended, hW, hsame⟩ := X.leave (v := (some (.int z))) (fun h => by rw [hrt] at h; cases h) hlk
  refine ⟨_, _, ?_, hrun, hended, hC _ _ _ N hq ⟨⟨_, rfl⟩, hW, hsame.mono hcl hsl⟩⟩
  have hn : narrow .int (.int z) = .int z := rfl
  show Steps p.tables e below (T.setTop { method := m, pc := pc, locals := L, stack := _ :: st, locked := none }) _
  have hm' := X.method'
  jvm_step X.here [X.here.top, hx, (hb hby hd), hm', hrt, hn]
  first | (intro acts; rw [hr _ acts rfl rfl rfl]) | rw [hr _ _ rfl rfl rfl]
  exact Steps.refl _
theorem own_retZ {Q : Option Value → Heap → Prop} {kc ks : Nat} {z : Int32}  (W : own_W p l e R s m args below meth c Z y (some .boolean) code ml ws T h cells slots) (hC : ∀ v L u, own_Fw s ws L → Q v u.heap → FrameEnd s (.returned v) u L kc ks → C (.returned v) u) (hcl : cells ≤ kc) (hsl : slots ≤ ks) {pc : Nat} {L : Array Slot} {st : List Value} (hd : decode code pc = .ok (.ireturn, 1)) (hq : Q (some (.int (z &&& 1))) h) : own_Go p e below C T (mkF m pc L (.int z :: st)) := by
  have hsz := own_le W
  obtain ⟨⟨hx, hby, hml, hown, hnm, hrt, hlk, hZ⟩, locs, X, eT, N⟩ := W
  subst eT
  obtain ⟨fs, hr, hrun, hended, hW, hsame⟩ := X.leave (v := (some (.int (z &&& 1)))) (fun h => by rw [hrt] at h; cases h) hlk
  refine ⟨_, _, ?_, hrun, hended, hC _ _ _ N hq ⟨⟨_, rfl⟩, hW, hsame.mono hcl hsl⟩⟩
  exact retN X hx (t := .boolean) hrt (by simp) (hb hby hd) hr
theorem own_retB {Q : Option Value → Heap → Prop} {kc ks : Nat} {z : Int32}  (W : own_W p l e R s m args below meth c Z y (some .byte) code ml ws T h cells slots) (hC : ∀ v L u, own_Fw s ws L → Q v u.heap → FrameEnd s (.returned v) u L kc ks → C (.returned v) u) (hcl : cells ≤ kc) (hsl : slots ≤ ks) {pc : Nat} {L : Array Slot} {st : List Value} (hd : decode code pc = .ok (.ireturn, 1)) (hq : Q (some (.int z.toInt8.toInt32)) h) : own_Go p e below C T (mkF m pc L (.int z :: st)) := by
  have hsz := own_le W
  obtain ⟨⟨hx, hby, hml, hown, hnm, hrt, hlk, hZ⟩, locs, X, eT, N⟩ := W
  subst eT
  obtain ⟨fs, hr, hrun, hended, hW, hsame⟩ := X.leave (v := (some (.int z.toInt8.toInt32))) (fun h => by rw [hrt] at h; cases h) hlk
  refine ⟨_, _, ?_, hrun, hended, hC _ _ _ N hq ⟨⟨_, rfl⟩, hW, hsame.mono hcl hsl⟩⟩
  exact retN X hx (t := .byte) hrt (by simp) (hb hby hd) hr
theorem own_retC {Q : Option Value → Heap → Prop} {kc ks : Nat} {z : Int32}  (W : own_W p l e R s m args below meth c Z y (some .char) code ml ws T h cells slots) (hC : ∀ v L u, own_Fw s ws L → Q v u.heap → FrameEnd s (.returned v) u L kc ks → C (.returned v) u) (hcl : cells ≤ kc) (hsl : slots ≤ ks) {pc : Nat} {L : Array Slot} {st : List Value} (hd : decode code pc = .ok (.ireturn, 1)) (hq : Q (some (.int z.toUInt32.toUInt16.toUInt32.toInt32)) h) : own_Go p e below C T (mkF m pc L (.int z :: st)) := by
  have hsz := own_le W
  obtain ⟨⟨hx, hby, hml, hown, hnm, hrt, hlk, hZ⟩, locs, X, eT, N⟩ := W
  subst eT
  obtain ⟨fs, hr, hrun, hended, hW, hsame⟩ := X.leave (v := (some (.int z.toUInt32.toUInt16.toUInt32.toInt32))) (fun h => by rw [hrt] at h; cases h) hlk
  refine ⟨_, _, ?_, hrun, hended, hC _ _ _ N hq ⟨⟨_, rfl⟩, hW, hsame.mono hcl hsl⟩⟩
  exact retN X hx (t := .char) hrt (by simp) (hb hby hd) hr
theorem own_retJ {Q : Option Value → Heap → Prop} {kc ks : Nat} {z : Int64}  (W : own_W p l e R s m args below meth c Z y (some .long) code ml ws T h cells slots) (hC : ∀ v L u, own_Fw s ws L → Q v u.heap → FrameEnd s (.returned v) u L kc ks → C (.returned v) u) (hcl : cells ≤ kc) (hsl : slots ≤ ks) {pc : Nat} {L : Array Slot} {st : List Value} (hd : decode code pc = .ok (.lreturn, 1)) (hq : Q (some (.long z)) h) : own_Go p e below C T (mkF m pc L (.long z :: st)) := by
  have hsz := own_le W
  obtain ⟨⟨hx, hby, hml, hown, hnm, hrt, hlk, hZ⟩, locs, X, eT, N⟩ := W
  subst eT
  obtain ⟨fs, hr, hrun, hended, hW, hsame⟩ := X.leave (v := (some (.long z))) (fun h => by rw [hrt] at h; cases h) hlk
  refine ⟨_, _, ?_, hrun, hended, hC _ _ _ N hq ⟨⟨_, rfl⟩, hW, hsame.mono hcl hsl⟩⟩
  have hn : narrow .long (.long z) = .long z := rfl
  show Steps p.tables e below (T.setTop { method := m, pc := pc, locals := L, stack := _ :: st, locked := none }) _
  have hm' := X.method'
  jvm_step X.here [X.here.top, hx, (hb hby hd), hm', hrt, hn]
  first | (intro acts; rw [hr _ acts rfl rfl rfl]) | rw [hr _ _ rfl rfl rfl]
  exact Steps.refl _
theorem own_retV {Q : Option Value → Heap → Prop} {kc ks : Nat}  (W : own_W p l e R s m args below meth c Z y none code ml ws T h cells slots) (hC : ∀ v L u, own_Fw s ws L → Q v u.heap → FrameEnd s (.returned v) u L kc ks → C (.returned v) u) (hcl : cells ≤ kc) (hsl : slots ≤ ks) {pc : Nat} {L : Array Slot} (hd : decode code pc = .ok (.return_, 1)) (hq : Q none h) : own_Go p e below C T (mkF m pc L []) := by
  have hsz := own_le W
  obtain ⟨⟨hx, hby, hml, hown, hnm, hrt, hlk, hZ⟩, locs, X, eT, N⟩ := W
  subst eT
  obtain ⟨fs, hr, hrun, hended, hW, hsame⟩ := X.leave (v := none) (fun _ => rfl) hlk
  refine ⟨_, _, ?_, hrun, hended, hC _ _ _ N hq ⟨⟨_, rfl⟩, hW, hsame.mono hcl hsl⟩⟩
  exact X.returnOut hx hrt (hb hby hd) hr
theorem own_retA {Q : Option Value → Heap → Prop} {kc ks : Nat} {rt : FieldType} {z : Value} (W : own_W p l e R s m args below meth c Z y (some rt) code ml ws T h cells slots) (hC : ∀ v L u, own_Fw s ws L → Q v u.heap → FrameEnd s (.returned v) u L kc ks → C (.returned v) u) (hcl : cells ≤ kc) (hsl : slots ≤ ks) (hrr : rt.isReference = true) (hzr : z.isRef = true) {pc : Nat} {L : Array Slot} {st : List Value} (hd : decode code pc = .ok (.areturn, 1)) (hn : narrow rt z = z) (hq : Q (some z) h) : own_Go p e below C T (mkF m pc L (z :: st)) := by
  have hsz := own_le W
  obtain ⟨⟨hx, hby, hml, hown, hnm, hrt, hlk, hZ⟩, locs, X, eT, N⟩ := W
  subst eT
  obtain ⟨fs, hr, hrun, hended, hW, hsame⟩ := X.leave (v := some z) (fun h => by rw [hrt] at h; cases h) hlk
  refine ⟨_, _, ?_, hrun, hended, hC _ _ _ N hq ⟨⟨_, rfl⟩, hW, hsame.mono hcl hsl⟩⟩
  exact retOut X hx hrt hn (Or.inr (Or.inr (Or.inr (Or.inr ⟨rfl, hrr, hzr⟩)))) (hb hby hd) hr
/-- an array by its places: n of them, place j holds f j -/
def own_A (Z : State) (h : Heap) (a : Addr) (ty : FieldType) (n : Nat) (f : Nat → Value) : Prop := ∃ cl : Cell, Arr Z h a cl ty ∧ cl.slots.size = n ∧ ∀ j, j < n → cl.slots[j]? = some (f j)
def own_upd (f : Nat → Value) (k : Nat) (v : Value) : Nat → Value := fun j => if j = k then v else f j
theorem own_A.lt {a : Addr} {ty : FieldType} {n : Nat} {f : Nat → Value} (F : own_A Z h a ty n f) : a < h.size := by obtain ⟨cl, A, -⟩ := F; exact A.lt
theorem own_A.ext {h' : Heap} {a : Addr} {ty : FieldType} {n : Nat} {f : Nat → Value} (F : own_A Z h a ty n f) (E : Ext h h') : own_A Z h' a ty n f := by obtain ⟨cl, A, r⟩ := F; exact ⟨cl, A.ext E, r⟩
theorem own_A.other {h' : Heap} {a b : Addr} {sl : Nat} {v : Value} {ty : FieldType} {n : Nat} {f : Nat → Value} (F : own_A Z h b ty n f) (q : Wr h h' a sl v) (ne : b ≠ a) : own_A Z h' b ty n f := by obtain ⟨cl, A, r⟩ := F; exact ⟨cl, A.other q ne, r⟩
theorem own_A.keep {h' : Heap} {ws : List Addr} {a : Addr} {ty : FieldType} {n : Nat} {f : Nat → Value} (F : own_A Z h a ty n f) (K : Keep h h' ws) (q : a ∉ ws) : own_A Z h' a ty n f := by obtain ⟨cl, A, r⟩ := F; exact ⟨cl, ⟨K.2.1 a cl A.1 q, A.2⟩, r⟩
theorem own_A.congr {a : Addr} {ty : FieldType} {n : Nat} {f g : Nat → Value} (F : own_A Z h a ty n f) (q : ∀ j, j < n → f j = g j) : own_A Z h a ty n g := by obtain ⟨cl, A, r1, r2⟩ := F; exact ⟨cl, A, r1, fun j hj => by rw [r2 j hj, q j hj]⟩
theorem own_nn {z : Int32} {k : Nat} (hz : z.toInt = (k : Int)) : ¬ z < 0 := by rw [Int32.lt_iff_toInt_lt]; have : (0 : Int32).toInt = 0 := rfl; omega
theorem own_cl {z : Int32} {k : Nat} (hz : z.toInt = (k : Int)) : z.toNatClampNeg = k := by
  have h := nat_of (own_nn hz)
  omega
theorem own_in {z : Int32} {k n : Nat} {cl : Cell} (hz : z.toInt = (k : Int)) (hs : cl.slots.size = n) (hk : k < n) : ¬ (z < 0 ∨ cl.slots.size ≤ z.toNatClampNeg) := by
  rintro (q | q)
  · exact own_nn hz q
  · rw [own_cl hz] at q; omega
theorem own_A.set {h' : Heap} {a : Addr} {ty : FieldType} {n k : Nat} {f : Nat → Value} {v : Value} (F : own_A Z h a ty n f) (q : Wr h h' a k v) (hk : k < n) : own_A Z h' a ty n (own_upd f k v) := by
  obtain ⟨cl, A, r1, r2⟩ := F
  refine ⟨cl.setSlot k v, Arr.same q A, by rw [sz_set]; exact r1, fun j hj => ?_⟩
  by_cases e : j = k
  · subst e; simp [own_upd, Cell.setSlot, r1, hj]
  · simp only [own_upd, if_neg e, Cell.setSlot]
    rw [Array.getElem?_setIfInBounds_ne (Ne.symm e)]; exact r2 j hj
theorem own_newarray (W : own_W p l e R s m args below meth c Z y ret code ml ws T h cells slots) {aty : ArrayType} {z : Int32} (N cap : Nat) {pc : Nat} (pc' : Nat) {L : Array Slot} {st : List Value} (hd : decode code pc = .ok (.newarray aty, 2)) (w : (Jvm.Cond.arrayClass (newarray.typeOf aty)).before a0 Z = true) (hz : z.toInt = (N : Int)) (hcap : N ≤ cap) (hb8 : cap * 8 ≤ 536870912) (hc : cells + 1 ≤ R.cells) (hl : slots + cap ≤ R.slots) (hp : pc + 2 = pc') (k : ∀ T' h' a, own_W p l e R s m args below meth c Z y ret code ml ws T' h' (cells + 1) (slots + cap) → Ext h h' → a = h.size → s.heap.size ≤ a → own_A Z h' a (newarray.typeOf aty) N (fun _ => defaultValue (newarray.typeOf aty)) → own_Go p e below C T' (mkF m pc' L (.ref a :: st))) : own_Go p e below C T (mkF m pc L (.int z :: st)) := by
  have hsz := own_le W
  obtain ⟨⟨hx, hby, hml, hown, hnm, hrt, hlk, hZ⟩, locs, X, eT, Nf⟩ := W
  subst hp
  have hcl := own_cl hz
  obtain ⟨T', h', cA, X', e', E', A', st'⟩ := newP X hx hZ w eT (g := mkF m pc L (.int z :: st)) rfl (hb hby hd) rfl (own_nn hz) (cap := cap) (by rw [hcl]; exact hcap) hb8 hc hl
  refine own_st st' (k T' h' h.size ⟨⟨hx, hby, hml, hown, hnm, hrt, hlk, hZ⟩, locs, X', e', Nf⟩ E' rfl hsz ⟨_, A', by rw [sz_new, hcl], fun j hj => ?_⟩)
  simp [newA, hcl, hj]
theorem own_baload (W : own_W p l e R s m args below meth c Z y ret code ml ws T h cells slots) {a : Addr} {z : Int32} {n : Nat} {f : Nat → Value} (k : Nat) (v : Int32) {pc : Nat} (pc' : Nat) {L : Array Slot} {st : List Value} (hd : decode code pc = .ok (.baload, 1)) (F : own_A Z h a .byte n f) (hz : z.toInt = (k : Int)) (hk : k < n) (hv : f k = (.int v)) (hp : pc + 1 = pc') (kk : own_Go p e below C T (mkF m pc' L ((.int v) :: st))) : own_Go p e below C T (mkF m pc L (.int z :: .ref a :: st)) := by
  have hsz := own_le W
  obtain ⟨⟨hx, hby, hml, hown, hnm, hrt, hlk, hZ⟩, locs, X, eT, N⟩ := W
  subst hp eT
  obtain ⟨cl, A, hs, hf⟩ := F
  have hat : cl.slots[z.toNatClampNeg]? = some (.int v) := by rw [own_cl hz, hf k hk, hv]
  exact own_st (fun t q => X.baloadBytes hx A.1 (State.isArrayOf_alike hZ.alike A.2.1) A.2.2 (own_in hz hs hk) hat (g := mkF m pc L (.int z :: .ref a :: st)) rfl rfl (hb hby hd) t q) kk
theorem own_iaload (W : own_W p l e R s m args below meth c Z y ret code ml ws T h cells slots) {a : Addr} {z : Int32} {n : Nat} {f : Nat → Value} (k : Nat) (v : Int32) {pc : Nat} (pc' : Nat) {L : Array Slot} {st : List Value} (hd : decode code pc = .ok (.iaload, 1)) (F : own_A Z h a .int n f) (hz : z.toInt = (k : Int)) (hk : k < n) (hv : f k = (.int v)) (hp : pc + 1 = pc') (kk : own_Go p e below C T (mkF m pc' L ((.int v) :: st))) : own_Go p e below C T (mkF m pc L (.int z :: .ref a :: st)) := by
  have hsz := own_le W
  obtain ⟨⟨hx, hby, hml, hown, hnm, hrt, hlk, hZ⟩, locs, X, eT, N⟩ := W
  subst hp eT
  obtain ⟨cl, A, hs, hf⟩ := F
  have hat : cl.slots[z.toNatClampNeg]? = some (.int v) := by rw [own_cl hz, hf k hk, hv]
  exact own_st (fun t q => X.iaload hx A.1 (State.isArrayOf_alike hZ.alike A.2.1) A.2.2 (own_in hz hs hk) hat (g := mkF m pc L (.int z :: .ref a :: st)) rfl rfl (hb hby hd) t q) kk
theorem own_laload (W : own_W p l e R s m args below meth c Z y ret code ml ws T h cells slots) {a : Addr} {z : Int32} {n : Nat} {f : Nat → Value} (k : Nat) (v : Int64) {pc : Nat} (pc' : Nat) {L : Array Slot} {st : List Value} (hd : decode code pc = .ok (.laload, 1)) (F : own_A Z h a .long n f) (hz : z.toInt = (k : Int)) (hk : k < n) (hv : f k = (.long v)) (hp : pc + 1 = pc') (kk : own_Go p e below C T (mkF m pc' L ((.long v) :: st))) : own_Go p e below C T (mkF m pc L (.int z :: .ref a :: st)) := by
  have hsz := own_le W
  obtain ⟨⟨hx, hby, hml, hown, hnm, hrt, hlk, hZ⟩, locs, X, eT, N⟩ := W
  subst hp eT
  obtain ⟨cl, A, hs, hf⟩ := F
  have hat : cl.slots[z.toNatClampNeg]? = some (.long v) := by rw [own_cl hz, hf k hk, hv]
  exact own_st (fun t q => X.laload hx A.1 (State.isArrayOf_alike hZ.alike A.2.1) A.2.2 (own_in hz hs hk) hat (g := mkF m pc L (.int z :: .ref a :: st)) rfl rfl (hb hby hd) t q) kk
theorem own_caload (W : own_W p l e R s m args below meth c Z y ret code ml ws T h cells slots) {a : Addr} {z : Int32} {n : Nat} {f : Nat → Value} (k : Nat) (v : Int32) {pc : Nat} (pc' : Nat) {L : Array Slot} {st : List Value} (hd : decode code pc = .ok (.caload, 1)) (F : own_A Z h a .char n f) (hz : z.toInt = (k : Int)) (hk : k < n) (hv : f k = (.int v)) (hp : pc + 1 = pc') (kk : own_Go p e below C T (mkF m pc' L ((.int v) :: st))) : own_Go p e below C T (mkF m pc L (.int z :: .ref a :: st)) := by
  have hsz := own_le W
  obtain ⟨⟨hx, hby, hml, hown, hnm, hrt, hlk, hZ⟩, locs, X, eT, N⟩ := W
  subst hp eT
  obtain ⟨cl, A, hs, hf⟩ := F
  have hat : cl.slots[z.toNatClampNeg]? = some (.int v) := by rw [own_cl hz, hf k hk, hv]
  exact own_st (fun t q => X.caload hx A.1 (State.isArrayOf_alike hZ.alike A.2.1) A.2.2 (own_in hz hs hk) hat (g := mkF m pc L (.int z :: .ref a :: st)) rfl rfl (hb hby hd) t q) kk
theorem own_bastore (W : own_W p l e R s m args below meth c Z y ret code ml ws T h cells slots) {a : Addr} {z : Int32} {n : Nat} {f : Nat → Value} {xx : Int32} (k : Nat) {pc : Nat} (pc' : Nat) {L : Array Slot} {st : List Value} (hd : decode code pc = .ok (.bastore, 1)) (F : own_A Z h a .byte n f) (ha : a ∈ ws ∨ s.heap.size ≤ a) (hz : z.toInt = (k : Int)) (hk : k < n) (hp : pc + 1 = pc') (kk : ∀ T' h', own_W p l e R s m args below meth c Z y ret code ml ws T' h' cells slots → Wr h h' a k (.int xx.toInt8.toInt32) → own_A Z h' a .byte n (own_upd f k (.int xx.toInt8.toInt32)) → own_Go p e below C T' (mkF m pc' L st)) : own_Go p e below C T (mkF m pc L (.int xx :: .int z :: .ref a :: st)) := by
  have hsz := own_le W
  obtain ⟨⟨hx, hby, hml, hown, hnm, hrt, hlk, hZ⟩, locs, X, eT, N⟩ := W
  subst hp
  have F' := F
  obtain ⟨cl, A, hs, hf⟩ := F
  obtain ⟨T', h', X', e', W', st'⟩ := stB X hx hZ eT A (j := z) (own_in hz hs hk) (g := mkF m pc L (.int xx :: .int z :: .ref a :: st)) rfl rfl (hb hby hd)
  rw [own_cl hz] at W'
  exact own_st st' (kk T' h' ⟨⟨hx, hby, hml, hown, hnm, hrt, hlk, hZ⟩, _, X', e', own_Fw_snoc N ha⟩ W' (F'.set W' hk))
theorem own_iastore (W : own_W p l e R s m args below meth c Z y ret code ml ws T h cells slots) {a : Addr} {z : Int32} {n : Nat} {f : Nat → Value} {xx : Int32} (k : Nat) {pc : Nat} (pc' : Nat) {L : Array Slot} {st : List Value} (hd : decode code pc = .ok (.iastore, 1)) (F : own_A Z h a .int n f) (ha : a ∈ ws ∨ s.heap.size ≤ a) (hz : z.toInt = (k : Int)) (hk : k < n) (hp : pc + 1 = pc') (kk : ∀ T' h', own_W p l e R s m args below meth c Z y ret code ml ws T' h' cells slots → Wr h h' a k (.int xx) → own_A Z h' a .int n (own_upd f k (.int xx)) → own_Go p e below C T' (mkF m pc' L st)) : own_Go p e below C T (mkF m pc L (.int xx :: .int z :: .ref a :: st)) := by
  have hsz := own_le W
  obtain ⟨⟨hx, hby, hml, hown, hnm, hrt, hlk, hZ⟩, locs, X, eT, N⟩ := W
  subst hp
  have F' := F
  obtain ⟨cl, A, hs, hf⟩ := F
  obtain ⟨T', h', X', e', W', st'⟩ := stI X hx hZ eT A (j := z) (own_in hz hs hk) (g := mkF m pc L (.int xx :: .int z :: .ref a :: st)) rfl rfl (hb hby hd)
  rw [own_cl hz] at W'
  exact own_st st' (kk T' h' ⟨⟨hx, hby, hml, hown, hnm, hrt, hlk, hZ⟩, _, X', e', own_Fw_snoc N ha⟩ W' (F'.set W' hk))
theorem own_lastore (W : own_W p l e R s m args below meth c Z y ret code ml ws T h cells slots) {a : Addr} {z : Int32} {n : Nat} {f : Nat → Value} {xx : Int64} (k : Nat) {pc : Nat} (pc' : Nat) {L : Array Slot} {st : List Value} (hd : decode code pc = .ok (.lastore, 1)) (F : own_A Z h a .long n f) (ha : a ∈ ws ∨ s.heap.size ≤ a) (hz : z.toInt = (k : Int)) (hk : k < n) (hp : pc + 1 = pc') (kk : ∀ T' h', own_W p l e R s m args below meth c Z y ret code ml ws T' h' cells slots → Wr h h' a k (.long xx) → own_A Z h' a .long n (own_upd f k (.long xx)) → own_Go p e below C T' (mkF m pc' L st)) : own_Go p e below C T (mkF m pc L (.long xx :: .int z :: .ref a :: st)) := by
  have hsz := own_le W
  obtain ⟨⟨hx, hby, hml, hown, hnm, hrt, hlk, hZ⟩, locs, X, eT, N⟩ := W
  subst hp
  have F' := F
  obtain ⟨cl, A, hs, hf⟩ := F
  obtain ⟨T', h', X', e', W', st'⟩ := stJ X hx hZ eT A (j := z) (own_in hz hs hk) (g := mkF m pc L (.long xx :: .int z :: .ref a :: st)) rfl rfl (hb hby hd)
  rw [own_cl hz] at W'
  exact own_st st' (kk T' h' ⟨⟨hx, hby, hml, hown, hnm, hrt, hlk, hZ⟩, _, X', e', own_Fw_snoc N ha⟩ W' (F'.set W' hk))
theorem own_castore (W : own_W p l e R s m args below meth c Z y ret code ml ws T h cells slots) {a : Addr} {z : Int32} {n : Nat} {f : Nat → Value} {xx : Int32} (k : Nat) {pc : Nat} (pc' : Nat) {L : Array Slot} {st : List Value} (hd : decode code pc = .ok (.castore, 1)) (F : own_A Z h a .char n f) (ha : a ∈ ws ∨ s.heap.size ≤ a) (hz : z.toInt = (k : Int)) (hk : k < n) (hp : pc + 1 = pc') (kk : ∀ T' h', own_W p l e R s m args below meth c Z y ret code ml ws T' h' cells slots → Wr h h' a k (.int xx.toUInt32.toUInt16.toUInt32.toInt32) → own_A Z h' a .char n (own_upd f k (.int xx.toUInt32.toUInt16.toUInt32.toInt32)) → own_Go p e below C T' (mkF m pc' L st)) : own_Go p e below C T (mkF m pc L (.int xx :: .int z :: .ref a :: st)) := by
  have hsz := own_le W
  obtain ⟨⟨hx, hby, hml, hown, hnm, hrt, hlk, hZ⟩, locs, X, eT, N⟩ := W
  subst hp
  have F' := F
  obtain ⟨cl, A, hs, hf⟩ := F
  obtain ⟨T', h', X', e', W', st'⟩ := stC X hx hZ eT A (j := z) (own_in hz hs hk) (g := mkF m pc L (.int xx :: .int z :: .ref a :: st)) rfl rfl (hb hby hd)
  rw [own_cl hz] at W'
  exact own_st st' (kk T' h' ⟨⟨hx, hby, hml, hown, hnm, hrt, hlk, hZ⟩, _, X', e', own_Fw_snoc N ha⟩ W' (F'.set W' hk))
theorem own_arraylength (W : own_W p l e R s m args below meth c Z y ret code ml ws T h cells slots) {a : Addr} {ty : FieldType} {n : Nat} {f : Nat → Value} (z : Int32) {pc : Nat} (pc' : Nat) {L : Array Slot} {st : List Value} (hd : decode code pc = .ok (.arraylength, 1)) (F : own_A Z h a ty n f) (hz : n.toInt32 = z) (hp : pc + 1 = pc') (k : own_Go p e below C T (mkF m pc' L (.int z :: st))) : own_Go p e below C T (mkF m pc L (.ref a :: st)) := by
  have hsz := own_le W
  obtain ⟨⟨hx, hby, hml, hown, hnm, hrt, hlk, hZ⟩, locs, X, eT, N⟩ := W
  subst hp eT
  obtain ⟨cl, A, hs, hf⟩ := F
  subst hs hz
  exact own_st (fun t q => X.arraylength hx A.1 (State.isArrayOf_alike hZ.alike A.2.1) (g := mkF m pc L (.ref a :: st)) rfl rfl (hb hby hd) t q) k
/-- an array of references to objects of C (and of what may be stored there) -/
def own_R (Z : State) (h : Heap) (a : Addr) (C0 : String) (n : Nat) (f : Nat → Value) : Prop := ∃ cl : Cell, Arr Z h a cl (.object C0) ∧ Ovr Z cl.cls C0 ∧ cl.slots.size = n ∧ ∀ j, j < n → cl.slots[j]? = some (f j)
theorem own_R.lt {a : Addr} {C0 : String} {n : Nat} {f : Nat → Value} (F : own_R Z h a C0 n f) : a < h.size := by obtain ⟨cl, A, -⟩ := F; exact A.lt
theorem own_R.ext {h' : Heap} {a : Addr} {C0 : String} {n : Nat} {f : Nat → Value} (F : own_R Z h a C0 n f) (E : Ext h h') : own_R Z h' a C0 n f := by obtain ⟨cl, A, r⟩ := F; exact ⟨cl, A.ext E, r⟩
theorem own_R.other {h' : Heap} {a b : Addr} {sl : Nat} {v : Value} {C0 : String} {n : Nat} {f : Nat → Value} (F : own_R Z h b C0 n f) (q : Wr h h' a sl v) (ne : b ≠ a) : own_R Z h' b C0 n f := by obtain ⟨cl, A, r⟩ := F; exact ⟨cl, A.other q ne, r⟩
theorem own_R.keep {h' : Heap} {ws : List Addr} {a : Addr} {C0 : String} {n : Nat} {f : Nat → Value} (F : own_R Z h a C0 n f) (K : Keep h h' ws) (q : a ∉ ws) : own_R Z h' a C0 n f := by obtain ⟨cl, A, r⟩ := F; exact ⟨cl, ⟨K.2.1 a cl A.1 q, A.2⟩, r⟩
theorem own_R.set {h' : Heap} {a : Addr} {C0 : String} {n k : Nat} {f : Nat → Value} {v : Value} (F : own_R Z h a C0 n f) (q : Wr h h' a k v) (hk : k < n) : own_R Z h' a C0 n (own_upd f k v) := by
  obtain ⟨cl, A, O, r1, r2⟩ := F
  refine ⟨cl.setSlot k v, Arr.same q A, O, by rw [sz_set]; exact r1, fun j hj => ?_⟩
  by_cases e : j = k
  · subst e; simp [own_upd, Cell.setSlot, r1, hj]
  · simp only [own_upd, if_neg e, Cell.setSlot]
    rw [Array.getElem?_setIfInBounds_ne (Ne.symm e)]; exact r2 j hj
theorem own_anewarray (W : own_W p l e R s m args below meth c Z y ret code ml ws T h cells slots) {C0 : String} {i : Nat} {z : Int32} (N cap : Nat) {pc : Nat} (pc' : Nat) {L : Array Slot} {st : List Value} (hd : decode code pc = .ok (.anewarray i, 3)) (w1 : (Jvm.Cond.classLink y.cls i C0).before a0 Z = true) (w2 : (Jvm.Cond.arrayOver (.object C0)).before a0 Z = true) (hz : z.toInt = (N : Int)) (hcap : N ≤ cap) (hb8 : cap * 8 ≤ 536870912) (hc : cells + 1 ≤ R.cells) (hl : slots + cap ≤ R.slots) (hp : pc + 3 = pc') (k : ∀ T' h' a, own_W p l e R s m args below meth c Z y ret code ml ws T' h' (cells + 1) (slots + cap) → Ext h h' → a = h.size → s.heap.size ≤ a → own_R Z h' a C0 N (fun _ => .null) → own_Go p e below C T' (mkF m pc' L (.ref a :: st))) : own_Go p e below C T (mkF m pc L (.int z :: st)) := by
  have hsz := own_le W
  obtain ⟨⟨hx, hby, hml, hown, hnm, hrt, hlk, hZ⟩, locs, X, eT, Nf⟩ := W
  subst hp
  have hcl := own_cl hz
  obtain ⟨T', h', cA, X', e', E', A', O', st'⟩ := newR X hx hZ hown w1 w2 eT (g := mkF m pc L (.int z :: st)) rfl (hb hby hd) rfl (own_nn hz) (cap := cap) (by rw [hcl]; exact hcap) hb8 hc hl
  refine own_st st' (k T' h' h.size ⟨⟨hx, hby, hml, hown, hnm, hrt, hlk, hZ⟩, locs, X', e', Nf⟩ E' rfl hsz ⟨_, A', O', by rw [sz_new, hcl], fun j hj => ?_⟩)
  simp [newA, hcl, hj, defaultValue]
theorem own_aastore (W : own_W p l e R s m args below meth c Z y ret code ml ws T h cells slots) {a b : Addr} {C0 : String} {z : Int32} {n : Nat} {f : Nat → Value} (k : Nat) {pc : Nat} (pc' : Nat) {L : Array Slot} {st : List Value} (hd : decode code pc = .ok (.aastore, 1)) (F : own_R Z h a C0 n f) (I : Ins Z h b C0 true) (ha : a ∈ ws ∨ s.heap.size ≤ a) (hz : z.toInt = (k : Int)) (hk : k < n) (hp : pc + 1 = pc') (kk : ∀ T' h', own_W p l e R s m args below meth c Z y ret code ml ws T' h' cells slots → Wr h h' a k (.ref b) → own_R Z h' a C0 n (own_upd f k (.ref b)) → own_Go p e below C T' (mkF m pc' L st)) : own_Go p e below C T (mkF m pc L (.ref b :: .int z :: .ref a :: st)) := by
  have hsz := own_le W
  obtain ⟨⟨hx, hby, hml, hown, hnm, hrt, hlk, hZ⟩, locs, X, eT, N⟩ := W
  subst hp
  have F' := F
  obtain ⟨cl, A, O, hs, hf⟩ := F
  obtain ⟨T', h', X', e', W', st'⟩ := stR X hx hZ eT A (j := z) (own_in hz hs hk) rfl (Sto.of A O I) (g := mkF m pc L (.ref b :: .int z :: .ref a :: st)) rfl rfl (hb hby hd)
  rw [own_cl hz] at W'
  exact own_st st' (kk T' h' ⟨⟨hx, hby, hml, hown, hnm, hrt, hlk, hZ⟩, _, X', e', own_Fw_snoc N ha⟩ W' (F'.set W' hk))
theorem own_aaload (W : own_W p l e R s m args below meth c Z y ret code ml ws T h cells slots) {a : Addr} {C0 : String} {z : Int32} {n : Nat} {f : Nat → Value} (k : Nat) (v : Value) {pc : Nat} (pc' : Nat) {L : Array Slot} {st : List Value} (hd : decode code pc = .ok (.aaload, 1)) (F : own_R Z h a C0 n f) (hz : z.toInt = (k : Int)) (hk : k < n) (hv : f k = v) (hp : pc + 1 = pc') (kk : own_Go p e below C T (mkF m pc' L (v :: st))) : own_Go p e below C T (mkF m pc L (.int z :: .ref a :: st)) := by
  have hsz := own_le W
  obtain ⟨⟨hx, hby, hml, hown, hnm, hrt, hlk, hZ⟩, locs, X, eT, N⟩ := W
  subst hp eT
  obtain ⟨cl, A, O, hs, hf⟩ := F
  have hat : cl.slots[z.toNatClampNeg]? = some v := by rw [own_cl hz, hf k hk, hv]
  exact own_st (fun t q => X.aaload hx A.1 (State.isArrayOf_alike hZ.alike A.2.1) rfl A.2.2 (own_in hz hs hk) hat (g := mkF m pc L (.int z :: .ref a :: st)) rfl rfl (hb hby hd) t q) kk
theorem own_dup2 (W : own_W p l e R s m args below meth c Z y ret code ml ws T h cells slots) {a : Addr} {z : Int32} {pc : Nat} (pc' : Nat) {L : Array Slot} {st : List Value} (hd : decode code pc = .ok (.dup2, 1)) (hp : pc + 1 = pc') (k : own_Go p e below C T (mkF m pc' L (.int z :: .ref a :: .int z :: .ref a :: st))) : own_Go p e below C T (mkF m pc L (.int z :: .ref a :: st)) := by
  have hsz := own_le W
  obtain ⟨⟨hx, hby, hml, hown, hnm, hrt, hlk, hZ⟩, locs, X, eT, N⟩ := W
  subst hp
  refine own_st (fun t q => ?_) k
  show Steps p.tables e below (T.setTop { method := m, pc := pc, locals := L, stack := .int z :: .ref a :: st, locked := none }) _
  jvm_step X.here [X.here.top, hx, (hb hby hd), Value.category]
  exact q
theorem own_gd {n k : Nat} {f : Nat → Value} {d : Value} (hk : k < n) : ((List.range n).map f).getD k d = f k := by simp [List.getD, hk]
theorem own_A.arv {a : Addr} {ty : FieldType} {n : Nat} {f : Nat → Value} (F : own_A Z h a ty n f) (hn : n < 2147483648) (hf : ∀ j, j < n → fits ty (f j) = true) (d : Value) : ∃ k, Arv Z h a k ty n.toInt32 ((List.range n).map f) d := by
  obtain ⟨cl, A, r1, r2⟩ := F
  have hz : n.toInt32.toInt = (n : Int) := len_toInt hn
  refine ⟨cl.cls, cl, A, rfl, by rw [r1, own_cl hz], own_nn hz, fun k hk => ?_, fun i hi => ?_⟩
  · rw [r1] at hk
    rw [r2 k hk, own_gd hk]
  · rw [r1] at hi
    rw [own_gd hi]; exact hf i hi
theorem own_A.of_arv {a : Addr} {k : ClassId} {ty : FieldType} {z : Int32} {n : Nat} {vs : List Value} {d : Value} (F : Arv Z h a k ty z vs d) (hz : z.toInt = (n : Int)) : own_A Z h a ty n (fun j => vs.getD j d) := by
  obtain ⟨cl, A, -, r2, -, H, -⟩ := F
  rw [own_cl hz] at r2
  exact ⟨cl, A, r2, fun j hj => H j (by rw [r2]; exact hj)⟩
theorem own_cpl (f f' : Nat → Value) (n n' i j k : Nat) (d : Value) (h4 : i + k ≤ n) (h5 : j + k ≤ n') (q : Nat) (hq : q < n') :
    (((List.range n').map f').take j ++ (List.range k).map (fun t => ((List.range n).map f).getD (i + t) d) ++ ((List.range n').map f').drop (j + k)).getD q d = if j ≤ q ∧ q < j + k then f (i + (q - j)) else f' q := by
  have hl : (((List.range n').map f').take j).length = j := by simp; omega
  have hm : ((List.range k).map (fun t => ((List.range n).map f).getD (i + t) d)).length = k := by simp
  rw [List.getD_eq_getElem?_getD, List.append_assoc]
  rcases Nat.lt_or_ge q j with h1 | h1
  · rw [List.getElem?_append_left (by omega), if_neg (by omega)]
    simp [List.getElem?_take, h1, hq]
  · rw [List.getElem?_append_right (by omega), hl]
    rcases Nat.lt_or_ge q (j + k) with h2 | h2
    · rw [List.getElem?_append_left (by omega), if_pos ⟨h1, h2⟩, List.getElem?_map, List.getElem?_range (by omega)]
      simp only [Option.map_some, Option.getD_some]
      rw [own_gd (by omega)]
    · rw [List.getElem?_append_right (by omega), hm, if_neg (by omega), List.getElem?_drop]
      rw [show j + k + (q - j - k) = q by omega]
      simp [hq]
theorem own_arraycopy (W : own_W p l e R s m args below meth c Z y ret code ml [] T h cells slots) {i : Nat} {a b : Addr} {ty : FieldType} {n n' : Nat} {f f' : Nat → Value} {sp dp nn : Int32} (i1 j1 k1 wt : Nat) {pc : Nat} (pc' : Nat) {L : Array Slot} {st : List Value} (hd : decode code pc = .ok (.invokestatic i, 3)) (w1 : (Jvm.Cond.methodLink y.cls i Jvm.Stand.acN).before a0 Z = true) (w2 : (Jvm.Cond.native Jvm.Stand.acN).before a0 Z = true) (w3 : (Jvm.Cond.static Jvm.Stand.acN).before a0 Z = true) (w4 : (Jvm.Cond.initialized "java/lang/System").before a0 Z = true) (F : own_A Z h a ty n f) (G : own_A Z h b ty n' f') (hff : ∀ j, j < n → fits ty (f j) = true) (hfg : ∀ j, j < n' → fits ty (f' j) = true) (hn : n < 2147483648) (hn' : n' < 2147483648) (hrk : refKind ty = false) (hsp : sp.toInt = (i1 : Int)) (hdp : dp.toInt = (j1 : Int)) (hnn : nn.toInt = (k1 : Int)) (h4 : i1 + k1 ≤ n) (h5 : j1 + k1 ≤ n') (hob : s.heap.size ≤ b) (hL : L.size = ml) (hwt : (st.map fun v => v.category).sum ≤ wt) (hf : 1 ≤ R.frames) (hlo : wt + (nativeFrameWords "java/lang/System" "arraycopy" 5 + 11) ≤ R.locals) (hp : pc + 3 = pc') (k : ∀ T' h', own_W p l e R s m args below meth c Z y ret code ml [] T' h' cells slots → Keep h h' [b] → own_A Z h' b ty n' (fun q => if j1 ≤ q ∧ q < j1 + k1 then f (i1 + (q - j1)) else f' q) → own_Go p e below C T' (mkF m pc' L st)) : own_Go p e below C T (mkF m pc L (.int nn :: .int dp :: .ref b :: .int sp :: .ref a :: st)) := by
  have hsz := own_le W
  obtain ⟨⟨hx, hby, hml, hown, hnm, hrt, hlk, hZ⟩, locs, X, eT, N⟩ := W
  subst hp
  have NF : Fr s.heap.size locs := fun y hy => (N y hy).resolve_left (fun q => nomatch q)
  obtain ⟨ka, A⟩ := F.arv hn hff (.int 0)
  obtain ⟨kb, B⟩ := G.arv hn' hfg (.int 0)
  have ez : n.toInt32.toNatClampNeg = n := own_cl (len_toInt hn)
  have ez' : n'.toInt32.toNatClampNeg = n' := own_cl (len_toInt hn')
  obtain ⟨T', h', L', X', e', N', K', B', st'⟩ := cpA X hx hZ hown w1 w2 w3 w4 eT A B (Or.inl ⟨rfl, hrk⟩) (own_nn hsp) (own_nn hdp) (own_nn hnn) (by rw [own_cl hsp, own_cl hnn, ez]; exact h4) (by rw [own_cl hdp, own_cl hnn, ez']; exact h5) rfl (by rw [own_cl hdp, own_cl hnn]; simpa using h5) NF hob (g := mkF m pc L (.int nn :: .int dp :: .ref b :: .int sp :: .ref a :: st)) rfl (by rw [hml]; exact hL) rfl (hb hby hd) hf (W := wt) (by show 2 * 0 + _ ≤ _; omega) hlo
  refine own_st st' (k T' h' ⟨⟨hx, hby, hml, hown, hnm, hrt, hlk, hZ⟩, L', X', e', fun y hy => Or.inr (N' y hy)⟩ K' ((own_A.of_arv B' (len_toInt hn')).congr fun q hq => ?_))
  rw [own_cl hsp, own_cl hdp, own_cl hnn]
  exact own_cpl f f' n n' i1 j1 k1 _ h4 h5 q hq
theorem own_new (W : own_W p l e R s m args below meth c Z y ret code ml ws T h cells slots) {C0 : String} {i nn : Nat} {pc : Nat} (pc' : Nat) {L : Array Slot} {st : List Value} (hd : decode code pc = .ok (.new i, 3)) (w : (Jvm.Cond.classLink y.cls i C0).before a0 Z = true) (wi : (Jvm.Cond.instantiable C0 nn).before a0 Z = true) (wz : (Jvm.Cond.initialized C0).before a0 Z = true) (hc : cells + 1 ≤ R.cells) (hl : slots + nn ≤ R.slots) (hp : pc + 3 = pc') (k : ∀ T' h' a, own_W p l e R s m args below meth c Z y ret code ml ws T' h' (cells + 1) (slots + nn) → Ext h h' → a = h.size → s.heap.size ≤ a → Exa Z h' a C0 → (∀ {O nm d : String} {ty : FieldType}, Laid Z a0 C0 O nm d → parseFieldDescriptor d = some ty → Fld Z h' a O nm d (defaultValue ty)) → own_Go p e below C T' (mkF m pc' L (.ref a :: st))) : own_Go p e below C T (mkF m pc L st) := by
  have hsz := own_le W
  obtain ⟨⟨hx, hby, hml, hown, hnm, hrt, hlk, hZ⟩, locs, X, eT, N⟩ := W
  subst hp
  obtain ⟨T', h', X', e', E', A', D', -, st'⟩ := newO X hx hZ hown w wi wz eT (g := mkF m pc L st) rfl (hb hby hd) hc hl
  exact own_st st' (k T' h' h.size ⟨⟨hx, hby, hml, hown, hnm, hrt, hlk, hZ⟩, locs, X', e', N⟩ E' rfl hsz A' D')
theorem own_getfield (W : own_W p l e R s m args below meth c Z y ret code ml ws T h cells slots) {O n d : String} {i : Nat} {a : Addr} {v : Value} {pc : Nat} (pc' : Nat) {L : Array Slot} {st : List Value} (hd : decode code pc = .ok (.getfield i, 3)) (w : (Jvm.Cond.fieldLink y.cls i O n d).before a0 Z = true) (F : Fld Z h a O n d v) (hp : pc + 3 = pc') (k : ∀ T', own_W p l e R s m args below meth c Z y ret code ml ws T' h cells slots → own_Go p e below C T' (mkF m pc' L (v :: st))) : own_Go p e below C T (mkF m pc L (.ref a :: st)) := by
  have hsz := own_le W
  obtain ⟨⟨hx, hby, hml, hown, hnm, hrt, hlk, hZ⟩, locs, X, eT, N⟩ := W
  subst hp
  obtain ⟨T', X', e', st'⟩ := getF X hx hZ hown (host := "") (Or.inl w) Via.refl eT F (g := mkF m pc L (.ref a :: st)) rfl rfl (hb hby hd)
  exact own_st st' (k T' ⟨⟨hx, hby, hml, hown, hnm, hrt, hlk, hZ⟩, locs, X', e', N⟩)
theorem own_getfieldN (W : own_W p l e R s m args below meth c Z y ret code ml ws T h cells slots) {O n d host : String} {i : Nat} {a : Addr} {v : Value} {pc : Nat} (pc' : Nat) {L : Array Slot} {st : List Value} (hd : decode code pc = .ok (.getfield i, 3)) (w : (Jvm.Cond.fieldLinkNest y.cls i O n d host).before a0 Z = true) (F : Fld Z h a O n d v) (hp : pc + 3 = pc') (k : ∀ T', own_W p l e R s m args below meth c Z y ret code ml ws T' h cells slots → own_Go p e below C T' (mkF m pc' L (v :: st))) : own_Go p e below C T (mkF m pc L (.ref a :: st)) := by
  have hsz := own_le W
  obtain ⟨⟨hx, hby, hml, hown, hnm, hrt, hlk, hZ⟩, locs, X, eT, N⟩ := W
  subst hp
  obtain ⟨T', X', e', st'⟩ := getF X hx hZ hown (host := host) (Or.inr w) Via.refl eT F (g := mkF m pc L (.ref a :: st)) rfl rfl (hb hby hd)
  exact own_st st' (k T' ⟨⟨hx, hby, hml, hown, hnm, hrt, hlk, hZ⟩, locs, X', e', N⟩)
theorem own_getstatic (W : own_W p l e R s m args below meth c Z y ret code ml ws T h cells slots) {O n d : String} {i : Nat} {v : Value} {pc : Nat} (pc' : Nat) {L : Array Slot} {st : List Value} (hd : decode code pc = .ok (.getstatic i, 3)) (w : (Jvm.Cond.fieldLink y.cls i O n d).before a0 Z = true) (F : Sta Z h O n d v) (hp : pc + 3 = pc') (k : ∀ T', own_W p l e R s m args below meth c Z y ret code ml ws T' h cells slots → own_Go p e below C T' (mkF m pc' L (v :: st))) : own_Go p e below C T (mkF m pc L st) := by
  have hsz := own_le W
  obtain ⟨⟨hx, hby, hml, hown, hnm, hrt, hlk, hZ⟩, locs, X, eT, N⟩ := W
  subst hp
  obtain ⟨T', X', e', st'⟩ := getS X hx hZ hown (host := "") w Via.refl eT F (g := mkF m pc L st) rfl (hb hby hd)
  exact own_st st' (k T' ⟨⟨hx, hby, hml, hown, hnm, hrt, hlk, hZ⟩, locs, X', e', N⟩)
theorem own_putfield (W : own_W p l e R s m args below meth c Z y ret code ml ws T h cells slots) {O n d C0 : String} {i kk : Nat} {ty : FieldType} {a : Addr} {v old : Value} (v' : Value) {pc : Nat} (pc' : Nat) {L : Array Slot} {st : List Value} (hd : decode code pc = .ok (.putfield i, 3)) (w : (Jvm.Cond.fieldLink y.cls i O n d).before a0 Z = true) (F : Fld Z h a O n d old) (E : Exa Z h a C0) (La : (Jvm.Cond.lays C0 O n d).before a0 Z = true ∨ ((Jvm.Cond.laysFinal C0 O n d).before a0 Z = true ∧ y.cls = O ∧ y.name = "<init>")) (wi : (Jvm.Cond.instantiable C0 kk).before a0 Z = true) (ha : a ∈ ws ∨ s.heap.size ≤ a) (hty : parseFieldDescriptor d = some ty) (hn : narrow ty v = v') (hf : fits ty v' = true) (hp : pc + 3 = pc') (k : ∀ T' h', own_W p l e R s m args below meth c Z y ret code ml ws T' h' cells slots → Wr h h' a (Jvm.RoadKit.slotOf Z O n d) v' → Fld Z h' a O n d v' → own_Go p e below C T' (mkF m pc' L st)) : own_Go p e below C T (mkF m pc L (v :: .ref a :: st)) := by
  have hsz := own_le W
  obtain ⟨⟨hx, hby, hml, hown, hnm, hrt, hlk, hZ⟩, locs, X, eT, N⟩ := W
  subst hp
  obtain ⟨T', h', X', e', W', st'⟩ := putFN X hx hZ hown w Via.refl eT F E (by rw [hnm]; exact La) wi hty hn hf (g := mkF m pc L (v :: .ref a :: st)) rfl rfl (hb hby hd)
  exact own_st st' (k T' h' ⟨⟨hx, hby, hml, hown, hnm, hrt, hlk, hZ⟩, _, X', e', own_Fw_snoc N ha⟩ W' (F.same W'))
theorem own_callS (W : own_W p l e R s m args below meth c Z y ret code ml ws T h cells slots) {i : Nat} {yc : MethodName} {bytes : ByteArray} {maxL : Nat} {rt : Option FieldType} {rm : Room} {Q : Option Value → Heap → Prop} {ps : List FieldType} {rr : Option FieldType} {wc' : List Addr} (A : List Value) (wt : Nat) {pc : Nat} (pc' : Nat) {L : Array Slot} {st : List Value} (hd : decode code pc = .ok (.invokestatic i, 3)) (wl : (Jvm.Cond.methodLink y.cls i yc).before a0 Z = true) (wst : (Jvm.Cond.static yc).before a0 Z = true) (wz : (Jvm.Cond.initialized yc.cls).before a0 Z = true) (wc : (Jvm.Cond.code yc bytes maxL rt).before a0 Z = true) (hy : yc.cls ≠ "java/lang/invoke/MethodHandle" ∧ yc.cls ≠ "java/lang/invoke/VarHandle") (hM : own_M l Z [] yc bytes maxL rt rm wc' A.toArray h Q) (hws : ∀ b ∈ wc', b ∈ ws ∨ s.heap.size ≤ b) (hL : L.size = ml) (hds : parseMethodDescriptor yc.desc = some ⟨ps, rr⟩) (hA : A.length = ps.length) (hwt : (st.map fun v => v.category).sum ≤ wt) (hf : rm.frames + 1 ≤ R.frames) (hlo : wt + (maxL + 11) + rm.locals ≤ R.locals) (hc : cells + rm.cells ≤ R.cells) (hs : slots + rm.slots ≤ R.slots) (hp : pc + 3 = pc') (k : ∀ T' h' v, own_W p l e R s m args below meth c Z y ret code ml ws T' h' (cells + rm.cells) (slots + rm.slots) → Keep h h' wc' → (rm.cells = 0 → wc' = [] → h' = h) → Q v h' → own_Go p e below C T' (mkF m pc' L (v.toList ++ st))) : own_Go p e below C T (mkF m pc L (A.reverse ++ st)) := by
  have hsz := own_le W
  obtain ⟨⟨hx, hby, hml, hown, hnm, hrt, hlk, hZ⟩, locs, X, eT, N⟩ := W
  subst hp
  obtain ⟨_, _, ⟨T', L', k', n'⟩, -, X', ⟨Lc', hQ', l', y', z'⟩, st'⟩ := Jvm.LawKit.callS X hx (y := yc) hown (mvT hZ wl) (mvT hZ wst) (mvT hZ wz) (mvT hZ wc) hy (backOf (W := wt) hM hZ wc wz hf hlo) (g := mkF m pc L (A.reverse ++ st)) rfl (by rw [hml]; exact hL) (argsL := A) (rest := st) (lenOf hds hA) rfl (by show 2 * 0 + _ ≤ _; omega) (hb hby hd) (fun _ _ => ⟨rfl, eT, hc, hs⟩)
  dsimp only [Pt.U, Pt.locs, Pt.cells, Pt.slots] at X' l' y' z' st' hQ'
  subst l' y' z'
  exact own_st st' (k T' _ _ ⟨⟨hx, hby, hml, hown, hnm, hrt, hlk, hZ⟩, _, X', rfl, own_Fw_app N hQ'.1 hws hsz⟩ hQ'.2.1 hQ'.2.2.1 hQ'.2.2.2)
theorem own_callN (W : own_W p l e R s m args below meth c Z y ret code ml ws T h cells slots) {i : Nat} {yc : MethodName} {bytes : ByteArray} {maxL : Nat} {rm : Room} {Q : Option Value → Heap → Prop} {ps : List FieldType} {rr : Option FieldType} {a : Addr} {wc' : List Addr} (A : List Value) (wt : Nat) {pc : Nat} (pc' : Nat) {L : Array Slot} {st : List Value} (hd : decode code pc = .ok (.invokespecial i, 3)) (hi : yc.name = "<init>") (wl : (Jvm.Cond.methodLink y.cls i yc).before a0 Z = true) (wst : (Jvm.Cond.instanceMethod yc).before a0 Z = true) (wz : (Jvm.Cond.initialized yc.cls).before a0 Z = true) (wc : (Jvm.Cond.code yc bytes maxL none).before a0 Z = true) (hy : yc.cls ≠ "java/lang/invoke/MethodHandle" ∧ yc.cls ≠ "java/lang/invoke/VarHandle") (hM : own_M l Z [] yc bytes maxL none rm wc' (.ref a :: A).toArray h Q) (hws : ∀ b ∈ wc', b ∈ ws ∨ s.heap.size ≤ b) (hL : L.size = ml) (hds : parseMethodDescriptor yc.desc = some ⟨ps, rr⟩) (hA : A.length = ps.length) (hwt : (st.map fun v => v.category).sum ≤ wt) (hf : rm.frames + 1 ≤ R.frames) (hlo : wt + (maxL + 11) + rm.locals ≤ R.locals) (hc : cells + rm.cells ≤ R.cells) (hs : slots + rm.slots ≤ R.slots) (hp : pc + 3 = pc') (k : ∀ T' h' v, own_W p l e R s m args below meth c Z y ret code ml ws T' h' (cells + rm.cells) (slots + rm.slots) → Keep h h' wc' → (rm.cells = 0 → wc' = [] → h' = h) → Q v h' → own_Go p e below C T' (mkF m pc' L (v.toList ++ st))) : own_Go p e below C T (mkF m pc L (A.reverse ++ .ref a :: st)) := by
  have hsz := own_le W
  obtain ⟨⟨hx, hby, hml, hown, hnm, hrt, hlk, hZ⟩, locs, X, eT, N⟩ := W
  subst hp
  obtain ⟨_, _, ⟨T', L', k', n'⟩, -, X', ⟨Lc', hQ', l', y', z'⟩, st'⟩ := X.specialBack hx (y := yc) hi hown (mvT hZ wl) (mvT hZ wst) (mvT hZ wc) hy (backOf (W := wt) hM hZ wc wz hf hlo) (g := mkF m pc L (A.reverse ++ .ref a :: st)) rfl (by rw [hml]; exact hL) (Steps.refl _) (a := a) (argsL := A) (rest := st) (lenOf hds hA) rfl (by show 2 * 0 + _ ≤ _; omega) (hb hby hd) (fun _ _ => ⟨rfl, eT, hc, hs⟩)
  dsimp only [Pt.U, Pt.locs, Pt.cells, Pt.slots] at X' l' y' z' st' hQ'
  subst l' y' z'
  exact own_tr st' (k T' _ _ ⟨⟨hx, hby, hml, hown, hnm, hrt, hlk, hZ⟩, _, X', rfl, own_Fw_app N hQ'.1 hws hsz⟩ hQ'.2.1 hQ'.2.2.1 hQ'.2.2.2)
theorem own_callV (W : own_W p l e R s m args below meth c Z y ret code ml ws T h cells slots) {C0 : String} {i : Nat} {yc zc : MethodName} {bytes : ByteArray} {maxL : Nat} {rt : Option FieldType} {rm : Room} {Q : Option Value → Heap → Prop} {ps : List FieldType} {rr : Option FieldType} {a : Addr} {wc' : List Addr} (A : List Value) (wt : Nat) {pc : Nat} (pc' : Nat) {L : Array Slot} {st : List Value} (hd : decode code pc = .ok (.invokevirtual i, 3)) (wl : (Jvm.Cond.methodLink y.cls i yc).before a0 Z = true) (wd : (Jvm.Cond.declares yc).before a0 Z = true) (nf : NotFace s yc) (wse : (Jvm.Cond.selects C0 yc zc).before a0 Z = true) (wst : (Jvm.Cond.instanceMethod zc).before a0 Z = true) (wz : (Jvm.Cond.initialized zc.cls).before a0 Z = true) (wc : (Jvm.Cond.code zc bytes maxL rt).before a0 Z = true) (hy : yc.cls ≠ "java/lang/invoke/MethodHandle" ∧ yc.cls ≠ "java/lang/invoke/VarHandle") (E : Exa Z h a C0) (hM : own_M l Z [] zc bytes maxL rt rm wc' (.ref a :: A).toArray h Q) (hws : ∀ b ∈ wc', b ∈ ws ∨ s.heap.size ≤ b) (hL : L.size = ml) (hds : parseMethodDescriptor yc.desc = some ⟨ps, rr⟩) (hA : A.length = ps.length) (hwt : (st.map fun v => v.category).sum ≤ wt) (hf : rm.frames + 1 ≤ R.frames) (hlo : wt + (maxL + 11) + rm.locals ≤ R.locals) (hc : cells + rm.cells ≤ R.cells) (hs : slots + rm.slots ≤ R.slots) (hp : pc + 3 = pc') (k : ∀ T' h' v, own_W p l e R s m args below meth c Z y ret code ml ws T' h' (cells + rm.cells) (slots + rm.slots) → Keep h h' wc' → (rm.cells = 0 → wc' = [] → h' = h) → Q v h' → own_Go p e below C T' (mkF m pc' L (v.toList ++ st))) : own_Go p e below C T (mkF m pc L (A.reverse ++ .ref a :: st)) := by
  have hsz := own_le W
  obtain ⟨⟨hx, hby, hml, hown, hnm, hrt, hlk, hZ⟩, locs, X, eT, N⟩ := W
  subst hp
  obtain ⟨cq, kq, qa, qb, qc⟩ := isOf hZ eT E
  obtain ⟨_, _, ⟨T', L', k', n'⟩, -, X', ⟨Lc', hQ', l', y', z'⟩, st'⟩ := X.virtualBack hx (y := yc) (z := zc) hown (mvT hZ wl) (mvT hZ wd) nf (mvT hZ wse) (mvT hZ wst) hy (backOf (W := wt) hM hZ wc wz hf hlo) qa qc (g := mkF m pc L (A.reverse ++ .ref a :: st)) rfl (by rw [hml]; exact hL) (Steps.refl _) (argsL := A) (rest := st) (lenOf hds hA) rfl (by show 2 * 0 + _ ≤ _; omega) (hb hby hd) (fun _ _ => ⟨rfl, eT, hc, hs⟩)
  dsimp only [Pt.U, Pt.locs, Pt.cells, Pt.slots] at X' l' y' z' st' hQ'
  subst l' y' z'
  exact own_tr st' (k T' _ _ ⟨⟨hx, hby, hml, hown, hnm, hrt, hlk, hZ⟩, _, X', rfl, own_Fw_app N hQ'.1 hws hsz⟩ hQ'.2.1 hQ'.2.2.1 hQ'.2.2.2)
theorem own_nf (W : own_W p l e R s m args below meth c Z y ret code ml ws T h cells slots) {C0 : String} {yc : MethodName} (wse : (Jvm.Cond.selects C0 yc yc).before a0 Z = true) : NotFace s yc := by
  have hsz := own_le W
  obtain ⟨⟨hx, hby, hml, hown, hnm, hrt, hlk, hZ⟩, locs, X, eT, N⟩ := W
  exact notFace_of_selects (args := #[]) (mvT hZ wse)
theorem own_initO (W : own_W p l e R s m args below meth c Z y ret code ml ws T h cells slots) {i : Nat} {a : Addr} (wt : Nat) {pc : Nat} (pc' : Nat) {L : Array Slot} {st : List Value} (hd : decode code pc = .ok (.invokespecial i, 3)) (w1 : (Jvm.Cond.methodLink y.cls i Lib.objectInit).before a0 Z = true) (w2 : (Jvm.Cond.instanceMethod Lib.objectInit).before a0 Z = true) (w3 : (Jvm.Cond.code Lib.objectInit ⟨#[0xb1]⟩ 1 none).before a0 Z = true) (hL : L.size = ml) (hwt : (st.map fun v => v.category).sum ≤ wt) (hf : 1 ≤ R.frames) (hlo : wt + 12 ≤ R.locals) (hp : pc + 3 = pc') (k : ∀ T', own_W p l e R s m args below meth c Z y ret code ml ws T' h cells slots → own_Go p e below C T' (mkF m pc' L st)) : own_Go p e below C T (mkF m pc L (.ref a :: st)) := by
  have hsz := own_le W
  obtain ⟨⟨hx, hby, hml, hown, hnm, hrt, hlk, hZ⟩, locs, X, eT, N⟩ := W
  subst hp
  obtain ⟨T', X', e', st'⟩ := initO X hx hZ hown w1 w2 w3 eT (g := mkF m pc L (.ref a :: st)) rfl (by rw [hml]; exact hL) rfl (hb hby hd) hf (W := wt) (by show 2 * 0 + _ ≤ _; omega) hlo
  exact own_st st' (k T' ⟨⟨hx, hby, hml, hown, hnm, hrt, hlk, hZ⟩, locs, X', e', N⟩)
theorem own_b1 {P : Prop} [Decidable P] (q : P) : ¬ (if P then (1 : Int32) else 0) = 0 := by rw [if_pos q]; decide
theorem own_b0 {P : Prop} [Decidable P] (q : ¬ P) : (if P then (1 : Int32) else 0) = 0 := if_neg q
theorem own_bz {P : Prop} [Decidable P] : (if P then (1 : Int32) else 0) &&& 1 = if P then (1 : Int32) else 0 := by split <;> rfl
end OwnKit

theorem wd0 {a0 : Array Value} {Z : State} (hw : ∀ d ∈ tables_1, d.before a0 Z = true) : (Jvm.Cond.classLink "com/example/minne/minne/SerialQueueIsEmptyPinLaw" (7 : Nat) "com/example/minne/minne/SerialQueue").before a0 Z = true := hw _ (List.mem_of_getElem? (i := 0) rfl)
theorem wd1 {a0 : Array Value} {Z : State} (hw : ∀ d ∈ tables_1, d.before a0 Z = true) : (Jvm.Cond.instantiable "com/example/minne/minne/SerialQueue" (3 : Nat)).before a0 Z = true := hw _ (List.mem_of_getElem? (i := 1) rfl)
theorem wd2 {a0 : Array Value} {Z : State} (hw : ∀ d ∈ tables_1, d.before a0 Z = true) : (Jvm.Cond.initialized "com/example/minne/minne/SerialQueue").before a0 Z = true := hw _ (List.mem_of_getElem? (i := 2) rfl)
theorem wd3 {a0 : Array Value} {Z : State} (hw : ∀ d ∈ tables_1, d.before a0 Z = true) : (Jvm.Cond.methodLink "com/example/minne/minne/SerialQueueIsEmptyPinLaw" (9 : Nat) ({ cls := "com/example/minne/minne/SerialQueue", name := "<init>", desc := "()V" } : Jvm.MethodName)).before a0 Z = true := hw _ (List.mem_of_getElem? (i := 3) rfl)
theorem wd4 {a0 : Array Value} {Z : State} (hw : ∀ d ∈ tables_1, d.before a0 Z = true) : (Jvm.Cond.instanceMethod ({ cls := "com/example/minne/minne/SerialQueue", name := "<init>", desc := "()V" } : Jvm.MethodName)).before a0 Z = true := hw _ (List.mem_of_getElem? (i := 4) rfl)
theorem wd5 {a0 : Array Value} {Z : State} (hw : ∀ d ∈ tables_1, d.before a0 Z = true) : (Jvm.Cond.code ({ cls := "com/example/minne/minne/SerialQueue", name := "<init>", desc := "()V" } : Jvm.MethodName) prog_12_method_1_code (1 : Nat) (Option.none : Option Jvm.ClassFile.FieldType)).before a0 Z = true := hw _ (List.mem_of_getElem? (i := 5) rfl)
theorem wd6 {a0 : Array Value} {Z : State} (hw : ∀ d ∈ tables_1, d.before a0 Z = true) : (Jvm.Cond.methodLink "com/example/minne/minne/SerialQueue" (1 : Nat) ({ cls := "java/lang/Object", name := "<init>", desc := "()V" } : Jvm.MethodName)).before a0 Z = true := hw _ (List.mem_of_getElem? (i := 6) rfl)
theorem wd7 {a0 : Array Value} {Z : State} (hw : ∀ d ∈ tables_1, d.before a0 Z = true) : (Jvm.Cond.instanceMethod ({ cls := "java/lang/Object", name := "<init>", desc := "()V" } : Jvm.MethodName)).before a0 Z = true := hw _ (List.mem_of_getElem? (i := 7) rfl)
theorem wd8 {a0 : Array Value} {Z : State} (hw : ∀ d ∈ tables_1, d.before a0 Z = true) : (Jvm.Cond.code ({ cls := "java/lang/Object", name := "<init>", desc := "()V" } : Jvm.MethodName) object_method_1_code (1 : Nat) (Option.none : Option Jvm.ClassFile.FieldType)).before a0 Z = true := hw _ (List.mem_of_getElem? (i := 8) rfl)
theorem wd9 {a0 : Array Value} {Z : State} (hw : ∀ d ∈ tables_1, d.before a0 Z = true) : (Jvm.Cond.classLink "com/example/minne/minne/SerialQueue" (7 : Nat) "com/example/minne/minne/SerialQueue$Slots").before a0 Z = true := hw _ (List.mem_of_getElem? (i := 9) rfl)
theorem wd10 {a0 : Array Value} {Z : State} (hw : ∀ d ∈ tables_1, d.before a0 Z = true) : (Jvm.Cond.instantiable "com/example/minne/minne/SerialQueue$Slots" (3 : Nat)).before a0 Z = true := hw _ (List.mem_of_getElem? (i := 10) rfl)
theorem wd11 {a0 : Array Value} {Z : State} (hw : ∀ d ∈ tables_1, d.before a0 Z = true) : (Jvm.Cond.initialized "com/example/minne/minne/SerialQueue$Slots").before a0 Z = true := hw _ (List.mem_of_getElem? (i := 11) rfl)
theorem wd12 {a0 : Array Value} {Z : State} (hw : ∀ d ∈ tables_1, d.before a0 Z = true) : (Jvm.Cond.methodLink "com/example/minne/minne/SerialQueue" (11 : Nat) ({ cls := "com/example/minne/minne/SerialQueue$Slots", name := "<init>", desc := "(JI)V" } : Jvm.MethodName)).before a0 Z = true := hw _ (List.mem_of_getElem? (i := 12) rfl)
theorem wd13 {a0 : Array Value} {Z : State} (hw : ∀ d ∈ tables_1, d.before a0 Z = true) : (Jvm.Cond.instanceMethod ({ cls := "com/example/minne/minne/SerialQueue$Slots", name := "<init>", desc := "(JI)V" } : Jvm.MethodName)).before a0 Z = true := hw _ (List.mem_of_getElem? (i := 13) rfl)
theorem wd14 {a0 : Array Value} {Z : State} (hw : ∀ d ∈ tables_1, d.before a0 Z = true) : (Jvm.Cond.code ({ cls := "com/example/minne/minne/SerialQueue$Slots", name := "<init>", desc := "(JI)V" } : Jvm.MethodName) prog_13_method_1_code (4 : Nat) (Option.none : Option Jvm.ClassFile.FieldType)).before a0 Z = true := hw _ (List.mem_of_getElem? (i := 14) rfl)
theorem wd15 {a0 : Array Value} {Z : State} (hw : ∀ d ∈ tables_1, d.before a0 Z = true) : (Jvm.Cond.methodLink "com/example/minne/minne/SerialQueue$Slots" (3 : Nat) ({ cls := "java/lang/Object", name := "<init>", desc := "()V" } : Jvm.MethodName)).before a0 Z = true := hw _ (List.mem_of_getElem? (i := 15) rfl)
theorem wd16 {a0 : Array Value} {Z : State} (hw : ∀ d ∈ tables_1, d.before a0 Z = true) : (Jvm.Cond.fieldLink "com/example/minne/minne/SerialQueue$Slots" (9 : Nat) "com/example/minne/minne/SerialQueue$Slots" "first" "J").before a0 Z = true := hw _ (List.mem_of_getElem? (i := 16) rfl)
theorem wd17 {a0 : Array Value} {Z : State} (hw : ∀ d ∈ tables_1, d.before a0 Z = true) : (Jvm.Cond.laysFinal "com/example/minne/minne/SerialQueue$Slots" "com/example/minne/minne/SerialQueue$Slots" "first" "J").before a0 Z = true := hw _ (List.mem_of_getElem? (i := 17) rfl)
theorem wd18 {a0 : Array Value} {Z : State} (hw : ∀ d ∈ tables_1, d.before a0 Z = true) : (Jvm.Cond.arrayClass Jvm.ClassFile.FieldType.long).before a0 Z = true := hw _ (List.mem_of_getElem? (i := 18) rfl)
theorem wd19 {a0 : Array Value} {Z : State} (hw : ∀ d ∈ tables_1, d.before a0 Z = true) : (Jvm.Cond.fieldLink "com/example/minne/minne/SerialQueue$Slots" (15 : Nat) "com/example/minne/minne/SerialQueue$Slots" "serials" "[J").before a0 Z = true := hw _ (List.mem_of_getElem? (i := 19) rfl)
theorem wd20 {a0 : Array Value} {Z : State} (hw : ∀ d ∈ tables_1, d.before a0 Z = true) : (Jvm.Cond.laysFinal "com/example/minne/minne/SerialQueue$Slots" "com/example/minne/minne/SerialQueue$Slots" "serials" "[J").before a0 Z = true := hw _ (List.mem_of_getElem? (i := 20) rfl)
theorem wd21 {a0 : Array Value} {Z : State} (hw : ∀ d ∈ tables_1, d.before a0 Z = true) : (Jvm.Cond.classLink "com/example/minne/minne/SerialQueue$Slots" (4 : Nat) "java/lang/Object").before a0 Z = true := hw _ (List.mem_of_getElem? (i := 21) rfl)
theorem wd22 {a0 : Array Value} {Z : State} (hw : ∀ d ∈ tables_1, d.before a0 Z = true) : (Jvm.Cond.arrayOver (Jvm.ClassFile.FieldType.object "java/lang/Object")).before a0 Z = true := hw _ (List.mem_of_getElem? (i := 22) rfl)
theorem wd23 {a0 : Array Value} {Z : State} (hw : ∀ d ∈ tables_1, d.before a0 Z = true) : (Jvm.Cond.fieldLink "com/example/minne/minne/SerialQueue$Slots" (19 : Nat) "com/example/minne/minne/SerialQueue$Slots" "values" "[Ljava/lang/Object;").before a0 Z = true := hw _ (List.mem_of_getElem? (i := 23) rfl)
theorem wd24 {a0 : Array Value} {Z : State} (hw : ∀ d ∈ tables_1, d.before a0 Z = true) : (Jvm.Cond.laysFinal "com/example/minne/minne/SerialQueue$Slots" "com/example/minne/minne/SerialQueue$Slots" "values" "[Ljava/lang/Object;").before a0 Z = true := hw _ (List.mem_of_getElem? (i := 24) rfl)
theorem wd25 {a0 : Array Value} {Z : State} (hw : ∀ d ∈ tables_1, d.before a0 Z = true) : (Jvm.Cond.fieldLink "com/example/minne/minne/SerialQueue" (14 : Nat) "com/example/minne/minne/SerialQueue" "slots" "Lcom/example/minne/minne/SerialQueue$Slots;").before a0 Z = true := hw _ (List.mem_of_getElem? (i := 25) rfl)
theorem wd26 {a0 : Array Value} {Z : State} (hw : ∀ d ∈ tables_1, d.before a0 Z = true) : (Jvm.Cond.lays "com/example/minne/minne/SerialQueue" "com/example/minne/minne/SerialQueue" "slots" "Lcom/example/minne/minne/SerialQueue$Slots;").before a0 Z = true := hw _ (List.mem_of_getElem? (i := 26) rfl)
theorem wd27 {a0 : Array Value} {Z : State} (hw : ∀ d ∈ tables_1, d.before a0 Z = true) : (Jvm.Cond.methodLink "com/example/minne/minne/SerialQueueIsEmptyPinLaw" (10 : Nat) ({ cls := "java/lang/Integer", name := "valueOf", desc := "(I)Ljava/lang/Integer;" } : Jvm.MethodName)).before a0 Z = true := hw _ (List.mem_of_getElem? (i := 27) rfl)
theorem wd28 {a0 : Array Value} {Z : State} (hw : ∀ d ∈ tables_1, d.before a0 Z = true) : (Jvm.Cond.static ({ cls := "java/lang/Integer", name := "valueOf", desc := "(I)Ljava/lang/Integer;" } : Jvm.MethodName)).before a0 Z = true := hw _ (List.mem_of_getElem? (i := 28) rfl)
theorem wd29 {a0 : Array Value} {Z : State} (hw : ∀ d ∈ tables_1, d.before a0 Z = true) : (Jvm.Cond.initialized "java/lang/Integer").before a0 Z = true := hw _ (List.mem_of_getElem? (i := 29) rfl)
theorem wd30 {a0 : Array Value} {Z : State} (hw : ∀ d ∈ tables_1, d.before a0 Z = true) : (Jvm.Cond.code ({ cls := "java/lang/Integer", name := "valueOf", desc := "(I)Ljava/lang/Integer;" } : Jvm.MethodName) jdk_33_method_22_code (1 : Nat) (Option.some (Jvm.ClassFile.FieldType.object "java/lang/Integer"))).before a0 Z = true := hw _ (List.mem_of_getElem? (i := 30) rfl)
theorem wd31 {a0 : Array Value} {Z : State} (hw : ∀ d ∈ tables_1, d.before a0 Z = true) : (Jvm.Cond.fieldLink "java/lang/Integer" (191 : Nat) "java/lang/Integer$IntegerCache" "high" "I").before a0 Z = true := hw _ (List.mem_of_getElem? (i := 31) rfl)
theorem wd33 {a0 : Array Value} {Z : State} (hw : ∀ d ∈ tables_1, d.before a0 Z = true) : (Jvm.Cond.fieldLink "java/lang/Integer" (195 : Nat) "java/lang/Integer$IntegerCache" "cache" "[Ljava/lang/Integer;").before a0 Z = true := hw _ (List.mem_of_getElem? (i := 33) rfl)
theorem wd34 {a0 : Array Value} {Z : State} (hw : ∀ d ∈ tables_1, d.before a0 Z = true) : (Jvm.Cond.methodLink "com/example/minne/minne/SerialQueueIsEmptyPinLaw" (16 : Nat) ({ cls := "com/example/minne/minne/SerialQueue", name := "isEmpty", desc := "()Z" } : Jvm.MethodName)).before a0 Z = true := hw _ (List.mem_of_getElem? (i := 34) rfl)
theorem wd35 {a0 : Array Value} {Z : State} (hw : ∀ d ∈ tables_1, d.before a0 Z = true) : (Jvm.Cond.declares ({ cls := "com/example/minne/minne/SerialQueue", name := "isEmpty", desc := "()Z" } : Jvm.MethodName)).before a0 Z = true := hw _ (List.mem_of_getElem? (i := 35) rfl)
theorem wd36 {a0 : Array Value} {Z : State} (hw : ∀ d ∈ tables_1, d.before a0 Z = true) : (Jvm.Cond.instanceMethod ({ cls := "com/example/minne/minne/SerialQueue", name := "isEmpty", desc := "()Z" } : Jvm.MethodName)).before a0 Z = true := hw _ (List.mem_of_getElem? (i := 36) rfl)
theorem wd37 {a0 : Array Value} {Z : State} (hw : ∀ d ∈ tables_1, d.before a0 Z = true) : (Jvm.Cond.selects "com/example/minne/minne/SerialQueue" ({ cls := "com/example/minne/minne/SerialQueue", name := "isEmpty", desc := "()Z" } : Jvm.MethodName) ({ cls := "com/example/minne/minne/SerialQueue", name := "isEmpty", desc := "()Z" } : Jvm.MethodName)).before a0 Z = true := hw _ (List.mem_of_getElem? (i := 37) rfl)
theorem wd38 {a0 : Array Value} {Z : State} (hw : ∀ d ∈ tables_1, d.before a0 Z = true) : (Jvm.Cond.code ({ cls := "com/example/minne/minne/SerialQueue", name := "isEmpty", desc := "()Z" } : Jvm.MethodName) prog_12_method_4_code (1 : Nat) (Option.some Jvm.ClassFile.FieldType.boolean)).before a0 Z = true := hw _ (List.mem_of_getElem? (i := 38) rfl)
theorem wd39 {a0 : Array Value} {Z : State} (hw : ∀ d ∈ tables_1, d.before a0 Z = true) : (Jvm.Cond.fieldLink "com/example/minne/minne/SerialQueue" (29 : Nat) "com/example/minne/minne/SerialQueue" "head" "J").before a0 Z = true := hw _ (List.mem_of_getElem? (i := 39) rfl)
theorem wd40 {a0 : Array Value} {Z : State} (hw : ∀ d ∈ tables_1, d.before a0 Z = true) : (Jvm.Cond.lays "com/example/minne/minne/SerialQueue" "com/example/minne/minne/SerialQueue" "head" "J").before a0 Z = true := hw _ (List.mem_of_getElem? (i := 40) rfl)
theorem wd41 {a0 : Array Value} {Z : State} (hw : ∀ d ∈ tables_1, d.before a0 Z = true) : (Jvm.Cond.fieldLink "com/example/minne/minne/SerialQueue" (18 : Nat) "com/example/minne/minne/SerialQueue" "tail" "J").before a0 Z = true := hw _ (List.mem_of_getElem? (i := 41) rfl)
theorem wd42 {a0 : Array Value} {Z : State} (hw : ∀ d ∈ tables_1, d.before a0 Z = true) : (Jvm.Cond.lays "com/example/minne/minne/SerialQueue" "com/example/minne/minne/SerialQueue" "tail" "J").before a0 Z = true := hw _ (List.mem_of_getElem? (i := 42) rfl)
theorem wd43 {a0 : Array Value} {Z : State} (hw : ∀ d ∈ tables_1, d.before a0 Z = true) : (Jvm.Cond.methodLink "com/example/minne/minne/SerialQueueIsEmptyPinLaw" (20 : Nat) ({ cls := "com/example/minne/minne/SerialQueueIsEmptyPinLaw", name := "step", desc := "(Lcom/example/minne/minne/SerialQueue;ZIJLjava/lang/Integer;)I" } : Jvm.MethodName)).before a0 Z = true := hw _ (List.mem_of_getElem? (i := 43) rfl)
theorem wd44 {a0 : Array Value} {Z : State} (hw : ∀ d ∈ tables_1, d.before a0 Z = true) : (Jvm.Cond.static ({ cls := "com/example/minne/minne/SerialQueueIsEmptyPinLaw", name := "step", desc := "(Lcom/example/minne/minne/SerialQueue;ZIJLjava/lang/Integer;)I" } : Jvm.MethodName)).before a0 Z = true := hw _ (List.mem_of_getElem? (i := 44) rfl)
theorem wd45 {a0 : Array Value} {Z : State} (hw : ∀ d ∈ tables_1, d.before a0 Z = true) : (Jvm.Cond.initialized "com/example/minne/minne/SerialQueueIsEmptyPinLaw").before a0 Z = true := hw _ (List.mem_of_getElem? (i := 45) rfl)
theorem wd46 {a0 : Array Value} {Z : State} (hw : ∀ d ∈ tables_1, d.before a0 Z = true) : (Jvm.Cond.code ({ cls := "com/example/minne/minne/SerialQueueIsEmptyPinLaw", name := "step", desc := "(Lcom/example/minne/minne/SerialQueue;ZIJLjava/lang/Integer;)I" } : Jvm.MethodName) method_3_code (6 : Nat) (Option.some Jvm.ClassFile.FieldType.int)).before a0 Z = true := hw _ (List.mem_of_getElem? (i := 46) rfl)
theorem wd47 {a0 : Array Value} {Z : State} (hw : ∀ d ∈ tables_1, d.before a0 Z = true) : (Jvm.Cond.methodLink "com/example/minne/minne/SerialQueueIsEmptyPinLaw" (32 : Nat) ({ cls := "com/example/minne/minne/SerialQueue", name := "add", desc := "(JLjava/lang/Object;)V" } : Jvm.MethodName)).before a0 Z = true := hw _ (List.mem_of_getElem? (i := 47) rfl)
theorem wd48 {a0 : Array Value} {Z : State} (hw : ∀ d ∈ tables_1, d.before a0 Z = true) : (Jvm.Cond.declares ({ cls := "com/example/minne/minne/SerialQueue", name := "add", desc := "(JLjava/lang/Object;)V" } : Jvm.MethodName)).before a0 Z = true := hw _ (List.mem_of_getElem? (i := 48) rfl)
theorem wd49 {a0 : Array Value} {Z : State} (hw : ∀ d ∈ tables_1, d.before a0 Z = true) : (Jvm.Cond.instanceMethod ({ cls := "com/example/minne/minne/SerialQueue", name := "add", desc := "(JLjava/lang/Object;)V" } : Jvm.MethodName)).before a0 Z = true := hw _ (List.mem_of_getElem? (i := 49) rfl)
theorem wd50 {a0 : Array Value} {Z : State} (hw : ∀ d ∈ tables_1, d.before a0 Z = true) : (Jvm.Cond.selects "com/example/minne/minne/SerialQueue" ({ cls := "com/example/minne/minne/SerialQueue", name := "add", desc := "(JLjava/lang/Object;)V" } : Jvm.MethodName) ({ cls := "com/example/minne/minne/SerialQueue", name := "add", desc := "(JLjava/lang/Object;)V" } : Jvm.MethodName)).before a0 Z = true := hw _ (List.mem_of_getElem? (i := 50) rfl)
theorem wd51 {a0 : Array Value} {Z : State} (hw : ∀ d ∈ tables_1, d.before a0 Z = true) : (Jvm.Cond.codeSync ({ cls := "com/example/minne/minne/SerialQueue", name := "add", desc := "(JLjava/lang/Object;)V" } : Jvm.MethodName) prog_12_method_2_code (8 : Nat) (Option.none : Option Jvm.ClassFile.FieldType)).before a0 Z = true := hw _ (List.mem_of_getElem? (i := 51) rfl)
theorem wd52 {a0 : Array Value} {Z : State} (hw : ∀ d ∈ tables_1, d.before a0 Z = true) : (Jvm.Cond.fieldRef "com/example/minne/minne/SerialQueue" (22 : Nat) "com/example/minne/minne/SerialQueue$Slots" "first" "J").before a0 Z = true := hw _ (List.mem_of_getElem? (i := 52) rfl)
theorem wd53 {a0 : Array Value} {Z : State} (hw : ∀ d ∈ tables_1, d.before a0 Z = true) : (Jvm.Cond.fieldRef "com/example/minne/minne/SerialQueue" (25 : Nat) "com/example/minne/minne/SerialQueue$Slots" "serials" "[J").before a0 Z = true := hw _ (List.mem_of_getElem? (i := 53) rfl)
theorem wd54 {a0 : Array Value} {Z : State} (hw : ∀ d ∈ tables_1, d.before a0 Z = true) : (Jvm.Cond.fieldRef "com/example/minne/minne/SerialQueue" (36 : Nat) "com/example/minne/minne/SerialQueue$Slots" "values" "[Ljava/lang/Object;").before a0 Z = true := hw _ (List.mem_of_getElem? (i := 54) rfl)
theorem wd55 {a0 : Array Value} {Z : State} (hw : ∀ d ∈ tables_1, d.before a0 Z = true) : (Jvm.Cond.castable "java/lang/Integer" "java/lang/Object").before a0 Z = true := hw _ (List.mem_of_getElem? (i := 55) rfl)
theorem wd56 {a0 : Array Value} {Z : State} (hw : ∀ d ∈ tables_1, d.before a0 Z = true) : (Jvm.Cond.methodLink "com/example/minne/minne/SerialQueueIsEmptyPinLaw" (36 : Nat) ({ cls := "com/example/minne/minne/SerialQueue", name := "takeFirst", desc := "()Ljava/lang/Object;" } : Jvm.MethodName)).before a0 Z = true := hw _ (List.mem_of_getElem? (i := 56) rfl)
theorem wd57 {a0 : Array Value} {Z : State} (hw : ∀ d ∈ tables_1, d.before a0 Z = true) : (Jvm.Cond.declares ({ cls := "com/example/minne/minne/SerialQueue", name := "takeFirst", desc := "()Ljava/lang/Object;" } : Jvm.MethodName)).before a0 Z = true := hw _ (List.mem_of_getElem? (i := 57) rfl)
theorem wd58 {a0 : Array Value} {Z : State} (hw : ∀ d ∈ tables_1, d.before a0 Z = true) : (Jvm.Cond.instanceMethod ({ cls := "com/example/minne/minne/SerialQueue", name := "takeFirst", desc := "()Ljava/lang/Object;" } : Jvm.MethodName)).before a0 Z = true := hw _ (List.mem_of_getElem? (i := 58) rfl)
theorem wd59 {a0 : Array Value} {Z : State} (hw : ∀ d ∈ tables_1, d.before a0 Z = true) : (Jvm.Cond.selects "com/example/minne/minne/SerialQueue" ({ cls := "com/example/minne/minne/SerialQueue", name := "takeFirst", desc := "()Ljava/lang/Object;" } : Jvm.MethodName) ({ cls := "com/example/minne/minne/SerialQueue", name := "takeFirst", desc := "()Ljava/lang/Object;" } : Jvm.MethodName)).before a0 Z = true := hw _ (List.mem_of_getElem? (i := 59) rfl)
theorem wd60 {a0 : Array Value} {Z : State} (hw : ∀ d ∈ tables_1, d.before a0 Z = true) : (Jvm.Cond.codeSync ({ cls := "com/example/minne/minne/SerialQueue", name := "takeFirst", desc := "()Ljava/lang/Object;" } : Jvm.MethodName) prog_12_method_3_code (6 : Nat) (Option.some (Jvm.ClassFile.FieldType.object "java/lang/Object"))).before a0 Z = true := hw _ (List.mem_of_getElem? (i := 60) rfl)
theorem wd61 {a0 : Array Value} {Z : State} (hw : ∀ d ∈ tables_1, d.before a0 Z = true) : (Jvm.Cond.constantLong "com/example/minne/minne/SerialQueueIsEmptyPinLaw" (26 : Nat) (2 : Int64)).before a0 Z = true := hw _ (List.mem_of_getElem? (i := 61) rfl)
theorem wd62 {a0 : Array Value} {Z : State} (hw : ∀ d ∈ tables_1, d.before a0 Z = true) : (Jvm.Cond.constantLong "com/example/minne/minne/SerialQueueIsEmptyPinLaw" (28 : Nat) (3 : Int64)).before a0 Z = true := hw _ (List.mem_of_getElem? (i := 62) rfl)
theorem wd63 {a0 : Array Value} {Z : State} (hw : ∀ d ∈ tables_1, d.before a0 Z = true) : (Jvm.Cond.constantLong "com/example/minne/minne/SerialQueueIsEmptyPinLaw" (30 : Nat) (4 : Int64)).before a0 Z = true := hw _ (List.mem_of_getElem? (i := 63) rfl)
theorem wd64 {a0 : Array Value} {Z : State} (hw : ∀ d ∈ tables_1, d.before a0 Z = true) : (Jvm.Cond.classLink "java/lang/Integer" (1 : Nat) "java/lang/Integer").before a0 Z = true := hw _ (List.mem_of_getElem? (i := 64) rfl)
theorem wd65 {a0 : Array Value} {Z : State} (hw : ∀ d ∈ tables_1, d.before a0 Z = true) : (Jvm.Cond.instantiable "java/lang/Integer" (1 : Nat)).before a0 Z = true := hw _ (List.mem_of_getElem? (i := 65) rfl)
theorem wd66 {a0 : Array Value} {Z : State} (hw : ∀ d ∈ tables_1, d.before a0 Z = true) : (Jvm.Cond.methodLink "java/lang/Integer" (199 : Nat) ({ cls := "java/lang/Integer", name := "<init>", desc := "(I)V" } : Jvm.MethodName)).before a0 Z = true := hw _ (List.mem_of_getElem? (i := 66) rfl)
theorem wd67 {a0 : Array Value} {Z : State} (hw : ∀ d ∈ tables_1, d.before a0 Z = true) : (Jvm.Cond.instanceMethod ({ cls := "java/lang/Integer", name := "<init>", desc := "(I)V" } : Jvm.MethodName)).before a0 Z = true := hw _ (List.mem_of_getElem? (i := 67) rfl)
theorem wd69 {a0 : Array Value} {Z : State} (hw : ∀ d ∈ tables_1, d.before a0 Z = true) : (Jvm.Cond.code ({ cls := "java/lang/Integer", name := "<init>", desc := "(I)V" } : Jvm.MethodName) jdk_33_method_23_code (2 : Nat) (Option.none : Option Jvm.ClassFile.FieldType)).before a0 Z = true := hw _ (List.mem_of_getElem? (i := 69) rfl)
theorem wd70 {a0 : Array Value} {Z : State} (hw : ∀ d ∈ tables_1, d.before a0 Z = true) : (Jvm.Cond.methodLink "java/lang/Integer" (202 : Nat) ({ cls := "java/lang/Number", name := "<init>", desc := "()V" } : Jvm.MethodName)).before a0 Z = true := hw _ (List.mem_of_getElem? (i := 70) rfl)
theorem wd71 {a0 : Array Value} {Z : State} (hw : ∀ d ∈ tables_1, d.before a0 Z = true) : (Jvm.Cond.instanceMethod ({ cls := "java/lang/Number", name := "<init>", desc := "()V" } : Jvm.MethodName)).before a0 Z = true := hw _ (List.mem_of_getElem? (i := 71) rfl)
theorem wd74 {a0 : Array Value} {Z : State} (hw : ∀ d ∈ tables_1, d.before a0 Z = true) : (Jvm.Cond.initialized "java/lang/Number").before a0 Z = true := hw _ (List.mem_of_getElem? (i := 74) rfl)
theorem wd75 {a0 : Array Value} {Z : State} (hw : ∀ d ∈ tables_1, d.before a0 Z = true) : (Jvm.Cond.code ({ cls := "java/lang/Number", name := "<init>", desc := "()V" } : Jvm.MethodName) jdk_18_method_1_code (1 : Nat) (Option.none : Option Jvm.ClassFile.FieldType)).before a0 Z = true := hw _ (List.mem_of_getElem? (i := 75) rfl)
theorem wd76 {a0 : Array Value} {Z : State} (hw : ∀ d ∈ tables_1, d.before a0 Z = true) : (Jvm.Cond.methodLink "java/lang/Number" (1 : Nat) ({ cls := "java/lang/Object", name := "<init>", desc := "()V" } : Jvm.MethodName)).before a0 Z = true := hw _ (List.mem_of_getElem? (i := 76) rfl)
theorem wd77 {a0 : Array Value} {Z : State} (hw : ∀ d ∈ tables_1, d.before a0 Z = true) : (Jvm.Cond.fieldLink "java/lang/Integer" (205 : Nat) "java/lang/Integer" "value" "I").before a0 Z = true := hw _ (List.mem_of_getElem? (i := 77) rfl)
theorem wd78 {a0 : Array Value} {Z : State} (hw : ∀ d ∈ tables_1, d.before a0 Z = true) : (Jvm.Cond.laysFinal "java/lang/Integer" "java/lang/Integer" "value" "I").before a0 Z = true := hw _ (List.mem_of_getElem? (i := 78) rfl)
theorem wd79 {a0 : Array Value} {Z : State} (hw : ∀ d ∈ tables_1, d.before a0 Z = true) : (Jvm.Cond.methodLink "com/example/minne/minne/SerialQueue" (32 : Nat) ({ cls := "com/example/minne/minne/SerialQueue$Slots", name := "copy", desc := "(JJ)Lcom/example/minne/minne/SerialQueue$Slots;" } : Jvm.MethodName)).before a0 Z = true := hw _ (List.mem_of_getElem? (i := 79) rfl)
theorem wd80 {a0 : Array Value} {Z : State} (hw : ∀ d ∈ tables_1, d.before a0 Z = true) : (Jvm.Cond.declares ({ cls := "com/example/minne/minne/SerialQueue$Slots", name := "copy", desc := "(JJ)Lcom/example/minne/minne/SerialQueue$Slots;" } : Jvm.MethodName)).before a0 Z = true := hw _ (List.mem_of_getElem? (i := 80) rfl)
theorem wd81 {a0 : Array Value} {Z : State} (hw : ∀ d ∈ tables_1, d.before a0 Z = true) : (Jvm.Cond.instanceMethod ({ cls := "com/example/minne/minne/SerialQueue$Slots", name := "copy", desc := "(JJ)Lcom/example/minne/minne/SerialQueue$Slots;" } : Jvm.MethodName)).before a0 Z = true := hw _ (List.mem_of_getElem? (i := 81) rfl)
theorem wd82 {a0 : Array Value} {Z : State} (hw : ∀ d ∈ tables_1, d.before a0 Z = true) : (Jvm.Cond.selects "com/example/minne/minne/SerialQueue$Slots" ({ cls := "com/example/minne/minne/SerialQueue$Slots", name := "copy", desc := "(JJ)Lcom/example/minne/minne/SerialQueue$Slots;" } : Jvm.MethodName) ({ cls := "com/example/minne/minne/SerialQueue$Slots", name := "copy", desc := "(JJ)Lcom/example/minne/minne/SerialQueue$Slots;" } : Jvm.MethodName)).before a0 Z = true := hw _ (List.mem_of_getElem? (i := 82) rfl)
theorem wd83 {a0 : Array Value} {Z : State} (hw : ∀ d ∈ tables_1, d.before a0 Z = true) : (Jvm.Cond.code ({ cls := "com/example/minne/minne/SerialQueue$Slots", name := "copy", desc := "(JJ)Lcom/example/minne/minne/SerialQueue$Slots;" } : Jvm.MethodName) prog_13_method_2_code (7 : Nat) (Option.some (Jvm.ClassFile.FieldType.object "com/example/minne/minne/SerialQueue$Slots"))).before a0 Z = true := hw _ (List.mem_of_getElem? (i := 83) rfl)
theorem wd84 {a0 : Array Value} {Z : State} (hw : ∀ d ∈ tables_1, d.before a0 Z = true) : (Jvm.Cond.classLink "com/example/minne/minne/SerialQueue$Slots" (10 : Nat) "com/example/minne/minne/SerialQueue$Slots").before a0 Z = true := hw _ (List.mem_of_getElem? (i := 84) rfl)
theorem wd85 {a0 : Array Value} {Z : State} (hw : ∀ d ∈ tables_1, d.before a0 Z = true) : (Jvm.Cond.methodLink "com/example/minne/minne/SerialQueue$Slots" (23 : Nat) ({ cls := "java/lang/Math", name := "max", desc := "(II)I" } : Jvm.MethodName)).before a0 Z = true := hw _ (List.mem_of_getElem? (i := 85) rfl)
theorem wd86 {a0 : Array Value} {Z : State} (hw : ∀ d ∈ tables_1, d.before a0 Z = true) : (Jvm.Cond.static ({ cls := "java/lang/Math", name := "max", desc := "(II)I" } : Jvm.MethodName)).before a0 Z = true := hw _ (List.mem_of_getElem? (i := 86) rfl)
theorem wd87 {a0 : Array Value} {Z : State} (hw : ∀ d ∈ tables_1, d.before a0 Z = true) : (Jvm.Cond.initialized "java/lang/Math").before a0 Z = true := hw _ (List.mem_of_getElem? (i := 87) rfl)
theorem wd88 {a0 : Array Value} {Z : State} (hw : ∀ d ∈ tables_1, d.before a0 Z = true) : (Jvm.Cond.code ({ cls := "java/lang/Math", name := "max", desc := "(II)I" } : Jvm.MethodName) jdk_29_method_65_code (2 : Nat) (Option.some Jvm.ClassFile.FieldType.int)).before a0 Z = true := hw _ (List.mem_of_getElem? (i := 88) rfl)
theorem wd89 {a0 : Array Value} {Z : State} (hw : ∀ d ∈ tables_1, d.before a0 Z = true) : (Jvm.Cond.methodLink "com/example/minne/minne/SerialQueue$Slots" (29 : Nat) ({ cls := "com/example/minne/minne/SerialQueue$Slots", name := "<init>", desc := "(JI)V" } : Jvm.MethodName)).before a0 Z = true := hw _ (List.mem_of_getElem? (i := 89) rfl)
theorem wd90 {a0 : Array Value} {Z : State} (hw : ∀ d ∈ tables_1, d.before a0 Z = true) : (Jvm.Cond.methodLink "com/example/minne/minne/SerialQueue$Slots" (32 : Nat) ({ cls := "java/lang/System", name := "arraycopy", desc := "(Ljava/lang/Object;ILjava/lang/Object;II)V" } : Jvm.MethodName)).before a0 Z = true := hw _ (List.mem_of_getElem? (i := 90) rfl)
theorem wd91 {a0 : Array Value} {Z : State} (hw : ∀ d ∈ tables_1, d.before a0 Z = true) : (Jvm.Cond.static ({ cls := "java/lang/System", name := "arraycopy", desc := "(Ljava/lang/Object;ILjava/lang/Object;II)V" } : Jvm.MethodName)).before a0 Z = true := hw _ (List.mem_of_getElem? (i := 91) rfl)
theorem wd92 {a0 : Array Value} {Z : State} (hw : ∀ d ∈ tables_1, d.before a0 Z = true) : (Jvm.Cond.initialized "java/lang/System").before a0 Z = true := hw _ (List.mem_of_getElem? (i := 92) rfl)
theorem wd93 {a0 : Array Value} {Z : State} (hw : ∀ d ∈ tables_1, d.before a0 Z = true) : (Jvm.Cond.native ({ cls := "java/lang/System", name := "arraycopy", desc := "(Ljava/lang/Object;ILjava/lang/Object;II)V" } : Jvm.MethodName)).before a0 Z = true := hw _ (List.mem_of_getElem? (i := 93) rfl)
theorem d8_0 : decode prog_12_method_3_code 0 = .ok (.aload_n 0, 1) := by decide +kernel
theorem d8_1 : decode prog_12_method_3_code 1 = .ok (.getfield 29, 3) := by decide +kernel
theorem d8_4 : decode prog_12_method_3_code 4 = .ok (.lstore_n 1, 1) := by decide +kernel
theorem d8_5 : decode prog_12_method_3_code 5 = .ok (.lload_n 1, 1) := by decide +kernel
theorem d8_6 : decode prog_12_method_3_code 6 = .ok (.aload_n 0, 1) := by decide +kernel
theorem d8_7 : decode prog_12_method_3_code 7 = .ok (.getfield 18, 3) := by decide +kernel
theorem d8_10 : decode prog_12_method_3_code 10 = .ok (.lcmp, 1) := by decide +kernel
theorem d8_11 : decode prog_12_method_3_code 11 = .ok (.ifCond .ne 11, 3) := by decide +kernel
theorem d8_22 : decode prog_12_method_3_code 22 = .ok (.aload_n 0, 1) := by decide +kernel
theorem d8_23 : decode prog_12_method_3_code 23 = .ok (.getfield 14, 3) := by decide +kernel
theorem d8_26 : decode prog_12_method_3_code 26 = .ok (.astore_n 3, 1) := by decide +kernel
theorem d8_27 : decode prog_12_method_3_code 27 = .ok (.lload_n 1, 1) := by decide +kernel
theorem d8_28 : decode prog_12_method_3_code 28 = .ok (.aload_n 3, 1) := by decide +kernel
theorem d8_29 : decode prog_12_method_3_code 29 = .ok (.getfield 22, 3) := by decide +kernel
theorem d8_32 : decode prog_12_method_3_code 32 = .ok (.lsub, 1) := by decide +kernel
theorem d8_33 : decode prog_12_method_3_code 33 = .ok (.l2i, 1) := by decide +kernel
theorem d8_34 : decode prog_12_method_3_code 34 = .ok (.istore 4, 2) := by decide +kernel
theorem d8_36 : decode prog_12_method_3_code 36 = .ok (.aload_n 3, 1) := by decide +kernel
theorem d8_37 : decode prog_12_method_3_code 37 = .ok (.getfield 36, 3) := by decide +kernel
theorem d8_40 : decode prog_12_method_3_code 40 = .ok (.iload 4, 2) := by decide +kernel
theorem d8_42 : decode prog_12_method_3_code 42 = .ok (.aaload, 1) := by decide +kernel
theorem d8_43 : decode prog_12_method_3_code 43 = .ok (.astore 5, 2) := by decide +kernel
theorem d8_45 : decode prog_12_method_3_code 45 = .ok (.aload_n 3, 1) := by decide +kernel
theorem d8_46 : decode prog_12_method_3_code 46 = .ok (.getfield 36, 3) := by decide +kernel
theorem d8_49 : decode prog_12_method_3_code 49 = .ok (.iload 4, 2) := by decide +kernel
theorem d8_51 : decode prog_12_method_3_code 51 = .ok (.aconst_null, 1) := by decide +kernel
theorem d8_52 : decode prog_12_method_3_code 52 = .ok (.aastore, 1) := by decide +kernel
theorem d8_53 : decode prog_12_method_3_code 53 = .ok (.aload_n 0, 1) := by decide +kernel
theorem d8_54 : decode prog_12_method_3_code 54 = .ok (.lload_n 1, 1) := by decide +kernel
theorem d8_55 : decode prog_12_method_3_code 55 = .ok (.lconst 1, 1) := by decide +kernel
theorem d8_56 : decode prog_12_method_3_code 56 = .ok (.ladd, 1) := by decide +kernel
theorem d8_57 : decode prog_12_method_3_code 57 = .ok (.putfield 29, 3) := by decide +kernel
theorem d8_60 : decode prog_12_method_3_code 60 = .ok (.aload 5, 2) := by decide +kernel
theorem d8_62 : decode prog_12_method_3_code 62 = .ok (.areturn, 1) := by decide +kernel
theorem pn_8 : plainName "com/example/minne/minne/SerialQueue" = true := by first | (simp [plainName, overriddenIn]; done) | decide +kernel
theorem d7_0 : decode prog_12_method_2_code 0 = .ok (.aload_n 0, 1) := by decide +kernel
theorem d7_1 : decode prog_12_method_2_code 1 = .ok (.getfield 14, 3) := by decide +kernel
theorem d7_4 : decode prog_12_method_2_code 4 = .ok (.astore 4, 2) := by decide +kernel
theorem d7_6 : decode prog_12_method_2_code 6 = .ok (.aload_n 0, 1) := by decide +kernel
theorem d7_7 : decode prog_12_method_2_code 7 = .ok (.getfield 18, 3) := by decide +kernel
theorem d7_10 : decode prog_12_method_2_code 10 = .ok (.lstore 5, 2) := by decide +kernel
theorem d7_12 : decode prog_12_method_2_code 12 = .ok (.lload 5, 2) := by decide +kernel
theorem d7_14 : decode prog_12_method_2_code 14 = .ok (.aload 4, 2) := by decide +kernel
theorem d7_16 : decode prog_12_method_2_code 16 = .ok (.getfield 22, 3) := by decide +kernel
theorem d7_19 : decode prog_12_method_2_code 19 = .ok (.lsub, 1) := by decide +kernel
theorem d7_20 : decode prog_12_method_2_code 20 = .ok (.aload 4, 2) := by decide +kernel
theorem d7_22 : decode prog_12_method_2_code 22 = .ok (.getfield 25, 3) := by decide +kernel
theorem d7_25 : decode prog_12_method_2_code 25 = .ok (.arraylength, 1) := by decide +kernel
theorem d7_26 : decode prog_12_method_2_code 26 = .ok (.i2l, 1) := by decide +kernel
theorem d7_27 : decode prog_12_method_2_code 27 = .ok (.lcmp, 1) := by decide +kernel
theorem d7_28 : decode prog_12_method_2_code 28 = .ok (.ifCond .ne 22, 3) := by decide +kernel
theorem d7_50 : decode prog_12_method_2_code 50 = .ok (.lload 5, 2) := by decide +kernel
theorem d7_52 : decode prog_12_method_2_code 52 = .ok (.aload 4, 2) := by decide +kernel
theorem d7_54 : decode prog_12_method_2_code 54 = .ok (.getfield 22, 3) := by decide +kernel
theorem d7_57 : decode prog_12_method_2_code 57 = .ok (.lsub, 1) := by decide +kernel
theorem d7_58 : decode prog_12_method_2_code 58 = .ok (.l2i, 1) := by decide +kernel
theorem d7_59 : decode prog_12_method_2_code 59 = .ok (.istore 7, 2) := by decide +kernel
theorem d7_61 : decode prog_12_method_2_code 61 = .ok (.aload 4, 2) := by decide +kernel
theorem d7_63 : decode prog_12_method_2_code 63 = .ok (.getfield 25, 3) := by decide +kernel
theorem d7_66 : decode prog_12_method_2_code 66 = .ok (.iload 7, 2) := by decide +kernel
theorem d7_68 : decode prog_12_method_2_code 68 = .ok (.lload_n 1, 1) := by decide +kernel
theorem d7_69 : decode prog_12_method_2_code 69 = .ok (.lastore, 1) := by decide +kernel
theorem d7_70 : decode prog_12_method_2_code 70 = .ok (.aload 4, 2) := by decide +kernel
theorem d7_72 : decode prog_12_method_2_code 72 = .ok (.getfield 36, 3) := by decide +kernel
theorem d7_75 : decode prog_12_method_2_code 75 = .ok (.iload 7, 2) := by decide +kernel
theorem d7_77 : decode prog_12_method_2_code 77 = .ok (.aload_n 3, 1) := by decide +kernel
theorem d7_78 : decode prog_12_method_2_code 78 = .ok (.aastore, 1) := by decide +kernel
theorem d7_79 : decode prog_12_method_2_code 79 = .ok (.aload_n 0, 1) := by decide +kernel
theorem d7_80 : decode prog_12_method_2_code 80 = .ok (.lload 5, 2) := by decide +kernel
theorem d7_82 : decode prog_12_method_2_code 82 = .ok (.lconst 1, 1) := by decide +kernel
theorem d7_83 : decode prog_12_method_2_code 83 = .ok (.ladd, 1) := by decide +kernel
theorem d7_84 : decode prog_12_method_2_code 84 = .ok (.putfield 18, 3) := by decide +kernel
theorem d7_87 : decode prog_12_method_2_code 87 = .ok (.return_, 1) := by decide +kernel
theorem pn_7 : plainName "com/example/minne/minne/SerialQueue" = true := by first | (simp [plainName, overriddenIn]; done) | decide +kernel
theorem d3_0 : decode prog_13_method_1_code 0 = .ok (.aload_n 0, 1) := by decide +kernel
theorem d3_1 : decode prog_13_method_1_code 1 = .ok (.invokespecial 3, 3) := by decide +kernel
theorem d3_4 : decode prog_13_method_1_code 4 = .ok (.aload_n 0, 1) := by decide +kernel
theorem d3_5 : decode prog_13_method_1_code 5 = .ok (.lload_n 1, 1) := by decide +kernel
theorem d3_6 : decode prog_13_method_1_code 6 = .ok (.putfield 9, 3) := by decide +kernel
theorem d3_9 : decode prog_13_method_1_code 9 = .ok (.aload_n 0, 1) := by decide +kernel
theorem d3_10 : decode prog_13_method_1_code 10 = .ok (.iload_n 3, 1) := by decide +kernel
theorem d3_11 : decode prog_13_method_1_code 11 = .ok (.newarray .long, 2) := by decide +kernel
theorem d3_13 : decode prog_13_method_1_code 13 = .ok (.putfield 15, 3) := by decide +kernel
theorem d3_16 : decode prog_13_method_1_code 16 = .ok (.aload_n 0, 1) := by decide +kernel
theorem d3_17 : decode prog_13_method_1_code 17 = .ok (.iload_n 3, 1) := by decide +kernel
theorem d3_18 : decode prog_13_method_1_code 18 = .ok (.anewarray 4, 3) := by decide +kernel
theorem d3_21 : decode prog_13_method_1_code 21 = .ok (.putfield 19, 3) := by decide +kernel
theorem d3_24 : decode prog_13_method_1_code 24 = .ok (.return_, 1) := by decide +kernel
theorem pn_3 : plainName "com/example/minne/minne/SerialQueue$Slots" = true := by first | (simp [plainName, overriddenIn]; done) | decide +kernel
theorem d5_0 : decode prog_12_method_4_code 0 = .ok (.aload_n 0, 1) := by decide +kernel
theorem d5_1 : decode prog_12_method_4_code 1 = .ok (.getfield 29, 3) := by decide +kernel
theorem d5_4 : decode prog_12_method_4_code 4 = .ok (.aload_n 0, 1) := by decide +kernel
theorem d5_5 : decode prog_12_method_4_code 5 = .ok (.getfield 18, 3) := by decide +kernel
theorem d5_8 : decode prog_12_method_4_code 8 = .ok (.lcmp, 1) := by decide +kernel
theorem d5_9 : decode prog_12_method_4_code 9 = .ok (.ifCond .ne 7, 3) := by decide +kernel
theorem d5_12 : decode prog_12_method_4_code 12 = .ok (.iconst 1, 1) := by decide +kernel
theorem d5_13 : decode prog_12_method_4_code 13 = .ok (.goto 4, 3) := by decide +kernel
theorem d5_16 : decode prog_12_method_4_code 16 = .ok (.iconst 0, 1) := by decide +kernel
theorem d5_17 : decode prog_12_method_4_code 17 = .ok (.ireturn, 1) := by decide +kernel
theorem pn_5 : plainName "com/example/minne/minne/SerialQueue" = true := by first | (simp [plainName, overriddenIn]; done) | decide +kernel
theorem d12_0 : decode jdk_29_method_65_code 0 = .ok (.iload_n 0, 1) := by decide +kernel
theorem d12_1 : decode jdk_29_method_65_code 1 = .ok (.iload_n 1, 1) := by decide +kernel
theorem d12_2 : decode jdk_29_method_65_code 2 = .ok (.if_icmp .lt 7, 3) := by decide +kernel
theorem d12_9 : decode jdk_29_method_65_code 9 = .ok (.iload_n 1, 1) := by decide +kernel
theorem d12_5 : decode jdk_29_method_65_code 5 = .ok (.iload_n 0, 1) := by decide +kernel
theorem d12_6 : decode jdk_29_method_65_code 6 = .ok (.goto 4, 3) := by decide +kernel
theorem d12_10 : decode jdk_29_method_65_code 10 = .ok (.ireturn, 1) := by decide +kernel
theorem d1_0 : decode prog_12_method_1_code 0 = .ok (.aload_n 0, 1) := by decide +kernel
theorem d1_1 : decode prog_12_method_1_code 1 = .ok (.invokespecial 1, 3) := by decide +kernel
theorem d1_4 : decode prog_12_method_1_code 4 = .ok (.aload_n 0, 1) := by decide +kernel
theorem d1_5 : decode prog_12_method_1_code 5 = .ok (.new 7, 3) := by decide +kernel
theorem d1_8 : decode prog_12_method_1_code 8 = .ok (.dup, 1) := by decide +kernel
theorem d1_9 : decode prog_12_method_1_code 9 = .ok (.lconst 0, 1) := by decide +kernel
theorem d1_10 : decode prog_12_method_1_code 10 = .ok (.iconst 4, 1) := by decide +kernel
theorem pd_0 : parseMethodDescriptor "(JI)V" = some ⟨[.long, .int], none⟩ := by decide +kernel
theorem d1_11 : decode prog_12_method_1_code 11 = .ok (.invokespecial 11, 3) := by decide +kernel
theorem d1_14 : decode prog_12_method_1_code 14 = .ok (.putfield 14, 3) := by decide +kernel
theorem d1_17 : decode prog_12_method_1_code 17 = .ok (.return_, 1) := by decide +kernel
theorem pn_1 : plainName "com/example/minne/minne/SerialQueue" = true := by first | (simp [plainName, overriddenIn]; done) | decide +kernel
theorem d11_0 : decode prog_13_method_2_code 0 = .ok (.lload_n 3, 1) := by decide +kernel
theorem d11_1 : decode prog_13_method_2_code 1 = .ok (.lload_n 1, 1) := by decide +kernel
theorem d11_2 : decode prog_13_method_2_code 2 = .ok (.lsub, 1) := by decide +kernel
theorem d11_3 : decode prog_13_method_2_code 3 = .ok (.l2i, 1) := by decide +kernel
theorem d11_4 : decode prog_13_method_2_code 4 = .ok (.istore 5, 2) := by decide +kernel
theorem d11_6 : decode prog_13_method_2_code 6 = .ok (.new 10, 3) := by decide +kernel
theorem d11_9 : decode prog_13_method_2_code 9 = .ok (.dup, 1) := by decide +kernel
theorem d11_10 : decode prog_13_method_2_code 10 = .ok (.lload_n 1, 1) := by decide +kernel
theorem d11_11 : decode prog_13_method_2_code 11 = .ok (.iconst 4, 1) := by decide +kernel
theorem d11_12 : decode prog_13_method_2_code 12 = .ok (.iconst 2, 1) := by decide +kernel
theorem d11_13 : decode prog_13_method_2_code 13 = .ok (.iload 5, 2) := by decide +kernel
theorem d11_15 : decode prog_13_method_2_code 15 = .ok (.imul, 1) := by decide +kernel
theorem pd_1 : parseMethodDescriptor "(II)I" = some ⟨[.int, .int], some .int⟩ := by decide +kernel
theorem d11_16 : decode prog_13_method_2_code 16 = .ok (.invokestatic 23, 3) := by decide +kernel
theorem d11_19 : decode prog_13_method_2_code 19 = .ok (.invokespecial 29, 3) := by decide +kernel
theorem d11_22 : decode prog_13_method_2_code 22 = .ok (.astore 6, 2) := by decide +kernel
theorem d11_24 : decode prog_13_method_2_code 24 = .ok (.aload_n 0, 1) := by decide +kernel
theorem d11_25 : decode prog_13_method_2_code 25 = .ok (.getfield 15, 3) := by decide +kernel
theorem d11_28 : decode prog_13_method_2_code 28 = .ok (.lload_n 1, 1) := by decide +kernel
theorem d11_29 : decode prog_13_method_2_code 29 = .ok (.aload_n 0, 1) := by decide +kernel
theorem d11_30 : decode prog_13_method_2_code 30 = .ok (.getfield 9, 3) := by decide +kernel
theorem d11_33 : decode prog_13_method_2_code 33 = .ok (.lsub, 1) := by decide +kernel
theorem d11_34 : decode prog_13_method_2_code 34 = .ok (.l2i, 1) := by decide +kernel
theorem d11_35 : decode prog_13_method_2_code 35 = .ok (.aload 6, 2) := by decide +kernel
theorem d11_37 : decode prog_13_method_2_code 37 = .ok (.getfield 15, 3) := by decide +kernel
theorem d11_40 : decode prog_13_method_2_code 40 = .ok (.iconst 0, 1) := by decide +kernel
theorem d11_41 : decode prog_13_method_2_code 41 = .ok (.iload 5, 2) := by decide +kernel
theorem d11_43 : decode prog_13_method_2_code 43 = .ok (.invokestatic 32, 3) := by decide +kernel
theorem d11_46 : decode prog_13_method_2_code 46 = .ok (.aload_n 0, 1) := by decide +kernel
theorem d11_47 : decode prog_13_method_2_code 47 = .ok (.getfield 19, 3) := by decide +kernel
theorem d11_50 : decode prog_13_method_2_code 50 = .ok (.lload_n 1, 1) := by decide +kernel
theorem d11_51 : decode prog_13_method_2_code 51 = .ok (.aload_n 0, 1) := by decide +kernel
theorem d11_52 : decode prog_13_method_2_code 52 = .ok (.getfield 9, 3) := by decide +kernel
theorem d11_55 : decode prog_13_method_2_code 55 = .ok (.lsub, 1) := by decide +kernel
theorem d11_56 : decode prog_13_method_2_code 56 = .ok (.l2i, 1) := by decide +kernel
theorem d11_57 : decode prog_13_method_2_code 57 = .ok (.aload 6, 2) := by decide +kernel
theorem d11_59 : decode prog_13_method_2_code 59 = .ok (.getfield 19, 3) := by decide +kernel
theorem d11_62 : decode prog_13_method_2_code 62 = .ok (.iconst 0, 1) := by decide +kernel
theorem d11_63 : decode prog_13_method_2_code 63 = .ok (.iload 5, 2) := by decide +kernel
theorem d11_65 : decode prog_13_method_2_code 65 = .ok (.invokestatic 32, 3) := by decide +kernel
theorem d11_68 : decode prog_13_method_2_code 68 = .ok (.aload 6, 2) := by decide +kernel
theorem d11_70 : decode prog_13_method_2_code 70 = .ok (.areturn, 1) := by decide +kernel
theorem pn_11 : plainName "com/example/minne/minne/SerialQueue$Slots" = true := by first | (simp [plainName, overriddenIn]; done) | decide +kernel
theorem d7_31 : decode prog_12_method_2_code 31 = .ok (.aload 4, 2) := by decide +kernel
theorem d7_33 : decode prog_12_method_2_code 33 = .ok (.aload_n 0, 1) := by decide +kernel
theorem d7_34 : decode prog_12_method_2_code 34 = .ok (.getfield 29, 3) := by decide +kernel
theorem d7_37 : decode prog_12_method_2_code 37 = .ok (.lload 5, 2) := by decide +kernel
theorem pd_2 : parseMethodDescriptor "(JJ)Lcom/example/minne/minne/SerialQueue$Slots;" = some ⟨[.long, .long], some (.object "com/example/minne/minne/SerialQueue$Slots")⟩ := by decide +kernel
theorem d7_39 : decode prog_12_method_2_code 39 = .ok (.invokevirtual 32, 3) := by decide +kernel
theorem d7_42 : decode prog_12_method_2_code 42 = .ok (.astore 4, 2) := by decide +kernel
theorem d7_44 : decode prog_12_method_2_code 44 = .ok (.aload_n 0, 1) := by decide +kernel
theorem d7_45 : decode prog_12_method_2_code 45 = .ok (.aload 4, 2) := by decide +kernel
theorem d7_47 : decode prog_12_method_2_code 47 = .ok (.putfield 14, 3) := by decide +kernel
theorem d10_0 : decode jdk_18_method_1_code 0 = .ok (.aload_n 0, 1) := by decide +kernel
theorem d10_1 : decode jdk_18_method_1_code 1 = .ok (.invokespecial 1, 3) := by decide +kernel
theorem d10_4 : decode jdk_18_method_1_code 4 = .ok (.return_, 1) := by decide +kernel
theorem pn_10 : plainName "java/lang/Number" = true := by first | (simp [plainName, overriddenIn]; done) | decide +kernel
theorem d9_0 : decode jdk_33_method_23_code 0 = .ok (.aload_n 0, 1) := by decide +kernel
theorem pd_3 : parseMethodDescriptor "()V" = some ⟨[], none⟩ := by decide +kernel
theorem d9_1 : decode jdk_33_method_23_code 1 = .ok (.invokespecial 202, 3) := by decide +kernel
theorem d9_4 : decode jdk_33_method_23_code 4 = .ok (.aload_n 0, 1) := by decide +kernel
theorem d9_5 : decode jdk_33_method_23_code 5 = .ok (.iload_n 1, 1) := by decide +kernel
theorem d9_6 : decode jdk_33_method_23_code 6 = .ok (.putfield 205, 3) := by decide +kernel
theorem d9_9 : decode jdk_33_method_23_code 9 = .ok (.return_, 1) := by decide +kernel
theorem pn_9 : plainName "java/lang/Integer" = true := by first | (simp [plainName, overriddenIn]; done) | decide +kernel
theorem d4_0 : decode jdk_33_method_22_code 0 = .ok (.iload_n 0, 1) := by decide +kernel
theorem d4_1 : decode jdk_33_method_22_code 1 = .ok (.bipush (-128), 2) := by decide +kernel
theorem d4_3 : decode jdk_33_method_22_code 3 = .ok (.if_icmp .lt 20, 3) := by decide +kernel
theorem d4_23 : decode jdk_33_method_22_code 23 = .ok (.new 1, 3) := by decide +kernel
theorem d4_26 : decode jdk_33_method_22_code 26 = .ok (.dup, 1) := by decide +kernel
theorem d4_27 : decode jdk_33_method_22_code 27 = .ok (.iload_n 0, 1) := by decide +kernel
theorem pd_4 : parseMethodDescriptor "(I)V" = some ⟨[.int], none⟩ := by decide +kernel
theorem d4_28 : decode jdk_33_method_22_code 28 = .ok (.invokespecial 199, 3) := by decide +kernel
theorem d4_31 : decode jdk_33_method_22_code 31 = .ok (.areturn, 1) := by decide +kernel
theorem d4_6 : decode jdk_33_method_22_code 6 = .ok (.iload_n 0, 1) := by decide +kernel
theorem d4_7 : decode jdk_33_method_22_code 7 = .ok (.getstatic 191, 3) := by decide +kernel
theorem d4_10 : decode jdk_33_method_22_code 10 = .ok (.if_icmp .gt 13, 3) := by decide +kernel
theorem d4_13 : decode jdk_33_method_22_code 13 = .ok (.getstatic 195, 3) := by decide +kernel
theorem d4_16 : decode jdk_33_method_22_code 16 = .ok (.iload_n 0, 1) := by decide +kernel
theorem d4_17 : decode jdk_33_method_22_code 17 = .ok (.sipush 128, 3) := by decide +kernel
theorem d4_20 : decode jdk_33_method_22_code 20 = .ok (.iadd, 1) := by decide +kernel
theorem d4_21 : decode jdk_33_method_22_code 21 = .ok (.aaload, 1) := by decide +kernel
theorem d4_22 : decode jdk_33_method_22_code 22 = .ok (.areturn, 1) := by decide +kernel
theorem pn_4 : plainName "java/lang/Integer" = true := by first | (simp [plainName, overriddenIn]; done) | decide +kernel
theorem d6_0 : decode method_3_code 0 = .ok (.iload_n 1, 1) := by decide +kernel
theorem d6_8 : decode method_3_code 8 = .ok (.aload_n 0, 1) := by decide +kernel
theorem d6_9 : decode method_3_code 9 = .ok (.lload_n 3, 1) := by decide +kernel
theorem d6_10 : decode method_3_code 10 = .ok (.aload 5, 2) := by decide +kernel
theorem pd_5 : parseMethodDescriptor "(JLjava/lang/Object;)V" = some ⟨[.long, (.object "java/lang/Object")], none⟩ := by decide +kernel
theorem d6_12 : decode method_3_code 12 = .ok (.invokevirtual 32, 3) := by decide +kernel
theorem d6_15 : decode method_3_code 15 = .ok (.iload_n 2, 1) := by decide +kernel
theorem d6_16 : decode method_3_code 16 = .ok (.iconst 1, 1) := by decide +kernel
theorem d6_17 : decode method_3_code 17 = .ok (.iadd, 1) := by decide +kernel
theorem d6_18 : decode method_3_code 18 = .ok (.ireturn, 1) := by decide +kernel
theorem d6_1 : decode method_3_code 1 = .ok (.ifCond .ne 7, 3) := by decide +kernel
theorem d6_4 : decode method_3_code 4 = .ok (.iload_n 2, 1) := by decide +kernel
theorem d6_5 : decode method_3_code 5 = .ok (.ifCond .ne 14, 3) := by decide +kernel
theorem d6_19 : decode method_3_code 19 = .ok (.aload_n 0, 1) := by decide +kernel
theorem pd_6 : parseMethodDescriptor "()Ljava/lang/Object;" = some ⟨[], some (.object "java/lang/Object")⟩ := by decide +kernel
theorem d6_20 : decode method_3_code 20 = .ok (.invokevirtual 36, 3) := by decide +kernel
theorem d6_23 : decode method_3_code 23 = .ok (.pop, 1) := by decide +kernel
theorem d6_24 : decode method_3_code 24 = .ok (.iload_n 2, 1) := by decide +kernel
theorem d6_25 : decode method_3_code 25 = .ok (.iconst 1, 1) := by decide +kernel
theorem d6_26 : decode method_3_code 26 = .ok (.isub, 1) := by decide +kernel
theorem d6_27 : decode method_3_code 27 = .ok (.ireturn, 1) := by decide +kernel
theorem pn_6 : plainName "com/example/minne/minne/SerialQueueIsEmptyPinLaw" = true := by first | (simp [plainName, overriddenIn]; done) | decide +kernel
theorem pd_7 : parseMethodDescriptor "(I)Ljava/lang/Integer;" = some ⟨[.int], some (.object "java/lang/Integer")⟩ := by decide +kernel
theorem pd_8 : parseMethodDescriptor "()Z" = some ⟨[], some .boolean⟩ := by decide +kernel
theorem pd_9 : parseMethodDescriptor "(Lcom/example/minne/minne/SerialQueue;ZIJLjava/lang/Integer;)I" = some ⟨[(.object "com/example/minne/minne/SerialQueue"), .boolean, .int, .long, (.object "java/lang/Integer")], some .int⟩ := by decide +kernel
theorem pn_0 : plainName "com/example/minne/minne/SerialQueueIsEmptyPinLaw" = true := by first | (simp [plainName, overriddenIn]; done) | decide +kernel
section OwnSync
variable {p : Program} {l : Launch} {e : Env} {R : Room} {s : State} {m : MethodId} {args : Array Value} {below : List Frame} {meth : Method} {c : Code} {Z : State} {y : MethodName} {ret : Option FieldType} {code : ByteArray} {ml : Nat} {ws : List Addr} {T : State} {h : Heap} {cells slots : Nat} {C : Outcome → State → Prop} {a0 : Array Value} {aL : Addr}
def ows_W (p : Program) (l : Launch) (e : Env) (R : Room) (s : State) (m : MethodId) (args : Array Value) (below : List Frame) (meth : Method) (c : Code) (Z : State) (y : MethodName) (ret : Option FieldType) (code : ByteArray) (ml : Nat) (ws : List Addr) (T : State) (h : Heap) (cells slots : Nat) : Prop :=
  (p.tables.exec = Jvm.exec ∧ c.code = code ∧ c.maxLocals = ml ∧ s.vm.findClass y.cls = some m.cls ∧ meth.name = y.name ∧ meth.sig.returnType = ret ∧ meth.locks = true ∧ Z.Warmed39 s.vm) ∧ ∃ locs, Stand p l e R s m args below meth c T locs cells slots ∧ T.heap = h ∧ own_Fw s ws locs
theorem ows_le (W : ows_W p l e R s m args below meth c Z y ret code ml ws T h cells slots) : s.heap.size ≤ h.size := by
  obtain ⟨-, locs, X, rfl, -⟩ := W
  exact X.same.2.1
theorem ows_iadd (W : ows_W p l e R s m args below meth c Z y ret code ml ws T h cells slots) {u v : Int32} {pc : Nat} (pc' : Nat) {L : Array Slot} {st : List Value} (hd : decode code pc = .ok (.iadd, 1))  (hp : pc + 1 = pc') (k : own_Go p e below C T (mkL aL m pc' L (.int (u + v) :: st))) : own_Go p e below C T (mkL aL m pc L (.int v :: .int u :: st)) := by
  have hsz := ows_le W
  obtain ⟨⟨hx, hby, hml, hown, hnm, hrt, hlk, hZ⟩, locs, X, eT, N⟩ := W
  subst hp
  exact own_st (fun _ k => XS.iadd X.here hx rfl (hb hby hd) rfl k) k
theorem ows_ladd (W : ows_W p l e R s m args below meth c Z y ret code ml ws T h cells slots) {u v : Int64} {pc : Nat} (pc' : Nat) {L : Array Slot} {st : List Value} (hd : decode code pc = .ok (.ladd, 1))  (hp : pc + 1 = pc') (k : own_Go p e below C T (mkL aL m pc' L (.long (u + v) :: st))) : own_Go p e below C T (mkL aL m pc L (.long v :: .long u :: st)) := by
  have hsz := ows_le W
  obtain ⟨⟨hx, hby, hml, hown, hnm, hrt, hlk, hZ⟩, locs, X, eT, N⟩ := W
  subst hp
  exact own_st (fun _ k => XS.ladd X.here hx rfl (hb hby hd) rfl k) k
theorem ows_isub (W : ows_W p l e R s m args below meth c Z y ret code ml ws T h cells slots) {u v : Int32} {pc : Nat} (pc' : Nat) {L : Array Slot} {st : List Value} (hd : decode code pc = .ok (.isub, 1))  (hp : pc + 1 = pc') (k : own_Go p e below C T (mkL aL m pc' L (.int (u - v) :: st))) : own_Go p e below C T (mkL aL m pc L (.int v :: .int u :: st)) := by
  have hsz := ows_le W
  obtain ⟨⟨hx, hby, hml, hown, hnm, hrt, hlk, hZ⟩, locs, X, eT, N⟩ := W
  subst hp
  exact own_st (fun _ k => XS.isub X.here hx rfl (hb hby hd) rfl k) k
theorem ows_lsub (W : ows_W p l e R s m args below meth c Z y ret code ml ws T h cells slots) {u v : Int64} {pc : Nat} (pc' : Nat) {L : Array Slot} {st : List Value} (hd : decode code pc = .ok (.lsub, 1))  (hp : pc + 1 = pc') (k : own_Go p e below C T (mkL aL m pc' L (.long (u - v) :: st))) : own_Go p e below C T (mkL aL m pc L (.long v :: .long u :: st)) := by
  have hsz := ows_le W
  obtain ⟨⟨hx, hby, hml, hown, hnm, hrt, hlk, hZ⟩, locs, X, eT, N⟩ := W
  subst hp
  exact own_st (fun _ k => XS.lsub X.here hx rfl (hb hby hd) rfl k) k
theorem ows_imul (W : ows_W p l e R s m args below meth c Z y ret code ml ws T h cells slots) {u v : Int32} {pc : Nat} (pc' : Nat) {L : Array Slot} {st : List Value} (hd : decode code pc = .ok (.imul, 1))  (hp : pc + 1 = pc') (k : own_Go p e below C T (mkL aL m pc' L (.int (u * v) :: st))) : own_Go p e below C T (mkL aL m pc L (.int v :: .int u :: st)) := by
  have hsz := ows_le W
  obtain ⟨⟨hx, hby, hml, hown, hnm, hrt, hlk, hZ⟩, locs, X, eT, N⟩ := W
  subst hp
  exact own_st (fun _ k => XS.imul X.here hx rfl (hb hby hd) rfl k) k
theorem ows_lmul (W : ows_W p l e R s m args below meth c Z y ret code ml ws T h cells slots) {u v : Int64} {pc : Nat} (pc' : Nat) {L : Array Slot} {st : List Value} (hd : decode code pc = .ok (.lmul, 1))  (hp : pc + 1 = pc') (k : own_Go p e below C T (mkL aL m pc' L (.long (u * v) :: st))) : own_Go p e below C T (mkL aL m pc L (.long v :: .long u :: st)) := by
  have hsz := ows_le W
  obtain ⟨⟨hx, hby, hml, hown, hnm, hrt, hlk, hZ⟩, locs, X, eT, N⟩ := W
  subst hp
  exact own_st (fun _ k => XS.lmul X.here hx rfl (hb hby hd) rfl k) k
theorem ows_iand (W : ows_W p l e R s m args below meth c Z y ret code ml ws T h cells slots) {u v : Int32} {pc : Nat} (pc' : Nat) {L : Array Slot} {st : List Value} (hd : decode code pc = .ok (.iand, 1))  (hp : pc + 1 = pc') (k : own_Go p e below C T (mkL aL m pc' L (.int (u &&& v) :: st))) : own_Go p e below C T (mkL aL m pc L (.int v :: .int u :: st)) := by
  have hsz := ows_le W
  obtain ⟨⟨hx, hby, hml, hown, hnm, hrt, hlk, hZ⟩, locs, X, eT, N⟩ := W
  subst hp
  exact own_st (fun _ k => XS.iand X.here hx rfl (hb hby hd) rfl k) k
theorem ows_land (W : ows_W p l e R s m args below meth c Z y ret code ml ws T h cells slots) {u v : Int64} {pc : Nat} (pc' : Nat) {L : Array Slot} {st : List Value} (hd : decode code pc = .ok (.land, 1))  (hp : pc + 1 = pc') (k : own_Go p e below C T (mkL aL m pc' L (.long (u &&& v) :: st))) : own_Go p e below C T (mkL aL m pc L (.long v :: .long u :: st)) := by
  have hsz := ows_le W
  obtain ⟨⟨hx, hby, hml, hown, hnm, hrt, hlk, hZ⟩, locs, X, eT, N⟩ := W
  subst hp
  exact own_st (fun _ k => XS.land X.here hx rfl (hb hby hd) rfl k) k
theorem ows_ior (W : ows_W p l e R s m args below meth c Z y ret code ml ws T h cells slots) {u v : Int32} {pc : Nat} (pc' : Nat) {L : Array Slot} {st : List Value} (hd : decode code pc = .ok (.ior, 1))  (hp : pc + 1 = pc') (k : own_Go p e below C T (mkL aL m pc' L (.int (u ||| v) :: st))) : own_Go p e below C T (mkL aL m pc L (.int v :: .int u :: st)) := by
  have hsz := ows_le W
  obtain ⟨⟨hx, hby, hml, hown, hnm, hrt, hlk, hZ⟩, locs, X, eT, N⟩ := W
  subst hp
  exact own_st (fun _ k => XS.ior X.here hx rfl (hb hby hd) rfl k) k
theorem ows_lor (W : ows_W p l e R s m args below meth c Z y ret code ml ws T h cells slots) {u v : Int64} {pc : Nat} (pc' : Nat) {L : Array Slot} {st : List Value} (hd : decode code pc = .ok (.lor, 1))  (hp : pc + 1 = pc') (k : own_Go p e below C T (mkL aL m pc' L (.long (u ||| v) :: st))) : own_Go p e below C T (mkL aL m pc L (.long v :: .long u :: st)) := by
  have hsz := ows_le W
  obtain ⟨⟨hx, hby, hml, hown, hnm, hrt, hlk, hZ⟩, locs, X, eT, N⟩ := W
  subst hp
  exact own_st (fun _ k => XS.lor X.here hx rfl (hb hby hd) rfl k) k
theorem ows_ixor (W : ows_W p l e R s m args below meth c Z y ret code ml ws T h cells slots) {u v : Int32} {pc : Nat} (pc' : Nat) {L : Array Slot} {st : List Value} (hd : decode code pc = .ok (.ixor, 1))  (hp : pc + 1 = pc') (k : own_Go p e below C T (mkL aL m pc' L (.int (u ^^^ v) :: st))) : own_Go p e below C T (mkL aL m pc L (.int v :: .int u :: st)) := by
  have hsz := ows_le W
  obtain ⟨⟨hx, hby, hml, hown, hnm, hrt, hlk, hZ⟩, locs, X, eT, N⟩ := W
  subst hp
  exact own_st (fun _ k => XS.ixor X.here hx rfl (hb hby hd) rfl k) k
theorem ows_lxor (W : ows_W p l e R s m args below meth c Z y ret code ml ws T h cells slots) {u v : Int64} {pc : Nat} (pc' : Nat) {L : Array Slot} {st : List Value} (hd : decode code pc = .ok (.lxor, 1))  (hp : pc + 1 = pc') (k : own_Go p e below C T (mkL aL m pc' L (.long (u ^^^ v) :: st))) : own_Go p e below C T (mkL aL m pc L (.long v :: .long u :: st)) := by
  have hsz := ows_le W
  obtain ⟨⟨hx, hby, hml, hown, hnm, hrt, hlk, hZ⟩, locs, X, eT, N⟩ := W
  subst hp
  exact own_st (fun _ k => XS.lxor X.here hx rfl (hb hby hd) rfl k) k
theorem ows_ishl (W : ows_W p l e R s m args below meth c Z y ret code ml ws T h cells slots) {u v : Int32} {pc : Nat} (pc' : Nat) {L : Array Slot} {st : List Value} (hd : decode code pc = .ok (.ishl, 1))  (hp : pc + 1 = pc') (k : own_Go p e below C T (mkL aL m pc' L (.int (u <<< (v &&& 31)) :: st))) : own_Go p e below C T (mkL aL m pc L (.int v :: .int u :: st)) := by
  have hsz := ows_le W
  obtain ⟨⟨hx, hby, hml, hown, hnm, hrt, hlk, hZ⟩, locs, X, eT, N⟩ := W
  subst hp
  exact own_st (fun _ k => XS.ishl X.here hx rfl (hb hby hd) rfl k) k
theorem ows_ishr (W : ows_W p l e R s m args below meth c Z y ret code ml ws T h cells slots) {u v : Int32} {pc : Nat} (pc' : Nat) {L : Array Slot} {st : List Value} (hd : decode code pc = .ok (.ishr, 1))  (hp : pc + 1 = pc') (k : own_Go p e below C T (mkL aL m pc' L (.int (u >>> (v &&& 31)) :: st))) : own_Go p e below C T (mkL aL m pc L (.int v :: .int u :: st)) := by
  have hsz := ows_le W
  obtain ⟨⟨hx, hby, hml, hown, hnm, hrt, hlk, hZ⟩, locs, X, eT, N⟩ := W
  subst hp
  exact own_st (fun _ k => XS.ishr X.here hx rfl (hb hby hd) rfl k) k
theorem ows_iushr (W : ows_W p l e R s m args below meth c Z y ret code ml ws T h cells slots) {u v : Int32} {pc : Nat} (pc' : Nat) {L : Array Slot} {st : List Value} (hd : decode code pc = .ok (.iushr, 1))  (hp : pc + 1 = pc') (k : own_Go p e below C T (mkL aL m pc' L (.int ((u.toUInt32 >>> (v &&& 31).toUInt32).toInt32) :: st))) : own_Go p e below C T (mkL aL m pc L (.int v :: .int u :: st)) := by
  have hsz := ows_le W
  obtain ⟨⟨hx, hby, hml, hown, hnm, hrt, hlk, hZ⟩, locs, X, eT, N⟩ := W
  subst hp
  exact own_st (fun _ k => XS.iushr X.here hx rfl (hb hby hd) rfl k) k
theorem ows_lshl (W : ows_W p l e R s m args below meth c Z y ret code ml ws T h cells slots) {u : Int64} {v : Int32} {pc : Nat} (pc' : Nat) {L : Array Slot} {st : List Value} (hd : decode code pc = .ok (.lshl, 1))  (hp : pc + 1 = pc') (k : own_Go p e below C T (mkL aL m pc' L (.long (u <<< (v &&& 0x3f).toInt64) :: st))) : own_Go p e below C T (mkL aL m pc L (.int v :: .long u :: st)) := by
  have hsz := ows_le W
  obtain ⟨⟨hx, hby, hml, hown, hnm, hrt, hlk, hZ⟩, locs, X, eT, N⟩ := W
  subst hp
  exact own_st (fun _ k => XS.lshl X.here hx rfl (hb hby hd) rfl k) k
theorem ows_lshr (W : ows_W p l e R s m args below meth c Z y ret code ml ws T h cells slots) {u : Int64} {v : Int32} {pc : Nat} (pc' : Nat) {L : Array Slot} {st : List Value} (hd : decode code pc = .ok (.lshr, 1))  (hp : pc + 1 = pc') (k : own_Go p e below C T (mkL aL m pc' L (.long (u >>> (v &&& 0x3f).toInt64) :: st))) : own_Go p e below C T (mkL aL m pc L (.int v :: .long u :: st)) := by
  have hsz := ows_le W
  obtain ⟨⟨hx, hby, hml, hown, hnm, hrt, hlk, hZ⟩, locs, X, eT, N⟩ := W
  subst hp
  exact own_st (fun _ k => XS.lshr X.here hx rfl (hb hby hd) rfl k) k
theorem ows_lushr (W : ows_W p l e R s m args below meth c Z y ret code ml ws T h cells slots) {u : Int64} {v : Int32} {pc : Nat} (pc' : Nat) {L : Array Slot} {st : List Value} (hd : decode code pc = .ok (.lushr, 1))  (hp : pc + 1 = pc') (k : own_Go p e below C T (mkL aL m pc' L (.long ((u.toUInt64 >>> (v &&& 0x3f).toInt64.toUInt64).toInt64) :: st))) : own_Go p e below C T (mkL aL m pc L (.int v :: .long u :: st)) := by
  have hsz := ows_le W
  obtain ⟨⟨hx, hby, hml, hown, hnm, hrt, hlk, hZ⟩, locs, X, eT, N⟩ := W
  subst hp
  exact own_st (fun _ k => XS.lushr X.here hx rfl (hb hby hd) rfl k) k
theorem ows_ineg (W : ows_W p l e R s m args below meth c Z y ret code ml ws T h cells slots) {u : Int32} {pc : Nat} (pc' : Nat) {L : Array Slot} {st : List Value} (hd : decode code pc = .ok (.ineg, 1))  (hp : pc + 1 = pc') (k : own_Go p e below C T (mkL aL m pc' L (.int (-u) :: st))) : own_Go p e below C T (mkL aL m pc L (.int u :: st)) := by
  have hsz := ows_le W
  obtain ⟨⟨hx, hby, hml, hown, hnm, hrt, hlk, hZ⟩, locs, X, eT, N⟩ := W
  subst hp
  exact own_st (fun _ k => XS.ineg X.here hx rfl (hb hby hd) rfl k) k
theorem ows_lneg (W : ows_W p l e R s m args below meth c Z y ret code ml ws T h cells slots) {u : Int64} {pc : Nat} (pc' : Nat) {L : Array Slot} {st : List Value} (hd : decode code pc = .ok (.lneg, 1))  (hp : pc + 1 = pc') (k : own_Go p e below C T (mkL aL m pc' L (.long (-u) :: st))) : own_Go p e below C T (mkL aL m pc L (.long u :: st)) := by
  have hsz := ows_le W
  obtain ⟨⟨hx, hby, hml, hown, hnm, hrt, hlk, hZ⟩, locs, X, eT, N⟩ := W
  subst hp
  exact own_st (fun _ k => XS.lneg X.here hx rfl (hb hby hd) rfl k) k
theorem ows_i2l (W : ows_W p l e R s m args below meth c Z y ret code ml ws T h cells slots) {u : Int32} {pc : Nat} (pc' : Nat) {L : Array Slot} {st : List Value} (hd : decode code pc = .ok (.i2l, 1))  (hp : pc + 1 = pc') (k : own_Go p e below C T (mkL aL m pc' L (.long u.toInt64 :: st))) : own_Go p e below C T (mkL aL m pc L (.int u :: st)) := by
  have hsz := ows_le W
  obtain ⟨⟨hx, hby, hml, hown, hnm, hrt, hlk, hZ⟩, locs, X, eT, N⟩ := W
  subst hp
  exact own_st (fun _ k => XS.i2l X.here hx rfl (hb hby hd) rfl k) k
theorem ows_l2i (W : ows_W p l e R s m args below meth c Z y ret code ml ws T h cells slots) {u : Int64} {pc : Nat} (pc' : Nat) {L : Array Slot} {st : List Value} (hd : decode code pc = .ok (.l2i, 1))  (hp : pc + 1 = pc') (k : own_Go p e below C T (mkL aL m pc' L (.int u.toInt32 :: st))) : own_Go p e below C T (mkL aL m pc L (.long u :: st)) := by
  have hsz := ows_le W
  obtain ⟨⟨hx, hby, hml, hown, hnm, hrt, hlk, hZ⟩, locs, X, eT, N⟩ := W
  subst hp
  exact own_st (fun _ k => XS.l2i X.here hx rfl (hb hby hd) rfl k) k
theorem ows_i2b (W : ows_W p l e R s m args below meth c Z y ret code ml ws T h cells slots) {u : Int32} {pc : Nat} (pc' : Nat) {L : Array Slot} {st : List Value} (hd : decode code pc = .ok (.i2b, 1))  (hp : pc + 1 = pc') (k : own_Go p e below C T (mkL aL m pc' L (.int u.toInt8.toInt32 :: st))) : own_Go p e below C T (mkL aL m pc L (.int u :: st)) := by
  have hsz := ows_le W
  obtain ⟨⟨hx, hby, hml, hown, hnm, hrt, hlk, hZ⟩, locs, X, eT, N⟩ := W
  subst hp
  exact own_st (fun _ k => XS.i2b X.here hx rfl (hb hby hd) rfl k) k
theorem ows_i2c (W : ows_W p l e R s m args below meth c Z y ret code ml ws T h cells slots) {u : Int32} {pc : Nat} (pc' : Nat) {L : Array Slot} {st : List Value} (hd : decode code pc = .ok (.i2c, 1))  (hp : pc + 1 = pc') (k : own_Go p e below C T (mkL aL m pc' L (.int u.toUInt32.toUInt16.toUInt32.toInt32 :: st))) : own_Go p e below C T (mkL aL m pc L (.int u :: st)) := by
  have hsz := ows_le W
  obtain ⟨⟨hx, hby, hml, hown, hnm, hrt, hlk, hZ⟩, locs, X, eT, N⟩ := W
  subst hp
  exact own_st (fun _ k => XS.i2c X.here hx rfl (hb hby hd) rfl k) k
theorem ows_lcmp (W : ows_W p l e R s m args below meth c Z y ret code ml ws T h cells slots) {u v : Int64} {pc : Nat} (pc' : Nat) {L : Array Slot} {st : List Value} (hd : decode code pc = .ok (.lcmp, 1))  (hp : pc + 1 = pc') (k : own_Go p e below C T (mkL aL m pc' L (.int (lcmpW u v) :: st))) : own_Go p e below C T (mkL aL m pc L (.long v :: .long u :: st)) := by
  have hsz := ows_le W
  obtain ⟨⟨hx, hby, hml, hown, hnm, hrt, hlk, hZ⟩, locs, X, eT, N⟩ := W
  subst hp
  exact own_st (fun _ k => XS.lcmp X.here hx rfl (hb hby hd) rfl k) k
theorem ows_idiv (W : ows_W p l e R s m args below meth c Z y ret code ml ws T h cells slots) {u v : Int32} {pc : Nat} (pc' : Nat) {L : Array Slot} {st : List Value} (hd : decode code pc = .ok (.idiv, 1)) (hv : v ≠ 0) (hp : pc + 1 = pc') (k : own_Go p e below C T (mkL aL m pc' L (.int (u / v) :: st))) : own_Go p e below C T (mkL aL m pc L (.int v :: .int u :: st)) := by
  have hsz := ows_le W
  obtain ⟨⟨hx, hby, hml, hown, hnm, hrt, hlk, hZ⟩, locs, X, eT, N⟩ := W
  subst hp
  exact own_st (fun _ k => XS.idiv X.here hx rfl (hb hby hd) rfl hv k) k
theorem ows_ldiv (W : ows_W p l e R s m args below meth c Z y ret code ml ws T h cells slots) {u v : Int64} {pc : Nat} (pc' : Nat) {L : Array Slot} {st : List Value} (hd : decode code pc = .ok (.ldiv, 1)) (hv : v ≠ 0) (hp : pc + 1 = pc') (k : own_Go p e below C T (mkL aL m pc' L (.long (u / v) :: st))) : own_Go p e below C T (mkL aL m pc L (.long v :: .long u :: st)) := by
  have hsz := ows_le W
  obtain ⟨⟨hx, hby, hml, hown, hnm, hrt, hlk, hZ⟩, locs, X, eT, N⟩ := W
  subst hp
  exact own_st (fun _ k => XS.ldiv X.here hx rfl (hb hby hd) rfl hv k) k
theorem ows_lrem (W : ows_W p l e R s m args below meth c Z y ret code ml ws T h cells slots) {u v : Int64} {pc : Nat} (pc' : Nat) {L : Array Slot} {st : List Value} (hd : decode code pc = .ok (.lrem, 1)) (hv : v ≠ 0) (hp : pc + 1 = pc') (k : own_Go p e below C T (mkL aL m pc' L (.long (u - (u / v) * v) :: st))) : own_Go p e below C T (mkL aL m pc L (.long v :: .long u :: st)) := by
  have hsz := ows_le W
  obtain ⟨⟨hx, hby, hml, hown, hnm, hrt, hlk, hZ⟩, locs, X, eT, N⟩ := W
  subst hp
  exact own_st (fun _ k => XS.lrem X.here hx rfl (hb hby hd) rfl hv k) k
theorem ows_irem (W : ows_W p l e R s m args below meth c Z y ret code ml ws T h cells slots) {u v : Int32} {pc : Nat} (pc' : Nat) {L : Array Slot} {st : List Value} (hd : decode code pc = .ok (.irem, 1)) (hv : v ≠ 0) (hp : pc + 1 = pc') (k : own_Go p e below C T (mkL aL m pc' L (.int (u % v) :: st))) : own_Go p e below C T (mkL aL m pc L (.int v :: .int u :: st)) := by
  have hsz := ows_le W
  obtain ⟨⟨hx, hby, hml, hown, hnm, hrt, hlk, hZ⟩, locs, X, eT, N⟩ := W
  subst hp
  exact own_st (fun _ k => iremM X hx rfl (hb hby hd) rfl hv k) k
theorem ows_iconst (W : ows_W p l e R s m args below meth c Z y ret code ml ws T h cells slots) {i : Int} (v : Int32) {pc : Nat} (pc' : Nat) {L : Array Slot} {st : List Value} (hd : decode code pc = .ok (.iconst i, 1)) (hv : Int32.ofInt i = v) (hp : pc + 1 = pc') (k : own_Go p e below C T (mkL aL m pc' L (.int v :: st))) : own_Go p e below C T (mkL aL m pc L st) := by
  have hsz := ows_le W
  obtain ⟨⟨hx, hby, hml, hown, hnm, hrt, hlk, hZ⟩, locs, X, eT, N⟩ := W
  subst hp hv
  exact own_st (fun _ k => XS.iconst X.here hx rfl (hb hby hd) k) k
theorem ows_bipush (W : ows_W p l e R s m args below meth c Z y ret code ml ws T h cells slots) {i : Int} (v : Int32) {pc : Nat} (pc' : Nat) {L : Array Slot} {st : List Value} (hd : decode code pc = .ok (.bipush i, 2)) (hv : (Int8.ofInt i).toInt32 = v) (hp : pc + 2 = pc') (k : own_Go p e below C T (mkL aL m pc' L (.int v :: st))) : own_Go p e below C T (mkL aL m pc L st) := by
  have hsz := ows_le W
  obtain ⟨⟨hx, hby, hml, hown, hnm, hrt, hlk, hZ⟩, locs, X, eT, N⟩ := W
  subst hp hv
  exact own_st (fun _ k => XS.bipush X.here hx rfl (hb hby hd) k) k
theorem ows_sipush (W : ows_W p l e R s m args below meth c Z y ret code ml ws T h cells slots) {i : Int} (v : Int32) {pc : Nat} (pc' : Nat) {L : Array Slot} {st : List Value} (hd : decode code pc = .ok (.sipush i, 3)) (hv : (Int16.ofInt i).toInt32 = v) (hp : pc + 3 = pc') (k : own_Go p e below C T (mkL aL m pc' L (.int v :: st))) : own_Go p e below C T (mkL aL m pc L st) := by
  have hsz := ows_le W
  obtain ⟨⟨hx, hby, hml, hown, hnm, hrt, hlk, hZ⟩, locs, X, eT, N⟩ := W
  subst hp hv
  exact own_st (fun _ k => XS.sipush X.here hx rfl (hb hby hd) k) k
theorem ows_lconst (W : ows_W p l e R s m args below meth c Z y ret code ml ws T h cells slots) {i : Fin 2} (v : Int64) {pc : Nat} (pc' : Nat) {L : Array Slot} {st : List Value} (hd : decode code pc = .ok (.lconst i, 1)) (hv : Int64.ofNat i.val = v) (hp : pc + 1 = pc') (k : own_Go p e below C T (mkL aL m pc' L (.long v :: st))) : own_Go p e below C T (mkL aL m pc L st) := by
  have hsz := ows_le W
  obtain ⟨⟨hx, hby, hml, hown, hnm, hrt, hlk, hZ⟩, locs, X, eT, N⟩ := W
  subst hp hv
  exact own_st (fun _ k => XS.lconst X.here hx rfl (hb hby hd) k) k
theorem ows_aconst_null (W : ows_W p l e R s m args below meth c Z y ret code ml ws T h cells slots) {pc : Nat} (pc' : Nat) {L : Array Slot} {st : List Value} (hd : decode code pc = .ok (.aconst_null, 1)) (hp : pc + 1 = pc') (k : own_Go p e below C T (mkL aL m pc' L (.null :: st))) : own_Go p e below C T (mkL aL m pc L st) := by
  have hsz := ows_le W
  obtain ⟨⟨hx, hby, hml, hown, hnm, hrt, hlk, hZ⟩, locs, X, eT, N⟩ := W
  subst hp
  exact own_st (fun _ k => XS.aconstNull X.here hx rfl (hb hby hd) k) k
theorem ows_ldcInt (W : ows_W p l e R s m args below meth c Z y ret code ml ws T h cells slots) {i : Nat} {v : Int32} {pc : Nat} (pc' : Nat) {L : Array Slot} {st : List Value} (hd : decode code pc = .ok (.ldc i, 2)) (w : (Jvm.Cond.constant y.cls i v).before a0 Z = true) (hp : pc + 2 = pc') (k : own_Go p e below C T (mkL aL m pc' L (.int v :: st))) : own_Go p e below C T (mkL aL m pc L st) := by
  have hsz := ows_le W
  obtain ⟨⟨hx, hby, hml, hown, hnm, hrt, hlk, hZ⟩, locs, X, eT, N⟩ := W
  subst hp
  exact own_st (fun _ k => X.ldcInt hx hown (mvT hZ w) (g := mkL aL m pc L st) rfl (hb hby hd) _ k) k
theorem ows_ldc2Long (W : ows_W p l e R s m args below meth c Z y ret code ml ws T h cells slots) {i : Nat} {v : Int64} {pc : Nat} (pc' : Nat) {L : Array Slot} {st : List Value} (hd : decode code pc = .ok (.ldc2_w i, 3)) (w : (Jvm.Cond.constantLong y.cls i v).before a0 Z = true) (hp : pc + 3 = pc') (k : own_Go p e below C T (mkL aL m pc' L (.long v :: st))) : own_Go p e below C T (mkL aL m pc L st) := by
  have hsz := ows_le W
  obtain ⟨⟨hx, hby, hml, hown, hnm, hrt, hlk, hZ⟩, locs, X, eT, N⟩ := W
  subst hp
  exact own_st (fun _ k => X.ldc2Long hx hown (mvT hZ w) (g := mkL aL m pc L st) rfl (hb hby hd) _ k) k
theorem ows_iloadN (W : ows_W p l e R s m args below meth c Z y ret code ml ws T h cells slots) {i : Fin 4} {v : Int32} {pc : Nat} (pc' : Nat) {L : Array Slot} {st : List Value} (hd : decode code pc = .ok (.iload_n i, 1)) (hl : L[i.val]? = some (.val (.int v))) (hp : pc + 1 = pc') (k : own_Go p e below C T (mkL aL m pc' L (.int v :: st))) : own_Go p e below C T (mkL aL m pc L st) := by
  have hsz := ows_le W
  obtain ⟨⟨hx, hby, hml, hown, hnm, hrt, hlk, hZ⟩, locs, X, eT, N⟩ := W
  subst hp
  exact own_st (fun _ k => XS.iloadN X.here hx rfl (hb hby hd) hl k) k
theorem ows_iload (W : ows_W p l e R s m args below meth c Z y ret code ml ws T h cells slots) {i : Nat} {v : Int32} {pc : Nat} (pc' : Nat) {L : Array Slot} {st : List Value} (hd : decode code pc = .ok (.iload i, 2)) (hl : L[i]? = some (.val (.int v))) (hp : pc + 2 = pc') (k : own_Go p e below C T (mkL aL m pc' L (.int v :: st))) : own_Go p e below C T (mkL aL m pc L st) := by
  have hsz := ows_le W
  obtain ⟨⟨hx, hby, hml, hown, hnm, hrt, hlk, hZ⟩, locs, X, eT, N⟩ := W
  subst hp
  exact own_st (fun _ k => XS.iload X.here hx rfl (hb hby hd) hl k) k
theorem ows_lloadN (W : ows_W p l e R s m args below meth c Z y ret code ml ws T h cells slots) {i : Fin 4} {v : Int64} {pc : Nat} (pc' : Nat) {L : Array Slot} {st : List Value} (hd : decode code pc = .ok (.lload_n i, 1)) (hl : L[i.val]? = some (.val (.long v))) (hp : pc + 1 = pc') (k : own_Go p e below C T (mkL aL m pc' L (.long v :: st))) : own_Go p e below C T (mkL aL m pc L st) := by
  have hsz := ows_le W
  obtain ⟨⟨hx, hby, hml, hown, hnm, hrt, hlk, hZ⟩, locs, X, eT, N⟩ := W
  subst hp
  exact own_st (fun _ k => XS.lloadN X.here hx rfl (hb hby hd) hl k) k
theorem ows_lload (W : ows_W p l e R s m args below meth c Z y ret code ml ws T h cells slots) {i : Nat} {v : Int64} {pc : Nat} (pc' : Nat) {L : Array Slot} {st : List Value} (hd : decode code pc = .ok (.lload i, 2)) (hl : L[i]? = some (.val (.long v))) (hp : pc + 2 = pc') (k : own_Go p e below C T (mkL aL m pc' L (.long v :: st))) : own_Go p e below C T (mkL aL m pc L st) := by
  have hsz := ows_le W
  obtain ⟨⟨hx, hby, hml, hown, hnm, hrt, hlk, hZ⟩, locs, X, eT, N⟩ := W
  subst hp
  exact own_st (fun _ k => XS.lload X.here hx rfl (hb hby hd) hl k) k
theorem ows_aloadN (W : ows_W p l e R s m args below meth c Z y ret code ml ws T h cells slots) {i : Fin 4} {v : Value} {pc : Nat} (pc' : Nat) {L : Array Slot} {st : List Value} (hd : decode code pc = .ok (.aload_n i, 1)) (hl : L[i.val]? = some (.val v)) (hv : v.isRef = true) (hp : pc + 1 = pc') (k : own_Go p e below C T (mkL aL m pc' L (v :: st))) : own_Go p e below C T (mkL aL m pc L st) := by
  have hsz := ows_le W
  obtain ⟨⟨hx, hby, hml, hown, hnm, hrt, hlk, hZ⟩, locs, X, eT, N⟩ := W
  subst hp
  exact own_st (fun _ k => XS.aloadN X.here hx rfl (hb hby hd) hl hv k) k
theorem ows_aload (W : ows_W p l e R s m args below meth c Z y ret code ml ws T h cells slots) {i : Nat} {v : Value} {pc : Nat} (pc' : Nat) {L : Array Slot} {st : List Value} (hd : decode code pc = .ok (.aload i, 2)) (hl : L[i]? = some (.val v)) (hv : v.isRef = true) (hp : pc + 2 = pc') (k : own_Go p e below C T (mkL aL m pc' L (v :: st))) : own_Go p e below C T (mkL aL m pc L st) := by
  have hsz := ows_le W
  obtain ⟨⟨hx, hby, hml, hown, hnm, hrt, hlk, hZ⟩, locs, X, eT, N⟩ := W
  subst hp
  exact own_st (fun _ k => XS.aload X.here hx rfl (hb hby hd) hl hv k) k
theorem ows_istoreN (W : ows_W p l e R s m args below meth c Z y ret code ml ws T h cells slots) {i : Fin 4} {v : Int32} {pc : Nat} (pc' : Nat) {L : Array Slot} (L' : Array Slot) {st : List Value} (hd : decode code pc = .ok (.istore_n i, 1)) (hl : storeLocals L i.val (.int v) = some L') (hp : pc + 1 = pc') (k : own_Go p e below C T (mkL aL m pc' L' st)) : own_Go p e below C T (mkL aL m pc L (.int v :: st)) := by
  have hsz := ows_le W
  obtain ⟨⟨hx, hby, hml, hown, hnm, hrt, hlk, hZ⟩, locs, X, eT, N⟩ := W
  subst hp
  exact own_st (fun _ k => XS.istoreN X.here hx rfl (hb hby hd) rfl hl k) k
theorem ows_istore (W : ows_W p l e R s m args below meth c Z y ret code ml ws T h cells slots) {i : Nat} {v : Int32} {pc : Nat} (pc' : Nat) {L : Array Slot} (L' : Array Slot) {st : List Value} (hd : decode code pc = .ok (.istore i, 2)) (hl : storeLocals L i (.int v) = some L') (hp : pc + 2 = pc') (k : own_Go p e below C T (mkL aL m pc' L' st)) : own_Go p e below C T (mkL aL m pc L (.int v :: st)) := by
  have hsz := ows_le W
  obtain ⟨⟨hx, hby, hml, hown, hnm, hrt, hlk, hZ⟩, locs, X, eT, N⟩ := W
  subst hp
  exact own_st (fun _ k => XS.istore X.here hx rfl (hb hby hd) rfl hl k) k
theorem ows_lstoreN (W : ows_W p l e R s m args below meth c Z y ret code ml ws T h cells slots) {i : Fin 4} {v : Int64} {pc : Nat} (pc' : Nat) {L : Array Slot} (L' : Array Slot) {st : List Value} (hd : decode code pc = .ok (.lstore_n i, 1)) (hl : storeLocals L i.val (.long v) = some L') (hp : pc + 1 = pc') (k : own_Go p e below C T (mkL aL m pc' L' st)) : own_Go p e below C T (mkL aL m pc L (.long v :: st)) := by
  have hsz := ows_le W
  obtain ⟨⟨hx, hby, hml, hown, hnm, hrt, hlk, hZ⟩, locs, X, eT, N⟩ := W
  subst hp
  exact own_st (fun _ k => XS.lstoreN X.here hx rfl (hb hby hd) rfl hl k) k
theorem ows_lstore (W : ows_W p l e R s m args below meth c Z y ret code ml ws T h cells slots) {i : Nat} {v : Int64} {pc : Nat} (pc' : Nat) {L : Array Slot} (L' : Array Slot) {st : List Value} (hd : decode code pc = .ok (.lstore i, 2)) (hl : storeLocals L i (.long v) = some L') (hp : pc + 2 = pc') (k : own_Go p e below C T (mkL aL m pc' L' st)) : own_Go p e below C T (mkL aL m pc L (.long v :: st)) := by
  have hsz := ows_le W
  obtain ⟨⟨hx, hby, hml, hown, hnm, hrt, hlk, hZ⟩, locs, X, eT, N⟩ := W
  subst hp
  exact own_st (fun _ k => XS.lstore X.here hx rfl (hb hby hd) rfl hl k) k
theorem ows_astoreN (W : ows_W p l e R s m args below meth c Z y ret code ml ws T h cells slots) {i : Fin 4} {v : Value} {pc : Nat} (pc' : Nat) {L : Array Slot} (L' : Array Slot) {st : List Value} (hd : decode code pc = .ok (.astore_n i, 1)) (hv : v.isRef = true) (hl : storeLocals L i.val v = some L') (hp : pc + 1 = pc') (k : own_Go p e below C T (mkL aL m pc' L' st)) : own_Go p e below C T (mkL aL m pc L (v :: st)) := by
  have hsz := ows_le W
  obtain ⟨⟨hx, hby, hml, hown, hnm, hrt, hlk, hZ⟩, locs, X, eT, N⟩ := W
  subst hp
  exact own_st (fun _ k => XS.astoreN X.here hx rfl (hb hby hd) rfl hv hl k) k
theorem ows_astore (W : ows_W p l e R s m args below meth c Z y ret code ml ws T h cells slots) {i : Nat} {v : Value} {pc : Nat} (pc' : Nat) {L : Array Slot} (L' : Array Slot) {st : List Value} (hd : decode code pc = .ok (.astore i, 2)) (hv : v.isRef = true) (hl : storeLocals L i v = some L') (hp : pc + 2 = pc') (k : own_Go p e below C T (mkL aL m pc' L' st)) : own_Go p e below C T (mkL aL m pc L (v :: st)) := by
  have hsz := ows_le W
  obtain ⟨⟨hx, hby, hml, hown, hnm, hrt, hlk, hZ⟩, locs, X, eT, N⟩ := W
  subst hp
  exact own_st (fun _ k => XS.astore X.here hx rfl (hb hby hd) rfl hv hl k) k
theorem ows_iinc (W : ows_W p l e R s m args below meth c Z y ret code ml ws T h cells slots) {i : Nat} {cst : Int} {v : Int32} (v' : Int32) {pc : Nat} (pc' : Nat) {L : Array Slot} (L' : Array Slot) {st : List Value} (hd : decode code pc = .ok (.iinc i cst, 3)) (hv : L[i]? = some (.val (.int v))) (hv' : v + Int32.ofInt cst = v') (hl : storeLocals L i (.int v') = some L') (hp : pc + 3 = pc') (k : own_Go p e below C T (mkL aL m pc' L' st)) : own_Go p e below C T (mkL aL m pc L st) := by
  have hsz := ows_le W
  obtain ⟨⟨hx, hby, hml, hown, hnm, hrt, hlk, hZ⟩, locs, X, eT, N⟩ := W
  subst hp hv'
  exact own_st (fun _ k => XS.iinc X.here hx rfl (hb hby hd) hv hl k) k
theorem ows_dup (W : ows_W p l e R s m args below meth c Z y ret code ml ws T h cells slots) {v : Value} {pc : Nat} (pc' : Nat) {L : Array Slot} {st : List Value} (hd : decode code pc = .ok (.dup, 1)) (hc : v.category = 1) (hp : pc + 1 = pc') (k : own_Go p e below C T (mkL aL m pc' L (v :: v :: st))) : own_Go p e below C T (mkL aL m pc L (v :: st)) := by
  have hsz := ows_le W
  obtain ⟨⟨hx, hby, hml, hown, hnm, hrt, hlk, hZ⟩, locs, X, eT, N⟩ := W
  subst hp
  exact own_st (fun _ k => XS.dup X.here hx rfl (hb hby hd) rfl hc k) k
theorem ows_pop (W : ows_W p l e R s m args below meth c Z y ret code ml ws T h cells slots) {v : Value} {pc : Nat} (pc' : Nat) {L : Array Slot} {st : List Value} (hd : decode code pc = .ok (.pop, 1)) (hc : v.category = 1) (hp : pc + 1 = pc') (k : own_Go p e below C T (mkL aL m pc' L st)) : own_Go p e below C T (mkL aL m pc L (v :: st)) := by
  have hsz := ows_le W
  obtain ⟨⟨hx, hby, hml, hown, hnm, hrt, hlk, hZ⟩, locs, X, eT, N⟩ := W
  subst hp
  exact own_st (fun _ k => XS.pop X.here hx rfl (hb hby hd) rfl hc k) k
theorem ows_dup_x1 (W : ows_W p l e R s m args below meth c Z y ret code ml ws T h cells slots) {u v : Value} {pc : Nat} (pc' : Nat) {L : Array Slot} {st : List Value} (hd : decode code pc = .ok (.dup_x1, 1)) (hc : v.category = 1) (hc' : u.category = 1) (hp : pc + 1 = pc') (k : own_Go p e below C T (mkL aL m pc' L (v :: u :: v :: st))) : own_Go p e below C T (mkL aL m pc L (v :: u :: st)) := by
  have hsz := ows_le W
  obtain ⟨⟨hx, hby, hml, hown, hnm, hrt, hlk, hZ⟩, locs, X, eT, N⟩ := W
  subst hp
  exact own_st (fun _ k => XS.dupX1 X.here hx rfl (hb hby hd) rfl hc hc' k) k
theorem ows_goto (W : ows_W p l e R s m args below meth c Z y ret code ml ws T h cells slots) {o : Int} {pc : Nat} (pc' : Nat) {L : Array Slot} {st : List Value} (hd : decode code pc = .ok (.goto o, 3)) (ho : 0 ≤ (pc : Int) + o) (hp : ((pc : Int) + o).toNat = pc') (k : own_Go p e below C T (mkL aL m pc' L st)) : own_Go p e below C T (mkL aL m pc L st) := by
  have hsz := ows_le W
  obtain ⟨⟨hx, hby, hml, hown, hnm, hrt, hlk, hZ⟩, locs, X, eT, N⟩ := W
  exact own_st (fun _ k => XS.goto X.here hx rfl rfl (hb hby hd) ho hp k) k
theorem ows_ifY (W : ows_W p l e R s m args below meth c Z y ret code ml ws T h cells slots) {cd : ClassFile.Cond} {o : Int} {u : Int32} {pc : Nat} (pc' : Nat) {L : Array Slot} {st : List Value} (hd : decode code pc = .ok (.ifCond cd o, 3)) (hc : ifCond.holds cd u = true) (ho : 0 ≤ (pc : Int) + o) (hp : ((pc : Int) + o).toNat = pc') (k : own_Go p e below C T (mkL aL m pc' L st)) : own_Go p e below C T (mkL aL m pc L (.int u :: st)) := by
  have hsz := ows_le W
  obtain ⟨⟨hx, hby, hml, hown, hnm, hrt, hlk, hZ⟩, locs, X, eT, N⟩ := W
  exact own_st (fun _ k => XS.ifYes X.here hx rfl rfl (hb hby hd) rfl hc ho hp k) k
theorem ows_ifN (W : ows_W p l e R s m args below meth c Z y ret code ml ws T h cells slots) {cd : ClassFile.Cond} {o : Int} {u : Int32} {pc : Nat} (pc' : Nat) {L : Array Slot} {st : List Value} (hd : decode code pc = .ok (.ifCond cd o, 3)) (hc : ifCond.holds cd u = false) (hp : pc + 3 = pc') (k : own_Go p e below C T (mkL aL m pc' L st)) : own_Go p e below C T (mkL aL m pc L (.int u :: st)) := by
  have hsz := ows_le W
  obtain ⟨⟨hx, hby, hml, hown, hnm, hrt, hlk, hZ⟩, locs, X, eT, N⟩ := W
  subst hp
  exact own_st (fun _ k => XS.ifNo X.here hx rfl (hb hby hd) rfl hc k) k
theorem ows_icmpY (W : ows_W p l e R s m args below meth c Z y ret code ml ws T h cells slots) {cd : ClassFile.Cond} {o : Int} {u v : Int32} {pc : Nat} (pc' : Nat) {L : Array Slot} {st : List Value} (hd : decode code pc = .ok (.if_icmp cd o, 3)) (hc : if_icmp.holds cd u v = true) (ho : 0 ≤ (pc : Int) + o) (hp : ((pc : Int) + o).toNat = pc') (k : own_Go p e below C T (mkL aL m pc' L st)) : own_Go p e below C T (mkL aL m pc L (.int v :: .int u :: st)) := by
  have hsz := ows_le W
  obtain ⟨⟨hx, hby, hml, hown, hnm, hrt, hlk, hZ⟩, locs, X, eT, N⟩ := W
  exact own_st (fun _ k => XS.icmpYes X.here hx rfl rfl (hb hby hd) rfl hc ho hp k) k
theorem ows_icmpN (W : ows_W p l e R s m args below meth c Z y ret code ml ws T h cells slots) {cd : ClassFile.Cond} {o : Int} {u v : Int32} {pc : Nat} (pc' : Nat) {L : Array Slot} {st : List Value} (hd : decode code pc = .ok (.if_icmp cd o, 3)) (hc : if_icmp.holds cd u v = false) (hp : pc + 3 = pc') (k : own_Go p e below C T (mkL aL m pc' L st)) : own_Go p e below C T (mkL aL m pc L (.int v :: .int u :: st)) := by
  have hsz := ows_le W
  obtain ⟨⟨hx, hby, hml, hown, hnm, hrt, hlk, hZ⟩, locs, X, eT, N⟩ := W
  subst hp
  exact own_st (fun _ k => XS.icmpNo X.here hx rfl (hb hby hd) rfl hc k) k
theorem ows_ifnullY (W : ows_W p l e R s m args below meth c Z y ret code ml ws T h cells slots) {o : Int}  {pc : Nat} (pc' : Nat) {L : Array Slot} {st : List Value} (hd : decode code pc = .ok (.ifnull o, 3)) (ho : 0 ≤ (pc : Int) + o) (hp : ((pc : Int) + o).toNat = pc') (k : own_Go p e below C T (mkL aL m pc' L st)) : own_Go p e below C T (mkL aL m pc L (.null :: st)) := by
  have hsz := ows_le W
  obtain ⟨⟨hx, hby, hml, hown, hnm, hrt, hlk, hZ⟩, locs, X, eT, N⟩ := W
  exact own_st (fun _ k => XS.ifnullYes X.here hx rfl rfl (hb hby hd) rfl ho hp k) k
theorem ows_ifnullN (W : ows_W p l e R s m args below meth c Z y ret code ml ws T h cells slots) {o : Int} {b : Addr} {pc : Nat} (pc' : Nat) {L : Array Slot} {st : List Value} (hd : decode code pc = .ok (.ifnull o, 3)) (hp : pc + 3 = pc') (k : own_Go p e below C T (mkL aL m pc' L st)) : own_Go p e below C T (mkL aL m pc L (.ref b :: st)) := by
  have hsz := ows_le W
  obtain ⟨⟨hx, hby, hml, hown, hnm, hrt, hlk, hZ⟩, locs, X, eT, N⟩ := W
  subst hp
  exact own_st (fun _ k => XS.ifnullNo X.here hx rfl (hb hby hd) rfl k) k
theorem ows_ifnonnullY (W : ows_W p l e R s m args below meth c Z y ret code ml ws T h cells slots) {o : Int} {b : Addr} {pc : Nat} (pc' : Nat) {L : Array Slot} {st : List Value} (hd : decode code pc = .ok (.ifnonnull o, 3)) (ho : 0 ≤ (pc : Int) + o) (hp : ((pc : Int) + o).toNat = pc') (k : own_Go p e below C T (mkL aL m pc' L st)) : own_Go p e below C T (mkL aL m pc L (.ref b :: st)) := by
  have hsz := ows_le W
  obtain ⟨⟨hx, hby, hml, hown, hnm, hrt, hlk, hZ⟩, locs, X, eT, N⟩ := W
  exact own_st (fun _ k => XS.ifnonnullYes X.here hx rfl rfl (hb hby hd) rfl ho hp k) k
theorem ows_ifnonnullN (W : ows_W p l e R s m args below meth c Z y ret code ml ws T h cells slots) {o : Int}  {pc : Nat} (pc' : Nat) {L : Array Slot} {st : List Value} (hd : decode code pc = .ok (.ifnonnull o, 3)) (hp : pc + 3 = pc') (k : own_Go p e below C T (mkL aL m pc' L st)) : own_Go p e below C T (mkL aL m pc L (.null :: st)) := by
  have hsz := ows_le W
  obtain ⟨⟨hx, hby, hml, hown, hnm, hrt, hlk, hZ⟩, locs, X, eT, N⟩ := W
  subst hp
  exact own_st (fun _ k => XS.ifnonnullNo X.here hx rfl (hb hby hd) rfl k) k
theorem ows_acmp (W : ows_W p l e R s m args below meth c Z y ret code ml ws T h cells slots) {cd : ACond} {o : Int} {u v : Value} {same : Bool} {pc : Nat} (pc' : Nat) {L : Array Slot} {st : List Value} (hd : decode code pc = .ok (.if_acmp cd o, 3)) (h1 : u.isRef = true) (h2 : v.isRef = true) (hq : decide (u = v) = same) (ho : 0 ≤ (pc : Int) + o) (hp : pc' = if acV cd same = true then ((pc : Int) + o).toNat else pc + 3) (k : own_Go p e below C T (mkL aL m pc' L st)) : own_Go p e below C T (mkL aL m pc L (v :: u :: st)) := by
  have hsz := ows_le W
  obtain ⟨⟨hx, hby, hml, hown, hnm, hrt, hlk, hZ⟩, locs, X, eT, N⟩ := W
  exact own_st (fun _ k => Jvm.RoadKit.acmp X hx rfl h1 h2 rfl (hb hby hd) rfl hq ho hp k) k
theorem ows_baload (W : ows_W p l e R s m args below meth c Z y ret code ml ws T h cells slots) {a : Addr} {z : Int32} {n : Nat} {f : Nat → Value} (k : Nat) (v : Int32) {pc : Nat} (pc' : Nat) {L : Array Slot} {st : List Value} (hd : decode code pc = .ok (.baload, 1)) (F : own_A Z h a .byte n f) (hz : z.toInt = (k : Int)) (hk : k < n) (hv : f k = (.int v)) (hp : pc + 1 = pc') (kk : own_Go p e below C T (mkL aL m pc' L ((.int v) :: st))) : own_Go p e below C T (mkL aL m pc L (.int z :: .ref a :: st)) := by
  have hsz := ows_le W
  obtain ⟨⟨hx, hby, hml, hown, hnm, hrt, hlk, hZ⟩, locs, X, eT, N⟩ := W
  subst hp eT
  obtain ⟨cl, A, hs, hf⟩ := F
  have hat : cl.slots[z.toNatClampNeg]? = some (.int v) := by rw [own_cl hz, hf k hk, hv]
  exact own_st (fun t q => X.baloadBytes hx A.1 (State.isArrayOf_alike hZ.alike A.2.1) A.2.2 (own_in hz hs hk) hat (g := mkL aL m pc L (.int z :: .ref a :: st)) rfl rfl (hb hby hd) t q) kk
theorem ows_iaload (W : ows_W p l e R s m args below meth c Z y ret code ml ws T h cells slots) {a : Addr} {z : Int32} {n : Nat} {f : Nat → Value} (k : Nat) (v : Int32) {pc : Nat} (pc' : Nat) {L : Array Slot} {st : List Value} (hd : decode code pc = .ok (.iaload, 1)) (F : own_A Z h a .int n f) (hz : z.toInt = (k : Int)) (hk : k < n) (hv : f k = (.int v)) (hp : pc + 1 = pc') (kk : own_Go p e below C T (mkL aL m pc' L ((.int v) :: st))) : own_Go p e below C T (mkL aL m pc L (.int z :: .ref a :: st)) := by
  have hsz := ows_le W
  obtain ⟨⟨hx, hby, hml, hown, hnm, hrt, hlk, hZ⟩, locs, X, eT, N⟩ := W
  subst hp eT
  obtain ⟨cl, A, hs, hf⟩ := F
  have hat : cl.slots[z.toNatClampNeg]? = some (.int v) := by rw [own_cl hz, hf k hk, hv]
  exact own_st (fun t q => X.iaload hx A.1 (State.isArrayOf_alike hZ.alike A.2.1) A.2.2 (own_in hz hs hk) hat (g := mkL aL m pc L (.int z :: .ref a :: st)) rfl rfl (hb hby hd) t q) kk
theorem ows_laload (W : ows_W p l e R s m args below meth c Z y ret code ml ws T h cells slots) {a : Addr} {z : Int32} {n : Nat} {f : Nat → Value} (k : Nat) (v : Int64) {pc : Nat} (pc' : Nat) {L : Array Slot} {st : List Value} (hd : decode code pc = .ok (.laload, 1)) (F : own_A Z h a .long n f) (hz : z.toInt = (k : Int)) (hk : k < n) (hv : f k = (.long v)) (hp : pc + 1 = pc') (kk : own_Go p e below C T (mkL aL m pc' L ((.long v) :: st))) : own_Go p e below C T (mkL aL m pc L (.int z :: .ref a :: st)) := by
  have hsz := ows_le W
  obtain ⟨⟨hx, hby, hml, hown, hnm, hrt, hlk, hZ⟩, locs, X, eT, N⟩ := W
  subst hp eT
  obtain ⟨cl, A, hs, hf⟩ := F
  have hat : cl.slots[z.toNatClampNeg]? = some (.long v) := by rw [own_cl hz, hf k hk, hv]
  exact own_st (fun t q => X.laload hx A.1 (State.isArrayOf_alike hZ.alike A.2.1) A.2.2 (own_in hz hs hk) hat (g := mkL aL m pc L (.int z :: .ref a :: st)) rfl rfl (hb hby hd) t q) kk
theorem ows_caload (W : ows_W p l e R s m args below meth c Z y ret code ml ws T h cells slots) {a : Addr} {z : Int32} {n : Nat} {f : Nat → Value} (k : Nat) (v : Int32) {pc : Nat} (pc' : Nat) {L : Array Slot} {st : List Value} (hd : decode code pc = .ok (.caload, 1)) (F : own_A Z h a .char n f) (hz : z.toInt = (k : Int)) (hk : k < n) (hv : f k = (.int v)) (hp : pc + 1 = pc') (kk : own_Go p e below C T (mkL aL m pc' L ((.int v) :: st))) : own_Go p e below C T (mkL aL m pc L (.int z :: .ref a :: st)) := by
  have hsz := ows_le W
  obtain ⟨⟨hx, hby, hml, hown, hnm, hrt, hlk, hZ⟩, locs, X, eT, N⟩ := W
  subst hp eT
  obtain ⟨cl, A, hs, hf⟩ := F
  have hat : cl.slots[z.toNatClampNeg]? = some (.int v) := by rw [own_cl hz, hf k hk, hv]
  exact own_st (fun t q => X.caload hx A.1 (State.isArrayOf_alike hZ.alike A.2.1) A.2.2 (own_in hz hs hk) hat (g := mkL aL m pc L (.int z :: .ref a :: st)) rfl rfl (hb hby hd) t q) kk
theorem ows_bastore (W : ows_W p l e R s m args below meth c Z y ret code ml ws T h cells slots) {a : Addr} {z : Int32} {n : Nat} {f : Nat → Value} {xx : Int32} (k : Nat) {pc : Nat} (pc' : Nat) {L : Array Slot} {st : List Value} (hd : decode code pc = .ok (.bastore, 1)) (F : own_A Z h a .byte n f) (ha : a ∈ ws ∨ s.heap.size ≤ a) (hz : z.toInt = (k : Int)) (hk : k < n) (hp : pc + 1 = pc') (kk : ∀ T' h', ows_W p l e R s m args below meth c Z y ret code ml ws T' h' cells slots → Wr h h' a k (.int xx.toInt8.toInt32) → own_A Z h' a .byte n (own_upd f k (.int xx.toInt8.toInt32)) → own_Go p e below C T' (mkL aL m pc' L st)) : own_Go p e below C T (mkL aL m pc L (.int xx :: .int z :: .ref a :: st)) := by
  have hsz := ows_le W
  obtain ⟨⟨hx, hby, hml, hown, hnm, hrt, hlk, hZ⟩, locs, X, eT, N⟩ := W
  subst hp
  have F' := F
  obtain ⟨cl, A, hs, hf⟩ := F
  obtain ⟨T', h', X', e', W', st'⟩ := stB X hx hZ eT A (j := z) (own_in hz hs hk) (g := mkL aL m pc L (.int xx :: .int z :: .ref a :: st)) rfl rfl (hb hby hd)
  rw [own_cl hz] at W'
  exact own_st st' (kk T' h' ⟨⟨hx, hby, hml, hown, hnm, hrt, hlk, hZ⟩, _, X', e', own_Fw_snoc N ha⟩ W' (F'.set W' hk))
theorem ows_iastore (W : ows_W p l e R s m args below meth c Z y ret code ml ws T h cells slots) {a : Addr} {z : Int32} {n : Nat} {f : Nat → Value} {xx : Int32} (k : Nat) {pc : Nat} (pc' : Nat) {L : Array Slot} {st : List Value} (hd : decode code pc = .ok (.iastore, 1)) (F : own_A Z h a .int n f) (ha : a ∈ ws ∨ s.heap.size ≤ a) (hz : z.toInt = (k : Int)) (hk : k < n) (hp : pc + 1 = pc') (kk : ∀ T' h', ows_W p l e R s m args below meth c Z y ret code ml ws T' h' cells slots → Wr h h' a k (.int xx) → own_A Z h' a .int n (own_upd f k (.int xx)) → own_Go p e below C T' (mkL aL m pc' L st)) : own_Go p e below C T (mkL aL m pc L (.int xx :: .int z :: .ref a :: st)) := by
  have hsz := ows_le W
  obtain ⟨⟨hx, hby, hml, hown, hnm, hrt, hlk, hZ⟩, locs, X, eT, N⟩ := W
  subst hp
  have F' := F
  obtain ⟨cl, A, hs, hf⟩ := F
  obtain ⟨T', h', X', e', W', st'⟩ := stI X hx hZ eT A (j := z) (own_in hz hs hk) (g := mkL aL m pc L (.int xx :: .int z :: .ref a :: st)) rfl rfl (hb hby hd)
  rw [own_cl hz] at W'
  exact own_st st' (kk T' h' ⟨⟨hx, hby, hml, hown, hnm, hrt, hlk, hZ⟩, _, X', e', own_Fw_snoc N ha⟩ W' (F'.set W' hk))
theorem ows_lastore (W : ows_W p l e R s m args below meth c Z y ret code ml ws T h cells slots) {a : Addr} {z : Int32} {n : Nat} {f : Nat → Value} {xx : Int64} (k : Nat) {pc : Nat} (pc' : Nat) {L : Array Slot} {st : List Value} (hd : decode code pc = .ok (.lastore, 1)) (F : own_A Z h a .long n f) (ha : a ∈ ws ∨ s.heap.size ≤ a) (hz : z.toInt = (k : Int)) (hk : k < n) (hp : pc + 1 = pc') (kk : ∀ T' h', ows_W p l e R s m args below meth c Z y ret code ml ws T' h' cells slots → Wr h h' a k (.long xx) → own_A Z h' a .long n (own_upd f k (.long xx)) → own_Go p e below C T' (mkL aL m pc' L st)) : own_Go p e below C T (mkL aL m pc L (.long xx :: .int z :: .ref a :: st)) := by
  have hsz := ows_le W
  obtain ⟨⟨hx, hby, hml, hown, hnm, hrt, hlk, hZ⟩, locs, X, eT, N⟩ := W
  subst hp
  have F' := F
  obtain ⟨cl, A, hs, hf⟩ := F
  obtain ⟨T', h', X', e', W', st'⟩ := stJ X hx hZ eT A (j := z) (own_in hz hs hk) (g := mkL aL m pc L (.long xx :: .int z :: .ref a :: st)) rfl rfl (hb hby hd)
  rw [own_cl hz] at W'
  exact own_st st' (kk T' h' ⟨⟨hx, hby, hml, hown, hnm, hrt, hlk, hZ⟩, _, X', e', own_Fw_snoc N ha⟩ W' (F'.set W' hk))
theorem ows_castore (W : ows_W p l e R s m args below meth c Z y ret code ml ws T h cells slots) {a : Addr} {z : Int32} {n : Nat} {f : Nat → Value} {xx : Int32} (k : Nat) {pc : Nat} (pc' : Nat) {L : Array Slot} {st : List Value} (hd : decode code pc = .ok (.castore, 1)) (F : own_A Z h a .char n f) (ha : a ∈ ws ∨ s.heap.size ≤ a) (hz : z.toInt = (k : Int)) (hk : k < n) (hp : pc + 1 = pc') (kk : ∀ T' h', ows_W p l e R s m args below meth c Z y ret code ml ws T' h' cells slots → Wr h h' a k (.int xx.toUInt32.toUInt16.toUInt32.toInt32) → own_A Z h' a .char n (own_upd f k (.int xx.toUInt32.toUInt16.toUInt32.toInt32)) → own_Go p e below C T' (mkL aL m pc' L st)) : own_Go p e below C T (mkL aL m pc L (.int xx :: .int z :: .ref a :: st)) := by
  have hsz := ows_le W
  obtain ⟨⟨hx, hby, hml, hown, hnm, hrt, hlk, hZ⟩, locs, X, eT, N⟩ := W
  subst hp
  have F' := F
  obtain ⟨cl, A, hs, hf⟩ := F
  obtain ⟨T', h', X', e', W', st'⟩ := stC X hx hZ eT A (j := z) (own_in hz hs hk) (g := mkL aL m pc L (.int xx :: .int z :: .ref a :: st)) rfl rfl (hb hby hd)
  rw [own_cl hz] at W'
  exact own_st st' (kk T' h' ⟨⟨hx, hby, hml, hown, hnm, hrt, hlk, hZ⟩, _, X', e', own_Fw_snoc N ha⟩ W' (F'.set W' hk))
theorem ows_arraylength (W : ows_W p l e R s m args below meth c Z y ret code ml ws T h cells slots) {a : Addr} {ty : FieldType} {n : Nat} {f : Nat → Value} (z : Int32) {pc : Nat} (pc' : Nat) {L : Array Slot} {st : List Value} (hd : decode code pc = .ok (.arraylength, 1)) (F : own_A Z h a ty n f) (hz : n.toInt32 = z) (hp : pc + 1 = pc') (k : own_Go p e below C T (mkL aL m pc' L (.int z :: st))) : own_Go p e below C T (mkL aL m pc L (.ref a :: st)) := by
  have hsz := ows_le W
  obtain ⟨⟨hx, hby, hml, hown, hnm, hrt, hlk, hZ⟩, locs, X, eT, N⟩ := W
  subst hp eT
  obtain ⟨cl, A, hs, hf⟩ := F
  subst hs hz
  exact own_st (fun t q => X.arraylength hx A.1 (State.isArrayOf_alike hZ.alike A.2.1) (g := mkL aL m pc L (.ref a :: st)) rfl rfl (hb hby hd) t q) k
theorem ows_anewarray (W : ows_W p l e R s m args below meth c Z y ret code ml ws T h cells slots) {C0 : String} {i : Nat} {z : Int32} (N cap : Nat) {pc : Nat} (pc' : Nat) {L : Array Slot} {st : List Value} (hd : decode code pc = .ok (.anewarray i, 3)) (w1 : (Jvm.Cond.classLink y.cls i C0).before a0 Z = true) (w2 : (Jvm.Cond.arrayOver (.object C0)).before a0 Z = true) (hz : z.toInt = (N : Int)) (hcap : N ≤ cap) (hb8 : cap * 8 ≤ 536870912) (hc : cells + 1 ≤ R.cells) (hl : slots + cap ≤ R.slots) (hp : pc + 3 = pc') (k : ∀ T' h' a, ows_W p l e R s m args below meth c Z y ret code ml ws T' h' (cells + 1) (slots + cap) → Ext h h' → a = h.size → s.heap.size ≤ a → own_R Z h' a C0 N (fun _ => .null) → own_Go p e below C T' (mkL aL m pc' L (.ref a :: st))) : own_Go p e below C T (mkL aL m pc L (.int z :: st)) := by
  have hsz := ows_le W
  obtain ⟨⟨hx, hby, hml, hown, hnm, hrt, hlk, hZ⟩, locs, X, eT, Nf⟩ := W
  subst hp
  have hcl := own_cl hz
  obtain ⟨T', h', cA, X', e', E', A', O', st'⟩ := newR X hx hZ hown w1 w2 eT (g := mkL aL m pc L (.int z :: st)) rfl (hb hby hd) rfl (own_nn hz) (cap := cap) (by rw [hcl]; exact hcap) hb8 hc hl
  refine own_st st' (k T' h' h.size ⟨⟨hx, hby, hml, hown, hnm, hrt, hlk, hZ⟩, locs, X', e', Nf⟩ E' rfl hsz ⟨_, A', O', by rw [sz_new, hcl], fun j hj => ?_⟩)
  simp [newA, hcl, hj, defaultValue]
theorem ows_aastore (W : ows_W p l e R s m args below meth c Z y ret code ml ws T h cells slots) {a b : Addr} {C0 : String} {z : Int32} {n : Nat} {f : Nat → Value} (k : Nat) {pc : Nat} (pc' : Nat) {L : Array Slot} {st : List Value} (hd : decode code pc = .ok (.aastore, 1)) (F : own_R Z h a C0 n f) (I : Ins Z h b C0 true) (ha : a ∈ ws ∨ s.heap.size ≤ a) (hz : z.toInt = (k : Int)) (hk : k < n) (hp : pc + 1 = pc') (kk : ∀ T' h', ows_W p l e R s m args below meth c Z y ret code ml ws T' h' cells slots → Wr h h' a k (.ref b) → own_R Z h' a C0 n (own_upd f k (.ref b)) → own_Go p e below C T' (mkL aL m pc' L st)) : own_Go p e below C T (mkL aL m pc L (.ref b :: .int z :: .ref a :: st)) := by
  have hsz := ows_le W
  obtain ⟨⟨hx, hby, hml, hown, hnm, hrt, hlk, hZ⟩, locs, X, eT, N⟩ := W
  subst hp
  have F' := F
  obtain ⟨cl, A, O, hs, hf⟩ := F
  obtain ⟨T', h', X', e', W', st'⟩ := stR X hx hZ eT A (j := z) (own_in hz hs hk) rfl (Sto.of A O I) (g := mkL aL m pc L (.ref b :: .int z :: .ref a :: st)) rfl rfl (hb hby hd)
  rw [own_cl hz] at W'
  exact own_st st' (kk T' h' ⟨⟨hx, hby, hml, hown, hnm, hrt, hlk, hZ⟩, _, X', e', own_Fw_snoc N ha⟩ W' (F'.set W' hk))
theorem ows_aaload (W : ows_W p l e R s m args below meth c Z y ret code ml ws T h cells slots) {a : Addr} {C0 : String} {z : Int32} {n : Nat} {f : Nat → Value} (k : Nat) (v : Value) {pc : Nat} (pc' : Nat) {L : Array Slot} {st : List Value} (hd : decode code pc = .ok (.aaload, 1)) (F : own_R Z h a C0 n f) (hz : z.toInt = (k : Int)) (hk : k < n) (hv : f k = v) (hp : pc + 1 = pc') (kk : own_Go p e below C T (mkL aL m pc' L (v :: st))) : own_Go p e below C T (mkL aL m pc L (.int z :: .ref a :: st)) := by
  have hsz := ows_le W
  obtain ⟨⟨hx, hby, hml, hown, hnm, hrt, hlk, hZ⟩, locs, X, eT, N⟩ := W
  subst hp eT
  obtain ⟨cl, A, O, hs, hf⟩ := F
  have hat : cl.slots[z.toNatClampNeg]? = some v := by rw [own_cl hz, hf k hk, hv]
  exact own_st (fun t q => X.aaload hx A.1 (State.isArrayOf_alike hZ.alike A.2.1) rfl A.2.2 (own_in hz hs hk) hat (g := mkL aL m pc L (.int z :: .ref a :: st)) rfl rfl (hb hby hd) t q) kk
theorem ows_getfield (W : ows_W p l e R s m args below meth c Z y ret code ml ws T h cells slots) {O n d : String} {i : Nat} {a : Addr} {v : Value} {pc : Nat} (pc' : Nat) {L : Array Slot} {st : List Value} (hd : decode code pc = .ok (.getfield i, 3)) (w : (Jvm.Cond.fieldLink y.cls i O n d).before a0 Z = true) (F : Fld Z h a O n d v) (hp : pc + 3 = pc') (k : ∀ T', ows_W p l e R s m args below meth c Z y ret code ml ws T' h cells slots → own_Go p e below C T' (mkL aL m pc' L (v :: st))) : own_Go p e below C T (mkL aL m pc L (.ref a :: st)) := by
  have hsz := ows_le W
  obtain ⟨⟨hx, hby, hml, hown, hnm, hrt, hlk, hZ⟩, locs, X, eT, N⟩ := W
  subst hp
  obtain ⟨T', X', e', st'⟩ := getF X hx hZ hown (host := "") (Or.inl w) Via.refl eT F (g := mkL aL m pc L (.ref a :: st)) rfl rfl (hb hby hd)
  exact own_st st' (k T' ⟨⟨hx, hby, hml, hown, hnm, hrt, hlk, hZ⟩, locs, X', e', N⟩)
theorem ows_getfieldN (W : ows_W p l e R s m args below meth c Z y ret code ml ws T h cells slots) {O n d host : String} {i : Nat} {a : Addr} {v : Value} {pc : Nat} (pc' : Nat) {L : Array Slot} {st : List Value} (hd : decode code pc = .ok (.getfield i, 3)) (w : (Jvm.Cond.fieldLinkNest y.cls i O n d host).before a0 Z = true) (F : Fld Z h a O n d v) (hp : pc + 3 = pc') (k : ∀ T', ows_W p l e R s m args below meth c Z y ret code ml ws T' h cells slots → own_Go p e below C T' (mkL aL m pc' L (v :: st))) : own_Go p e below C T (mkL aL m pc L (.ref a :: st)) := by
  have hsz := ows_le W
  obtain ⟨⟨hx, hby, hml, hown, hnm, hrt, hlk, hZ⟩, locs, X, eT, N⟩ := W
  subst hp
  obtain ⟨T', X', e', st'⟩ := getF X hx hZ hown (host := host) (Or.inr w) Via.refl eT F (g := mkL aL m pc L (.ref a :: st)) rfl rfl (hb hby hd)
  exact own_st st' (k T' ⟨⟨hx, hby, hml, hown, hnm, hrt, hlk, hZ⟩, locs, X', e', N⟩)
theorem ows_getstatic (W : ows_W p l e R s m args below meth c Z y ret code ml ws T h cells slots) {O n d : String} {i : Nat} {v : Value} {pc : Nat} (pc' : Nat) {L : Array Slot} {st : List Value} (hd : decode code pc = .ok (.getstatic i, 3)) (w : (Jvm.Cond.fieldLink y.cls i O n d).before a0 Z = true) (F : Sta Z h O n d v) (hp : pc + 3 = pc') (k : ∀ T', ows_W p l e R s m args below meth c Z y ret code ml ws T' h cells slots → own_Go p e below C T' (mkL aL m pc' L (v :: st))) : own_Go p e below C T (mkL aL m pc L st) := by
  have hsz := ows_le W
  obtain ⟨⟨hx, hby, hml, hown, hnm, hrt, hlk, hZ⟩, locs, X, eT, N⟩ := W
  subst hp
  obtain ⟨T', X', e', st'⟩ := getS X hx hZ hown (host := "") w Via.refl eT F (g := mkL aL m pc L st) rfl (hb hby hd)
  exact own_st st' (k T' ⟨⟨hx, hby, hml, hown, hnm, hrt, hlk, hZ⟩, locs, X', e', N⟩)
theorem ows_putfield (W : ows_W p l e R s m args below meth c Z y ret code ml ws T h cells slots) {O n d C0 : String} {i kk : Nat} {ty : FieldType} {a : Addr} {v old : Value} (v' : Value) {pc : Nat} (pc' : Nat) {L : Array Slot} {st : List Value} (hd : decode code pc = .ok (.putfield i, 3)) (w : (Jvm.Cond.fieldLink y.cls i O n d).before a0 Z = true) (F : Fld Z h a O n d old) (E : Exa Z h a C0) (La : (Jvm.Cond.lays C0 O n d).before a0 Z = true ∨ ((Jvm.Cond.laysFinal C0 O n d).before a0 Z = true ∧ y.cls = O ∧ y.name = "<init>")) (wi : (Jvm.Cond.instantiable C0 kk).before a0 Z = true) (ha : a ∈ ws ∨ s.heap.size ≤ a) (hty : parseFieldDescriptor d = some ty) (hn : narrow ty v = v') (hf : fits ty v' = true) (hp : pc + 3 = pc') (k : ∀ T' h', ows_W p l e R s m args below meth c Z y ret code ml ws T' h' cells slots → Wr h h' a (Jvm.RoadKit.slotOf Z O n d) v' → Fld Z h' a O n d v' → own_Go p e below C T' (mkL aL m pc' L st)) : own_Go p e below C T (mkL aL m pc L (v :: .ref a :: st)) := by
  have hsz := ows_le W
  obtain ⟨⟨hx, hby, hml, hown, hnm, hrt, hlk, hZ⟩, locs, X, eT, N⟩ := W
  subst hp
  obtain ⟨T', h', X', e', W', st'⟩ := putFN X hx hZ hown w Via.refl eT F E (by rw [hnm]; exact La) wi hty hn hf (g := mkL aL m pc L (v :: .ref a :: st)) rfl rfl (hb hby hd)
  exact own_st st' (k T' h' ⟨⟨hx, hby, hml, hown, hnm, hrt, hlk, hZ⟩, _, X', e', own_Fw_snoc N ha⟩ W' (F.same W'))
theorem ows_callV (W : ows_W p l e R s m args below meth c Z y ret code ml ws T h cells slots) {C0 : String} {i : Nat} {yc zc : MethodName} {bytes : ByteArray} {maxL : Nat} {rt : Option FieldType} {rm : Room} {Q : Option Value → Heap → Prop} {ps : List FieldType} {rr : Option FieldType} {a : Addr} {wc' : List Addr} (A : List Value) (wt : Nat) {pc : Nat} (pc' : Nat) {L : Array Slot} {st : List Value} (hd : decode code pc = .ok (.invokevirtual i, 3)) (wl : (Jvm.Cond.methodLink y.cls i yc).before a0 Z = true) (wd : (Jvm.Cond.declares yc).before a0 Z = true) (nf : NotFace s yc) (wse : (Jvm.Cond.selects C0 yc zc).before a0 Z = true) (wst : (Jvm.Cond.instanceMethod zc).before a0 Z = true) (wz : (Jvm.Cond.initialized zc.cls).before a0 Z = true) (wc : (Jvm.Cond.code zc bytes maxL rt).before a0 Z = true) (hy : yc.cls ≠ "java/lang/invoke/MethodHandle" ∧ yc.cls ≠ "java/lang/invoke/VarHandle") (E : Exa Z h a C0) (hM : own_M l Z [] zc bytes maxL rt rm wc' (.ref a :: A).toArray h Q) (hws : ∀ b ∈ wc', b ∈ ws ∨ s.heap.size ≤ b) (hL : L.size = ml) (hds : parseMethodDescriptor yc.desc = some ⟨ps, rr⟩) (hA : A.length = ps.length) (hwt : 2 + (st.map fun v => v.category).sum ≤ wt) (hf : rm.frames + 1 ≤ R.frames) (hlo : wt + (maxL + 11) + rm.locals ≤ R.locals) (hc : cells + rm.cells ≤ R.cells) (hs : slots + rm.slots ≤ R.slots) (hp : pc + 3 = pc') (k : ∀ T' h' v, ows_W p l e R s m args below meth c Z y ret code ml ws T' h' (cells + rm.cells) (slots + rm.slots) → Keep h h' wc' → (rm.cells = 0 → wc' = [] → h' = h) → Q v h' → own_Go p e below C T' (mkL aL m pc' L (v.toList ++ st))) : own_Go p e below C T (mkL aL m pc L (A.reverse ++ .ref a :: st)) := by
  have hsz := ows_le W
  obtain ⟨⟨hx, hby, hml, hown, hnm, hrt, hlk, hZ⟩, locs, X, eT, N⟩ := W
  subst hp
  obtain ⟨cq, kq, qa, qb, qc⟩ := isOf hZ eT E
  obtain ⟨_, _, ⟨T', L', k', n'⟩, -, X', ⟨Lc', hQ', l', y', z'⟩, st'⟩ := X.virtualBack hx (y := yc) (z := zc) hown (mvT hZ wl) (mvT hZ wd) nf (mvT hZ wse) (mvT hZ wst) hy (backOf (W := wt) hM hZ wc wz hf hlo) qa qc (g := mkL aL m pc L (A.reverse ++ .ref a :: st)) rfl (by rw [hml]; exact hL) (Steps.refl _) (argsL := A) (rest := st) (lenOf hds hA) rfl (by show 2 * 1 + _ ≤ _; omega) (hb hby hd) (fun _ _ => ⟨rfl, eT, hc, hs⟩)
  dsimp only [Pt.U, Pt.locs, Pt.cells, Pt.slots] at X' l' y' z' st' hQ'
  subst l' y' z'
  exact own_tr st' (k T' _ _ ⟨⟨hx, hby, hml, hown, hnm, hrt, hlk, hZ⟩, _, X', rfl, own_Fw_app N hQ'.1 hws hsz⟩ hQ'.2.1 hQ'.2.2.1 hQ'.2.2.2)
theorem ows_nf (W : ows_W p l e R s m args below meth c Z y ret code ml ws T h cells slots) {C0 : String} {yc : MethodName} (wse : (Jvm.Cond.selects C0 yc yc).before a0 Z = true) : NotFace s yc := by
  have hsz := ows_le W
  obtain ⟨⟨hx, hby, hml, hown, hnm, hrt, hlk, hZ⟩, locs, X, eT, N⟩ := W
  exact notFace_of_selects (args := #[]) (mvT hZ wse)
end OwnSync
section OwnSync2
variable {p : Program} {l : Launch} {e : Env} {R : Room} {s : State} {m : MethodId} {args : Array Value} {below : List Frame} {meth : Method} {c : Code} {Z : State} {y : MethodName} {ret : Option FieldType} {code : ByteArray} {ml : Nat} {ws : List Addr} {T : State} {h : Heap} {cells slots : Nat} {C : Outcome → State → Prop} {a0 : Array Value} {aL : Addr}
/-- the contract of a synchronized body: its receiver aL is free before and after -/
def ows_M (l : Launch) (Z : State) (y : MethodName) (bytes : ByteArray) (maxL : Nat) (ret : Option FieldType) (rm : Room) (ws : List Addr) (aL : Addr) (A : Array Value) (h0 : Heap) (Q : Option Value → Heap → Prop) : Prop :=
  MetFree l y (head1 (Jvm.Cond.codeSync y bytes maxL ret :: [Jvm.Cond.instanceMethod y]) rm) (fun a U => a = A ∧ Z.Warmed39 U.vm ∧ U.heap = h0 ∧ Unt h0 aL) (fun _ _ _ _ _ => True) (fun _ U o U' => ∃ v L, o = .returned v ∧ own_Q ws rm h0 (fun v h => Q v h ∧ Unt h aL) v U'.heap L ∧ FrameEnd U o U' L rm.cells rm.slots)
/-- what a return from the synchronized body asks -/
def ows_R (p : Program) (l : Launch) (e : Env) (R : Room) (s : State) (m : MethodId) (args : Array Value) (below : List Frame) (meth : Method) (c : Code) (Z : State) (y : MethodName) (ret : Option FieldType) (code : ByteArray) (ml : Nat) (ws : List Addr) (aL : Addr) (Q : Option Value → Heap → Prop) (C : Outcome → State → Prop) : Prop :=
  ∀ (T : State) (h : Heap) (cells slots : Nat) (v : Option Value), ows_W p l e R s m args below meth c Z y ret code ml ws T h cells slots → cells ≤ R.cells → slots ≤ R.slots → (ret = none → v = none) → (∀ h', Mon h h' → Q v h') →
    ∃ V : State, (∀ (f : JFrame) (acts : List Action), f.method = m → f.locked = some aL → f.entered = [] → (doReturn e (T.setTop f) acts v).1 = V) ∧ V.status = .running ∧ Ended V below (.returned v) ∧ C (.returned v) V
theorem ows_unt {s u : State} {L : List Loc} {k n : Nat} (q : s.sameButNew ({ u with vm := s.vm } : State) L k n) {a : Addr} (N : Unt s.heap a) : Unt u.heap a := by
  obtain ⟨-, -, -, -, -, q6⟩ := q
  obtain ⟨cell, h1, h2, h3⟩ := N
  obtain ⟨c', g1, g2, g3, g4⟩ := q6 a cell h1
  refine ⟨c', g1, ?_, ?_⟩
  · rw [g2]; exact h2
  · rw [g2]; exact h3
theorem ows_body {rm : Room} {A : Array Value} {h0 : Heap} {maxL : Nat} {Q : Option Value → Heap → Prop} {L0 : Array Slot} (hpl : plainFor y = true) (hA : A[0]? = some (.ref aL)) (hef : ∀ m, entryFrameSync m A maxL aL = mkL aL m 0 L0 [])
    (body : ∀ p e s m below meth c (C : Outcome → State → Prop) T0 h1, Mon h0 h1 → s.heap.size = h0.size → ows_R p l e rm s m A below meth c Z y ret code maxL ws aL Q C → ows_W p l e rm s m A below meth c Z y ret code maxL ws T0 h1 0 0 → own_Go p e below C T0 (mkL aL m 0 L0 [])) :
    ows_M l Z y code maxL ret rm ws aL A h0 Q := by
  refine MetFree.of_bodySync hpl (hisS (List.mem_cons_self ..)) (fun _ s _ hP => ?_) ?_
  · obtain ⟨h1, _, h2, cl, h3, h4, h5⟩ := hP
    exact ⟨aL, cl, by rw [h1]; exact hA, by rw [h2]; exact h3, by rw [Cell.enterable, h5]; simp⟩
  intro p e s0 m args below meth c a' cell s₁ Bd hml0 hP _
  obtain ⟨rfl, hZ0, hh0, hU⟩ := hP
  cases hA.symm.trans Bd.receiver
  subst hh0
  have X0 : Stand p l e rm (s0.setCell aL (cell.withEntry s0.cur)) m _ below meth c s₁ [] 0 0 := Stand.of_bodySync Bd
  have hZ : Z.Warmed39 (s0.setCell aL (cell.withEntry s0.cur)).vm := hZ0
  have hown : (s0.setCell aL (cell.withEntry s0.cur)).vm.findClass y.cls = some m.cls := (findClass_of_methodNamed Bd.named :)
  have M0 : Mon s0.heap s₁.heap := by rw [Bd.state]; exact mon_set Bd.object _
  have hsz : (s0.setCell aL (cell.withEntry s0.cur)).heap.size = s0.heap.size := by simp [State.setCell]
  have k := body p e (s0.setCell aL (cell.withEntry s0.cur)) m below meth c (fun o U' => ∃ v L, o = .returned v ∧ own_Q ws rm s0.heap (fun v h => Q v h ∧ Unt h aL) v U'.heap L ∧ FrameEnd s0 o U' L rm.cells rm.slots) s₁ s₁.heap M0 hsz
    (by
      intro T h cells slots v W hcl hsl hv hQ
      obtain ⟨⟨hx, hby, hml, hown, hnm, hrt, hlk, hZ⟩, locs, X, eT, N⟩ := W
      subst eT
      obtain ⟨V, hr, hrun, hended, M1, hW, hsame⟩ := leaveS X Bd.object Bd.enterable Bd.synchronized (v := v) (fun q => hv (by rw [← hrt]; exact q))
      have N' : own_Fw s0 ws locs := fun y hy => by
        have q := N y hy
        rw [hsz] at q
        exact q
      have K := own_keep hsame N'
      refine ⟨V, hr, hrun, hended, v, locs, rfl, ⟨N', K, fun hc hw => ?_, hQ _ M1, ows_unt hsame hU⟩, ⟨_, rfl⟩, hW, hsame.mono hcl hsl⟩
      subst hw
      have h4 := hsame.mono hcl hsl
      rw [hc] at h4
      exact own_same0 h4 K)
    ⟨⟨Bd.exec, Bd.bytes, hml0, hown, (name_of_methodNamed Bd.named Bd.method).1, Bd.returns, Bd.synchronized, hZ⟩, [], X0, rfl, fun _ hy => nomatch hy⟩
  obtain ⟨u, o, h1, h2⟩ := k
  exact ⟨u, o, castTop (hef m) h1, h2⟩
theorem ows_retV {Q : Option Value → Heap → Prop} (W : ows_W p l e R s m args below meth c Z y none code ml ws T h cells slots) (hR : ows_R p l e R s m args below meth c Z y none code ml ws aL Q C) (hcl : cells ≤ R.cells) (hsl : slots ≤ R.slots) {pc : Nat} {L : Array Slot} {st : List Value} (hd : decode code pc = .ok (.return_, 1)) (hq : ∀ h', Mon h h' → Q none h') : own_Go p e below C T (mkL aL m pc L st) := by
  obtain ⟨V, hr, h1, h2, h3⟩ := hR T h cells slots none W hcl hsl (fun _ => rfl) hq
  obtain ⟨⟨hx, hby, hml, hown, hnm, hrt, hlk, hZ⟩, locs, X, eT, N⟩ := W
  exact ⟨V, _, retS0 X hx hrt (hb hby hd) hr, h1, h2, h3⟩
theorem ows_retA {Q : Option Value → Heap → Prop} {rt : FieldType} {z : Value} (W : ows_W p l e R s m args below meth c Z y (some rt) code ml ws T h cells slots) (hR : ows_R p l e R s m args below meth c Z y (some rt) code ml ws aL Q C) (hcl : cells ≤ R.cells) (hsl : slots ≤ R.slots) (hrr : rt.isReference = true) (hzr : z.isRef = true) {pc : Nat} {L : Array Slot} {st : List Value} (hd : decode code pc = .ok (.areturn, 1)) (hn : narrow rt z = z) (hq : ∀ h', Mon h h' → Q (some z) h') : own_Go p e below C T (mkL aL m pc L (z :: st)) := by
  obtain ⟨V, hr, h1, h2, h3⟩ := hR T h cells slots (some z) W hcl hsl (fun q => nomatch q) hq
  obtain ⟨⟨hx, hby, hml, hown, hnm, hrt, hlk, hZ⟩, locs, X, eT, N⟩ := W
  exact ⟨V, _, retS X hx hrt hn (Or.inr (Or.inr (Or.inr (Or.inr ⟨rfl, hrr, hzr⟩)))) (hb hby hd) hr, h1, h2, h3⟩
end OwnSync2
section OwnSync3
variable {p : Program} {l : Launch} {e : Env} {R : Room} {s : State} {m : MethodId} {args : Array Value} {below : List Frame} {meth : Method} {c : Code} {Z : State} {y : MethodName} {ret : Option FieldType} {code : ByteArray} {ml : Nat} {ws : List Addr} {T : State} {h : Heap} {cells slots : Nat} {C : Outcome → State → Prop} {a0 : Array Value}
theorem own_backS {bytes : ByteArray} {maxL : Nat} {rm : Room} {len W : Nat} {a : Addr} {A0 : Array Value} {Q : Option Value → Heap → Prop} (hM : ows_M l Z y bytes maxL ret rm ws a A0 h Q) (hZ : Z.Warmed39 s.vm) (wc : (Jvm.Cond.codeSync y bytes maxL ret).before a0 Z = true) (wi : (Jvm.Cond.instanceMethod y).before a0 Z = true) (wz : (Jvm.Cond.initialized y.cls).before a0 Z = true) (N : Unt h a) (hf : rm.frames + 1 ≤ R.frames) (hl : W + (maxL + 11) + rm.locals ≤ R.locals) :
    Back l R p e below s args y len W (fun A as => as = A0 ∧ A.U.heap = h ∧ A.cells + rm.cells ≤ R.cells ∧ A.slots + rm.slots ≤ R.slots)
      (fun A _ v B => ∃ L, own_Q ws rm h (fun v h => Q v h ∧ Unt h a) v B.U.heap L ∧ B.locs = A.locs ++ L ∧ B.cells = A.cells + rm.cells ∧ B.slots = A.slots + rm.slots) :=
  Jvm.Free.XT.back_of_sync (bytes := bytes) (maxL := maxL) (ret := ret) (E := fun _ first o t L k n => k = rm.cells ∧ n = rm.slots ∧ ∃ v, o = .returned v ∧ own_Q ws rm h (fun v h => Q v h ∧ Unt h a) v t.heap L) hM hf hl
    (fun m meth c A as Y hp => have hU : Z.Warmed39 A.U.vm := wtrans hZ Y.warmed
      ⟨by show (Cond.and _ (Cond.and _ .tt)).before as A.U = true; rw [Cond.before_and, Cond.before_and, mv hU wc, mv hU wi]; rfl, mv hU wc, mv hU wz, hp.2.2.1, hp.2.2.2⟩)
    (fun m meth c A as g mk Y hp => ⟨hp.1, wtrans hZ Y.warmed, hp.2.1, N⟩)
    (fun _ _ _ _ _ _ _ _ _ => trivial)
    (fun _ _ _ _ ⟨v, L, h1, h2, h3⟩ => ⟨L, _, _, h3, rfl, rfl, v, h1, h2⟩)
    (fun m meth c A as g mk v t L k n Y hp _ _ ⟨e1, e2, v', e3, e4⟩ => by
      subst e1 e2; cases e3
      exact ⟨L, e4, rfl, rfl, rfl⟩)
theorem own_callVS (W : own_W p l e R s m args below meth c Z y ret code ml ws T h cells slots) {C0 : String} {i : Nat} {yc zc : MethodName} {bytes : ByteArray} {maxL : Nat} {rt : Option FieldType} {rm : Room} {Q : Option Value → Heap → Prop} {ps : List FieldType} {rr : Option FieldType} {a : Addr} {wc' : List Addr} (A : List Value) (wt : Nat) {pc : Nat} (pc' : Nat) {L : Array Slot} {st : List Value} (hd : decode code pc = .ok (.invokevirtual i, 3)) (wl : (Jvm.Cond.methodLink y.cls i yc).before a0 Z = true) (wd : (Jvm.Cond.declares yc).before a0 Z = true) (nf : NotFace s yc) (wse : (Jvm.Cond.selects C0 yc zc).before a0 Z = true) (wst : (Jvm.Cond.instanceMethod zc).before a0 Z = true) (wz : (Jvm.Cond.initialized zc.cls).before a0 Z = true) (wc : (Jvm.Cond.codeSync zc bytes maxL rt).before a0 Z = true) (hy : yc.cls ≠ "java/lang/invoke/MethodHandle" ∧ yc.cls ≠ "java/lang/invoke/VarHandle") (E : Exa Z h a C0) (hM : ows_M l Z zc bytes maxL rt rm wc' a (.ref a :: A).toArray h Q) (hN : Unt h a) (hws : ∀ b ∈ wc', b ∈ ws ∨ s.heap.size ≤ b) (hL : L.size = ml) (hds : parseMethodDescriptor yc.desc = some ⟨ps, rr⟩) (hA : A.length = ps.length) (hwt : (st.map fun v => v.category).sum ≤ wt) (hf : rm.frames + 1 ≤ R.frames) (hlo : wt + (maxL + 11) + rm.locals ≤ R.locals) (hc : cells + rm.cells ≤ R.cells) (hs : slots + rm.slots ≤ R.slots) (hp : pc + 3 = pc') (k : ∀ T' h' v, own_W p l e R s m args below meth c Z y ret code ml ws T' h' (cells + rm.cells) (slots + rm.slots) → Keep h h' wc' → (rm.cells = 0 → wc' = [] → h' = h) → (Q v h' ∧ Unt h' a) → own_Go p e below C T' (mkF m pc' L (v.toList ++ st))) : own_Go p e below C T (mkF m pc L (A.reverse ++ .ref a :: st)) := by
  have hsz := own_le W
  obtain ⟨⟨hx, hby, hml, hown, hnm, hrt, hlk, hZ⟩, locs, X, eT, N⟩ := W
  subst hp
  obtain ⟨cq, kq, qa, qb, qc⟩ := isOf hZ eT E
  obtain ⟨_, _, ⟨T', L', k', n'⟩, -, X', ⟨Lc', hQ', l', y', z'⟩, st'⟩ := X.virtualBack hx (y := yc) (z := zc) hown (mvT hZ wl) (mvT hZ wd) nf (mvT hZ wse) (mvT hZ wst) hy (own_backS (W := wt) hM hZ wc wst wz hN hf hlo) qa qc (g := mkF m pc L (A.reverse ++ .ref a :: st)) rfl (by rw [hml]; exact hL) (Steps.refl _) (argsL := A) (rest := st) (lenOf hds hA) rfl (by show 2 * 0 + _ ≤ _; omega) (hb hby hd) (fun _ _ => ⟨rfl, eT, hc, hs⟩)
  dsimp only [Pt.U, Pt.locs, Pt.cells, Pt.slots] at X' l' y' z' st' hQ'
  subst l' y' z'
  exact own_tr st' (k T' _ _ ⟨⟨hx, hby, hml, hown, hnm, hrt, hlk, hZ⟩, _, X', rfl, own_Fw_app N hQ'.1 hws hsz⟩ hQ'.2.1 hQ'.2.2.1 hQ'.2.2.2)
end OwnSync3
section OwnSync4
variable {p : Program} {l : Launch} {e : Env} {R : Room} {s : State} {m : MethodId} {args : Array Value} {below : List Frame} {meth : Method} {c : Code} {Z : State} {y : MethodName} {ret : Option FieldType} {code : ByteArray} {ml : Nat} {ws : List Addr} {T : State} {h : Heap} {cells slots : Nat} {C : Outcome → State → Prop} {a0 : Array Value} {aL : Addr}
theorem ows_getfieldR (W : ows_W p l e R s m args below meth c Z y ret code ml ws T h cells slots) {O n d : String} {i : Nat} {a : Addr} {v : Value} {pc : Nat} (pc' : Nat) {L : Array Slot} {st : List Value} (hd : decode code pc = .ok (.getfield i, 3)) (w : (Jvm.Cond.fieldRef y.cls i O n d).before a0 Z = true) (F : Fld Z h a O n d v) (hp : pc + 3 = pc') (k : ∀ T', ows_W p l e R s m args below meth c Z y ret code ml ws T' h cells slots → own_Go p e below C T' (mkL aL m pc' L (v :: st))) : own_Go p e below C T (mkL aL m pc L (.ref a :: st)) := by
  have W0 := W
  obtain ⟨⟨hx, hby, hml, hown, hnm, hrt, hlk, hZ⟩, locs, X, eT, N⟩ := W
  subst hp
  have hU : Z.Warmed39 T.vm := wtrans hZ X.warmed
  have w' := Cond.fieldRef_warmed39 hU w
  obtain ⟨cf', k', i', f', hi', hrd⟩ := Cond.fieldRef_spec (s := Z.setVm T.vm) (cur := m.cls) (by show T.vm.findClass _ = _; rw [X.warmed.alike.findClass]; exact hown) w'
  obtain ⟨cell, cf, kk, ii, f, h1, h2, h3, h4, -, -, h7⟩ := F
  obtain ⟨k2, hi2, -⟩ := State.fieldFound?_setVm (s := Z) hU.alike h2
  cases hi'.symm.trans hi2
  refine own_st (fun t q => ?_) (k T W0)
  jvm_step X.here [X.here.top, hx, (hb hby hd), getfield.wp_ready (e := e) (s := T) (f := mkL aL m pc L (.ref a :: st)) X.here.top hrd h3 rfl (by rw [eT]; exact h1) h4 h7]
  exact q
end OwnSync4
section OwnSync5
variable {p : Program} {l : Launch} {e : Env} {R : Room} {s : State} {m : MethodId} {args : Array Value} {below : List Frame} {meth : Method} {c : Code} {Z : State} {y : MethodName} {ret : Option FieldType} {code : ByteArray} {ml : Nat} {ws : List Addr} {T : State} {h : Heap} {cells slots : Nat} {C : Outcome → State → Prop} {a0 : Array Value} {aL : Addr}
theorem own_A.mon {h' : Heap} {a : Addr} {ty : FieldType} {n : Nat} {f : Nat → Value} (F : own_A Z h a ty n f) (M : Mon h h') : own_A Z h' a ty n f := by
  obtain ⟨cl, A, r⟩ := F
  obtain ⟨mo, q⟩ := M.2 _ _ A.1
  exact ⟨_, ⟨q, A.2⟩, r⟩
theorem own_R.mon {h' : Heap} {a : Addr} {C0 : String} {n : Nat} {f : Nat → Value} (F : own_R Z h a C0 n f) (M : Mon h h') : own_R Z h' a C0 n f := by
  obtain ⟨cl, A, r⟩ := F
  obtain ⟨mo, q⟩ := M.2 _ _ A.1
  exact ⟨_, ⟨q, A.2⟩, r⟩
theorem ows_aastore0 (W : ows_W p l e R s m args below meth c Z y ret code ml ws T h cells slots) {a : Addr} {C0 : String} {z : Int32} {n : Nat} {f : Nat → Value} (k : Nat) {pc : Nat} (pc' : Nat) {L : Array Slot} {st : List Value} (hd : decode code pc = .ok (.aastore, 1)) (F : own_R Z h a C0 n f) (ha : a ∈ ws ∨ s.heap.size ≤ a) (hz : z.toInt = (k : Int)) (hk : k < n) (hp : pc + 1 = pc') (kk : ∀ T' h', ows_W p l e R s m args below meth c Z y ret code ml ws T' h' cells slots → Wr h h' a k (.null) → own_R Z h' a C0 n (own_upd f k (.null)) → own_Go p e below C T' (mkL aL m pc' L st)) : own_Go p e below C T (mkL aL m pc L (.null :: .int z :: .ref a :: st)) := by
  have hsz := ows_le W
  obtain ⟨⟨hx, hby, hml, hown, hnm, hrt, hlk, hZ⟩, locs, X, eT, N⟩ := W
  subst hp
  have F' := F
  obtain ⟨cl, A, O, hs, hf⟩ := F
  obtain ⟨T', h', X', e', W', st'⟩ := stR X hx hZ eT A (j := z) (own_in hz hs hk) rfl (Or.inl rfl) (g := mkL aL m pc L (.null :: .int z :: .ref a :: st)) rfl rfl (hb hby hd)
  rw [own_cl hz] at W'
  exact own_st st' (kk T' h' ⟨⟨hx, hby, hml, hown, hnm, hrt, hlk, hZ⟩, _, X', e', own_Fw_snoc N ha⟩ W' (F'.set W' hk))
end OwnSync5
section OwnSync6
variable {p : Program} {l : Launch} {e : Env} {R : Room} {s : State} {m : MethodId} {args : Array Value} {below : List Frame} {meth : Method} {c : Code} {Z : State} {y : MethodName} {ret : Option FieldType} {code : ByteArray} {ml : Nat} {ws : List Addr} {T : State} {h : Heap} {cells slots : Nat} {C : Outcome → State → Prop} {a0 : Array Value}
theorem own_newU (W : own_W p l e R s m args below meth c Z y ret code ml ws T h cells slots) {C0 : String} {i nn : Nat} {pc : Nat} (pc' : Nat) {L : Array Slot} {st : List Value} (hd : decode code pc = .ok (.new i, 3)) (w : (Jvm.Cond.classLink y.cls i C0).before a0 Z = true) (wi : (Jvm.Cond.instantiable C0 nn).before a0 Z = true) (wz : (Jvm.Cond.initialized C0).before a0 Z = true) (hc : cells + 1 ≤ R.cells) (hl : slots + nn ≤ R.slots) (hp : pc + 3 = pc') (k : ∀ T' h' a, own_W p l e R s m args below meth c Z y ret code ml ws T' h' (cells + 1) (slots + nn) → Ext h h' → a = h.size → s.heap.size ≤ a → Exa Z h' a C0 → (∀ {O nm d : String} {ty : FieldType}, Laid Z a0 C0 O nm d → parseFieldDescriptor d = some ty → Fld Z h' a O nm d (defaultValue ty)) → Unt h' a → own_Go p e below C T' (mkF m pc' L (.ref a :: st))) : own_Go p e below C T (mkF m pc L st) := by
  have hsz := own_le W
  obtain ⟨⟨hx, hby, hml, hown, hnm, hrt, hlk, hZ⟩, locs, X, eT, N⟩ := W
  subst hp
  obtain ⟨T', h', X', e', E', A', D', U', st'⟩ := newO X hx hZ hown w wi wz eT (g := mkF m pc L st) rfl (hb hby hd) hc hl
  exact own_st st' (k T' h' h.size ⟨⟨hx, hby, hml, hown, hnm, hrt, hlk, hZ⟩, locs, X', e', N⟩ E' rfl hsz A' D' U')
end OwnSync6
section OwnAcr
variable {p : Program} {l : Launch} {e : Env} {R : Room} {s : State} {m : MethodId} {args : Array Value} {below : List Frame} {meth : Method} {c : Code} {Z : State} {y : MethodName} {ret : Option FieldType} {code : ByteArray} {ml : Nat} {ws : List Addr} {T : State} {h : Heap} {cells slots : Nat} {C : Outcome → State → Prop} {a0 : Array Value}
theorem own_R.arv {a : Addr} {C0 : String} {n : Nat} {f : Nat → Value} (F : own_R Z h a C0 n f) (hn : n < 2147483648) (hf : ∀ j, j < n → fits (.object C0) (f j) = true) (d : Value) : ∃ k, Ovr Z k C0 ∧ Arv Z h a k (.object C0) n.toInt32 ((List.range n).map f) d := by
  obtain ⟨cl, A, O, r1, r2⟩ := F
  have hz : n.toInt32.toInt = (n : Int) := len_toInt hn
  refine ⟨cl.cls, O, cl, A, rfl, by rw [r1, own_cl hz], own_nn hz, fun k hk => ?_, fun i hi => ?_⟩
  · rw [r1] at hk
    rw [r2 k hk, own_gd hk]
  · rw [r1] at hi
    rw [own_gd hi]; exact hf i hi
theorem own_R.of_arv {a : Addr} {k : ClassId} {C0 : String} {z : Int32} {n : Nat} {vs : List Value} {d : Value} (O : Ovr Z k C0) (F : Arv Z h a k (.object C0) z vs d) (hz : z.toInt = (n : Int)) : own_R Z h a C0 n (fun j => vs.getD j d) := by
  obtain ⟨cl, A, r1, r2, -, H, -⟩ := F
  rw [own_cl hz] at r2
  subst r1
  exact ⟨cl, A, O, r2, fun j hj => H j (by rw [r2]; exact hj)⟩
theorem own_R.congr {a : Addr} {C0 : String} {n : Nat} {f g : Nat → Value} (F : own_R Z h a C0 n f) (q : ∀ j, j < n → f j = g j) : own_R Z h a C0 n g := by
  obtain ⟨cl, A, O, r1, r2⟩ := F
  exact ⟨cl, A, O, r1, fun j hj => by rw [r2 j hj, q j hj]⟩
theorem own_arraycopyR (W : own_W p l e R s m args below meth c Z y ret code ml [] T h cells slots) {i : Nat} {a b : Addr} {C0 : String} {n n' : Nat} {f f' : Nat → Value} {sp dp nn : Int32} (i1 j1 k1 wt : Nat) {pc : Nat} (pc' : Nat) {L : Array Slot} {st : List Value} (hd : decode code pc = .ok (.invokestatic i, 3)) (w1 : (Jvm.Cond.methodLink y.cls i Jvm.Stand.acN).before a0 Z = true) (w2 : (Jvm.Cond.native Jvm.Stand.acN).before a0 Z = true) (w3 : (Jvm.Cond.static Jvm.Stand.acN).before a0 Z = true) (w4 : (Jvm.Cond.initialized "java/lang/System").before a0 Z = true) (F : own_R Z h a C0 n f) (G : own_R Z h b C0 n' f') (hff : ∀ j, j < n → fits (.object C0) (f j) = true) (hfg : ∀ j, j < n' → fits (.object C0) (f' j) = true) (hn : n < 2147483648) (hn' : n' < 2147483648) (hst : StoL Z h b ((List.range k1).map fun t => f (i1 + t))) (hsp : sp.toInt = (i1 : Int)) (hdp : dp.toInt = (j1 : Int)) (hnn : nn.toInt = (k1 : Int)) (h4 : i1 + k1 ≤ n) (h5 : j1 + k1 ≤ n') (hob : s.heap.size ≤ b) (hL : L.size = ml) (hwt : (st.map fun v => v.category).sum ≤ wt) (hf : 1 ≤ R.frames) (hlo : wt + (nativeFrameWords "java/lang/System" "arraycopy" 5 + 11) ≤ R.locals) (hp : pc + 3 = pc') (k : ∀ T' h', own_W p l e R s m args below meth c Z y ret code ml [] T' h' cells slots → Keep h h' [b] → own_R Z h' b C0 n' (fun q => if j1 ≤ q ∧ q < j1 + k1 then f (i1 + (q - j1)) else f' q) → own_Go p e below C T' (mkF m pc' L st)) : own_Go p e below C T (mkF m pc L (.int nn :: .int dp :: .ref b :: .int sp :: .ref a :: st)) := by
  have hsz := own_le W
  obtain ⟨⟨hx, hby, hml, hown, hnm, hrt, hlk, hZ⟩, locs, X, eT, N⟩ := W
  subst hp
  have NF : Fr s.heap.size locs := fun y hy => (N y hy).resolve_left (fun q => nomatch q)
  obtain ⟨ka, -, A⟩ := F.arv hn hff (.int 0)
  obtain ⟨kb, OB, B⟩ := G.arv hn' hfg (.int 0)
  have ez : n.toInt32.toNatClampNeg = n := own_cl (len_toInt hn)
  have ez' : n'.toInt32.toNatClampNeg = n' := own_cl (len_toInt hn')
  have hst' : StoL Z h b ((List.range nn.toNatClampNeg).map fun t => ((List.range n).map f).getD (sp.toNatClampNeg + t) (.int 0)) := by
    rw [own_cl hnn, own_cl hsp]
    rw [show ((List.range k1).map fun t => ((List.range n).map f).getD (i1 + t) (.int 0)) = (List.range k1).map fun t => f (i1 + t) from List.map_congr_left fun t ht => own_gd (by have := List.mem_range.mp ht; omega)]
    exact hst
  obtain ⟨T', h', L', X', e', N', K', B', st'⟩ := cpA X hx hZ hown w1 w2 w3 w4 eT A B (Or.inr ⟨rfl, rfl, hst'⟩) (own_nn hsp) (own_nn hdp) (own_nn hnn) (by rw [own_cl hsp, own_cl hnn, ez]; exact h4) (by rw [own_cl hdp, own_cl hnn, ez']; exact h5) rfl (by rw [own_cl hdp, own_cl hnn]; simpa using h5) NF hob (g := mkF m pc L (.int nn :: .int dp :: .ref b :: .int sp :: .ref a :: st)) rfl (by rw [hml]; exact hL) rfl (hb hby hd) hf (W := wt) (by show 2 * 0 + _ ≤ _; omega) hlo
  refine own_st st' (k T' h' ⟨⟨hx, hby, hml, hown, hnm, hrt, hlk, hZ⟩, L', X', e', fun y hy => Or.inr (N' y hy)⟩ K' ((own_R.of_arv OB B' (len_toInt hn')).congr fun q hq => ?_))
  rw [own_cl hsp, own_cl hdp, own_cl hnn]
  exact own_cpl f f' n n' i1 j1 k1 _ h4 h5 q hq
end OwnAcr
theorem own_off (u : Int32) : ∃ k : Nat, ((u &&& (2147483647 : Int32)) % (5 : Int32)).toInt = (k : Int) ∧ k < 5 := by
  have h1 := c_mask u 2147483647 31 (by decide) (by decide)
  have h2 := (c_irem (u &&& 2147483647) 5 5 rfl).1
  have h3 : 0 ≤ (u &&& 2147483647).toInt := by rw [h1]; omega
  have h4 := h2 h3
  exact ⟨((u &&& 2147483647) % 5).toInt.toNat, by omega, by omega⟩
theorem own_ofN {u : Int32} {k : Nat} (h : u.toInt = (k : Int)) (hk : k < 2147483648) : u = Int32.ofNat k := by
  have h1 := (back32 (own_nn h)).1
  rw [own_cl h] at h1
  exact h1.symm
theorem own_inc {u : Int32} {k : Nat} (h : u.toInt = (k : Int)) (hk : k < 2000000000) : (u + (1 : Int32)).toInt = ((k + 1 : Nat) : Int) := by
  have h1 := c_iadd u 1
  have h2 := rng32 (u + 1)
  have h3 : (1 : Int32).toInt = 1 := rfl
  omega
theorem own_ltN {u v : Int32} {i j : Nat} (hu : u.toInt = (i : Int)) (hv : v.toInt = (j : Int)) : u < v ↔ i < j := by
  rw [Int32.lt_iff_toInt_lt]; omega
theorem own_lt0 {u : Int32} : u < 0 ↔ u.toInt < 0 := by
  rw [Int32.lt_iff_toInt_lt]; have : (0 : Int32).toInt = 0 := rfl
  rw [this]
theorem own_lt5 {n : Nat} (h : n < 5) : n = 0 ∨ n = 1 ∨ n = 2 ∨ n = 3 ∨ n = 4 := by omega
theorem own_lt4 {n : Nat} (h : n < 4) : n = 0 ∨ n = 1 ∨ n = 2 ∨ n = 3 := by omega
def own_g (x0 x1 x2 x3 : Int32) (j : Nat) : Int32 := if j = 0 then x0 else if j = 1 then x1 else if j = 2 then x2 else x3
theorem own_at {q : Int64} {k : Nat} (h : q.toInt = (k : Int)) (hk : k < 1000) : ((q - (0 : Int64)).toInt32).toInt = (k : Int) := by
  rw [Int64.sub_zero, Int64.toInt_toInt32, h, Int.bmod_def]
  simp only [Nat.reducePow]
  split <;> omega
theorem own_nrf {z : Value} (h : z.isRef = true) {C0 : String} : narrow (.object C0) z = z := by rcases ref_cases h with rfl | ⟨b, rfl⟩ <;> rfl
theorem ef_m8 (m : MethodId) (x0 : Addr) : entryFrameSync m #[(.ref x0)] 6 x0 = mkL x0 m 0 #[.val (.ref x0), .unset, .unset, .unset, .unset, .unset] [] := by first | (simp [entryFrameSync, entryFrame, mkL, argsToLocals, Value.category]; done) | rfl
set_option maxRecDepth 65536 in
set_option maxHeartbeats 40000000 in
theorem own_m8 (l : Launch) (Z : State) (a0 : Array Value) (hw : ∀ d ∈ tables_1, d.before a0 Z = true) (h0 : Heap) (a1 : Addr) (sl : Addr) (ss : Addr) (vv : Addr) (sf : Nat → Value) (vf : Nat → Value) (hd : Int64) (tl : Int64) (k : Nat) (r : Value) (X_a1 : Exa Z h0 a1 "com/example/minne/minne/SerialQueue") (F_slots_a1 : Fld Z h0 a1 "com/example/minne/minne/SerialQueue" "slots" "Lcom/example/minne/minne/SerialQueue$Slots;" (.ref sl)) (F_head_a1 : Fld Z h0 a1 "com/example/minne/minne/SerialQueue" "head" "J" (.long hd)) (F_tail_a1 : Fld Z h0 a1 "com/example/minne/minne/SerialQueue" "tail" "J" (.long tl)) (F_first_sl : Fld Z h0 sl "com/example/minne/minne/SerialQueue$Slots" "first" "J" (.long (0 : Int64))) (F_serials_sl : Fld Z h0 sl "com/example/minne/minne/SerialQueue$Slots" "serials" "[J" (.ref ss)) (F_values_sl : Fld Z h0 sl "com/example/minne/minne/SerialQueue$Slots" "values" "[Ljava/lang/Object;" (.ref vv)) (V_ss : own_A Z h0 ss .long 4 sf) (V_vv : own_R Z h0 vv "java/lang/Object" 4 vf) (ne_a_sl : a1 ≠ sl) (ne_a_ss : a1 ≠ ss) (ne_a_vv : a1 ≠ vv) (ne_sl_ss : sl ≠ ss) (ne_sl_vv : sl ≠ vv) (ne_ss_vv : ss ≠ vv) (hr : vf k = r) (hvf : ∀ j, (vf j).isRef = true) (hhd : hd.toInt = (k : Int)) (hk : k < 4) (hne : ¬ hd = tl) :
    ows_M l Z (⟨"com/example/minne/minne/SerialQueue", "takeFirst", "()Ljava/lang/Object;"⟩ : MethodName) prog_12_method_3_code 6 (some (.object "java/lang/Object")) ({ frames := 0, cells := 0, slots := 0, locals := 0 } : Room) [a1, vv] a1 #[(.ref a1)] h0 (fun v h => v = some r ∧ Fld Z h a1 "com/example/minne/minne/SerialQueue" "slots" "Lcom/example/minne/minne/SerialQueue$Slots;" (.ref sl) ∧ Fld Z h a1 "com/example/minne/minne/SerialQueue" "head" "J" (.long (hd + (1 : Int64))) ∧ Fld Z h a1 "com/example/minne/minne/SerialQueue" "tail" "J" (.long tl) ∧ Fld Z h sl "com/example/minne/minne/SerialQueue$Slots" "first" "J" (.long (0 : Int64)) ∧ Fld Z h sl "com/example/minne/minne/SerialQueue$Slots" "serials" "[J" (.ref ss) ∧ Fld Z h sl "com/example/minne/minne/SerialQueue$Slots" "values" "[Ljava/lang/Object;" (.ref vv) ∧ own_A Z h ss .long 4 sf ∧ own_R Z h vv "java/lang/Object" 4 (own_upd vf k .null)) := by
  refine ows_body (plainFor_of_name pn_8) rfl (fun m => ef_m8 m a1) ?_
  intro p e s m below meth c C T0 h1 M0 hsz hR W0
  have X_a1 := X_a1.mon M0
  have F_slots_a1 := F_slots_a1.mon M0
  have F_head_a1 := F_head_a1.mon M0
  have F_tail_a1 := F_tail_a1.mon M0
  have F_first_sl := F_first_sl.mon M0
  have F_serials_sl := F_serials_sl.mon M0
  have F_values_sl := F_values_sl.mon M0
  have V_ss := V_ss.mon M0
  have V_vv := V_vv.mon M0
  refine ows_aloadN W0 1 d8_0 rfl rfl rfl ?_
  refine ows_getfield W0 4 d8_1 (wd39 hw) F_head_a1 rfl ?_
  intro T1 W1
  show own_Go p e below C T1 (mkL a1 m 4 #[.val (.ref a1), .unset, .unset, .unset, .unset, .unset] [(.long hd)])
  refine ows_lstoreN W1 5 #[.val (.ref a1), .val (.long hd), .second, .unset, .unset, .unset] d8_4 rfl rfl ?_
  refine ows_lloadN W1 6 d8_5 rfl rfl ?_
  refine ows_aloadN W1 7 d8_6 rfl rfl rfl ?_
  refine ows_getfield W1 10 d8_7 (wd41 hw) F_tail_a1 rfl ?_
  intro T2 W2
  show own_Go p e below C T2 (mkL a1 m 10 #[.val (.ref a1), .val (.long hd), .second, .unset, .unset, .unset] [(.long tl), (.long hd)])
  refine ows_lcmp W2 11 d8_10 rfl ?_
  refine ows_ifY W2 22 d8_11 ((if0 _ _).trans (feq (mt (lw_eq hd tl).mp (hne : ¬ (hd = tl)))).2) (by decide) (by decide) ?_
  refine ows_aloadN W2 23 d8_22 rfl rfl rfl ?_
  refine ows_getfield W2 26 d8_23 (wd25 hw) F_slots_a1 rfl ?_
  intro T3 W3
  show own_Go p e below C T3 (mkL a1 m 26 #[.val (.ref a1), .val (.long hd), .second, .unset, .unset, .unset] [(.ref sl)])
  refine ows_astoreN W3 27 #[.val (.ref a1), .val (.long hd), .second, .val (.ref sl), .unset, .unset] d8_26 rfl rfl rfl ?_
  refine ows_lloadN W3 28 d8_27 rfl rfl ?_
  refine ows_aloadN W3 29 d8_28 rfl rfl rfl ?_
  refine ows_getfieldR W3 32 d8_29 (wd52 hw) F_first_sl rfl ?_
  intro T4 W4
  show own_Go p e below C T4 (mkL a1 m 32 #[.val (.ref a1), .val (.long hd), .second, .val (.ref sl), .unset, .unset] [(.long (0 : Int64)), (.long hd)])
  refine ows_lsub W4 33 d8_32 rfl ?_
  refine ows_l2i W4 34 d8_33 rfl ?_
  refine ows_istore W4 36 #[.val (.ref a1), .val (.long hd), .second, .val (.ref sl), .val (.int (hd - (0 : Int64)).toInt32), .unset] d8_34 rfl rfl ?_
  refine ows_aloadN W4 37 d8_36 rfl rfl rfl ?_
  refine ows_getfieldR W4 40 d8_37 (wd54 hw) F_values_sl rfl ?_
  intro T5 W5
  show own_Go p e below C T5 (mkL a1 m 40 #[.val (.ref a1), .val (.long hd), .second, .val (.ref sl), .val (.int (hd - (0 : Int64)).toInt32), .unset] [(.ref vv)])
  refine ows_iload W5 42 d8_40 rfl rfl ?_
  rcases ref_cases (hvf k) with ev | ⟨b, ev⟩
  · refine ows_aaload W5 k .null 43 d8_42 V_vv (own_at hhd (by omega)) hk ev rfl ?_
    refine ows_astore W5 45 #[.val (.ref a1), .val (.long hd), .second, .val (.ref sl), .val (.int (hd - (0 : Int64)).toInt32), .val .null] d8_43 rfl rfl rfl ?_
    refine ows_aloadN W5 46 d8_45 rfl rfl rfl ?_
    refine ows_getfieldR W5 49 d8_46 (wd54 hw) F_values_sl rfl ?_
    intro T6 W6
    show own_Go p e below C T6 (mkL a1 m 49 #[.val (.ref a1), .val (.long hd), .second, .val (.ref sl), .val (.int (hd - (0 : Int64)).toInt32), .val .null] [(.ref vv)])
    refine ows_iload W6 51 d8_49 rfl rfl ?_
    refine ows_aconst_null W6 52 d8_51 rfl ?_
    refine ows_aastore0 W6 k 53 d8_52 V_vv (Or.inl (List.mem_of_getElem? (i := 1) rfl)) (own_at hhd (by omega)) hk rfl ?_
    intro T7 h7 W7 Wr7 V_vv
    have X_a1 := X_a1.wr Wr7
    have F_slots_a1 := F_slots_a1.other Wr7 (Or.inl ne_a_vv)
    have F_head_a1 := F_head_a1.other Wr7 (Or.inl ne_a_vv)
    have F_tail_a1 := F_tail_a1.other Wr7 (Or.inl ne_a_vv)
    have F_first_sl := F_first_sl.other Wr7 (Or.inl ne_sl_vv)
    have F_serials_sl := F_serials_sl.other Wr7 (Or.inl ne_sl_vv)
    have F_values_sl := F_values_sl.other Wr7 (Or.inl ne_sl_vv)
    have V_ss := V_ss.other Wr7 ne_ss_vv
    show own_Go p e below C T7 (mkL a1 m 53 #[.val (.ref a1), .val (.long hd), .second, .val (.ref sl), .val (.int (hd - (0 : Int64)).toInt32), .val .null] [])
    refine ows_aloadN W7 54 d8_53 rfl rfl rfl ?_
    refine ows_lloadN W7 55 d8_54 rfl rfl ?_
    refine ows_lconst W7 (1 : Int64) 56 d8_55 rfl rfl ?_
    refine ows_ladd W7 57 d8_56 rfl ?_
    refine ows_putfield W7 (.long (hd + (1 : Int64))) 60 d8_57 (wd39 hw) F_head_a1 X_a1 (Or.inl (wd40 hw)) (wd1 hw) (Or.inl (List.mem_of_getElem? (i := 0) rfl)) (ty := .long) (by decide) rfl rfl rfl ?_
    intro T8 h8 W8 Wr8 F_head_a1
    have X_a1 := X_a1.wr Wr8
    have F_slots_a1 := F_slots_a1.other Wr8 (Or.inr (slot_ne (Or.inl (wd26 hw)) (Or.inl (wd40 hw)) (by decide) (t := (.object "com/example/minne/minne/SerialQueue$Slots")) (t' := .long) (by decide) (by decide)))
    have F_tail_a1 := F_tail_a1.other Wr8 (Or.inr (slot_ne (Or.inl (wd42 hw)) (Or.inl (wd40 hw)) (by decide) (t := .long) (t' := .long) (by decide) (by decide)))
    have F_first_sl := F_first_sl.other Wr8 (Or.inl (Ne.symm ne_a_sl))
    have F_serials_sl := F_serials_sl.other Wr8 (Or.inl (Ne.symm ne_a_sl))
    have F_values_sl := F_values_sl.other Wr8 (Or.inl (Ne.symm ne_a_sl))
    have V_ss := V_ss.other Wr8 (Ne.symm ne_a_ss)
    have V_vv := V_vv.other Wr8 (Ne.symm ne_a_vv)
    show own_Go p e below C T8 (mkL a1 m 60 #[.val (.ref a1), .val (.long hd), .second, .val (.ref sl), .val (.int (hd - (0 : Int64)).toInt32), .val .null] [])
    refine ows_aload W8 62 d8_60 rfl rfl rfl ?_
    refine ows_retA (Q := fun v h => v = some r ∧ Fld Z h a1 "com/example/minne/minne/SerialQueue" "slots" "Lcom/example/minne/minne/SerialQueue$Slots;" (.ref sl) ∧ Fld Z h a1 "com/example/minne/minne/SerialQueue" "head" "J" (.long (hd + (1 : Int64))) ∧ Fld Z h a1 "com/example/minne/minne/SerialQueue" "tail" "J" (.long tl) ∧ Fld Z h sl "com/example/minne/minne/SerialQueue$Slots" "first" "J" (.long (0 : Int64)) ∧ Fld Z h sl "com/example/minne/minne/SerialQueue$Slots" "serials" "[J" (.ref ss) ∧ Fld Z h sl "com/example/minne/minne/SerialQueue$Slots" "values" "[Ljava/lang/Object;" (.ref vv) ∧ own_A Z h ss .long 4 sf ∧ own_R Z h vv "java/lang/Object" 4 (own_upd vf k .null)) W8 hR (by decide) (by decide) rfl rfl d8_62 rfl ?_
    intro hE ME
    have X_a1 := X_a1.mon ME
    have F_slots_a1 := F_slots_a1.mon ME
    have F_head_a1 := F_head_a1.mon ME
    have F_tail_a1 := F_tail_a1.mon ME
    have F_first_sl := F_first_sl.mon ME
    have F_serials_sl := F_serials_sl.mon ME
    have F_values_sl := F_values_sl.mon ME
    have V_ss := V_ss.mon ME
    have V_vv := V_vv.mon ME
    exact ⟨(by rw [← hr, ev]), F_slots_a1, F_head_a1, F_tail_a1, F_first_sl, F_serials_sl, F_values_sl, V_ss, V_vv⟩
  · refine ows_aaload W5 k (.ref b) 43 d8_42 V_vv (own_at hhd (by omega)) hk ev rfl ?_
    refine ows_astore W5 45 #[.val (.ref a1), .val (.long hd), .second, .val (.ref sl), .val (.int (hd - (0 : Int64)).toInt32), .val (.ref b)] d8_43 rfl rfl rfl ?_
    refine ows_aloadN W5 46 d8_45 rfl rfl rfl ?_
    refine ows_getfieldR W5 49 d8_46 (wd54 hw) F_values_sl rfl ?_
    intro T9 W9
    show own_Go p e below C T9 (mkL a1 m 49 #[.val (.ref a1), .val (.long hd), .second, .val (.ref sl), .val (.int (hd - (0 : Int64)).toInt32), .val (.ref b)] [(.ref vv)])
    refine ows_iload W9 51 d8_49 rfl rfl ?_
    refine ows_aconst_null W9 52 d8_51 rfl ?_
    refine ows_aastore0 W9 k 53 d8_52 V_vv (Or.inl (List.mem_of_getElem? (i := 1) rfl)) (own_at hhd (by omega)) hk rfl ?_
    intro T10 h10 W10 Wr10 V_vv
    have X_a1 := X_a1.wr Wr10
    have F_slots_a1 := F_slots_a1.other Wr10 (Or.inl ne_a_vv)
    have F_head_a1 := F_head_a1.other Wr10 (Or.inl ne_a_vv)
    have F_tail_a1 := F_tail_a1.other Wr10 (Or.inl ne_a_vv)
    have F_first_sl := F_first_sl.other Wr10 (Or.inl ne_sl_vv)
    have F_serials_sl := F_serials_sl.other Wr10 (Or.inl ne_sl_vv)
    have F_values_sl := F_values_sl.other Wr10 (Or.inl ne_sl_vv)
    have V_ss := V_ss.other Wr10 ne_ss_vv
    show own_Go p e below C T10 (mkL a1 m 53 #[.val (.ref a1), .val (.long hd), .second, .val (.ref sl), .val (.int (hd - (0 : Int64)).toInt32), .val (.ref b)] [])
    refine ows_aloadN W10 54 d8_53 rfl rfl rfl ?_
    refine ows_lloadN W10 55 d8_54 rfl rfl ?_
    refine ows_lconst W10 (1 : Int64) 56 d8_55 rfl rfl ?_
    refine ows_ladd W10 57 d8_56 rfl ?_
    refine ows_putfield W10 (.long (hd + (1 : Int64))) 60 d8_57 (wd39 hw) F_head_a1 X_a1 (Or.inl (wd40 hw)) (wd1 hw) (Or.inl (List.mem_of_getElem? (i := 0) rfl)) (ty := .long) (by decide) rfl rfl rfl ?_
    intro T11 h11 W11 Wr11 F_head_a1
    have X_a1 := X_a1.wr Wr11
    have F_slots_a1 := F_slots_a1.other Wr11 (Or.inr (slot_ne (Or.inl (wd26 hw)) (Or.inl (wd40 hw)) (by decide) (t := (.object "com/example/minne/minne/SerialQueue$Slots")) (t' := .long) (by decide) (by decide)))
    have F_tail_a1 := F_tail_a1.other Wr11 (Or.inr (slot_ne (Or.inl (wd42 hw)) (Or.inl (wd40 hw)) (by decide) (t := .long) (t' := .long) (by decide) (by decide)))
    have F_first_sl := F_first_sl.other Wr11 (Or.inl (Ne.symm ne_a_sl))
    have F_serials_sl := F_serials_sl.other Wr11 (Or.inl (Ne.symm ne_a_sl))
    have F_values_sl := F_values_sl.other Wr11 (Or.inl (Ne.symm ne_a_sl))
    have V_ss := V_ss.other Wr11 (Ne.symm ne_a_ss)
    have V_vv := V_vv.other Wr11 (Ne.symm ne_a_vv)
    show own_Go p e below C T11 (mkL a1 m 60 #[.val (.ref a1), .val (.long hd), .second, .val (.ref sl), .val (.int (hd - (0 : Int64)).toInt32), .val (.ref b)] [])
    refine ows_aload W11 62 d8_60 rfl rfl rfl ?_
    refine ows_retA (Q := fun v h => v = some r ∧ Fld Z h a1 "com/example/minne/minne/SerialQueue" "slots" "Lcom/example/minne/minne/SerialQueue$Slots;" (.ref sl) ∧ Fld Z h a1 "com/example/minne/minne/SerialQueue" "head" "J" (.long (hd + (1 : Int64))) ∧ Fld Z h a1 "com/example/minne/minne/SerialQueue" "tail" "J" (.long tl) ∧ Fld Z h sl "com/example/minne/minne/SerialQueue$Slots" "first" "J" (.long (0 : Int64)) ∧ Fld Z h sl "com/example/minne/minne/SerialQueue$Slots" "serials" "[J" (.ref ss) ∧ Fld Z h sl "com/example/minne/minne/SerialQueue$Slots" "values" "[Ljava/lang/Object;" (.ref vv) ∧ own_A Z h ss .long 4 sf ∧ own_R Z h vv "java/lang/Object" 4 (own_upd vf k .null)) W11 hR (by decide) (by decide) rfl rfl d8_62 rfl ?_
    intro hE ME
    have X_a1 := X_a1.mon ME
    have F_slots_a1 := F_slots_a1.mon ME
    have F_head_a1 := F_head_a1.mon ME
    have F_tail_a1 := F_tail_a1.mon ME
    have F_first_sl := F_first_sl.mon ME
    have F_serials_sl := F_serials_sl.mon ME
    have F_values_sl := F_values_sl.mon ME
    have V_ss := V_ss.mon ME
    have V_vv := V_vv.mon ME
    exact ⟨(by rw [← hr, ev]), F_slots_a1, F_head_a1, F_tail_a1, F_first_sl, F_serials_sl, F_values_sl, V_ss, V_vv⟩
theorem own_ne4 {q : Int64} {k : Nat} (h : q.toInt = (k : Int)) (hk : k < 4) : ¬ (q - (0 : Int64)) = (4 : Int32).toInt64 := by
  intro w
  rw [Int64.sub_zero] at w
  rw [w] at h
  have h8 : ((4 : Int32).toInt64).toInt = 4 := rfl
  omega
theorem ef_m7a (m : MethodId) (x0 : Addr) (x1 : Int64) (x2 : Addr) : entryFrameSync m #[(.ref x0), (.long x1), (.ref x2)] 8 x0 = mkL x0 m 0 #[.val (.ref x0), .val (.long x1), .second, .val (.ref x2), .unset, .unset, .unset, .unset] [] := by first | (simp [entryFrameSync, entryFrame, mkL, argsToLocals, Value.category]; done) | rfl
set_option maxRecDepth 65536 in
set_option maxHeartbeats 40000000 in
theorem own_m7a (l : Launch) (Z : State) (a0 : Array Value) (hw : ∀ d ∈ tables_1, d.before a0 Z = true) (h0 : Heap) (a1 : Addr) (q2 : Int64) (a3 : Addr) (sl : Addr) (ss : Addr) (vv : Addr) (sf : Nat → Value) (vf : Nat → Value) (hd : Int64) (tl : Int64) (k : Nat) (X_a1 : Exa Z h0 a1 "com/example/minne/minne/SerialQueue") (X_a3 : Exa Z h0 a3 "java/lang/Integer") (F_slots_a1 : Fld Z h0 a1 "com/example/minne/minne/SerialQueue" "slots" "Lcom/example/minne/minne/SerialQueue$Slots;" (.ref sl)) (F_head_a1 : Fld Z h0 a1 "com/example/minne/minne/SerialQueue" "head" "J" (.long hd)) (F_tail_a1 : Fld Z h0 a1 "com/example/minne/minne/SerialQueue" "tail" "J" (.long tl)) (F_first_sl : Fld Z h0 sl "com/example/minne/minne/SerialQueue$Slots" "first" "J" (.long (0 : Int64))) (F_serials_sl : Fld Z h0 sl "com/example/minne/minne/SerialQueue$Slots" "serials" "[J" (.ref ss)) (F_values_sl : Fld Z h0 sl "com/example/minne/minne/SerialQueue$Slots" "values" "[Ljava/lang/Object;" (.ref vv)) (V_ss : own_A Z h0 ss .long 4 sf) (V_vv : own_R Z h0 vv "java/lang/Object" 4 vf) (ne_a_sl : a1 ≠ sl) (ne_a_ss : a1 ≠ ss) (ne_a_vv : a1 ≠ vv) (ne_sl_ss : sl ≠ ss) (ne_sl_vv : sl ≠ vv) (ne_ss_vv : ss ≠ vv) (htl : tl.toInt = (k : Int)) (hk : k < 4) :
    ows_M l Z (⟨"com/example/minne/minne/SerialQueue", "add", "(JLjava/lang/Object;)V"⟩ : MethodName) prog_12_method_2_code 8 none ({ frames := 0, cells := 0, slots := 0, locals := 0 } : Room) [a1, ss, vv] a1 #[(.ref a1), (.long q2), (.ref a3)] h0 (fun v h => v = none ∧ (Fld Z h a1 "com/example/minne/minne/SerialQueue" "slots" "Lcom/example/minne/minne/SerialQueue$Slots;" (.ref sl) ∧ Fld Z h a1 "com/example/minne/minne/SerialQueue" "head" "J" (.long hd) ∧ Fld Z h a1 "com/example/minne/minne/SerialQueue" "tail" "J" (.long (tl + (1 : Int64))) ∧ Fld Z h sl "com/example/minne/minne/SerialQueue$Slots" "first" "J" (.long (0 : Int64)) ∧ Fld Z h sl "com/example/minne/minne/SerialQueue$Slots" "serials" "[J" (.ref ss) ∧ Fld Z h sl "com/example/minne/minne/SerialQueue$Slots" "values" "[Ljava/lang/Object;" (.ref vv) ∧ own_A Z h ss .long 4 (own_upd sf k (.long q2)) ∧ own_R Z h vv "java/lang/Object" 4 (own_upd vf k (.ref a3)))) := by
  refine ows_body (plainFor_of_name pn_7) rfl (fun m => ef_m7a m a1 q2 a3) ?_
  intro p e s m below meth c C T0 h1 M0 hsz hR W0
  have X_a1 := X_a1.mon M0
  have X_a3 := X_a3.mon M0
  have F_slots_a1 := F_slots_a1.mon M0
  have F_head_a1 := F_head_a1.mon M0
  have F_tail_a1 := F_tail_a1.mon M0
  have F_first_sl := F_first_sl.mon M0
  have F_serials_sl := F_serials_sl.mon M0
  have F_values_sl := F_values_sl.mon M0
  have V_ss := V_ss.mon M0
  have V_vv := V_vv.mon M0
  refine ows_aloadN W0 1 d7_0 rfl rfl rfl ?_
  refine ows_getfield W0 4 d7_1 (wd25 hw) F_slots_a1 rfl ?_
  intro T1 W1
  show own_Go p e below C T1 (mkL a1 m 4 #[.val (.ref a1), .val (.long q2), .second, .val (.ref a3), .unset, .unset, .unset, .unset] [(.ref sl)])
  refine ows_astore W1 6 #[.val (.ref a1), .val (.long q2), .second, .val (.ref a3), .val (.ref sl), .unset, .unset, .unset] d7_4 rfl rfl rfl ?_
  refine ows_aloadN W1 7 d7_6 rfl rfl rfl ?_
  refine ows_getfield W1 10 d7_7 (wd41 hw) F_tail_a1 rfl ?_
  intro T2 W2
  show own_Go p e below C T2 (mkL a1 m 10 #[.val (.ref a1), .val (.long q2), .second, .val (.ref a3), .val (.ref sl), .unset, .unset, .unset] [(.long tl)])
  refine ows_lstore W2 12 #[.val (.ref a1), .val (.long q2), .second, .val (.ref a3), .val (.ref sl), .val (.long tl), .second, .unset] d7_10 rfl rfl ?_
  refine ows_lload W2 14 d7_12 rfl rfl ?_
  refine ows_aload W2 16 d7_14 rfl rfl rfl ?_
  refine ows_getfieldR W2 19 d7_16 (wd52 hw) F_first_sl rfl ?_
  intro T3 W3
  show own_Go p e below C T3 (mkL a1 m 19 #[.val (.ref a1), .val (.long q2), .second, .val (.ref a3), .val (.ref sl), .val (.long tl), .second, .unset] [(.long (0 : Int64)), (.long tl)])
  refine ows_lsub W3 20 d7_19 rfl ?_
  refine ows_aload W3 22 d7_20 rfl rfl rfl ?_
  refine ows_getfieldR W3 25 d7_22 (wd53 hw) F_serials_sl rfl ?_
  intro T4 W4
  show own_Go p e below C T4 (mkL a1 m 25 #[.val (.ref a1), .val (.long q2), .second, .val (.ref a3), .val (.ref sl), .val (.long tl), .second, .unset] [(.ref ss), (.long (tl - (0 : Int64)))])
  refine ows_arraylength W4 (4 : Int32) 26 d7_25 V_ss rfl rfl ?_
  refine ows_i2l W4 27 d7_26 rfl ?_
  refine ows_lcmp W4 28 d7_27 rfl ?_
  refine ows_ifY W4 50 d7_28 ((if0 _ _).trans (feq (mt (lw_eq (tl - (0 : Int64)) (4 : Int32).toInt64).mp (own_ne4 htl hk : ¬ ((tl - (0 : Int64)) = (4 : Int32).toInt64)))).2) (by decide) (by decide) ?_
  refine ows_lload W4 52 d7_50 rfl rfl ?_
  refine ows_aload W4 54 d7_52 rfl rfl rfl ?_
  refine ows_getfieldR W4 57 d7_54 (wd52 hw) F_first_sl rfl ?_
  intro T5 W5
  show own_Go p e below C T5 (mkL a1 m 57 #[.val (.ref a1), .val (.long q2), .second, .val (.ref a3), .val (.ref sl), .val (.long tl), .second, .unset] [(.long (0 : Int64)), (.long tl)])
  refine ows_lsub W5 58 d7_57 rfl ?_
  refine ows_l2i W5 59 d7_58 rfl ?_
  refine ows_istore W5 61 #[.val (.ref a1), .val (.long q2), .second, .val (.ref a3), .val (.ref sl), .val (.long tl), .second, .val (.int (tl - (0 : Int64)).toInt32)] d7_59 rfl rfl ?_
  refine ows_aload W5 63 d7_61 rfl rfl rfl ?_
  refine ows_getfieldR W5 66 d7_63 (wd53 hw) F_serials_sl rfl ?_
  intro T6 W6
  show own_Go p e below C T6 (mkL a1 m 66 #[.val (.ref a1), .val (.long q2), .second, .val (.ref a3), .val (.ref sl), .val (.long tl), .second, .val (.int (tl - (0 : Int64)).toInt32)] [(.ref ss)])
  refine ows_iload W6 68 d7_66 rfl rfl ?_
  refine ows_lloadN W6 69 d7_68 rfl rfl ?_
  refine ows_lastore W6 k 70 d7_69 V_ss (Or.inl (List.mem_of_getElem? (i := 1) rfl)) (own_at htl (by omega)) hk rfl ?_
  intro T7 h7 W7 Wr7 V_ss
  have X_a1 := X_a1.wr Wr7
  have X_a3 := X_a3.wr Wr7
  have F_slots_a1 := F_slots_a1.other Wr7 (Or.inl ne_a_ss)
  have F_head_a1 := F_head_a1.other Wr7 (Or.inl ne_a_ss)
  have F_tail_a1 := F_tail_a1.other Wr7 (Or.inl ne_a_ss)
  have F_first_sl := F_first_sl.other Wr7 (Or.inl ne_sl_ss)
  have F_serials_sl := F_serials_sl.other Wr7 (Or.inl ne_sl_ss)
  have F_values_sl := F_values_sl.other Wr7 (Or.inl ne_sl_ss)
  have V_vv := V_vv.other Wr7 (Ne.symm ne_ss_vv)
  show own_Go p e below C T7 (mkL a1 m 70 #[.val (.ref a1), .val (.long q2), .second, .val (.ref a3), .val (.ref sl), .val (.long tl), .second, .val (.int (tl - (0 : Int64)).toInt32)] [])
  refine ows_aload W7 72 d7_70 rfl rfl rfl ?_
  refine ows_getfieldR W7 75 d7_72 (wd54 hw) F_values_sl rfl ?_
  intro T8 W8
  show own_Go p e below C T8 (mkL a1 m 75 #[.val (.ref a1), .val (.long q2), .second, .val (.ref a3), .val (.ref sl), .val (.long tl), .second, .val (.int (tl - (0 : Int64)).toInt32)] [(.ref vv)])
  refine ows_iload W8 77 d7_75 rfl rfl ?_
  refine ows_aloadN W8 78 d7_77 rfl rfl rfl ?_
  refine ows_aastore W8 k 79 d7_78 V_vv (Ins.of_exa X_a3 (wd55 hw)) (Or.inl (List.mem_of_getElem? (i := 2) rfl)) (own_at htl (by omega)) hk rfl ?_
  intro T9 h9 W9 Wr9 V_vv
  have X_a1 := X_a1.wr Wr9
  have X_a3 := X_a3.wr Wr9
  have F_slots_a1 := F_slots_a1.other Wr9 (Or.inl ne_a_vv)
  have F_head_a1 := F_head_a1.other Wr9 (Or.inl ne_a_vv)
  have F_tail_a1 := F_tail_a1.other Wr9 (Or.inl ne_a_vv)
  have F_first_sl := F_first_sl.other Wr9 (Or.inl ne_sl_vv)
  have F_serials_sl := F_serials_sl.other Wr9 (Or.inl ne_sl_vv)
  have F_values_sl := F_values_sl.other Wr9 (Or.inl ne_sl_vv)
  have V_ss := V_ss.other Wr9 ne_ss_vv
  show own_Go p e below C T9 (mkL a1 m 79 #[.val (.ref a1), .val (.long q2), .second, .val (.ref a3), .val (.ref sl), .val (.long tl), .second, .val (.int (tl - (0 : Int64)).toInt32)] [])
  refine ows_aloadN W9 80 d7_79 rfl rfl rfl ?_
  refine ows_lload W9 82 d7_80 rfl rfl ?_
  refine ows_lconst W9 (1 : Int64) 83 d7_82 rfl rfl ?_
  refine ows_ladd W9 84 d7_83 rfl ?_
  refine ows_putfield W9 (.long (tl + (1 : Int64))) 87 d7_84 (wd41 hw) F_tail_a1 X_a1 (Or.inl (wd42 hw)) (wd1 hw) (Or.inl (List.mem_of_getElem? (i := 0) rfl)) (ty := .long) (by decide) rfl rfl rfl ?_
  intro T10 h10 W10 Wr10 F_tail_a1
  have X_a1 := X_a1.wr Wr10
  have X_a3 := X_a3.wr Wr10
  have F_slots_a1 := F_slots_a1.other Wr10 (Or.inr (slot_ne (Or.inl (wd26 hw)) (Or.inl (wd42 hw)) (by decide) (t := (.object "com/example/minne/minne/SerialQueue$Slots")) (t' := .long) (by decide) (by decide)))
  have F_head_a1 := F_head_a1.other Wr10 (Or.inr (slot_ne (Or.inl (wd40 hw)) (Or.inl (wd42 hw)) (by decide) (t := .long) (t' := .long) (by decide) (by decide)))
  have F_first_sl := F_first_sl.other Wr10 (Or.inl (Ne.symm ne_a_sl))
  have F_serials_sl := F_serials_sl.other Wr10 (Or.inl (Ne.symm ne_a_sl))
  have F_values_sl := F_values_sl.other Wr10 (Or.inl (Ne.symm ne_a_sl))
  have V_ss := V_ss.other Wr10 (Ne.symm ne_a_ss)
  have V_vv := V_vv.other Wr10 (Ne.symm ne_a_vv)
  show own_Go p e below C T10 (mkL a1 m 87 #[.val (.ref a1), .val (.long q2), .second, .val (.ref a3), .val (.ref sl), .val (.long tl), .second, .val (.int (tl - (0 : Int64)).toInt32)] [])
  refine ows_retV (Q := fun v h => v = none ∧ (Fld Z h a1 "com/example/minne/minne/SerialQueue" "slots" "Lcom/example/minne/minne/SerialQueue$Slots;" (.ref sl) ∧ Fld Z h a1 "com/example/minne/minne/SerialQueue" "head" "J" (.long hd) ∧ Fld Z h a1 "com/example/minne/minne/SerialQueue" "tail" "J" (.long (tl + (1 : Int64))) ∧ Fld Z h sl "com/example/minne/minne/SerialQueue$Slots" "first" "J" (.long (0 : Int64)) ∧ Fld Z h sl "com/example/minne/minne/SerialQueue$Slots" "serials" "[J" (.ref ss) ∧ Fld Z h sl "com/example/minne/minne/SerialQueue$Slots" "values" "[Ljava/lang/Object;" (.ref vv) ∧ own_A Z h ss .long 4 (own_upd sf k (.long q2)) ∧ own_R Z h vv "java/lang/Object" 4 (own_upd vf k (.ref a3)))) W10 hR (by decide) (by decide) d7_87 ?_
  intro hE ME
  have X_a1 := X_a1.mon ME
  have X_a3 := X_a3.mon ME
  have F_slots_a1 := F_slots_a1.mon ME
  have F_head_a1 := F_head_a1.mon ME
  have F_tail_a1 := F_tail_a1.mon ME
  have F_first_sl := F_first_sl.mon ME
  have F_serials_sl := F_serials_sl.mon ME
  have F_values_sl := F_values_sl.mon ME
  have V_ss := V_ss.mon ME
  have V_vv := V_vv.mon ME
  exact ⟨rfl, ⟨F_slots_a1, F_head_a1, F_tail_a1, F_first_sl, F_serials_sl, F_values_sl, V_ss, V_vv⟩⟩
theorem own_le_ {p : Program} {l : Launch} {e : Env} {R : Room} {s : State} {m : MethodId} {args : Array Value} {below : List Frame} {meth : Method} {c : Code} {Z : State} {y : MethodName} {ret : Option FieldType} {code : ByteArray} {ml : Nat} {ws : List Addr} {T : State} {h : Heap} (W : own_W p l e R s m args below meth c Z y ret code ml ws T h 0 0) {a : Addr} (q : s.heap.size ≤ a) : h.size ≤ a := by
  obtain ⟨-, locs, X, rfl, -⟩ := W
  have h1 := X.heapSize
  exact Nat.le_trans h1 q
theorem ef_m3_4 (m : MethodId) (x0 : Addr) (x1 : Int64) (x2 : Int32) : entryFrame m #[(.ref x0), (.long x1), (.int x2)] 4 = mkF m 0 #[.val (.ref x0), .val (.long x1), .second, .val (.int x2)] [] := by first | (simp [entryFrame, mkF, argsToLocals, Value.category]; done) | rfl
set_option maxRecDepth 65536 in
set_option maxHeartbeats 40000000 in
theorem own_m3_4 (l : Launch) (Z : State) (a0 : Array Value) (hw : ∀ d ∈ tables_1, d.before a0 Z = true) (wo : List Jvm.Cond) (h0 : Heap) (a1 : Addr) (q2 : Int64) (X_a1 : Exa Z h0 a1 "com/example/minne/minne/SerialQueue$Slots") (F_first_a1 : Fld Z h0 a1 "com/example/minne/minne/SerialQueue$Slots" "first" "J" (.long (0 : Int64))) (F_serials_a1 : Fld Z h0 a1 "com/example/minne/minne/SerialQueue$Slots" "serials" "[J" .null) (F_values_a1 : Fld Z h0 a1 "com/example/minne/minne/SerialQueue$Slots" "values" "[Ljava/lang/Object;" .null) :
    own_M l Z wo (⟨"com/example/minne/minne/SerialQueue$Slots", "<init>", "(JI)V"⟩ : MethodName) prog_13_method_1_code 4 none ({ frames := 1, cells := 2, slots := 8, locals := 12 } : Room) [a1] #[(.ref a1), (.long q2), (.int (4 : Int32))] h0 (fun v h => v = none ∧ (∃ ss vv, h0.size ≤ ss ∧ h0.size ≤ vv ∧ ss ≠ vv ∧ Fld Z h a1 "com/example/minne/minne/SerialQueue$Slots" "first" "J" (.long q2) ∧ Fld Z h a1 "com/example/minne/minne/SerialQueue$Slots" "serials" "[J" (.ref ss) ∧ Fld Z h a1 "com/example/minne/minne/SerialQueue$Slots" "values" "[Ljava/lang/Object;" (.ref vv) ∧ own_A Z h ss .long 4 (fun _ => .long 0) ∧ own_R Z h vv "java/lang/Object" 4 (fun _ => .null))) := by
  refine own_body (plainFor_of_name pn_3) (fun m => ef_m3_4 m a1 q2 (4 : Int32)) ?_
  intro p e s m below meth c C hC T0 W0
  refine own_aloadN W0 1 d3_0 rfl rfl rfl ?_
  refine own_initO W0 0 4 d3_1 (wd15 hw) (wd7 hw) (wd8 hw) rfl (Nat.le_of_eq rfl) (by decide) (by decide) rfl ?_
  intro T1 W1
  show own_Go p e below C T1 (mkF m 4 #[.val (.ref a1), .val (.long q2), .second, .val (.int (4 : Int32))] [])
  refine own_aloadN W1 5 d3_4 rfl rfl rfl ?_
  refine own_lloadN W1 6 d3_5 rfl rfl ?_
  refine own_putfield W1 (.long q2) 9 d3_6 (wd16 hw) F_first_a1 X_a1 (Or.inr ⟨(wd17 hw), rfl, rfl⟩) (wd10 hw) (Or.inl (List.mem_of_getElem? (i := 0) rfl)) (ty := .long) (by decide) rfl rfl rfl ?_
  intro T2 h2 W2 Wr2 F_first_a1
  have X_a1 := X_a1.wr Wr2
  have F_serials_a1 := F_serials_a1.other Wr2 (Or.inr (slot_ne (Or.inr (wd20 hw)) (Or.inr (wd17 hw)) (by decide) (t := (.array .long)) (t' := .long) (by decide) (by decide)))
  have F_values_a1 := F_values_a1.other Wr2 (Or.inr (slot_ne (Or.inr (wd24 hw)) (Or.inr (wd17 hw)) (by decide) (t := (.array (.object "java/lang/Object"))) (t' := .long) (by decide) (by decide)))
  show own_Go p e below C T2 (mkF m 9 #[.val (.ref a1), .val (.long q2), .second, .val (.int (4 : Int32))] [])
  refine own_aloadN W2 10 d3_9 rfl rfl rfl ?_
  refine own_iloadN W2 11 d3_10 rfl rfl ?_
  refine own_newarray W2 4 4 13 d3_11 (wd18 hw) rfl (Nat.le_refl _) (by decide) (by decide) (by decide) rfl ?_
  intro T3 h3 ss W3 E3 g_ss o_ss V_ss
  have ne_a1_ss : a1 ≠ ss := by rw [g_ss]; exact Nat.ne_of_lt X_a1.lt
  have X_a1 := X_a1.ext E3
  have F_first_a1 := F_first_a1.ext E3
  have F_serials_a1 := F_serials_a1.ext E3
  have F_values_a1 := F_values_a1.ext E3
  show own_Go p e below C T3 (mkF m 13 #[.val (.ref a1), .val (.long q2), .second, .val (.int (4 : Int32))] [(.ref ss), (.ref a1)])
  refine own_putfield W3 (.ref ss) 16 d3_13 (wd19 hw) F_serials_a1 X_a1 (Or.inr ⟨(wd20 hw), rfl, rfl⟩) (wd10 hw) (Or.inl (List.mem_of_getElem? (i := 0) rfl)) (ty := (.array .long)) (by decide) rfl rfl rfl ?_
  intro T4 h4 W4 Wr4 F_serials_a1
  have X_a1 := X_a1.wr Wr4
  have F_first_a1 := F_first_a1.other Wr4 (Or.inr (slot_ne (Or.inr (wd17 hw)) (Or.inr (wd20 hw)) (by decide) (t := .long) (t' := (.array .long)) (by decide) (by decide)))
  have F_values_a1 := F_values_a1.other Wr4 (Or.inr (slot_ne (Or.inr (wd24 hw)) (Or.inr (wd20 hw)) (by decide) (t := (.array (.object "java/lang/Object"))) (t' := (.array .long)) (by decide) (by decide)))
  have V_ss := V_ss.other Wr4 (Ne.symm ne_a1_ss)
  show own_Go p e below C T4 (mkF m 16 #[.val (.ref a1), .val (.long q2), .second, .val (.int (4 : Int32))] [])
  refine own_aloadN W4 17 d3_16 rfl rfl rfl ?_
  refine own_iloadN W4 18 d3_17 rfl rfl ?_
  refine own_anewarray W4 4 4 21 d3_18 (wd21 hw) (wd22 hw) rfl (Nat.le_refl _) (by decide) (by decide) (by decide) rfl ?_
  intro T5 h5 vv W5 E5 g_vv o_vv V_vv
  have ne_a1_vv : a1 ≠ vv := by rw [g_vv]; exact Nat.ne_of_lt X_a1.lt
  have ne_ss_vv : ss ≠ vv := by rw [g_vv]; exact Nat.ne_of_lt V_ss.lt
  have X_a1 := X_a1.ext E5
  have F_first_a1 := F_first_a1.ext E5
  have F_serials_a1 := F_serials_a1.ext E5
  have F_values_a1 := F_values_a1.ext E5
  have V_ss := V_ss.ext E5
  show own_Go p e below C T5 (mkF m 21 #[.val (.ref a1), .val (.long q2), .second, .val (.int (4 : Int32))] [(.ref vv), (.ref a1)])
  refine own_putfield W5 (.ref vv) 24 d3_21 (wd23 hw) F_values_a1 X_a1 (Or.inr ⟨(wd24 hw), rfl, rfl⟩) (wd10 hw) (Or.inl (List.mem_of_getElem? (i := 0) rfl)) (ty := (.array (.object "java/lang/Object"))) (by decide) rfl rfl rfl ?_
  intro T6 h6 W6 Wr6 F_values_a1
  have X_a1 := X_a1.wr Wr6
  have F_first_a1 := F_first_a1.other Wr6 (Or.inr (slot_ne (Or.inr (wd17 hw)) (Or.inr (wd24 hw)) (by decide) (t := .long) (t' := (.array (.object "java/lang/Object"))) (by decide) (by decide)))
  have F_serials_a1 := F_serials_a1.other Wr6 (Or.inr (slot_ne (Or.inr (wd20 hw)) (Or.inr (wd24 hw)) (by decide) (t := (.array .long)) (t' := (.array (.object "java/lang/Object"))) (by decide) (by decide)))
  have V_ss := V_ss.other Wr6 (Ne.symm ne_a1_ss)
  have V_vv := V_vv.other Wr6 (Ne.symm ne_a1_vv)
  show own_Go p e below C T6 (mkF m 24 #[.val (.ref a1), .val (.long q2), .second, .val (.int (4 : Int32))] [])
  refine own_retV (Q := fun v h => v = none ∧ (∃ ss vv, h0.size ≤ ss ∧ h0.size ≤ vv ∧ ss ≠ vv ∧ Fld Z h a1 "com/example/minne/minne/SerialQueue$Slots" "first" "J" (.long q2) ∧ Fld Z h a1 "com/example/minne/minne/SerialQueue$Slots" "serials" "[J" (.ref ss) ∧ Fld Z h a1 "com/example/minne/minne/SerialQueue$Slots" "values" "[Ljava/lang/Object;" (.ref vv) ∧ own_A Z h ss .long 4 (fun _ => .long 0) ∧ own_R Z h vv "java/lang/Object" 4 (fun _ => .null))) W6 hC (by decide) (by decide) d3_24 ?_
  exact ⟨rfl, ⟨ss, vv, own_le_ W0 o_ss, own_le_ W0 o_vv, ne_ss_vv, F_first_a1, F_serials_a1, F_values_a1, V_ss, V_vv⟩⟩
theorem ef_m3_8 (m : MethodId) (x0 : Addr) (x1 : Int64) (x2 : Int32) : entryFrame m #[(.ref x0), (.long x1), (.int x2)] 4 = mkF m 0 #[.val (.ref x0), .val (.long x1), .second, .val (.int x2)] [] := by first | (simp [entryFrame, mkF, argsToLocals, Value.category]; done) | rfl
set_option maxRecDepth 65536 in
set_option maxHeartbeats 40000000 in
theorem own_m3_8 (l : Launch) (Z : State) (a0 : Array Value) (hw : ∀ d ∈ tables_1, d.before a0 Z = true) (wo : List Jvm.Cond) (h0 : Heap) (a1 : Addr) (q2 : Int64) (X_a1 : Exa Z h0 a1 "com/example/minne/minne/SerialQueue$Slots") (F_first_a1 : Fld Z h0 a1 "com/example/minne/minne/SerialQueue$Slots" "first" "J" (.long (0 : Int64))) (F_serials_a1 : Fld Z h0 a1 "com/example/minne/minne/SerialQueue$Slots" "serials" "[J" .null) (F_values_a1 : Fld Z h0 a1 "com/example/minne/minne/SerialQueue$Slots" "values" "[Ljava/lang/Object;" .null) :
    own_M l Z wo (⟨"com/example/minne/minne/SerialQueue$Slots", "<init>", "(JI)V"⟩ : MethodName) prog_13_method_1_code 4 none ({ frames := 1, cells := 2, slots := 16, locals := 12 } : Room) [a1] #[(.ref a1), (.long q2), (.int (8 : Int32))] h0 (fun v h => v = none ∧ (∃ ss vv, h0.size ≤ ss ∧ h0.size ≤ vv ∧ ss ≠ vv ∧ Fld Z h a1 "com/example/minne/minne/SerialQueue$Slots" "first" "J" (.long q2) ∧ Fld Z h a1 "com/example/minne/minne/SerialQueue$Slots" "serials" "[J" (.ref ss) ∧ Fld Z h a1 "com/example/minne/minne/SerialQueue$Slots" "values" "[Ljava/lang/Object;" (.ref vv) ∧ own_A Z h ss .long 8 (fun _ => .long 0) ∧ own_R Z h vv "java/lang/Object" 8 (fun _ => .null))) := by
  refine own_body (plainFor_of_name pn_3) (fun m => ef_m3_8 m a1 q2 (8 : Int32)) ?_
  intro p e s m below meth c C hC T0 W0
  refine own_aloadN W0 1 d3_0 rfl rfl rfl ?_
  refine own_initO W0 0 4 d3_1 (wd15 hw) (wd7 hw) (wd8 hw) rfl (Nat.le_of_eq rfl) (by decide) (by decide) rfl ?_
  intro T1 W1
  show own_Go p e below C T1 (mkF m 4 #[.val (.ref a1), .val (.long q2), .second, .val (.int (8 : Int32))] [])
  refine own_aloadN W1 5 d3_4 rfl rfl rfl ?_
  refine own_lloadN W1 6 d3_5 rfl rfl ?_
  refine own_putfield W1 (.long q2) 9 d3_6 (wd16 hw) F_first_a1 X_a1 (Or.inr ⟨(wd17 hw), rfl, rfl⟩) (wd10 hw) (Or.inl (List.mem_of_getElem? (i := 0) rfl)) (ty := .long) (by decide) rfl rfl rfl ?_
  intro T2 h2 W2 Wr2 F_first_a1
  have X_a1 := X_a1.wr Wr2
  have F_serials_a1 := F_serials_a1.other Wr2 (Or.inr (slot_ne (Or.inr (wd20 hw)) (Or.inr (wd17 hw)) (by decide) (t := (.array .long)) (t' := .long) (by decide) (by decide)))
  have F_values_a1 := F_values_a1.other Wr2 (Or.inr (slot_ne (Or.inr (wd24 hw)) (Or.inr (wd17 hw)) (by decide) (t := (.array (.object "java/lang/Object"))) (t' := .long) (by decide) (by decide)))
  show own_Go p e below C T2 (mkF m 9 #[.val (.ref a1), .val (.long q2), .second, .val (.int (8 : Int32))] [])
  refine own_aloadN W2 10 d3_9 rfl rfl rfl ?_
  refine own_iloadN W2 11 d3_10 rfl rfl ?_
  refine own_newarray W2 8 8 13 d3_11 (wd18 hw) rfl (Nat.le_refl _) (by decide) (by decide) (by decide) rfl ?_
  intro T3 h3 ss W3 E3 g_ss o_ss V_ss
  have ne_a1_ss : a1 ≠ ss := by rw [g_ss]; exact Nat.ne_of_lt X_a1.lt
  have X_a1 := X_a1.ext E3
  have F_first_a1 := F_first_a1.ext E3
  have F_serials_a1 := F_serials_a1.ext E3
  have F_values_a1 := F_values_a1.ext E3
  show own_Go p e below C T3 (mkF m 13 #[.val (.ref a1), .val (.long q2), .second, .val (.int (8 : Int32))] [(.ref ss), (.ref a1)])
  refine own_putfield W3 (.ref ss) 16 d3_13 (wd19 hw) F_serials_a1 X_a1 (Or.inr ⟨(wd20 hw), rfl, rfl⟩) (wd10 hw) (Or.inl (List.mem_of_getElem? (i := 0) rfl)) (ty := (.array .long)) (by decide) rfl rfl rfl ?_
  intro T4 h4 W4 Wr4 F_serials_a1
  have X_a1 := X_a1.wr Wr4
  have F_first_a1 := F_first_a1.other Wr4 (Or.inr (slot_ne (Or.inr (wd17 hw)) (Or.inr (wd20 hw)) (by decide) (t := .long) (t' := (.array .long)) (by decide) (by decide)))
  have F_values_a1 := F_values_a1.other Wr4 (Or.inr (slot_ne (Or.inr (wd24 hw)) (Or.inr (wd20 hw)) (by decide) (t := (.array (.object "java/lang/Object"))) (t' := (.array .long)) (by decide) (by decide)))
  have V_ss := V_ss.other Wr4 (Ne.symm ne_a1_ss)
  show own_Go p e below C T4 (mkF m 16 #[.val (.ref a1), .val (.long q2), .second, .val (.int (8 : Int32))] [])
  refine own_aloadN W4 17 d3_16 rfl rfl rfl ?_
  refine own_iloadN W4 18 d3_17 rfl rfl ?_
  refine own_anewarray W4 8 8 21 d3_18 (wd21 hw) (wd22 hw) rfl (Nat.le_refl _) (by decide) (by decide) (by decide) rfl ?_
  intro T5 h5 vv W5 E5 g_vv o_vv V_vv
  have ne_a1_vv : a1 ≠ vv := by rw [g_vv]; exact Nat.ne_of_lt X_a1.lt
  have ne_ss_vv : ss ≠ vv := by rw [g_vv]; exact Nat.ne_of_lt V_ss.lt
  have X_a1 := X_a1.ext E5
  have F_first_a1 := F_first_a1.ext E5
  have F_serials_a1 := F_serials_a1.ext E5
  have F_values_a1 := F_values_a1.ext E5
  have V_ss := V_ss.ext E5
  show own_Go p e below C T5 (mkF m 21 #[.val (.ref a1), .val (.long q2), .second, .val (.int (8 : Int32))] [(.ref vv), (.ref a1)])
  refine own_putfield W5 (.ref vv) 24 d3_21 (wd23 hw) F_values_a1 X_a1 (Or.inr ⟨(wd24 hw), rfl, rfl⟩) (wd10 hw) (Or.inl (List.mem_of_getElem? (i := 0) rfl)) (ty := (.array (.object "java/lang/Object"))) (by decide) rfl rfl rfl ?_
  intro T6 h6 W6 Wr6 F_values_a1
  have X_a1 := X_a1.wr Wr6
  have F_first_a1 := F_first_a1.other Wr6 (Or.inr (slot_ne (Or.inr (wd17 hw)) (Or.inr (wd24 hw)) (by decide) (t := .long) (t' := (.array (.object "java/lang/Object"))) (by decide) (by decide)))
  have F_serials_a1 := F_serials_a1.other Wr6 (Or.inr (slot_ne (Or.inr (wd20 hw)) (Or.inr (wd24 hw)) (by decide) (t := (.array .long)) (t' := (.array (.object "java/lang/Object"))) (by decide) (by decide)))
  have V_ss := V_ss.other Wr6 (Ne.symm ne_a1_ss)
  have V_vv := V_vv.other Wr6 (Ne.symm ne_a1_vv)
  show own_Go p e below C T6 (mkF m 24 #[.val (.ref a1), .val (.long q2), .second, .val (.int (8 : Int32))] [])
  refine own_retV (Q := fun v h => v = none ∧ (∃ ss vv, h0.size ≤ ss ∧ h0.size ≤ vv ∧ ss ≠ vv ∧ Fld Z h a1 "com/example/minne/minne/SerialQueue$Slots" "first" "J" (.long q2) ∧ Fld Z h a1 "com/example/minne/minne/SerialQueue$Slots" "serials" "[J" (.ref ss) ∧ Fld Z h a1 "com/example/minne/minne/SerialQueue$Slots" "values" "[Ljava/lang/Object;" (.ref vv) ∧ own_A Z h ss .long 8 (fun _ => .long 0) ∧ own_R Z h vv "java/lang/Object" 8 (fun _ => .null))) W6 hC (by decide) (by decide) d3_24 ?_
  exact ⟨rfl, ⟨ss, vv, own_le_ W0 o_ss, own_le_ W0 o_vv, ne_ss_vv, F_first_a1, F_serials_a1, F_values_a1, V_ss, V_vv⟩⟩
theorem ef_m5 (m : MethodId) (x0 : Addr) : entryFrame m #[(.ref x0)] 1 = mkF m 0 #[.val (.ref x0)] [] := by first | (simp [entryFrame, mkF, argsToLocals, Value.category]; done) | rfl
set_option maxRecDepth 65536 in
set_option maxHeartbeats 40000000 in
theorem own_m5 (l : Launch) (Z : State) (a0 : Array Value) (hw : ∀ d ∈ tables_1, d.before a0 Z = true) (wo : List Jvm.Cond) (h0 : Heap) (a1 : Addr) (hd : Int64) (tl : Int64) (F_head_a1 : Fld Z h0 a1 "com/example/minne/minne/SerialQueue" "head" "J" (.long hd)) (F_tail_a1 : Fld Z h0 a1 "com/example/minne/minne/SerialQueue" "tail" "J" (.long tl)) :
    own_M l Z wo (⟨"com/example/minne/minne/SerialQueue", "isEmpty", "()Z"⟩ : MethodName) prog_12_method_4_code 1 (some .boolean) ({ frames := 0, cells := 0, slots := 0, locals := 0 } : Room) [] #[(.ref a1)] h0 (fun v h => v = some (.int (if hd = tl then (1 : Int32) else 0))) := by
  refine own_body (plainFor_of_name pn_5) (fun m => ef_m5 m a1) ?_
  intro p e s m below meth c C hC T0 W0
  refine own_aloadN W0 1 d5_0 rfl rfl rfl ?_
  refine own_getfield W0 4 d5_1 (wd39 hw) F_head_a1 rfl ?_
  intro T1 W1
  show own_Go p e below C T1 (mkF m 4 #[.val (.ref a1)] [(.long hd)])
  refine own_aloadN W1 5 d5_4 rfl rfl rfl ?_
  refine own_getfield W1 8 d5_5 (wd41 hw) F_tail_a1 rfl ?_
  intro T2 W2
  show own_Go p e below C T2 (mkF m 8 #[.val (.ref a1)] [(.long tl), (.long hd)])
  refine own_lcmp W2 9 d5_8 rfl ?_
  suffices J3 : own_Go p e below C T2 (mkF m 17 #[.val (.ref a1)] [(.int (if hd = tl then (1 : Int32) else (0 : Int32)))]) by
    by_cases c4 : hd = tl
    · refine own_ifN W2 12 d5_9 ((if0 _ _).trans (teq ((lw_eq hd tl).mpr c4)).2) rfl ?_
      refine own_iconst W2 (1 : Int32) 13 d5_12 rfl rfl ?_
      refine own_goto W2 17 d5_13 (by decide) (by decide) ?_
      first | (simp only [if_pos c4] at J3; exact J3) | (simp only [if_pos c4] at J3 ⊢; exact J3)
    · refine own_ifY W2 16 d5_9 ((if0 _ _).trans (feq (mt (lw_eq hd tl).mp c4)).2) (by decide) (by decide) ?_
      refine own_iconst W2 (0 : Int32) 17 d5_16 rfl rfl ?_
      first | (simp only [if_neg c4] at J3; exact J3) | (simp only [if_neg c4] at J3 ⊢; exact J3)
  refine own_retZ (Q := fun v h => v = some (.int (if hd = tl then (1 : Int32) else 0))) W2 hC (by decide) (by decide) d5_17 ?_
  exact (by rw [own_bz])
theorem ef_m12 (m : MethodId) (x0 : Int32) (x1 : Int32) : entryFrame m #[(.int x0), (.int x1)] 2 = mkF m 0 #[.val (.int x0), .val (.int x1)] [] := by first | (simp [entryFrame, mkF, argsToLocals, Value.category]; done) | rfl
set_option maxRecDepth 65536 in
set_option maxHeartbeats 40000000 in
theorem own_m12 (l : Launch) (Z : State) (a0 : Array Value) (hw : ∀ d ∈ tables_1, d.before a0 Z = true) (wo : List Jvm.Cond) (h0 : Heap) (p1 : Int32) (p2 : Int32) :
    own_M l Z wo (⟨"java/lang/Math", "max", "(II)I"⟩ : MethodName) jdk_29_method_65_code 2 (some .int) ({ frames := 0, cells := 0, slots := 0, locals := 0 } : Room) [] #[(.int p1), (.int p2)] h0 (fun v h => v = some (.int (if p1 < p2 then p2 else p1))) := by
  refine own_body (Jvm.Free.JP.mathPlain rfl (by decide +kernel)) (fun m => ef_m12 m p1 p2) ?_
  intro p e s m below meth c C hC T0 W0
  refine own_iloadN W0 1 d12_0 rfl rfl ?_
  refine own_iloadN W0 2 d12_1 rfl rfl ?_
  suffices J1 : own_Go p e below C T0 (mkF m 10 #[.val (.int p1), .val (.int p2)] [(.int (if p1 < p2 then p2 else p1))]) by
    by_cases c2 : p1 < p2
    · refine own_icmpY W0 9 d12_2 ((tlt c2).1) (by decide) (by decide) ?_
      refine own_iloadN W0 10 d12_9 rfl rfl ?_
      first | (simp only [if_pos c2] at J1; exact J1) | (simp only [if_pos c2] at J1 ⊢; exact J1)
    · refine own_icmpN W0 5 d12_2 ((flt c2).1) rfl ?_
      refine own_iloadN W0 6 d12_5 rfl rfl ?_
      refine own_goto W0 10 d12_6 (by decide) (by decide) ?_
      first | (simp only [if_neg c2] at J1; exact J1) | (simp only [if_neg c2] at J1 ⊢; exact J1)
  refine own_retI (Q := fun v h => v = some (.int (if p1 < p2 then p2 else p1))) W0 hC (by decide) (by decide) d12_10 ?_
  exact rfl
theorem ef_m1 (m : MethodId) (x0 : Addr) : entryFrame m #[(.ref x0)] 1 = mkF m 0 #[.val (.ref x0)] [] := by first | (simp [entryFrame, mkF, argsToLocals, Value.category]; done) | rfl
set_option maxRecDepth 65536 in
set_option maxHeartbeats 40000000 in
theorem own_m1 (l : Launch) (Z : State) (a0 : Array Value) (hw : ∀ d ∈ tables_1, d.before a0 Z = true) (wo : List Jvm.Cond) (h0 : Heap) (a1 : Addr) (N_a1 : Unt h0 a1) (X_a1 : Exa Z h0 a1 "com/example/minne/minne/SerialQueue") (F_slots_a1 : Fld Z h0 a1 "com/example/minne/minne/SerialQueue" "slots" "Lcom/example/minne/minne/SerialQueue$Slots;" .null) (F_head_a1 : Fld Z h0 a1 "com/example/minne/minne/SerialQueue" "head" "J" (.long (0 : Int64))) (F_tail_a1 : Fld Z h0 a1 "com/example/minne/minne/SerialQueue" "tail" "J" (.long (0 : Int64))) :
    own_M l Z wo (⟨"com/example/minne/minne/SerialQueue", "<init>", "()V"⟩ : MethodName) prog_12_method_1_code 1 none ({ frames := 2, cells := 3, slots := 11, locals := 29 } : Room) [a1] #[(.ref a1)] h0 (fun v h => v = none ∧ (∃ sl ss vv, h0.size ≤ sl ∧ h0.size ≤ ss ∧ h0.size ≤ vv ∧ sl ≠ ss ∧ sl ≠ vv ∧ ss ≠ vv ∧ Unt h a1 ∧ Exa Z h sl "com/example/minne/minne/SerialQueue$Slots" ∧ Fld Z h a1 "com/example/minne/minne/SerialQueue" "slots" "Lcom/example/minne/minne/SerialQueue$Slots;" (.ref sl) ∧ Fld Z h a1 "com/example/minne/minne/SerialQueue" "head" "J" (.long (0 : Int64)) ∧ Fld Z h a1 "com/example/minne/minne/SerialQueue" "tail" "J" (.long (0 : Int64)) ∧ Fld Z h sl "com/example/minne/minne/SerialQueue$Slots" "first" "J" (.long (0 : Int64)) ∧ Fld Z h sl "com/example/minne/minne/SerialQueue$Slots" "serials" "[J" (.ref ss) ∧ Fld Z h sl "com/example/minne/minne/SerialQueue$Slots" "values" "[Ljava/lang/Object;" (.ref vv) ∧ own_A Z h ss .long 4 (fun _ => .long 0) ∧ own_R Z h vv "java/lang/Object" 4 (fun _ => .null))) := by
  refine own_body (plainFor_of_name pn_1) (fun m => ef_m1 m a1) ?_
  intro p e s m below meth c C hC T0 W0
  refine own_aloadN W0 1 d1_0 rfl rfl rfl ?_
  refine own_initO W0 0 4 d1_1 (wd6 hw) (wd7 hw) (wd8 hw) rfl (Nat.le_of_eq rfl) (by decide) (by decide) rfl ?_
  intro T1 W1
  show own_Go p e below C T1 (mkF m 4 #[.val (.ref a1)] [])
  refine own_aloadN W1 5 d1_4 rfl rfl rfl ?_
  refine own_new W1 8 d1_5 (wd9 hw) (wd10 hw) (wd11 hw) (by decide) (by decide) rfl ?_
  intro T2 h2 sl W2 E2 g_sl o_sl X_sl D_sl
  have ne_a1_sl : a1 ≠ sl := by rw [g_sl]; exact Nat.ne_of_lt X_a1.lt
  have X_a1 := X_a1.ext E2
  have N_a1 := N_a1.ext E2
  have F_slots_a1 := F_slots_a1.ext E2
  have F_head_a1 := F_head_a1.ext E2
  have F_tail_a1 := F_tail_a1.ext E2
  have F_first_sl : Fld Z h2 sl "com/example/minne/minne/SerialQueue$Slots" "first" "J" (.long (0 : Int64)) := D_sl (Or.inr (wd17 hw)) (ty := .long) (by decide)
  have F_serials_sl : Fld Z h2 sl "com/example/minne/minne/SerialQueue$Slots" "serials" "[J" .null := D_sl (Or.inr (wd20 hw)) (ty := (.array .long)) (by decide)
  have F_values_sl : Fld Z h2 sl "com/example/minne/minne/SerialQueue$Slots" "values" "[Ljava/lang/Object;" .null := D_sl (Or.inr (wd24 hw)) (ty := (.array (.object "java/lang/Object"))) (by decide)
  show own_Go p e below C T2 (mkF m 8 #[.val (.ref a1)] [(.ref sl), (.ref a1)])
  refine own_dup W2 9 d1_8 rfl rfl ?_
  refine own_lconst W2 (0 : Int64) 10 d1_9 rfl rfl ?_
  refine own_iconst W2 (4 : Int32) 11 d1_10 rfl rfl ?_
  have hll := X_sl.lt
  have hal := X_a1.lt
  refine own_callN W2 (A := [(.long (0 : Int64)), (.int (4 : Int32))]) (wt := 2) (pc' := 14) (st := [(.ref sl), (.ref a1)]) d1_11 rfl (wd12 hw) (wd13 hw) (wd11 hw) (wd14 hw) (by decide) (own_m3_4 l Z a0 hw [] h2 sl (0 : Int64) X_sl F_first_sl F_serials_sl F_values_sl) (allS (Or.inr o_sl) all0) rfl pd_0 rfl (Nat.le_of_eq rfl) (by decide) (by decide) (by decide) (by decide) rfl ?_
  rintro T3 h3 _ W3 K3 P3 ⟨rfl, ⟨ss, vv, o_ss, o_vv, ne_ss_vv, F_first_sl, F_serials_sl, F_values_sl, V_ss, V_vv⟩⟩
  have X_a1 := X_a1.keep K3
  have N_a1 := N_a1.keep K3 (ninS ne_a1_sl nin0)
  have F_slots_a1 := F_slots_a1.keep K3 (ninS ne_a1_sl nin0)
  have F_head_a1 := F_head_a1.keep K3 (ninS ne_a1_sl nin0)
  have F_tail_a1 := F_tail_a1.keep K3 (ninS ne_a1_sl nin0)
  have X_sl := X_sl.keep K3
  show own_Go p e below C T3 (mkF m 14 #[.val (.ref a1)] [(.ref sl), (.ref a1)])
  have ne_a1_ss : a1 ≠ ss := Nat.ne_of_lt (Nat.lt_of_lt_of_le hal o_ss)
  have ne_a1_vv : a1 ≠ vv := Nat.ne_of_lt (Nat.lt_of_lt_of_le hal o_vv)
  have ne_sl_ss : sl ≠ ss := Nat.ne_of_lt (Nat.lt_of_lt_of_le hll o_ss)
  have ne_sl_vv : sl ≠ vv := Nat.ne_of_lt (Nat.lt_of_lt_of_le hll o_vv)
  refine own_putfield W3 (.ref sl) 17 d1_14 (wd25 hw) F_slots_a1 X_a1 (Or.inl (wd26 hw)) (wd1 hw) (Or.inl (List.mem_of_getElem? (i := 0) rfl)) (ty := (.object "com/example/minne/minne/SerialQueue$Slots")) (by decide) rfl rfl rfl ?_
  intro T4 h4 W4 Wr4 F_slots_a1
  have X_a1 := X_a1.wr Wr4
  have N_a1 := N_a1.wr Wr4
  have F_head_a1 := F_head_a1.other Wr4 (Or.inr (slot_ne (Or.inl (wd40 hw)) (Or.inl (wd26 hw)) (by decide) (t := .long) (t' := (.object "com/example/minne/minne/SerialQueue$Slots")) (by decide) (by decide)))
  have F_tail_a1 := F_tail_a1.other Wr4 (Or.inr (slot_ne (Or.inl (wd42 hw)) (Or.inl (wd26 hw)) (by decide) (t := .long) (t' := (.object "com/example/minne/minne/SerialQueue$Slots")) (by decide) (by decide)))
  have X_sl := X_sl.wr Wr4
  have F_first_sl := F_first_sl.other Wr4 (Or.inl (Ne.symm ne_a1_sl))
  have F_serials_sl := F_serials_sl.other Wr4 (Or.inl (Ne.symm ne_a1_sl))
  have F_values_sl := F_values_sl.other Wr4 (Or.inl (Ne.symm ne_a1_sl))
  have V_ss := V_ss.other Wr4 (Ne.symm ne_a1_ss)
  have V_vv := V_vv.other Wr4 (Ne.symm ne_a1_vv)
  show own_Go p e below C T4 (mkF m 17 #[.val (.ref a1)] [])
  refine own_retV (Q := fun v h => v = none ∧ (∃ sl ss vv, h0.size ≤ sl ∧ h0.size ≤ ss ∧ h0.size ≤ vv ∧ sl ≠ ss ∧ sl ≠ vv ∧ ss ≠ vv ∧ Unt h a1 ∧ Exa Z h sl "com/example/minne/minne/SerialQueue$Slots" ∧ Fld Z h a1 "com/example/minne/minne/SerialQueue" "slots" "Lcom/example/minne/minne/SerialQueue$Slots;" (.ref sl) ∧ Fld Z h a1 "com/example/minne/minne/SerialQueue" "head" "J" (.long (0 : Int64)) ∧ Fld Z h a1 "com/example/minne/minne/SerialQueue" "tail" "J" (.long (0 : Int64)) ∧ Fld Z h sl "com/example/minne/minne/SerialQueue$Slots" "first" "J" (.long (0 : Int64)) ∧ Fld Z h sl "com/example/minne/minne/SerialQueue$Slots" "serials" "[J" (.ref ss) ∧ Fld Z h sl "com/example/minne/minne/SerialQueue$Slots" "values" "[Ljava/lang/Object;" (.ref vv) ∧ own_A Z h ss .long 4 (fun _ => .long 0) ∧ own_R Z h vv "java/lang/Object" 4 (fun _ => .null))) W4 hC (by decide) (by decide) d1_17 ?_
  exact ⟨rfl, ⟨sl, ss, vv, own_le_ W0 o_sl, own_le_ W0 (Nat.le_trans (Nat.le_trans o_sl (Nat.le_of_lt hll)) o_ss), own_le_ W0 (Nat.le_trans (Nat.le_trans o_sl (Nat.le_of_lt hll)) o_vv), ne_sl_ss, ne_sl_vv, ne_ss_vv, N_a1, X_sl, F_slots_a1, F_head_a1, F_tail_a1, F_first_sl, F_serials_sl, F_values_sl, V_ss, V_vv⟩⟩
theorem own_sto4 {Z : State} {h : Heap} {b a3 : Addr} {vf : Nat → Value} (hvf : ∀ j, j < 4 → vf j = .ref a3) (q : Sto Z h b (.ref a3)) : StoL Z h b ((List.range 4).map fun t => vf (0 + t)) := by
  show Sto Z h b (vf (0 + 0)) ∧ Sto Z h b (vf (0 + 1)) ∧ Sto Z h b (vf (0 + 2)) ∧ Sto Z h b (vf (0 + 3)) ∧ True
  rw [hvf _ (by decide), hvf _ (by decide), hvf _ (by decide), hvf _ (by decide)]
  exact ⟨q, q, q, q, trivial⟩
theorem ef_m11 (m : MethodId) (x0 : Addr) (x1 : Int64) (x2 : Int64) : entryFrame m #[(.ref x0), (.long x1), (.long x2)] 7 = mkF m 0 #[.val (.ref x0), .val (.long x1), .second, .val (.long x2), .second, .unset, .unset] [] := by first | (simp [entryFrame, mkF, argsToLocals, Value.category]; done) | rfl
set_option maxRecDepth 65536 in
set_option maxHeartbeats 40000000 in
theorem own_m11 (l : Launch) (Z : State) (a0 : Array Value) (hw : ∀ d ∈ tables_1, d.before a0 Z = true) (wo : List Jvm.Cond) (h0 : Heap) (a1 : Addr) (a3 : Addr) (ss : Addr) (vv : Addr) (sf : Nat → Value) (vf : Nat → Value) (X_a3 : Exa Z h0 a3 "java/lang/Integer") (X_a1 : Exa Z h0 a1 "com/example/minne/minne/SerialQueue$Slots") (F_first_a1 : Fld Z h0 a1 "com/example/minne/minne/SerialQueue$Slots" "first" "J" (.long (0 : Int64))) (F_serials_a1 : Fld Z h0 a1 "com/example/minne/minne/SerialQueue$Slots" "serials" "[J" (.ref ss)) (F_values_a1 : Fld Z h0 a1 "com/example/minne/minne/SerialQueue$Slots" "values" "[Ljava/lang/Object;" (.ref vv)) (V_ss : own_A Z h0 ss .long 4 sf) (V_vv : own_R Z h0 vv "java/lang/Object" 4 vf) (hsf : ∀ j, j < 4 → fits .long (sf j) = true) (hvf : ∀ j, j < 4 → vf j = .ref a3) :
    own_M l Z wo (⟨"com/example/minne/minne/SerialQueue$Slots", "copy", "(JJ)Lcom/example/minne/minne/SerialQueue$Slots;"⟩ : MethodName) prog_13_method_2_code 7 (some (.object "com/example/minne/minne/SerialQueue$Slots")) ({ frames := 2, cells := 3, slots := 19, locals := 28 } : Room) [] #[(.ref a1), (.long (0 : Int64)), (.long (4 : Int64))] h0 (fun v h => ∃ sl s2 v2, v = some (.ref sl) ∧ h0.size ≤ sl ∧ h0.size ≤ s2 ∧ h0.size ≤ v2 ∧ sl ≠ s2 ∧ sl ≠ v2 ∧ s2 ≠ v2 ∧ Fld Z h sl "com/example/minne/minne/SerialQueue$Slots" "first" "J" (.long (0 : Int64)) ∧ Fld Z h sl "com/example/minne/minne/SerialQueue$Slots" "serials" "[J" (.ref s2) ∧ Fld Z h sl "com/example/minne/minne/SerialQueue$Slots" "values" "[Ljava/lang/Object;" (.ref v2) ∧ (∃ f, own_A Z h s2 .long 8 f) ∧ (∃ f, own_R Z h v2 "java/lang/Object" 8 f)) := by
  refine own_body (plainFor_of_name pn_11) (fun m => ef_m11 m a1 (0 : Int64) (4 : Int64)) ?_
  intro p e s m below meth c C hC T0 W0
  refine own_lloadN W0 1 d11_0 rfl rfl ?_
  refine own_lloadN W0 2 d11_1 rfl rfl ?_
  refine own_lsub W0 3 d11_2 rfl ?_
  refine own_l2i W0 4 d11_3 rfl ?_
  rw [show ((4 : Int64) - (0 : Int64)).toInt32 = (4 : Int32) from rfl]
  refine own_istore W0 6 #[.val (.ref a1), .val (.long (0 : Int64)), .second, .val (.long (4 : Int64)), .second, .val (.int (4 : Int32)), .unset] d11_4 rfl rfl ?_
  refine own_new W0 9 d11_6 (wd84 hw) (wd10 hw) (wd11 hw) (by decide) (by decide) rfl ?_
  intro T1 h1 sl W1 E1 g_sl o_sl X_sl D_sl
  have ne_a3_sl : a3 ≠ sl := by rw [g_sl]; exact Nat.ne_of_lt X_a3.lt
  have ne_a1_sl : a1 ≠ sl := by rw [g_sl]; exact Nat.ne_of_lt X_a1.lt
  have ne_ss_sl : ss ≠ sl := by rw [g_sl]; exact Nat.ne_of_lt V_ss.lt
  have ne_vv_sl : vv ≠ sl := by rw [g_sl]; exact Nat.ne_of_lt V_vv.lt
  have X_a3 := X_a3.ext E1
  have X_a1 := X_a1.ext E1
  have F_first_a1 := F_first_a1.ext E1
  have F_serials_a1 := F_serials_a1.ext E1
  have F_values_a1 := F_values_a1.ext E1
  have V_ss := V_ss.ext E1
  have V_vv := V_vv.ext E1
  have F_first_sl : Fld Z h1 sl "com/example/minne/minne/SerialQueue$Slots" "first" "J" (.long (0 : Int64)) := D_sl (Or.inr (wd17 hw)) (ty := .long) (by decide)
  have F_serials_sl : Fld Z h1 sl "com/example/minne/minne/SerialQueue$Slots" "serials" "[J" .null := D_sl (Or.inr (wd20 hw)) (ty := (.array .long)) (by decide)
  have F_values_sl : Fld Z h1 sl "com/example/minne/minne/SerialQueue$Slots" "values" "[Ljava/lang/Object;" .null := D_sl (Or.inr (wd24 hw)) (ty := (.array (.object "java/lang/Object"))) (by decide)
  show own_Go p e below C T1 (mkF m 9 #[.val (.ref a1), .val (.long (0 : Int64)), .second, .val (.long (4 : Int64)), .second, .val (.int (4 : Int32)), .unset] [(.ref sl)])
  refine own_dup W1 10 d11_9 rfl rfl ?_
  refine own_lloadN W1 11 d11_10 rfl rfl ?_
  refine own_iconst W1 (4 : Int32) 12 d11_11 rfl rfl ?_
  refine own_iconst W1 (2 : Int32) 13 d11_12 rfl rfl ?_
  refine own_iload W1 15 d11_13 rfl rfl ?_
  refine own_imul W1 16 d11_15 rfl ?_
  rw [show ((2 : Int32) * (4 : Int32)) = (8 : Int32) from rfl]
  refine own_callS W1 (A := [(.int (4 : Int32)), (.int (8 : Int32))]) (wt := 4) (pc' := 19) (st := [(.long (0 : Int64)), (.ref sl), (.ref sl)]) d11_16 (wd85 hw) (wd86 hw) (wd87 hw) (wd88 hw) (by decide) (own_m12 l Z a0 hw [] h1 (4 : Int32) (8 : Int32)) all0 rfl pd_1 rfl (Nat.le_of_eq rfl) (by decide) (by decide) (by decide) (by decide) rfl ?_
  rintro T2 h2 _ W2 K2 P2 rfl
  rw [P2 rfl rfl] at W2
  show own_Go p e below C T2 (mkF m 19 #[.val (.ref a1), .val (.long (0 : Int64)), .second, .val (.long (4 : Int64)), .second, .val (.int (4 : Int32)), .unset] [(.int (if (4 : Int32) < (8 : Int32) then (8 : Int32) else (4 : Int32))), (.long (0 : Int64)), (.ref sl), (.ref sl)])
  rw [show (if (4 : Int32) < (8 : Int32) then (8 : Int32) else (4 : Int32)) = (8 : Int32) from rfl]
  have hll := X_sl.lt
  have hal := X_a1.lt
  have hsl_ := V_ss.lt
  have hvl := V_vv.lt
  refine own_callN W2 (A := [(.long (0 : Int64)), (.int (8 : Int32))]) (wt := 1) (pc' := 22) (st := [(.ref sl)]) d11_19 rfl (wd89 hw) (wd13 hw) (wd11 hw) (wd14 hw) (by decide) (own_m3_8 l Z a0 hw [] h1 sl (0 : Int64) X_sl F_first_sl F_serials_sl F_values_sl) (allS (Or.inr o_sl) all0) rfl pd_0 rfl (Nat.le_of_eq rfl) (by decide) (by decide) (by decide) (by decide) rfl ?_
  rintro T3 h3 _ W3 K3 P3 ⟨rfl, ⟨s2, v2, o_s2, o_v2, ne_s2_v2, F_first_sl, F_serials_sl, F_values_sl, V_s2, V_v2⟩⟩
  have X_a3 := X_a3.keep K3
  have X_a1 := X_a1.keep K3
  have F_first_a1 := F_first_a1.keep K3 (ninS ne_a1_sl nin0)
  have F_serials_a1 := F_serials_a1.keep K3 (ninS ne_a1_sl nin0)
  have F_values_a1 := F_values_a1.keep K3 (ninS ne_a1_sl nin0)
  have V_ss := V_ss.keep K3 (ninS ne_ss_sl nin0)
  have V_vv := V_vv.keep K3 (ninS ne_vv_sl nin0)
  have X_sl := X_sl.keep K3
  show own_Go p e below C T3 (mkF m 22 #[.val (.ref a1), .val (.long (0 : Int64)), .second, .val (.long (4 : Int64)), .second, .val (.int (4 : Int32)), .unset] [(.ref sl)])
  have hxl := X_a3.lt
  have ne_a1_s2 : a1 ≠ s2 := Nat.ne_of_lt (Nat.lt_of_lt_of_le hal o_s2)
  have ne_a1_v2 : a1 ≠ v2 := Nat.ne_of_lt (Nat.lt_of_lt_of_le hal o_v2)
  have ne_sl_s2 : sl ≠ s2 := Nat.ne_of_lt (Nat.lt_of_lt_of_le hll o_s2)
  have ne_sl_v2 : sl ≠ v2 := Nat.ne_of_lt (Nat.lt_of_lt_of_le hll o_v2)
  have ne_ss_s2 : ss ≠ s2 := Nat.ne_of_lt (Nat.lt_of_lt_of_le hsl_ o_s2)
  have ne_ss_v2 : ss ≠ v2 := Nat.ne_of_lt (Nat.lt_of_lt_of_le hsl_ o_v2)
  have ne_vv_s2 : vv ≠ s2 := Nat.ne_of_lt (Nat.lt_of_lt_of_le hvl o_s2)
  have ne_vv_v2 : vv ≠ v2 := Nat.ne_of_lt (Nat.lt_of_lt_of_le hvl o_v2)
  have o_s2 := Nat.le_trans (Nat.le_trans o_sl (Nat.le_of_lt hll)) o_s2
  have o_v2 := Nat.le_trans (Nat.le_trans o_sl (Nat.le_of_lt hll)) o_v2
  refine own_astore W3 24 #[.val (.ref a1), .val (.long (0 : Int64)), .second, .val (.long (4 : Int64)), .second, .val (.int (4 : Int32)), .val (.ref sl)] d11_22 rfl rfl rfl ?_
  refine own_aloadN W3 25 d11_24 rfl rfl rfl ?_
  refine own_getfield W3 28 d11_25 (wd19 hw) F_serials_a1 rfl ?_
  intro T4 W4
  show own_Go p e below C T4 (mkF m 28 #[.val (.ref a1), .val (.long (0 : Int64)), .second, .val (.long (4 : Int64)), .second, .val (.int (4 : Int32)), .val (.ref sl)] [(.ref ss)])
  refine own_lloadN W4 29 d11_28 rfl rfl ?_
  refine own_aloadN W4 30 d11_29 rfl rfl rfl ?_
  refine own_getfield W4 33 d11_30 (wd16 hw) F_first_a1 rfl ?_
  intro T5 W5
  show own_Go p e below C T5 (mkF m 33 #[.val (.ref a1), .val (.long (0 : Int64)), .second, .val (.long (4 : Int64)), .second, .val (.int (4 : Int32)), .val (.ref sl)] [(.long (0 : Int64)), (.long (0 : Int64)), (.ref ss)])
  refine own_lsub W5 34 d11_33 rfl ?_
  refine own_l2i W5 35 d11_34 rfl ?_
  rw [show ((0 : Int64) - (0 : Int64)).toInt32 = (0 : Int32) from rfl]
  refine own_aload W5 37 d11_35 rfl rfl rfl ?_
  refine own_getfield W5 40 d11_37 (wd19 hw) F_serials_sl rfl ?_
  intro T6 W6
  show own_Go p e below C T6 (mkF m 40 #[.val (.ref a1), .val (.long (0 : Int64)), .second, .val (.long (4 : Int64)), .second, .val (.int (4 : Int32)), .val (.ref sl)] [(.ref s2), (.int (0 : Int32)), (.ref ss)])
  refine own_iconst W6 (0 : Int32) 41 d11_40 rfl rfl ?_
  refine own_iload W6 43 d11_41 rfl rfl ?_
  refine own_arraycopy W6 (i1 := 0) (j1 := 0) (k1 := 4) (wt := 0) (pc' := 46) d11_43 (wd90 hw) (wd93 hw) (wd91 hw) (wd92 hw) V_ss V_s2 hsf (fun _ _ => rfl) (by omega) (by omega) rfl rfl rfl rfl (by omega) (by omega) o_s2 rfl (Nat.le_of_eq rfl) (by decide) (by decide) rfl ?_
  intro T7 h7 W7 K7 V_s2
  have X_a3 := X_a3.keep K7
  have X_a1 := X_a1.keep K7
  have F_first_a1 := F_first_a1.keep K7 (ninS ne_a1_s2 nin0)
  have F_serials_a1 := F_serials_a1.keep K7 (ninS ne_a1_s2 nin0)
  have F_values_a1 := F_values_a1.keep K7 (ninS ne_a1_s2 nin0)
  have V_ss := V_ss.keep K7 (ninS ne_ss_s2 nin0)
  have V_vv := V_vv.keep K7 (ninS ne_vv_s2 nin0)
  have X_sl := X_sl.keep K7
  have F_first_sl := F_first_sl.keep K7 (ninS ne_sl_s2 nin0)
  have F_serials_sl := F_serials_sl.keep K7 (ninS ne_sl_s2 nin0)
  have F_values_sl := F_values_sl.keep K7 (ninS ne_sl_s2 nin0)
  have V_v2 := V_v2.keep K7 (ninS (Ne.symm ne_s2_v2) nin0)
  show own_Go p e below C T7 (mkF m 46 #[.val (.ref a1), .val (.long (0 : Int64)), .second, .val (.long (4 : Int64)), .second, .val (.int (4 : Int32)), .val (.ref sl)] [])
  refine own_aloadN W7 47 d11_46 rfl rfl rfl ?_
  refine own_getfield W7 50 d11_47 (wd23 hw) F_values_a1 rfl ?_
  intro T8 W8
  show own_Go p e below C T8 (mkF m 50 #[.val (.ref a1), .val (.long (0 : Int64)), .second, .val (.long (4 : Int64)), .second, .val (.int (4 : Int32)), .val (.ref sl)] [(.ref vv)])
  refine own_lloadN W8 51 d11_50 rfl rfl ?_
  refine own_aloadN W8 52 d11_51 rfl rfl rfl ?_
  refine own_getfield W8 55 d11_52 (wd16 hw) F_first_a1 rfl ?_
  intro T9 W9
  show own_Go p e below C T9 (mkF m 55 #[.val (.ref a1), .val (.long (0 : Int64)), .second, .val (.long (4 : Int64)), .second, .val (.int (4 : Int32)), .val (.ref sl)] [(.long (0 : Int64)), (.long (0 : Int64)), (.ref vv)])
  refine own_lsub W9 56 d11_55 rfl ?_
  refine own_l2i W9 57 d11_56 rfl ?_
  rw [show ((0 : Int64) - (0 : Int64)).toInt32 = (0 : Int32) from rfl]
  refine own_aload W9 59 d11_57 rfl rfl rfl ?_
  refine own_getfield W9 62 d11_59 (wd23 hw) F_values_sl rfl ?_
  intro T10 W10
  show own_Go p e below C T10 (mkF m 62 #[.val (.ref a1), .val (.long (0 : Int64)), .second, .val (.long (4 : Int64)), .second, .val (.int (4 : Int32)), .val (.ref sl)] [(.ref v2), (.int (0 : Int32)), (.ref vv)])
  refine own_iconst W10 (0 : Int32) 63 d11_62 rfl rfl ?_
  refine own_iload W10 65 d11_63 rfl rfl ?_
  have hsto : Sto Z h7 v2 (.ref a3) := by
    obtain ⟨cl, A, O, -⟩ := V_v2
    exact Sto.of A O (Ins.of_exa X_a3 (wd55 hw))
  refine own_arraycopyR W10 (i1 := 0) (j1 := 0) (k1 := 4) (wt := 0) (pc' := 68) d11_65 (wd90 hw) (wd93 hw) (wd91 hw) (wd92 hw) V_vv V_v2 (fun j hj => by rw [hvf j hj]; rfl) (fun _ _ => rfl) (by omega) (by omega) (own_sto4 hvf hsto) rfl rfl rfl (by omega) (by omega) o_v2 rfl (Nat.le_of_eq rfl) (by decide) (by decide) rfl ?_
  intro T11 h11 W11 K11 V_v2
  have X_a3 := X_a3.keep K11
  have X_a1 := X_a1.keep K11
  have F_first_a1 := F_first_a1.keep K11 (ninS ne_a1_v2 nin0)
  have F_serials_a1 := F_serials_a1.keep K11 (ninS ne_a1_v2 nin0)
  have F_values_a1 := F_values_a1.keep K11 (ninS ne_a1_v2 nin0)
  have V_ss := V_ss.keep K11 (ninS ne_ss_v2 nin0)
  have V_vv := V_vv.keep K11 (ninS ne_vv_v2 nin0)
  have X_sl := X_sl.keep K11
  have F_first_sl := F_first_sl.keep K11 (ninS ne_sl_v2 nin0)
  have F_serials_sl := F_serials_sl.keep K11 (ninS ne_sl_v2 nin0)
  have F_values_sl := F_values_sl.keep K11 (ninS ne_sl_v2 nin0)
  have V_s2 := V_s2.keep K11 (ninS ne_s2_v2 nin0)
  show own_Go p e below C T11 (mkF m 68 #[.val (.ref a1), .val (.long (0 : Int64)), .second, .val (.long (4 : Int64)), .second, .val (.int (4 : Int32)), .val (.ref sl)] [])
  refine own_aload W11 70 d11_68 rfl rfl rfl ?_
  refine own_retA (Q := fun v h => ∃ sl s2 v2, v = some (.ref sl) ∧ h0.size ≤ sl ∧ h0.size ≤ s2 ∧ h0.size ≤ v2 ∧ sl ≠ s2 ∧ sl ≠ v2 ∧ s2 ≠ v2 ∧ Fld Z h sl "com/example/minne/minne/SerialQueue$Slots" "first" "J" (.long (0 : Int64)) ∧ Fld Z h sl "com/example/minne/minne/SerialQueue$Slots" "serials" "[J" (.ref s2) ∧ Fld Z h sl "com/example/minne/minne/SerialQueue$Slots" "values" "[Ljava/lang/Object;" (.ref v2) ∧ (∃ f, own_A Z h s2 .long 8 f) ∧ (∃ f, own_R Z h v2 "java/lang/Object" 8 f)) W11 hC (by decide) (by decide) rfl rfl d11_70 rfl ?_
  exact ⟨sl, s2, v2, rfl, own_le_ W0 o_sl, own_le_ W0 o_s2, own_le_ W0 o_v2, ne_sl_s2, ne_sl_v2, ne_s2_v2, F_first_sl, F_serials_sl, F_values_sl, ⟨_, V_s2⟩, ⟨_, V_v2⟩⟩
theorem ef_m7b (m : MethodId) (x0 : Addr) (x1 : Int64) (x2 : Addr) : entryFrameSync m #[(.ref x0), (.long x1), (.ref x2)] 8 x0 = mkL x0 m 0 #[.val (.ref x0), .val (.long x1), .second, .val (.ref x2), .unset, .unset, .unset, .unset] [] := by first | (simp [entryFrameSync, entryFrame, mkL, argsToLocals, Value.category]; done) | rfl
set_option maxRecDepth 65536 in
set_option maxHeartbeats 40000000 in
theorem own_m7b (l : Launch) (Z : State) (a0 : Array Value) (hw : ∀ d ∈ tables_1, d.before a0 Z = true) (h0 : Heap) (a1 : Addr) (q2 : Int64) (a3 : Addr) (sl : Addr) (ss : Addr) (vv : Addr) (sf : Nat → Value) (vf : Nat → Value) (X_a1 : Exa Z h0 a1 "com/example/minne/minne/SerialQueue") (X_a3 : Exa Z h0 a3 "java/lang/Integer") (X_sl : Exa Z h0 sl "com/example/minne/minne/SerialQueue$Slots") (F_slots_a1 : Fld Z h0 a1 "com/example/minne/minne/SerialQueue" "slots" "Lcom/example/minne/minne/SerialQueue$Slots;" (.ref sl)) (F_head_a1 : Fld Z h0 a1 "com/example/minne/minne/SerialQueue" "head" "J" (.long (0 : Int64))) (F_tail_a1 : Fld Z h0 a1 "com/example/minne/minne/SerialQueue" "tail" "J" (.long (4 : Int64))) (F_first_sl : Fld Z h0 sl "com/example/minne/minne/SerialQueue$Slots" "first" "J" (.long (0 : Int64))) (F_serials_sl : Fld Z h0 sl "com/example/minne/minne/SerialQueue$Slots" "serials" "[J" (.ref ss)) (F_values_sl : Fld Z h0 sl "com/example/minne/minne/SerialQueue$Slots" "values" "[Ljava/lang/Object;" (.ref vv)) (V_ss : own_A Z h0 ss .long 4 sf) (V_vv : own_R Z h0 vv "java/lang/Object" 4 vf) (ne_a_sl : a1 ≠ sl) (ne_a_ss : a1 ≠ ss) (ne_a_vv : a1 ≠ vv) (ne_sl_ss : sl ≠ ss) (ne_sl_vv : sl ≠ vv) (ne_ss_vv : ss ≠ vv) (hsf : ∀ j, j < 4 → fits .long (sf j) = true) (hvf : ∀ j, j < 4 → vf j = .ref a3) :
    ows_M l Z (⟨"com/example/minne/minne/SerialQueue", "add", "(JLjava/lang/Object;)V"⟩ : MethodName) prog_12_method_2_code 8 none ({ frames := 3, cells := 3, slots := 19, locals := 48 } : Room) [a1] a1 #[(.ref a1), (.long q2), (.ref a3)] h0 (fun v h => v = none ∧ (Fld Z h a1 "com/example/minne/minne/SerialQueue" "head" "J" (.long (0 : Int64)) ∧ Fld Z h a1 "com/example/minne/minne/SerialQueue" "tail" "J" (.long (5 : Int64)))) := by
  refine ows_body (plainFor_of_name pn_7) rfl (fun m => ef_m7b m a1 q2 a3) ?_
  intro p e s m below meth c C T0 h1 M0 hsz hR W0
  have X_a1 := X_a1.mon M0
  have X_a3 := X_a3.mon M0
  have X_sl := X_sl.mon M0
  have F_slots_a1 := F_slots_a1.mon M0
  have F_head_a1 := F_head_a1.mon M0
  have F_tail_a1 := F_tail_a1.mon M0
  have F_first_sl := F_first_sl.mon M0
  have F_serials_sl := F_serials_sl.mon M0
  have F_values_sl := F_values_sl.mon M0
  have V_ss := V_ss.mon M0
  have V_vv := V_vv.mon M0
  refine ows_aloadN W0 1 d7_0 rfl rfl rfl ?_
  refine ows_getfield W0 4 d7_1 (wd25 hw) F_slots_a1 rfl ?_
  intro T1 W1
  show own_Go p e below C T1 (mkL a1 m 4 #[.val (.ref a1), .val (.long q2), .second, .val (.ref a3), .unset, .unset, .unset, .unset] [(.ref sl)])
  refine ows_astore W1 6 #[.val (.ref a1), .val (.long q2), .second, .val (.ref a3), .val (.ref sl), .unset, .unset, .unset] d7_4 rfl rfl rfl ?_
  refine ows_aloadN W1 7 d7_6 rfl rfl rfl ?_
  refine ows_getfield W1 10 d7_7 (wd41 hw) F_tail_a1 rfl ?_
  intro T2 W2
  show own_Go p e below C T2 (mkL a1 m 10 #[.val (.ref a1), .val (.long q2), .second, .val (.ref a3), .val (.ref sl), .unset, .unset, .unset] [(.long (4 : Int64))])
  refine ows_lstore W2 12 #[.val (.ref a1), .val (.long q2), .second, .val (.ref a3), .val (.ref sl), .val (.long (4 : Int64)), .second, .unset] d7_10 rfl rfl ?_
  refine ows_lload W2 14 d7_12 rfl rfl ?_
  refine ows_aload W2 16 d7_14 rfl rfl rfl ?_
  refine ows_getfieldR W2 19 d7_16 (wd52 hw) F_first_sl rfl ?_
  intro T3 W3
  show own_Go p e below C T3 (mkL a1 m 19 #[.val (.ref a1), .val (.long q2), .second, .val (.ref a3), .val (.ref sl), .val (.long (4 : Int64)), .second, .unset] [(.long (0 : Int64)), (.long (4 : Int64))])
  refine ows_lsub W3 20 d7_19 rfl ?_
  refine ows_aload W3 22 d7_20 rfl rfl rfl ?_
  refine ows_getfieldR W3 25 d7_22 (wd53 hw) F_serials_sl rfl ?_
  intro T4 W4
  show own_Go p e below C T4 (mkL a1 m 25 #[.val (.ref a1), .val (.long q2), .second, .val (.ref a3), .val (.ref sl), .val (.long (4 : Int64)), .second, .unset] [(.ref ss), (.long ((4 : Int64) - (0 : Int64)))])
  refine ows_arraylength W4 (4 : Int32) 26 d7_25 V_ss rfl rfl ?_
  refine ows_i2l W4 27 d7_26 rfl ?_
  refine ows_lcmp W4 28 d7_27 rfl ?_
  refine ows_ifN W4 31 d7_28 ((if0 _ _).trans (teq ((lw_eq ((4 : Int64) - (0 : Int64)) (4 : Int32).toInt64).mpr (rfl : ((4 : Int64) - (0 : Int64)) = (4 : Int32).toInt64))).2) rfl ?_
  refine ows_aload W4 33 d7_31 rfl rfl rfl ?_
  refine ows_aloadN W4 34 d7_33 rfl rfl rfl ?_
  refine ows_getfield W4 37 d7_34 (wd39 hw) F_head_a1 rfl ?_
  intro T5 W5
  show own_Go p e below C T5 (mkL a1 m 37 #[.val (.ref a1), .val (.long q2), .second, .val (.ref a3), .val (.ref sl), .val (.long (4 : Int64)), .second, .unset] [(.long (0 : Int64)), (.ref sl)])
  refine ows_lload W5 39 d7_37 rfl rfl ?_
  have hal := X_a1.lt
  have hs1 : s.heap.size = h1.size := hsz.trans M0.1.symm
  refine ows_callV W5 (A := [(.long (0 : Int64)), (.long (4 : Int64))]) (wt := 2) (pc' := 42) (st := []) d7_39 (wd79 hw) (wd80 hw) (ows_nf W5 (wd82 hw)) (wd82 hw) (wd81 hw) (wd11 hw) (wd83 hw) (by decide) X_sl (own_m11 l Z a0 hw [] h1 sl a3 ss vv sf vf X_a3 X_sl F_first_sl F_serials_sl F_values_sl V_ss V_vv hsf hvf) all0 rfl pd_2 rfl (Nat.le_of_eq rfl) (by decide) (by decide) (by decide) (by decide) rfl ?_
  rintro T6 h6 _ W6 K6 P6 ⟨t1, s2, v2, rfl, o_t1, o_s2, o_v2, ne_t1_s2, ne_t1_v2, ne_s2_v2, F_first_t1, F_serials_t1, F_values_t1, ⟨f2, V_s2⟩, ⟨g2, V_v2⟩⟩
  have X_a1 := X_a1.keep K6
  have X_a3 := X_a3.keep K6
  have X_sl := X_sl.keep K6
  have F_slots_a1 := F_slots_a1.keep K6 nin0
  have F_head_a1 := F_head_a1.keep K6 nin0
  have F_tail_a1 := F_tail_a1.keep K6 nin0
  have F_first_sl := F_first_sl.keep K6 nin0
  have F_serials_sl := F_serials_sl.keep K6 nin0
  have F_values_sl := F_values_sl.keep K6 nin0
  have V_ss := V_ss.keep K6 nin0
  have V_vv := V_vv.keep K6 nin0
  show own_Go p e below C T6 (mkL a1 m 42 #[.val (.ref a1), .val (.long q2), .second, .val (.ref a3), .val (.ref sl), .val (.long (4 : Int64)), .second, .unset] [(.ref t1)])
  have ne_a1_t1 : a1 ≠ t1 := Nat.ne_of_lt (Nat.lt_of_lt_of_le hal o_t1)
  have o_t1 : s.heap.size ≤ t1 := Nat.le_trans (Nat.le_of_eq hs1) o_t1
  have ne_a1_s2 : a1 ≠ s2 := Nat.ne_of_lt (Nat.lt_of_lt_of_le hal o_s2)
  have o_s2 : s.heap.size ≤ s2 := Nat.le_trans (Nat.le_of_eq hs1) o_s2
  have ne_a1_v2 : a1 ≠ v2 := Nat.ne_of_lt (Nat.lt_of_lt_of_le hal o_v2)
  have o_v2 : s.heap.size ≤ v2 := Nat.le_trans (Nat.le_of_eq hs1) o_v2
  refine ows_astore W6 44 #[.val (.ref a1), .val (.long q2), .second, .val (.ref a3), .val (.ref t1), .val (.long (4 : Int64)), .second, .unset] d7_42 rfl rfl rfl ?_
  refine ows_aloadN W6 45 d7_44 rfl rfl rfl ?_
  refine ows_aload W6 47 d7_45 rfl rfl rfl ?_
  refine ows_putfield W6 (.ref t1) 50 d7_47 (wd25 hw) F_slots_a1 X_a1 (Or.inl (wd26 hw)) (wd1 hw) (Or.inl (List.mem_of_getElem? (i := 0) rfl)) (ty := (.object "com/example/minne/minne/SerialQueue$Slots")) (by decide) rfl rfl rfl ?_
  intro T7 h7 W7 Wr7 F_slots_a1
  have X_a1 := X_a1.wr Wr7
  have X_a3 := X_a3.wr Wr7
  have F_head_a1 := F_head_a1.other Wr7 (Or.inr (slot_ne (Or.inl (wd40 hw)) (Or.inl (wd26 hw)) (by decide) (t := .long) (t' := (.object "com/example/minne/minne/SerialQueue$Slots")) (by decide) (by decide)))
  have F_tail_a1 := F_tail_a1.other Wr7 (Or.inr (slot_ne (Or.inl (wd42 hw)) (Or.inl (wd26 hw)) (by decide) (t := .long) (t' := (.object "com/example/minne/minne/SerialQueue$Slots")) (by decide) (by decide)))
  have F_first_t1 := F_first_t1.other Wr7 (Or.inl (Ne.symm ne_a1_t1))
  have F_serials_t1 := F_serials_t1.other Wr7 (Or.inl (Ne.symm ne_a1_t1))
  have F_values_t1 := F_values_t1.other Wr7 (Or.inl (Ne.symm ne_a1_t1))
  have V_s2 := V_s2.other Wr7 (Ne.symm ne_a1_s2)
  have V_v2 := V_v2.other Wr7 (Ne.symm ne_a1_v2)
  show own_Go p e below C T7 (mkL a1 m 50 #[.val (.ref a1), .val (.long q2), .second, .val (.ref a3), .val (.ref t1), .val (.long (4 : Int64)), .second, .unset] [])
  refine ows_lload W7 52 d7_50 rfl rfl ?_
  refine ows_aload W7 54 d7_52 rfl rfl rfl ?_
  refine ows_getfieldR W7 57 d7_54 (wd52 hw) F_first_t1 rfl ?_
  intro T8 W8
  show own_Go p e below C T8 (mkL a1 m 57 #[.val (.ref a1), .val (.long q2), .second, .val (.ref a3), .val (.ref t1), .val (.long (4 : Int64)), .second, .unset] [(.long (0 : Int64)), (.long (4 : Int64))])
  refine ows_lsub W8 58 d7_57 rfl ?_
  refine ows_l2i W8 59 d7_58 rfl ?_
  rw [show ((4 : Int64) - (0 : Int64)).toInt32 = (4 : Int32) from rfl]
  refine ows_istore W8 61 #[.val (.ref a1), .val (.long q2), .second, .val (.ref a3), .val (.ref t1), .val (.long (4 : Int64)), .second, .val (.int (4 : Int32))] d7_59 rfl rfl ?_
  refine ows_aload W8 63 d7_61 rfl rfl rfl ?_
  refine ows_getfieldR W8 66 d7_63 (wd53 hw) F_serials_t1 rfl ?_
  intro T9 W9
  show own_Go p e below C T9 (mkL a1 m 66 #[.val (.ref a1), .val (.long q2), .second, .val (.ref a3), .val (.ref t1), .val (.long (4 : Int64)), .second, .val (.int (4 : Int32))] [(.ref s2)])
  refine ows_iload W9 68 d7_66 rfl rfl ?_
  refine ows_lloadN W9 69 d7_68 rfl rfl ?_
  refine ows_lastore W9 4 70 d7_69 V_s2 (Or.inr o_s2) rfl (by decide) rfl ?_
  intro T10 h10 W10 Wr10 V_s2
  have X_a1 := X_a1.wr Wr10
  have X_a3 := X_a3.wr Wr10
  have F_slots_a1 := F_slots_a1.other Wr10 (Or.inl ne_a1_s2)
  have F_head_a1 := F_head_a1.other Wr10 (Or.inl ne_a1_s2)
  have F_tail_a1 := F_tail_a1.other Wr10 (Or.inl ne_a1_s2)
  have F_first_t1 := F_first_t1.other Wr10 (Or.inl ne_t1_s2)
  have F_serials_t1 := F_serials_t1.other Wr10 (Or.inl ne_t1_s2)
  have F_values_t1 := F_values_t1.other Wr10 (Or.inl ne_t1_s2)
  have V_v2 := V_v2.other Wr10 (Ne.symm ne_s2_v2)
  show own_Go p e below C T10 (mkL a1 m 70 #[.val (.ref a1), .val (.long q2), .second, .val (.ref a3), .val (.ref t1), .val (.long (4 : Int64)), .second, .val (.int (4 : Int32))] [])
  refine ows_aload W10 72 d7_70 rfl rfl rfl ?_
  refine ows_getfieldR W10 75 d7_72 (wd54 hw) F_values_t1 rfl ?_
  intro T11 W11
  show own_Go p e below C T11 (mkL a1 m 75 #[.val (.ref a1), .val (.long q2), .second, .val (.ref a3), .val (.ref t1), .val (.long (4 : Int64)), .second, .val (.int (4 : Int32))] [(.ref v2)])
  refine ows_iload W11 77 d7_75 rfl rfl ?_
  refine ows_aloadN W11 78 d7_77 rfl rfl rfl ?_
  refine ows_aastore W11 4 79 d7_78 V_v2 (Ins.of_exa X_a3 (wd55 hw)) (Or.inr o_v2) rfl (by decide) rfl ?_
  intro T12 h12 W12 Wr12 V_v2
  have X_a1 := X_a1.wr Wr12
  have X_a3 := X_a3.wr Wr12
  have F_slots_a1 := F_slots_a1.other Wr12 (Or.inl ne_a1_v2)
  have F_head_a1 := F_head_a1.other Wr12 (Or.inl ne_a1_v2)
  have F_tail_a1 := F_tail_a1.other Wr12 (Or.inl ne_a1_v2)
  have F_first_t1 := F_first_t1.other Wr12 (Or.inl ne_t1_v2)
  have F_serials_t1 := F_serials_t1.other Wr12 (Or.inl ne_t1_v2)
  have F_values_t1 := F_values_t1.other Wr12 (Or.inl ne_t1_v2)
  have V_s2 := V_s2.other Wr12 ne_s2_v2
  show own_Go p e below C T12 (mkL a1 m 79 #[.val (.ref a1), .val (.long q2), .second, .val (.ref a3), .val (.ref t1), .val (.long (4 : Int64)), .second, .val (.int (4 : Int32))] [])
  refine ows_aloadN W12 80 d7_79 rfl rfl rfl ?_
  refine ows_lload W12 82 d7_80 rfl rfl ?_
  refine ows_lconst W12 (1 : Int64) 83 d7_82 rfl rfl ?_
  refine ows_ladd W12 84 d7_83 rfl ?_
  refine ows_putfield W12 (.long ((4 : Int64) + (1 : Int64))) 87 d7_84 (wd41 hw) F_tail_a1 X_a1 (Or.inl (wd42 hw)) (wd1 hw) (Or.inl (List.mem_of_getElem? (i := 0) rfl)) (ty := .long) (by decide) rfl rfl rfl ?_
  intro T13 h13 W13 Wr13 F_tail_a1
  have X_a1 := X_a1.wr Wr13
  have X_a3 := X_a3.wr Wr13
  have F_slots_a1 := F_slots_a1.other Wr13 (Or.inr (slot_ne (Or.inl (wd26 hw)) (Or.inl (wd42 hw)) (by decide) (t := (.object "com/example/minne/minne/SerialQueue$Slots")) (t' := .long) (by decide) (by decide)))
  have F_head_a1 := F_head_a1.other Wr13 (Or.inr (slot_ne (Or.inl (wd40 hw)) (Or.inl (wd42 hw)) (by decide) (t := .long) (t' := .long) (by decide) (by decide)))
  have F_first_t1 := F_first_t1.other Wr13 (Or.inl (Ne.symm ne_a1_t1))
  have F_serials_t1 := F_serials_t1.other Wr13 (Or.inl (Ne.symm ne_a1_t1))
  have F_values_t1 := F_values_t1.other Wr13 (Or.inl (Ne.symm ne_a1_t1))
  have V_s2 := V_s2.other Wr13 (Ne.symm ne_a1_s2)
  have V_v2 := V_v2.other Wr13 (Ne.symm ne_a1_v2)
  show own_Go p e below C T13 (mkL a1 m 87 #[.val (.ref a1), .val (.long q2), .second, .val (.ref a3), .val (.ref t1), .val (.long (4 : Int64)), .second, .val (.int (4 : Int32))] [])
  refine ows_retV (Q := fun v h => v = none ∧ (Fld Z h a1 "com/example/minne/minne/SerialQueue" "head" "J" (.long (0 : Int64)) ∧ Fld Z h a1 "com/example/minne/minne/SerialQueue" "tail" "J" (.long (5 : Int64)))) W13 hR (by decide) (by decide) d7_87 ?_
  intro hE ME
  have X_a1 := X_a1.mon ME
  have X_a3 := X_a3.mon ME
  have F_slots_a1 := F_slots_a1.mon ME
  have F_head_a1 := F_head_a1.mon ME
  have F_tail_a1 := F_tail_a1.mon ME
  have F_first_t1 := F_first_t1.mon ME
  have F_serials_t1 := F_serials_t1.mon ME
  have F_values_t1 := F_values_t1.mon ME
  have V_s2 := V_s2.mon ME
  have V_v2 := V_v2.mon ME
  exact ⟨rfl, ⟨F_head_a1, F_tail_a1⟩⟩
section OwnBox
variable {p : Program} {l : Launch} {e : Env} {R : Room} {s : State} {m : MethodId} {args : Array Value} {below : List Frame} {meth : Method} {c : Code} {Z : State} {y : MethodName} {ret : Option FieldType} {code : ByteArray} {ml : Nat} {ws : List Addr} {T : State} {h : Heap} {cells slots : Nat} {C : Outcome → State → Prop} {a0 : Array Value}
theorem own_aaloadA (W : own_W p l e R s m args below meth c Z y ret code ml ws T h cells slots) {a : Addr} {C0 : String} {z : Int32} {n : Nat} {f : Nat → Value} (k : Nat) (v : Value) {pc : Nat} (pc' : Nat) {L : Array Slot} {st : List Value} (hd : decode code pc = .ok (.aaload, 1)) (F : own_A Z h a (.object C0) n f) (hz : z.toInt = (k : Int)) (hk : k < n) (hv : f k = v) (hp : pc + 1 = pc') (kk : own_Go p e below C T (mkF m pc' L (v :: st))) : own_Go p e below C T (mkF m pc L (.int z :: .ref a :: st)) := by
  have hsz := own_le W
  obtain ⟨⟨hx, hby, hml, hown, hnm, hrt, hlk, hZ⟩, locs, X, eT, N⟩ := W
  subst hp eT
  obtain ⟨cl, A, hs, hf⟩ := F
  have hat : cl.slots[z.toNatClampNeg]? = some v := by rw [own_cl hz, hf k hk, hv]
  exact own_st (fun t q => X.aaload hx A.1 (State.isArrayOf_alike hZ.alike A.2.1) rfl A.2.2 (own_in hz hs hk) hat (g := mkF m pc L (.int z :: .ref a :: st)) rfl rfl (hb hby hd) t q) kk
def own_Bx (Z : State) (h : Heap) (bf : Nat → Value) : Prop := ∀ j, j < 256 → ∃ b, bf j = .ref b ∧ Exa Z h b "java/lang/Integer"
theorem own_Bx.ext {h' : Heap} {bf : Nat → Value} (F : own_Bx Z h bf) (E : Ext h h') : own_Bx Z h' bf := fun j hj => by
  obtain ⟨b, q1, q2⟩ := F j hj
  exact ⟨b, q1, q2.ext E⟩
theorem own_Bx.keep {h' : Heap} {bf : Nat → Value} {wk : List Addr} (F : own_Bx Z h bf) (K : Keep h h' wk) : own_Bx Z h' bf := fun j hj => by
  obtain ⟨b, q1, q2⟩ := F j hj
  exact ⟨b, q1, q2.keep K⟩
theorem own_Bx.wr {h' : Heap} {bf : Nat → Value} {a : Addr} {sl : Nat} {v : Value} (F : own_Bx Z h bf) (W : Wr h h' a sl v) : own_Bx Z h' bf := fun j hj => by
  obtain ⟨b, q1, q2⟩ := F j hj
  exact ⟨b, q1, q2.wr W⟩
theorem own_staK0 {h' : Heap} {O n d : String} {v : Value} (F : Sta Z h O n d v) (K : Keep h h' []) : Sta Z h' O n d v := by
  obtain ⟨cf, i, k, f, st, cell, h1, h2, h3, h4, h5, r⟩ := F
  exact ⟨cf, i, k, f, st, cell, h1, h2, h3, h4, K.2.1 _ _ h5 nin0, r⟩
theorem own_staK1 {h' : Heap} {O n d C0 : String} {v : Value} {a : Addr} (F : Sta Z h O n d v) (K : Keep h h' [a]) (X : Exa Z h a C0) : Sta Z h' O n d v := by
  obtain ⟨cf, i, k, f, st, cell, h1, h2, h3, h4, h5, h6, r⟩ := F
  refine ⟨cf, i, k, f, st, cell, h1, h2, h3, h4, K.2.1 _ _ h5 (ninS ?_ nin0), h6, r⟩
  rintro rfl
  obtain ⟨cl, kk, g1, -, -, g4, -⟩ := X
  cases h5.symm.trans g1
  rw [g4] at h6
  cases h6
theorem own_ix {z : Int32} (q1 : ¬ z < (-128 : Int32)) (q2 : ¬ (127 : Int32) < z) : ∃ k : Nat, (z + (128 : Int32)).toInt = (k : Int) ∧ k < 256 := by
  have e1 : (-128 : Int32).toInt = -128 := rfl
  have e2 : (127 : Int32).toInt = 127 := rfl
  have e3 : (128 : Int32).toInt = 128 := rfl
  rw [Int32.lt_iff_toInt_lt, e1] at q1
  rw [Int32.lt_iff_toInt_lt, e2] at q2
  refine ⟨(z.toInt + 128).toNat, ?_, by omega⟩
  rw [Int32.toInt_add, e3, Int.bmod_def]
  simp only [Nat.reducePow]
  split <;> omega
end OwnBox
theorem ef_m10 (m : MethodId) (x0 : Addr) : entryFrame m #[(.ref x0)] 1 = mkF m 0 #[.val (.ref x0)] [] := by first | (simp [entryFrame, mkF, argsToLocals, Value.category]; done) | rfl
set_option maxRecDepth 65536 in
set_option maxHeartbeats 40000000 in
theorem own_m10 (l : Launch) (Z : State) (a0 : Array Value) (hw : ∀ d ∈ tables_1, d.before a0 Z = true) (wo : List Jvm.Cond) (h0 : Heap) (a1 : Addr) :
    own_M l Z wo (⟨"java/lang/Number", "<init>", "()V"⟩ : MethodName) jdk_18_method_1_code 1 none ({ frames := 1, cells := 0, slots := 0, locals := 12 } : Room) [] #[(.ref a1)] h0 (fun v h => v = none ∧ (True)) := by
  refine own_body (plainFor_of_name pn_10) (fun m => ef_m10 m a1) ?_
  intro p e s m below meth c C hC T0 W0
  refine own_aloadN W0 1 d10_0 rfl rfl rfl ?_
  refine own_initO W0 0 4 d10_1 (wd76 hw) (wd7 hw) (wd8 hw) rfl (Nat.le_of_eq rfl) (by decide) (by decide) rfl ?_
  intro T1 W1
  show own_Go p e below C T1 (mkF m 4 #[.val (.ref a1)] [])
  refine own_retV (Q := fun v h => v = none ∧ (True)) W1 hC (by decide) (by decide) d10_4 ?_
  exact ⟨rfl, trivial⟩
theorem ef_m9 (m : MethodId) (x0 : Addr) (x1 : Int32) : entryFrame m #[(.ref x0), (.int x1)] 2 = mkF m 0 #[.val (.ref x0), .val (.int x1)] [] := by first | (simp [entryFrame, mkF, argsToLocals, Value.category]; done) | rfl
set_option maxRecDepth 65536 in
set_option maxHeartbeats 40000000 in
theorem own_m9 (l : Launch) (Z : State) (a0 : Array Value) (hw : ∀ d ∈ tables_1, d.before a0 Z = true) (wo : List Jvm.Cond) (h0 : Heap) (a1 : Addr) (p2 : Int32) (X_a1 : Exa Z h0 a1 "java/lang/Integer") (F_value_a1 : Fld Z h0 a1 "java/lang/Integer" "value" "I" (.int (0 : Int32))) :
    own_M l Z wo (⟨"java/lang/Integer", "<init>", "(I)V"⟩ : MethodName) jdk_33_method_23_code 2 none ({ frames := 2, cells := 0, slots := 0, locals := 24 } : Room) [a1] #[(.ref a1), (.int p2)] h0 (fun v h => v = none ∧ (True)) := by
  refine own_body (plainFor_of_name pn_9) (fun m => ef_m9 m a1 p2) ?_
  intro p e s m below meth c C hC T0 W0
  refine own_aloadN W0 1 d9_0 rfl rfl rfl ?_
  refine own_callN W0 (A := []) (wt := 0) (pc' := 4) (st := []) d9_1 rfl (wd70 hw) (wd71 hw) (wd74 hw) (wd75 hw) (by decide) (own_m10 l Z a0 hw [] h0 a1) all0 rfl pd_3 rfl (Nat.le_of_eq rfl) (by decide) (by decide) (by decide) (by decide) rfl ?_
  rintro T1 h1 _ W1 K1 P1 ⟨rfl, -⟩
  rw [P1 rfl rfl] at W1
  show own_Go p e below C T1 (mkF m 4 #[.val (.ref a1), .val (.int p2)] [])
  refine own_aloadN W1 5 d9_4 rfl rfl rfl ?_
  refine own_iloadN W1 6 d9_5 rfl rfl ?_
  refine own_putfield W1 (.int p2) 9 d9_6 (wd77 hw) F_value_a1 X_a1 (Or.inr ⟨(wd78 hw), rfl, rfl⟩) (wd65 hw) (Or.inl (List.mem_of_getElem? (i := 0) rfl)) (ty := .int) (by decide) rfl rfl rfl ?_
  intro T2 h2 W2 Wr2 F_value_a1
  have X_a1 := X_a1.wr Wr2
  show own_Go p e below C T2 (mkF m 9 #[.val (.ref a1), .val (.int p2)] [])
  refine own_retV (Q := fun v h => v = none ∧ (True)) W2 hC (by decide) (by decide) d9_9 ?_
  exact ⟨rfl, trivial⟩
theorem ef_m4 (m : MethodId) (x0 : Int32) : entryFrame m #[(.int x0)] 1 = mkF m 0 #[.val (.int x0)] [] := by first | (simp [entryFrame, mkF, argsToLocals, Value.category]; done) | rfl
set_option maxRecDepth 65536 in
set_option maxHeartbeats 40000000 in
theorem own_m4 (l : Launch) (Z : State) (a0 : Array Value) (hw : ∀ d ∈ tables_1, d.before a0 Z = true) (wo : List Jvm.Cond) (h0 : Heap) (p1 : Int32) (ca : Addr) (NN : Nat) (bf : Nat → Value) (S_high : Sta Z h0 "java/lang/Integer$IntegerCache" "high" "I" (.int (127 : Int32))) (S_cache : Sta Z h0 "java/lang/Integer$IntegerCache" "cache" "[Ljava/lang/Integer;" (.ref ca)) (V_ca : own_A Z h0 ca (.object "java/lang/Integer") NN bf) (hN : 256 ≤ NN) (B_x : own_Bx Z h0 bf) :
    own_M l Z wo (⟨"java/lang/Integer", "valueOf", "(I)Ljava/lang/Integer;"⟩ : MethodName) jdk_33_method_22_code 1 (some (.object "java/lang/Integer")) ({ frames := 3, cells := 1, slots := 1, locals := 38 } : Room) [] #[(.int p1)] h0 (fun v h => ∃ b, v = some (.ref b) ∧ Exa Z h b "java/lang/Integer") := by
  refine own_body (plainFor_of_name pn_4) (fun m => ef_m4 m p1) ?_
  intro p e s m below meth c C hC T0 W0
  refine own_iloadN W0 1 d4_0 rfl rfl ?_
  refine own_bipush W0 (-128 : Int32) 3 d4_1 rfl rfl ?_
  by_cases c1 : p1 < (-128 : Int32)
  · refine own_icmpY W0 23 d4_3 ((tlt c1).1) (by decide) (by decide) ?_
    refine own_new W0 26 d4_23 (wd64 hw) (wd65 hw) (wd29 hw) (by decide) (by decide) rfl ?_
    intro T1 h1 b W1 E1 g_b o_b X_b D_b
    have ne_ca_b : ca ≠ b := by rw [g_b]; exact Nat.ne_of_lt V_ca.lt
    have S_high := S_high.ext E1
    have S_cache := S_cache.ext E1
    have V_ca := V_ca.ext E1
    have B_x := B_x.ext E1
    have F_value_b : Fld Z h1 b "java/lang/Integer" "value" "I" (.int (0 : Int32)) := D_b (Or.inr (wd78 hw)) (ty := .int) (by decide)
    show own_Go p e below C T1 (mkF m 26 #[.val (.int p1)] [(.ref b)])
    refine own_dup W1 27 d4_26 rfl rfl ?_
    refine own_iloadN W1 28 d4_27 rfl rfl ?_
    refine own_callN W1 (A := [(.int p1)]) (wt := 1) (pc' := 31) (st := [(.ref b)]) d4_28 rfl (wd66 hw) (wd67 hw) (wd29 hw) (wd69 hw) (by decide) (own_m9 l Z a0 hw [] h1 b p1 X_b F_value_b) (allS (Or.inr o_b) all0) rfl pd_4 rfl (Nat.le_of_eq rfl) (by decide) (by decide) (by decide) (by decide) rfl ?_
    rintro T2 h2 _ W2 K2 P2 ⟨rfl, -⟩
    have S_high := own_staK1 S_high K2 X_b
    have S_cache := own_staK1 S_cache K2 X_b
    have V_ca := V_ca.keep K2 (ninS ne_ca_b nin0)
    have B_x := B_x.keep K2
    have X_b := X_b.keep K2
    show own_Go p e below C T2 (mkF m 31 #[.val (.int p1)] [(.ref b)])
    refine own_retA (Q := fun v h => ∃ b, v = some (.ref b) ∧ Exa Z h b "java/lang/Integer") W2 hC (by decide) (by decide) rfl rfl d4_31 rfl ?_
    exact ⟨b, rfl, X_b⟩
  · refine own_icmpN W0 6 d4_3 ((flt c1).1) rfl ?_
    refine own_iloadN W0 7 d4_6 rfl rfl ?_
    refine own_getstatic W0 10 d4_7 (wd31 hw) S_high rfl ?_
    intro T3 W3
    show own_Go p e below C T3 (mkF m 10 #[.val (.int p1)] [(.int (127 : Int32)), (.int p1)])
    by_cases c2 : (127 : Int32) < p1
    · refine own_icmpY W3 23 d4_10 ((tlt c2).2.2.1) (by decide) (by decide) ?_
      refine own_new W3 26 d4_23 (wd64 hw) (wd65 hw) (wd29 hw) (by decide) (by decide) rfl ?_
      intro T4 h4 b W4 E4 g_b o_b X_b D_b
      have ne_ca_b : ca ≠ b := by rw [g_b]; exact Nat.ne_of_lt V_ca.lt
      have S_high := S_high.ext E4
      have S_cache := S_cache.ext E4
      have V_ca := V_ca.ext E4
      have B_x := B_x.ext E4
      have F_value_b : Fld Z h4 b "java/lang/Integer" "value" "I" (.int (0 : Int32)) := D_b (Or.inr (wd78 hw)) (ty := .int) (by decide)
      show own_Go p e below C T4 (mkF m 26 #[.val (.int p1)] [(.ref b)])
      refine own_dup W4 27 d4_26 rfl rfl ?_
      refine own_iloadN W4 28 d4_27 rfl rfl ?_
      refine own_callN W4 (A := [(.int p1)]) (wt := 1) (pc' := 31) (st := [(.ref b)]) d4_28 rfl (wd66 hw) (wd67 hw) (wd29 hw) (wd69 hw) (by decide) (own_m9 l Z a0 hw [] h4 b p1 X_b F_value_b) (allS (Or.inr o_b) all0) rfl pd_4 rfl (Nat.le_of_eq rfl) (by decide) (by decide) (by decide) (by decide) rfl ?_
      rintro T5 h5 _ W5 K5 P5 ⟨rfl, -⟩
      have S_high := own_staK1 S_high K5 X_b
      have S_cache := own_staK1 S_cache K5 X_b
      have V_ca := V_ca.keep K5 (ninS ne_ca_b nin0)
      have B_x := B_x.keep K5
      have X_b := X_b.keep K5
      show own_Go p e below C T5 (mkF m 31 #[.val (.int p1)] [(.ref b)])
      refine own_retA (Q := fun v h => ∃ b, v = some (.ref b) ∧ Exa Z h b "java/lang/Integer") W5 hC (by decide) (by decide) rfl rfl d4_31 rfl ?_
      exact ⟨b, rfl, X_b⟩
    · refine own_icmpN W3 13 d4_10 ((flt c2).2.2.1) rfl ?_
      refine own_getstatic W3 16 d4_13 (wd33 hw) S_cache rfl ?_
      intro T6 W6
      show own_Go p e below C T6 (mkF m 16 #[.val (.int p1)] [(.ref ca)])
      refine own_iloadN W6 17 d4_16 rfl rfl ?_
      refine own_sipush W6 (128 : Int32) 20 d4_17 rfl rfl ?_
      refine own_iadd W6 21 d4_20 rfl ?_
      obtain ⟨k, hk, hk2⟩ := own_ix c1 c2
      obtain ⟨b, eb, X_b⟩ := B_x k hk2
      refine own_aaloadA W6 k (.ref b) 22 d4_21 V_ca hk (Nat.lt_of_lt_of_le hk2 hN) eb rfl ?_
      refine own_retA (Q := fun v h => ∃ b, v = some (.ref b) ∧ Exa Z h b "java/lang/Integer") W6 hC (by decide) (by decide) rfl rfl d4_22 rfl ?_
      exact ⟨b, rfl, X_b⟩
def own_Q4 (Z : State) (h : Heap) (a1 sl ss vv a5 : Addr) (k1 k2 : Nat) (hd tl : Int64) : Prop := ∃ (sf vf : Nat → Value), Fld Z h a1 "com/example/minne/minne/SerialQueue" "slots" "Lcom/example/minne/minne/SerialQueue$Slots;" (.ref sl) ∧ Fld Z h a1 "com/example/minne/minne/SerialQueue" "head" "J" (.long hd) ∧ Fld Z h a1 "com/example/minne/minne/SerialQueue" "tail" "J" (.long tl) ∧ Fld Z h sl "com/example/minne/minne/SerialQueue$Slots" "first" "J" (.long (0 : Int64)) ∧ Fld Z h sl "com/example/minne/minne/SerialQueue$Slots" "serials" "[J" (.ref ss) ∧ Fld Z h sl "com/example/minne/minne/SerialQueue$Slots" "values" "[Ljava/lang/Object;" (.ref vv) ∧ own_A Z h ss .long 4 sf ∧ own_R Z h vv "java/lang/Object" 4 vf ∧ (∀ j, j < 4 → fits .long (sf j) = true) ∧ (∀ j, (vf j).isRef = true) ∧ (k1 = 0 → ∀ j, j < k2 → vf j = .ref a5)
theorem own_incQ {q : Int64} {k : Nat} (h : q.toInt = (k : Int)) (hk : k < 1000) : (q + (1 : Int64)).toInt = ((k + 1 : Nat) : Int) := by
  have e1 : (1 : Int64).toInt = 1 := rfl
  rw [Int64.toInt_add, e1, h, Int.bmod_def]
  simp only [Nat.reducePow]
  split <;> omega
theorem own_incI {z : Int32} {a b : Nat} (h : z.toInt = (b : Int) - (a : Int)) (h1 : a ≤ b) (h2 : b < 1000) : (z + (1 : Int32)).toInt = ((b + 1 : Nat) : Int) - (a : Int) := by
  have e1 : (1 : Int32).toInt = 1 := rfl
  rw [Int32.toInt_add, e1, h, Int.bmod_def]
  simp only [Nat.reducePow]
  split <;> omega
theorem own_decI {z : Int32} {a b : Nat} (h : z.toInt = (b : Int) - (a : Int)) (h1 : a < b) (h2 : b < 1000) : (z - (1 : Int32)).toInt = (b : Int) - ((a + 1 : Nat) : Int) := by
  have e1 : (1 : Int32).toInt = 1 := rfl
  rw [Int32.toInt_sub, e1, h, Int.bmod_def]
  simp only [Nat.reducePow]
  split <;> omega
theorem own_z0 {z : Int32} {a b : Nat} (h : z.toInt = (b : Int) - (a : Int)) : z = 0 ↔ a = b := by
  have e1 : (0 : Int32).toInt = 0 := rfl
  constructor
  · intro q
    rw [q, e1] at h
    omega
  · intro q
    apply Int32.toInt_inj.mp
    rw [h, e1]
    omega
theorem own_qeq {hd tl : Int64} {a b : Nat} (h1 : hd.toInt = (a : Int)) (h2 : tl.toInt = (b : Int)) : hd = tl ↔ a = b := by
  constructor
  · intro q
    rw [q, h2] at h1
    omega
  · intro q
    apply Int64.toInt_inj.mp
    rw [h1, h2, q]
theorem own_qlit {hd : Int64} {k : Nat} (h : hd.toInt = (k : Int)) (n : Int64) (hn : n.toInt = (k : Int)) : hd = n := Int64.toInt_inj.mp (h.trans hn.symm)
theorem own_same01 {hd tl : Int64} {a b : Nat} {z : Int32} (h1 : hd.toInt = (a : Int)) (h2 : tl.toInt = (b : Int)) (h : z.toInt = (b : Int) - (a : Int)) : (if hd = tl then (1 : Int32) else 0) = (if z = (0 : Int32) then (1 : Int32) else (0 : Int32)) := by
  by_cases q : a = b
  · rw [if_pos ((own_qeq h1 h2).mpr q), if_pos ((own_z0 h).mpr q)]
  · rw [if_neg (fun x => q ((own_qeq h1 h2).mp x)), if_neg (fun x => q ((own_z0 h).mp x))]
theorem own_updR {f : Nat → Value} (h : ∀ j, (f j).isRef = true) (k : Nat) {v : Value} (hv : v.isRef = true) : ∀ j, (own_upd f k v j).isRef = true := by
  intro j
  unfold own_upd
  split
  · exact hv
  · exact h j
theorem own_updF {f : Nat → Value} {ty : FieldType} {n : Nat} (h : ∀ j, j < n → fits ty (f j) = true) (k : Nat) {v : Value} (hv : fits ty v = true) : ∀ j, j < n → fits ty (own_upd f k v j) = true := by
  intro j hj
  unfold own_upd
  split
  · exact hv
  · exact h j hj
theorem own_updA {f : Nat → Value} {a : Addr} {k1 k : Nat} (h : k1 = 0 → ∀ j, j < k → f j = .ref a) : k1 = 0 → ∀ j, j < k + 1 → own_upd f k (.ref a) j = .ref a := by
  intro q j hj
  unfold own_upd
  split
  · rfl
  · exact h q j (by omega)
theorem ef_m6 (m : MethodId) (x0 : Addr) (x1 : Int32) (x2 : Int32) (x3 : Int64) (x4 : Addr) : entryFrame m #[(.ref x0), (.int x1), (.int x2), (.long x3), (.ref x4)] 6 = mkF m 0 #[.val (.ref x0), .val (.int x1), .val (.int x2), .val (.long x3), .second, .val (.ref x4)] [] := by first | (simp [entryFrame, mkF, argsToLocals, Value.category]; done) | rfl
set_option maxRecDepth 65536 in
set_option maxHeartbeats 40000000 in
theorem own_m6 (l : Launch) (Z : State) (a0 : Array Value) (hw : ∀ d ∈ tables_1, d.before a0 Z = true) (wo : List Jvm.Cond) (h0 : Heap) (a1 : Addr) (p2 : Int32) (p3 : Int32) (q4 : Int64) (a5 : Addr) (sl : Addr) (ss : Addr) (vv : Addr) (hd : Int64) (tl : Int64) (k1 : Nat) (k2 : Nat) (X_a1 : Exa Z h0 a1 "com/example/minne/minne/SerialQueue") (X_a5 : Exa Z h0 a5 "java/lang/Integer") (X_sl : Exa Z h0 sl "com/example/minne/minne/SerialQueue$Slots") (N_a1 : Unt h0 a1) (Q4 : own_Q4 Z h0 a1 sl ss vv a5 k1 k2 hd tl) (ne_a_sl : a1 ≠ sl) (ne_a_ss : a1 ≠ ss) (ne_a_vv : a1 ≠ vv) (ne_sl_ss : sl ≠ ss) (ne_sl_vv : sl ≠ vv) (ne_ss_vv : ss ≠ vv) (hhd : hd.toInt = (k1 : Int)) (htl : tl.toInt = (k2 : Int)) (hz : p3.toInt = (k2 : Int) - (k1 : Int)) (hle : k1 ≤ k2) (hsum : k1 + k2 ≤ 4) :
    own_M l Z wo (⟨"com/example/minne/minne/SerialQueueIsEmptyPinLaw", "step", "(Lcom/example/minne/minne/SerialQueue;ZIJLjava/lang/Integer;)I"⟩ : MethodName) method_3_code 6 (some .int) ({ frames := 4, cells := 3, slots := 19, locals := 67 } : Room) [a1, ss, vv] #[(.ref a1), (.int p2), (.int p3), (.long q4), (.ref a5)] h0 (fun v h => ∃ (j1 j2 : Nat) (hd' tl' : Int64) (z : Int32), v = some (.int z) ∧ z.toInt = (j2 : Int) - (j1 : Int) ∧ hd'.toInt = (j1 : Int) ∧ tl'.toInt = (j2 : Int) ∧ j1 ≤ j2 ∧ j1 + j2 = k1 + k2 + 1 ∧ Fld Z h a1 "com/example/minne/minne/SerialQueue" "head" "J" (.long hd') ∧ Fld Z h a1 "com/example/minne/minne/SerialQueue" "tail" "J" (.long tl') ∧ Unt h a1 ∧ (j2 ≤ 4 → own_Q4 Z h a1 sl ss vv a5 j1 j2 hd' tl')) := by
  refine own_body (plainFor_of_name pn_6) (fun m => ef_m6 m a1 p2 p3 q4 a5) ?_
  intro p e s m below meth c C hC T0 W0
  obtain ⟨sf, vf, F_slots_a1, F_head_a1, F_tail_a1, F_first_sl, F_serials_sl, F_values_sl, V_ss, V_vv, hsf, hvf, hva⟩ := Q4
  refine own_iloadN W0 1 d6_0 rfl rfl ?_
  have J1 : ∀ (T1 : State), own_W p l e ({ frames := 4, cells := 3, slots := 19, locals := 67 } : Room) s m #[(.ref a1), (.int p2), (.int p3), (.long q4), (.ref a5)] below meth c Z (⟨"com/example/minne/minne/SerialQueueIsEmptyPinLaw", "step", "(Lcom/example/minne/minne/SerialQueue;ZIJLjava/lang/Integer;)I"⟩ : MethodName) (some .int) method_3_code 6 [a1, ss, vv] T1 h0 (0) (0) → own_Go p e below C T1 (mkF m 8 #[.val (.ref a1), .val (.int p2), .val (.int p3), .val (.long q4), .second, .val (.ref a5)] []) := by
    intro T1  W1 
    refine own_aloadN W1 9 d6_8 rfl rfl rfl ?_
    refine own_lloadN W1 10 d6_9 rfl rfl ?_
    refine own_aload W1 12 d6_10 rfl rfl rfl ?_
    by_cases h4 : k2 < 4
    · refine own_callVS W1 (A := [(.long q4), (.ref a5)]) (wt := 0) (pc' := 15) (st := []) d6_12 (wd47 hw) (wd48 hw) (own_nf W1 (wd50 hw)) (wd50 hw) (wd49 hw) (wd2 hw) (wd51 hw) (by decide) X_a1 (own_m7a l Z a0 hw h0 a1 q4 a5 sl ss vv sf vf hd tl k2 X_a1 X_a5 F_slots_a1 F_head_a1 F_tail_a1 F_first_sl F_serials_sl F_values_sl V_ss V_vv ne_a_sl ne_a_ss ne_a_vv ne_sl_ss ne_sl_vv ne_ss_vv htl h4) N_a1 (allS (Or.inl (List.mem_of_getElem? (i := 0) rfl)) (allS (Or.inl (List.mem_of_getElem? (i := 1) rfl)) (allS (Or.inl (List.mem_of_getElem? (i := 2) rfl)) all0))) rfl pd_5 rfl (Nat.le_of_eq rfl) (by decide) (by decide) (by decide) (by decide) rfl ?_
      rintro T2 h2 _ W2 K2 P2 ⟨⟨rfl, ⟨F_slots_a1, F_head_a1, F_tail_a1, F_first_sl, F_serials_sl, F_values_sl, V_ss, V_vv⟩⟩, N_a1⟩
      have X_a1 := X_a1.keep K2
      have X_a5 := X_a5.keep K2
      have X_sl := X_sl.keep K2
      show own_Go p e below C T2 (mkF m 15 #[.val (.ref a1), .val (.int p2), .val (.int p3), .val (.long q4), .second, .val (.ref a5)] [])
      refine own_iloadN W2 16 d6_15 rfl rfl ?_
      refine own_iconst W2 (1 : Int32) 17 d6_16 rfl rfl ?_
      refine own_iadd W2 18 d6_17 rfl ?_
      refine own_retI (Q := fun v h => ∃ (j1 j2 : Nat) (hd' tl' : Int64) (z : Int32), v = some (.int z) ∧ z.toInt = (j2 : Int) - (j1 : Int) ∧ hd'.toInt = (j1 : Int) ∧ tl'.toInt = (j2 : Int) ∧ j1 ≤ j2 ∧ j1 + j2 = k1 + k2 + 1 ∧ Fld Z h a1 "com/example/minne/minne/SerialQueue" "head" "J" (.long hd') ∧ Fld Z h a1 "com/example/minne/minne/SerialQueue" "tail" "J" (.long tl') ∧ Unt h a1 ∧ (j2 ≤ 4 → own_Q4 Z h a1 sl ss vv a5 j1 j2 hd' tl')) W2 hC (by decide) (by decide) d6_18 ?_
      exact ⟨k1, k2 + 1, hd, tl + (1 : Int64), _, rfl, own_incI hz hle (by omega), hhd, own_incQ htl (by omega), by omega, by omega, F_head_a1, F_tail_a1, N_a1, fun _ => ⟨_, _, F_slots_a1, F_head_a1, F_tail_a1, F_first_sl, F_serials_sl, F_values_sl, V_ss, V_vv, own_updF hsf k2 rfl, own_updR hvf k2 rfl, own_updA hva⟩⟩
    · have ek2 : k2 = 4 := by omega
      have ek1 : k1 = 0 := by omega
      obtain rfl : hd = (0 : Int64) := own_qlit hhd _ (by rw [ek1]; rfl)
      obtain rfl : tl = (4 : Int64) := own_qlit htl _ (by rw [ek2]; rfl)
      refine own_callVS W1 (A := [(.long q4), (.ref a5)]) (wt := 0) (pc' := 15) (st := []) d6_12 (wd47 hw) (wd48 hw) (own_nf W1 (wd50 hw)) (wd50 hw) (wd49 hw) (wd2 hw) (wd51 hw) (by decide) X_a1 (own_m7b l Z a0 hw h0 a1 q4 a5 sl ss vv sf vf X_a1 X_a5 X_sl F_slots_a1 F_head_a1 F_tail_a1 F_first_sl F_serials_sl F_values_sl V_ss V_vv ne_a_sl ne_a_ss ne_a_vv ne_sl_ss ne_sl_vv ne_ss_vv hsf (fun j hj => hva ek1 j (by omega))) N_a1 (allS (Or.inl (List.mem_of_getElem? (i := 0) rfl)) all0) rfl pd_5 rfl (Nat.le_of_eq rfl) (by decide) (by decide) (by decide) (by decide) rfl ?_
      rintro T3 h3 _ W3 K3 P3 ⟨⟨rfl, ⟨F_head_a1, F_tail_a1⟩⟩, N_a1⟩
      have X_a1 := X_a1.keep K3
      have X_a5 := X_a5.keep K3
      have X_sl := X_sl.keep K3
      show own_Go p e below C T3 (mkF m 15 #[.val (.ref a1), .val (.int p2), .val (.int p3), .val (.long q4), .second, .val (.ref a5)] [])
      refine own_iloadN W3 16 d6_15 rfl rfl ?_
      refine own_iconst W3 (1 : Int32) 17 d6_16 rfl rfl ?_
      refine own_iadd W3 18 d6_17 rfl ?_
      refine own_retI (Q := fun v h => ∃ (j1 j2 : Nat) (hd' tl' : Int64) (z : Int32), v = some (.int z) ∧ z.toInt = (j2 : Int) - (j1 : Int) ∧ hd'.toInt = (j1 : Int) ∧ tl'.toInt = (j2 : Int) ∧ j1 ≤ j2 ∧ j1 + j2 = k1 + k2 + 1 ∧ Fld Z h a1 "com/example/minne/minne/SerialQueue" "head" "J" (.long hd') ∧ Fld Z h a1 "com/example/minne/minne/SerialQueue" "tail" "J" (.long tl') ∧ Unt h a1 ∧ (j2 ≤ 4 → own_Q4 Z h a1 sl ss vv a5 j1 j2 hd' tl')) W3 hC (by decide) (by decide) d6_18 ?_
      exact ⟨0, 5, (0 : Int64), (5 : Int64), _, rfl, (by have h9 := own_incI hz hle (by omega); omega), rfl, rfl, by omega, by omega, F_head_a1, F_tail_a1, N_a1, fun q => absurd q (by decide)⟩
  by_cases cb : p2 = (0 : Int32)
  · refine own_ifN W0 4 d6_1 ((if0 _ _).trans (teq cb).2) rfl ?_
    refine own_iloadN W0 5 d6_4 rfl rfl ?_
    by_cases cn : p3 = (0 : Int32)
    · refine own_ifN W0 8 d6_5 ((if0 _ _).trans (teq cn).2) rfl ?_
      exact J1 _ W0
    · refine own_ifY W0 19 d6_5 ((if0 _ _).trans (feq cn).2) (by decide) (by decide) ?_
      refine own_aloadN W0 20 d6_19 rfl rfl rfl ?_
      have hk12 : k1 < k2 := by
        have q := mt (own_z0 hz).mpr cn
        omega
      rcases ref_cases (hvf k1) with ev | ⟨b, ev⟩
      · refine own_callVS W0 (A := []) (wt := 0) (pc' := 23) (st := []) d6_20 (wd56 hw) (wd57 hw) (own_nf W0 (wd59 hw)) (wd59 hw) (wd58 hw) (wd2 hw) (wd60 hw) (by decide) X_a1 (own_m8 l Z a0 hw h0 a1 sl ss vv sf vf hd tl k1 _ X_a1 F_slots_a1 F_head_a1 F_tail_a1 F_first_sl F_serials_sl F_values_sl V_ss V_vv ne_a_sl ne_a_ss ne_a_vv ne_sl_ss ne_sl_vv ne_ss_vv ev hvf hhd (by omega) (fun q => absurd ((own_qeq hhd htl).mp q) (by omega))) N_a1 (allS (Or.inl (List.mem_of_getElem? (i := 0) rfl)) (allS (Or.inl (List.mem_of_getElem? (i := 2) rfl)) all0)) rfl pd_6 rfl (Nat.le_of_eq rfl) (by decide) (by decide) (by decide) (by decide) rfl ?_
        rintro T4 h4 _ W4 K4 P4 ⟨⟨rfl, F_slots_a1, F_head_a1, F_tail_a1, F_first_sl, F_serials_sl, F_values_sl, V_ss, V_vv⟩, N_a1⟩
        have X_a1 := X_a1.keep K4
        have X_a5 := X_a5.keep K4
        have X_sl := X_sl.keep K4
        show own_Go p e below C T4 (mkF m 23 #[.val (.ref a1), .val (.int p2), .val (.int p3), .val (.long q4), .second, .val (.ref a5)] [.null])
        refine own_pop W4 24 d6_23 rfl rfl ?_
        refine own_iloadN W4 25 d6_24 rfl rfl ?_
        refine own_iconst W4 (1 : Int32) 26 d6_25 rfl rfl ?_
        refine own_isub W4 27 d6_26 rfl ?_
        refine own_retI (Q := fun v h => ∃ (j1 j2 : Nat) (hd' tl' : Int64) (z : Int32), v = some (.int z) ∧ z.toInt = (j2 : Int) - (j1 : Int) ∧ hd'.toInt = (j1 : Int) ∧ tl'.toInt = (j2 : Int) ∧ j1 ≤ j2 ∧ j1 + j2 = k1 + k2 + 1 ∧ Fld Z h a1 "com/example/minne/minne/SerialQueue" "head" "J" (.long hd') ∧ Fld Z h a1 "com/example/minne/minne/SerialQueue" "tail" "J" (.long tl') ∧ Unt h a1 ∧ (j2 ≤ 4 → own_Q4 Z h a1 sl ss vv a5 j1 j2 hd' tl')) W4 hC (by decide) (by decide) d6_27 ?_
        exact ⟨k1 + 1, k2, hd + (1 : Int64), tl, _, rfl, own_decI hz hk12 (by omega), own_incQ hhd (by omega), htl, by omega, by omega, F_head_a1, F_tail_a1, N_a1, fun _ => ⟨_, _, F_slots_a1, F_head_a1, F_tail_a1, F_first_sl, F_serials_sl, F_values_sl, V_ss, V_vv, hsf, own_updR hvf k1 rfl, fun q => absurd q (by omega)⟩⟩
      · refine own_callVS W0 (A := []) (wt := 0) (pc' := 23) (st := []) d6_20 (wd56 hw) (wd57 hw) (own_nf W0 (wd59 hw)) (wd59 hw) (wd58 hw) (wd2 hw) (wd60 hw) (by decide) X_a1 (own_m8 l Z a0 hw h0 a1 sl ss vv sf vf hd tl k1 _ X_a1 F_slots_a1 F_head_a1 F_tail_a1 F_first_sl F_serials_sl F_values_sl V_ss V_vv ne_a_sl ne_a_ss ne_a_vv ne_sl_ss ne_sl_vv ne_ss_vv ev hvf hhd (by omega) (fun q => absurd ((own_qeq hhd htl).mp q) (by omega))) N_a1 (allS (Or.inl (List.mem_of_getElem? (i := 0) rfl)) (allS (Or.inl (List.mem_of_getElem? (i := 2) rfl)) all0)) rfl pd_6 rfl (Nat.le_of_eq rfl) (by decide) (by decide) (by decide) (by decide) rfl ?_
        rintro T5 h5 _ W5 K5 P5 ⟨⟨rfl, F_slots_a1, F_head_a1, F_tail_a1, F_first_sl, F_serials_sl, F_values_sl, V_ss, V_vv⟩, N_a1⟩
        have X_a1 := X_a1.keep K5
        have X_a5 := X_a5.keep K5
        have X_sl := X_sl.keep K5
        show own_Go p e below C T5 (mkF m 23 #[.val (.ref a1), .val (.int p2), .val (.int p3), .val (.long q4), .second, .val (.ref a5)] [(.ref b)])
        refine own_pop W5 24 d6_23 rfl rfl ?_
        refine own_iloadN W5 25 d6_24 rfl rfl ?_
        refine own_iconst W5 (1 : Int32) 26 d6_25 rfl rfl ?_
        refine own_isub W5 27 d6_26 rfl ?_
        refine own_retI (Q := fun v h => ∃ (j1 j2 : Nat) (hd' tl' : Int64) (z : Int32), v = some (.int z) ∧ z.toInt = (j2 : Int) - (j1 : Int) ∧ hd'.toInt = (j1 : Int) ∧ tl'.toInt = (j2 : Int) ∧ j1 ≤ j2 ∧ j1 + j2 = k1 + k2 + 1 ∧ Fld Z h a1 "com/example/minne/minne/SerialQueue" "head" "J" (.long hd') ∧ Fld Z h a1 "com/example/minne/minne/SerialQueue" "tail" "J" (.long tl') ∧ Unt h a1 ∧ (j2 ≤ 4 → own_Q4 Z h a1 sl ss vv a5 j1 j2 hd' tl')) W5 hC (by decide) (by decide) d6_27 ?_
        exact ⟨k1 + 1, k2, hd + (1 : Int64), tl, _, rfl, own_decI hz hk12 (by omega), own_incQ hhd (by omega), htl, by omega, by omega, F_head_a1, F_tail_a1, N_a1, fun _ => ⟨_, _, F_slots_a1, F_head_a1, F_tail_a1, F_first_sl, F_serials_sl, F_values_sl, V_ss, V_vv, hsf, own_updR hvf k1 rfl, fun q => absurd q (by omega)⟩⟩
  · refine own_ifY W0 8 d6_1 ((if0 _ _).trans (feq cb).2) (by decide) (by decide) ?_
    exact J1 _ W0
theorem ef_m0 (m : MethodId) (x0 : Int32) (x1 : Int64) (x2 : Int32) : entryFrame m #[(.int x0), (.long x1), (.int x2)] maxLocals = mkF m 0 #[.val (.int x0), .val (.long x1), .second, .val (.int x2), .unset, .unset, .unset, .unset, .unset, .unset] [] := by first | (simp [entryFrame, mkF, argsToLocals, Value.category, maxLocals]; done) | rfl
set_option maxRecDepth 65536 in
set_option maxHeartbeats 40000000 in
theorem own_m0 (l : Launch) (Z : State) (a0 : Array Value) (hw : ∀ d ∈ tables_1, d.before a0 Z = true) (wo : List Jvm.Cond) (h0 : Heap) (p1 : Int32) (q2 : Int64) (p3 : Int32) (ca : Addr) (NN : Nat) (bf : Nat → Value) (S_high : Sta Z h0 "java/lang/Integer$IntegerCache" "high" "I" (.int (127 : Int32))) (S_cache : Sta Z h0 "java/lang/Integer$IntegerCache" "cache" "[Ljava/lang/Integer;" (.ref ca)) (V_ca : own_A Z h0 ca (.object "java/lang/Integer") NN bf) (hN : 256 ≤ NN) (B_x : own_Bx Z h0 bf) :
    own_M l Z wo x code maxLocals ret room_1 [] #[(.int p1), (.long q2), (.int p3)] h0 (fun v h => v = some (.int (1 : Int32))) := by
  refine own_body (plainFor_of_name pn_0) (fun m => ef_m0 m p1 q2 p3) ?_
  intro p e s m below meth c C hC T0 W0
  refine own_newU W0 3 at_0 (wd0 hw) (wd1 hw) (wd2 hw) (by decide) (by decide) rfl ?_
  intro T1 h1 a1 W1 E1 g_a1 o_a1 X_a1 D_a1 N_a1
  have ne_ca_a1 : ca ≠ a1 := by rw [g_a1]; exact Nat.ne_of_lt V_ca.lt
  have S_high := S_high.ext E1
  have S_cache := S_cache.ext E1
  have V_ca := V_ca.ext E1
  have B_x := B_x.ext E1
  have F_slots_a1 : Fld Z h1 a1 "com/example/minne/minne/SerialQueue" "slots" "Lcom/example/minne/minne/SerialQueue$Slots;" .null := D_a1 (Or.inl (wd26 hw)) (ty := (.object "com/example/minne/minne/SerialQueue$Slots")) (by decide)
  have F_head_a1 : Fld Z h1 a1 "com/example/minne/minne/SerialQueue" "head" "J" (.long (0 : Int64)) := D_a1 (Or.inl (wd40 hw)) (ty := .long) (by decide)
  have F_tail_a1 : Fld Z h1 a1 "com/example/minne/minne/SerialQueue" "tail" "J" (.long (0 : Int64)) := D_a1 (Or.inl (wd42 hw)) (ty := .long) (by decide)
  show own_Go p e below C T1 (mkF m 3 #[.val (.int p1), .val (.long q2), .second, .val (.int p3), .unset, .unset, .unset, .unset, .unset, .unset] [(.ref a1)])
  refine own_dup W1 4 at_3 rfl rfl ?_
  have hal := X_a1.lt
  refine own_callN W1 (A := []) (wt := 1) (pc' := 7) (st := [(.ref a1)]) at_4 rfl (wd3 hw) (wd4 hw) (wd2 hw) (wd5 hw) (by decide) (own_m1 l Z a0 hw [] h1 a1 N_a1 X_a1 F_slots_a1 F_head_a1 F_tail_a1) (allS (Or.inr o_a1) all0) rfl pd_3 rfl (Nat.le_of_eq rfl) (by decide) (by decide) (by decide) (by decide) rfl ?_
  rintro T2 h2 _ W2 K2 P2 ⟨rfl, ⟨sl, ss, vv, o_sl, o_ss, o_vv, ne_sl_ss, ne_sl_vv, ne_ss_vv, N_a1, X_sl, F_slots_a1, F_head_a1, F_tail_a1, F_first_sl, F_serials_sl, F_values_sl, V_ss, V_vv⟩⟩
  have S_high := own_staK1 S_high K2 X_a1
  have S_cache := own_staK1 S_cache K2 X_a1
  have V_ca := V_ca.keep K2 (ninS ne_ca_a1 nin0)
  have B_x := B_x.keep K2
  have X_a1 := X_a1.keep K2
  show own_Go p e below C T2 (mkF m 7 #[.val (.int p1), .val (.long q2), .second, .val (.int p3), .unset, .unset, .unset, .unset, .unset, .unset] [(.ref a1)])
  have ne_a_sl : a1 ≠ sl := Nat.ne_of_lt (Nat.lt_of_lt_of_le hal o_sl)
  have o_sl : s.heap.size ≤ sl := Nat.le_trans (Nat.le_trans o_a1 (Nat.le_of_lt hal)) o_sl
  have ne_a_ss : a1 ≠ ss := Nat.ne_of_lt (Nat.lt_of_lt_of_le hal o_ss)
  have o_ss : s.heap.size ≤ ss := Nat.le_trans (Nat.le_trans o_a1 (Nat.le_of_lt hal)) o_ss
  have ne_a_vv : a1 ≠ vv := Nat.ne_of_lt (Nat.lt_of_lt_of_le hal o_vv)
  have o_vv : s.heap.size ≤ vv := Nat.le_trans (Nat.le_trans o_a1 (Nat.le_of_lt hal)) o_vv
  refine own_astore W2 9 #[.val (.int p1), .val (.long q2), .second, .val (.int p3), .val (.ref a1), .unset, .unset, .unset, .unset, .unset] at_7 rfl rfl rfl ?_
  refine own_lloadN W2 10 at_9 rfl rfl ?_
  refine own_iconst W2 (3 : Int32) 11 at_10 rfl rfl ?_
  refine own_lshr W2 12 at_11 rfl ?_
  refine own_lstore W2 14 #[.val (.int p1), .val (.long q2), .second, .val (.int p3), .val (.ref a1), .val (.long (q2 >>> ((3 : Int32) &&& 0x3f).toInt64)), .second, .unset, .unset, .unset] at_12 rfl rfl ?_
  refine own_iloadN W2 15 at_14 rfl rfl ?_
  refine own_callS W2 (A := [(.int p3)]) (wt := 0) (pc' := 18) (st := []) at_15 (wd27 hw) (wd28 hw) (wd29 hw) (wd30 hw) (by decide) (own_m4 l Z a0 hw [] h2 p3 ca NN bf S_high S_cache V_ca hN B_x) all0 rfl pd_7 rfl (Nat.le_of_eq rfl) (by decide) (by decide) (by decide) (by decide) rfl ?_
  rintro T3 h3 _ W3 K3 P3 ⟨a5, rfl, X_a5⟩
  have S_high := own_staK0 S_high K3
  have S_cache := own_staK0 S_cache K3
  have V_ca := V_ca.keep K3 nin0
  have B_x := B_x.keep K3
  have X_a1 := X_a1.keep K3
  have N_a1 := N_a1.keep K3 nin0
  have X_sl := X_sl.keep K3
  have F_slots_a1 := F_slots_a1.keep K3 nin0
  have F_head_a1 := F_head_a1.keep K3 nin0
  have F_tail_a1 := F_tail_a1.keep K3 nin0
  have F_first_sl := F_first_sl.keep K3 nin0
  have F_serials_sl := F_serials_sl.keep K3 nin0
  have F_values_sl := F_values_sl.keep K3 nin0
  have V_ss := V_ss.keep K3 nin0
  have V_vv := V_vv.keep K3 nin0
  show own_Go p e below C T3 (mkF m 18 #[.val (.int p1), .val (.long q2), .second, .val (.int p3), .val (.ref a1), .val (.long (q2 >>> ((3 : Int32) &&& 0x3f).toInt64)), .second, .unset, .unset, .unset] [(.ref a5)])
  refine own_astore W3 20 #[.val (.int p1), .val (.long q2), .second, .val (.int p3), .val (.ref a1), .val (.long (q2 >>> ((3 : Int32) &&& 0x3f).toInt64)), .second, .val (.ref a5), .unset, .unset] at_18 rfl rfl rfl ?_
  refine own_aload W3 22 at_20 rfl rfl rfl ?_
  refine own_callV W3 (A := []) (wt := 0) (pc' := 25) (st := []) at_22 (wd34 hw) (wd35 hw) (own_nf W3 (wd37 hw)) (wd37 hw) (wd36 hw) (wd2 hw) (wd38 hw) (by decide) X_a1 (own_m5 l Z a0 hw [] h3 a1 (0 : Int64) (0 : Int64) F_head_a1 F_tail_a1) all0 rfl pd_8 rfl (Nat.le_of_eq rfl) (by decide) (by decide) (by decide) (by decide) rfl ?_
  rintro T4 h4 _ W4 K4 P4 rfl
  rw [P4 rfl rfl] at W4
  show own_Go p e below C T4 (mkF m 25 #[.val (.int p1), .val (.long q2), .second, .val (.int p3), .val (.ref a1), .val (.long (q2 >>> ((3 : Int32) &&& 0x3f).toInt64)), .second, .val (.ref a5), .unset, .unset] [(.int (if (0 : Int64) = (0 : Int64) then (1 : Int32) else 0))])
  rw [show (if (0 : Int64) = (0 : Int64) then (1 : Int32) else 0) = (1 : Int32) from rfl]
  refine own_istore W4 27 #[.val (.int p1), .val (.long q2), .second, .val (.int p3), .val (.ref a1), .val (.long (q2 >>> ((3 : Int32) &&& 0x3f).toInt64)), .second, .val (.ref a5), .val (.int (1 : Int32)), .unset] at_25 rfl rfl ?_
  refine own_iconst W4 (0 : Int32) 28 at_27 rfl rfl ?_
  refine own_istore W4 30 #[.val (.int p1), .val (.long q2), .second, .val (.int p3), .val (.ref a1), .val (.long (q2 >>> ((3 : Int32) &&& 0x3f).toInt64)), .second, .val (.ref a5), .val (.int (1 : Int32)), .val (.int (0 : Int32))] at_28 rfl rfl ?_
  have Q0 : own_Q4 Z h3 a1 sl ss vv a5 0 0 (0 : Int64) (0 : Int64) := ⟨_, _, F_slots_a1, F_head_a1, F_tail_a1, F_first_sl, F_serials_sl, F_values_sl, V_ss, V_vv, fun _ _ => rfl, fun _ => rfl, fun _ j hj => absurd hj (by omega)⟩
  refine own_aload W4 32 at_30 rfl rfl rfl ?_
  refine own_iloadN W4 33 at_32 rfl rfl ?_
  refine own_iconst W4 (1 : Int32) 34 at_33 rfl rfl ?_
  refine own_iand W4 35 at_34 rfl ?_
  suffices J5 : own_Go p e below C T4 (mkF m 43 #[.val (.int p1), .val (.long q2), .second, .val (.int p3), .val (.ref a1), .val (.long (q2 >>> ((3 : Int32) &&& 0x3f).toInt64)), .second, .val (.ref a5), .val (.int (1 : Int32)), .val (.int (0 : Int32))] [(.int (if (p1 &&& (1 : Int32)) = (0 : Int32) then (0 : Int32) else (1 : Int32))), (.ref a1)]) by
    by_cases c6 : (p1 &&& (1 : Int32)) = (0 : Int32)
    · refine own_ifY W4 42 at_35 ((if0 _ _).trans (teq c6).1) (by decide) (by decide) ?_
      refine own_iconst W4 (0 : Int32) 43 at_42 rfl rfl ?_
      first | (simp only [if_pos c6] at J5; exact J5) | (simp only [if_pos c6] at J5 ⊢; exact J5)
    · refine own_ifN W4 38 at_35 ((if0 _ _).trans (feq c6).1) rfl ?_
      refine own_iconst W4 (1 : Int32) 39 at_38 rfl rfl ?_
      refine own_goto W4 43 at_39 (by decide) (by decide) ?_
      first | (simp only [if_neg c6] at J5; exact J5) | (simp only [if_neg c6] at J5 ⊢; exact J5)
  refine own_iload W4 45 at_43 rfl rfl ?_
  refine own_lload W4 47 at_45 rfl rfl ?_
  refine own_aload W4 49 at_47 rfl rfl rfl ?_
  refine own_callS W4 (A := [(.ref a1), (.int (if (p1 &&& (1 : Int32)) = (0 : Int32) then (0 : Int32) else (1 : Int32))), (.int (0 : Int32)), (.long (q2 >>> ((3 : Int32) &&& 0x3f).toInt64)), (.ref a5)]) (wt := 0) (pc' := 52) (st := []) at_49 (wd43 hw) (wd44 hw) (wd45 hw) (wd46 hw) (by decide) (own_m6 l Z a0 hw [] h3 a1 (if (p1 &&& (1 : Int32)) = (0 : Int32) then (0 : Int32) else (1 : Int32)) (0 : Int32) (q2 >>> ((3 : Int32) &&& 0x3f).toInt64) a5 sl ss vv (0 : Int64) (0 : Int64) 0 0 X_a1 X_a5 X_sl N_a1 Q0 ne_a_sl ne_a_ss ne_a_vv ne_sl_ss ne_sl_vv ne_ss_vv rfl rfl (by decide) (by decide) (by decide)) (allS (Or.inr o_a1) (allS (Or.inr o_ss) (allS (Or.inr o_vv) all0))) rfl pd_9 rfl (Nat.le_of_eq rfl) (by decide) (by decide) (by decide) (by decide) rfl ?_
  rintro T7 h7 _ W7 K7 P7 ⟨j0, k0, hd0, tl0, z0, rfl, hz0, hh0, ht0, hle0, hsum0, F_head_a1, F_tail_a1, N_a1, Q0⟩
  have X_a1 := X_a1.keep K7
  have X_sl := X_sl.keep K7
  have X_a5 := X_a5.keep K7
  show own_Go p e below C T7 (mkF m 52 #[.val (.int p1), .val (.long q2), .second, .val (.int p3), .val (.ref a1), .val (.long (q2 >>> ((3 : Int32) &&& 0x3f).toInt64)), .second, .val (.ref a5), .val (.int (1 : Int32)), .val (.int (0 : Int32))] [(.int z0)])
  refine own_istore W7 54 #[.val (.int p1), .val (.long q2), .second, .val (.int p3), .val (.ref a1), .val (.long (q2 >>> ((3 : Int32) &&& 0x3f).toInt64)), .second, .val (.ref a5), .val (.int (1 : Int32)), .val (.int z0)] at_52 rfl rfl ?_
  refine own_iload W7 56 at_54 rfl rfl ?_
  refine own_ifN W7 59 at_56 ((if0 _ _).trans (feq ((by decide) : ¬ ((1 : Int32) = (0 : Int32)))).1) rfl ?_
  refine own_aload W7 61 at_59 rfl rfl rfl ?_
  refine own_callV W7 (A := []) (wt := 0) (pc' := 64) (st := []) at_61 (wd34 hw) (wd35 hw) (own_nf W7 (wd37 hw)) (wd37 hw) (wd36 hw) (wd2 hw) (wd38 hw) (by decide) X_a1 (own_m5 l Z a0 hw [] h7 a1 hd0 tl0 F_head_a1 F_tail_a1) all0 rfl pd_8 rfl (Nat.le_of_eq rfl) (by decide) (by decide) (by decide) (by decide) rfl ?_
  rintro T8 h8 _ W8 K8 P8 rfl
  rw [P8 rfl rfl] at W8
  show own_Go p e below C T8 (mkF m 64 #[.val (.int p1), .val (.long q2), .second, .val (.int p3), .val (.ref a1), .val (.long (q2 >>> ((3 : Int32) &&& 0x3f).toInt64)), .second, .val (.ref a5), .val (.int (1 : Int32)), .val (.int z0)] [(.int (if hd0 = tl0 then (1 : Int32) else 0))])
  rw [show (if hd0 = tl0 then (1 : Int32) else 0) = (if z0 = (0 : Int32) then (1 : Int32) else (0 : Int32)) from own_same01 hh0 ht0 hz0]
  refine own_iload W8 66 at_64 rfl rfl ?_
  suffices J9 : own_Go p e below C T8 (mkF m 74 #[.val (.int p1), .val (.long q2), .second, .val (.int p3), .val (.ref a1), .val (.long (q2 >>> ((3 : Int32) &&& 0x3f).toInt64)), .second, .val (.ref a5), .val (.int (1 : Int32)), .val (.int z0)] [(.int (if z0 = (0 : Int32) then (1 : Int32) else (0 : Int32))), (.int (if z0 = (0 : Int32) then (1 : Int32) else (0 : Int32)))]) by
    by_cases c10 : z0 = (0 : Int32)
    · refine own_ifN W8 69 at_66 ((if0 _ _).trans (teq c10).2) rfl ?_
      refine own_iconst W8 (1 : Int32) 70 at_69 rfl rfl ?_
      refine own_goto W8 74 at_70 (by decide) (by decide) ?_
      first | (simp only [if_pos c10] at J9; exact J9) | (simp only [if_pos c10] at J9 ⊢; exact J9)
    · refine own_ifY W8 73 at_66 ((if0 _ _).trans (feq c10).2) (by decide) (by decide) ?_
      refine own_iconst W8 (0 : Int32) 74 at_73 rfl rfl ?_
      first | (simp only [if_neg c10] at J9; exact J9) | (simp only [if_neg c10] at J9 ⊢; exact J9)
  refine own_icmpN W8 77 at_74 ((teq (rfl : (if z0 = (0 : Int32) then (1 : Int32) else (0 : Int32)) = (if z0 = (0 : Int32) then (1 : Int32) else (0 : Int32)))).2) rfl ?_
  refine own_iconst W8 (1 : Int32) 78 at_77 rfl rfl ?_
  refine own_goto W8 82 at_78 (by decide) (by decide) ?_
  refine own_istore W8 84 #[.val (.int p1), .val (.long q2), .second, .val (.int p3), .val (.ref a1), .val (.long (q2 >>> ((3 : Int32) &&& 0x3f).toInt64)), .second, .val (.ref a5), .val (.int (1 : Int32)), .val (.int z0)] at_82 rfl rfl ?_
  refine own_aload W8 86 at_84 rfl rfl rfl ?_
  refine own_iloadN W8 87 at_86 rfl rfl ?_
  refine own_iconst W8 (2 : Int32) 88 at_87 rfl rfl ?_
  refine own_iand W8 89 at_88 rfl ?_
  have hs0 : j0 + k0 ≤ 1 := by omega
  have Q0 := Q0 (by omega)
  suffices J11 : own_Go p e below C T8 (mkF m 97 #[.val (.int p1), .val (.long q2), .second, .val (.int p3), .val (.ref a1), .val (.long (q2 >>> ((3 : Int32) &&& 0x3f).toInt64)), .second, .val (.ref a5), .val (.int (1 : Int32)), .val (.int z0)] [(.int (if (p1 &&& (2 : Int32)) = (0 : Int32) then (0 : Int32) else (1 : Int32))), (.ref a1)]) by
    by_cases c12 : (p1 &&& (2 : Int32)) = (0 : Int32)
    · refine own_ifY W8 96 at_89 ((if0 _ _).trans (teq c12).1) (by decide) (by decide) ?_
      refine own_iconst W8 (0 : Int32) 97 at_96 rfl rfl ?_
      first | (simp only [if_pos c12] at J11; exact J11) | (simp only [if_pos c12] at J11 ⊢; exact J11)
    · refine own_ifN W8 92 at_89 ((if0 _ _).trans (feq c12).1) rfl ?_
      refine own_iconst W8 (1 : Int32) 93 at_92 rfl rfl ?_
      refine own_goto W8 97 at_93 (by decide) (by decide) ?_
      first | (simp only [if_neg c12] at J11; exact J11) | (simp only [if_neg c12] at J11 ⊢; exact J11)
  refine own_iload W8 99 at_97 rfl rfl ?_
  refine own_lload W8 101 at_99 rfl rfl ?_
  refine own_lconst W8 (1 : Int64) 102 at_101 rfl rfl ?_
  refine own_ladd W8 103 at_102 rfl ?_
  refine own_aload W8 105 at_103 rfl rfl rfl ?_
  refine own_callS W8 (A := [(.ref a1), (.int (if (p1 &&& (2 : Int32)) = (0 : Int32) then (0 : Int32) else (1 : Int32))), (.int z0), (.long ((q2 >>> ((3 : Int32) &&& 0x3f).toInt64) + (1 : Int64))), (.ref a5)]) (wt := 0) (pc' := 108) (st := []) at_105 (wd43 hw) (wd44 hw) (wd45 hw) (wd46 hw) (by decide) (own_m6 l Z a0 hw [] h7 a1 (if (p1 &&& (2 : Int32)) = (0 : Int32) then (0 : Int32) else (1 : Int32)) z0 ((q2 >>> ((3 : Int32) &&& 0x3f).toInt64) + (1 : Int64)) a5 sl ss vv hd0 tl0 j0 k0 X_a1 X_a5 X_sl N_a1 Q0 ne_a_sl ne_a_ss ne_a_vv ne_sl_ss ne_sl_vv ne_ss_vv hh0 ht0 hz0 hle0 (by omega)) (allS (Or.inr o_a1) (allS (Or.inr o_ss) (allS (Or.inr o_vv) all0))) rfl pd_9 rfl (Nat.le_of_eq rfl) (by decide) (by decide) (by decide) (by decide) rfl ?_
  rintro T13 h13 _ W13 K13 P13 ⟨j1, k1, hd1, tl1, z1, rfl, hz1, hh1, ht1, hle1, hsum1, F_head_a1, F_tail_a1, N_a1, Q1⟩
  have X_a1 := X_a1.keep K13
  have X_sl := X_sl.keep K13
  have X_a5 := X_a5.keep K13
  show own_Go p e below C T13 (mkF m 108 #[.val (.int p1), .val (.long q2), .second, .val (.int p3), .val (.ref a1), .val (.long (q2 >>> ((3 : Int32) &&& 0x3f).toInt64)), .second, .val (.ref a5), .val (.int (1 : Int32)), .val (.int z0)] [(.int z1)])
  refine own_istore W13 110 #[.val (.int p1), .val (.long q2), .second, .val (.int p3), .val (.ref a1), .val (.long (q2 >>> ((3 : Int32) &&& 0x3f).toInt64)), .second, .val (.ref a5), .val (.int (1 : Int32)), .val (.int z1)] at_108 rfl rfl ?_
  refine own_iload W13 112 at_110 rfl rfl ?_
  refine own_ifN W13 115 at_112 ((if0 _ _).trans (feq ((by decide) : ¬ ((1 : Int32) = (0 : Int32)))).1) rfl ?_
  refine own_aload W13 117 at_115 rfl rfl rfl ?_
  refine own_callV W13 (A := []) (wt := 0) (pc' := 120) (st := []) at_117 (wd34 hw) (wd35 hw) (own_nf W13 (wd37 hw)) (wd37 hw) (wd36 hw) (wd2 hw) (wd38 hw) (by decide) X_a1 (own_m5 l Z a0 hw [] h13 a1 hd1 tl1 F_head_a1 F_tail_a1) all0 rfl pd_8 rfl (Nat.le_of_eq rfl) (by decide) (by decide) (by decide) (by decide) rfl ?_
  rintro T14 h14 _ W14 K14 P14 rfl
  rw [P14 rfl rfl] at W14
  show own_Go p e below C T14 (mkF m 120 #[.val (.int p1), .val (.long q2), .second, .val (.int p3), .val (.ref a1), .val (.long (q2 >>> ((3 : Int32) &&& 0x3f).toInt64)), .second, .val (.ref a5), .val (.int (1 : Int32)), .val (.int z1)] [(.int (if hd1 = tl1 then (1 : Int32) else 0))])
  rw [show (if hd1 = tl1 then (1 : Int32) else 0) = (if z1 = (0 : Int32) then (1 : Int32) else (0 : Int32)) from own_same01 hh1 ht1 hz1]
  refine own_iload W14 122 at_120 rfl rfl ?_
  suffices J15 : own_Go p e below C T14 (mkF m 130 #[.val (.int p1), .val (.long q2), .second, .val (.int p3), .val (.ref a1), .val (.long (q2 >>> ((3 : Int32) &&& 0x3f).toInt64)), .second, .val (.ref a5), .val (.int (1 : Int32)), .val (.int z1)] [(.int (if z1 = (0 : Int32) then (1 : Int32) else (0 : Int32))), (.int (if z1 = (0 : Int32) then (1 : Int32) else (0 : Int32)))]) by
    by_cases c16 : z1 = (0 : Int32)
    · refine own_ifN W14 125 at_122 ((if0 _ _).trans (teq c16).2) rfl ?_
      refine own_iconst W14 (1 : Int32) 126 at_125 rfl rfl ?_
      refine own_goto W14 130 at_126 (by decide) (by decide) ?_
      first | (simp only [if_pos c16] at J15; exact J15) | (simp only [if_pos c16] at J15 ⊢; exact J15)
    · refine own_ifY W14 129 at_122 ((if0 _ _).trans (feq c16).2) (by decide) (by decide) ?_
      refine own_iconst W14 (0 : Int32) 130 at_129 rfl rfl ?_
      first | (simp only [if_neg c16] at J15; exact J15) | (simp only [if_neg c16] at J15 ⊢; exact J15)
  refine own_icmpN W14 133 at_130 ((teq (rfl : (if z1 = (0 : Int32) then (1 : Int32) else (0 : Int32)) = (if z1 = (0 : Int32) then (1 : Int32) else (0 : Int32)))).2) rfl ?_
  refine own_iconst W14 (1 : Int32) 134 at_133 rfl rfl ?_
  refine own_goto W14 138 at_134 (by decide) (by decide) ?_
  refine own_istore W14 140 #[.val (.int p1), .val (.long q2), .second, .val (.int p3), .val (.ref a1), .val (.long (q2 >>> ((3 : Int32) &&& 0x3f).toInt64)), .second, .val (.ref a5), .val (.int (1 : Int32)), .val (.int z1)] at_138 rfl rfl ?_
  refine own_aload W14 142 at_140 rfl rfl rfl ?_
  refine own_iloadN W14 143 at_142 rfl rfl ?_
  refine own_iconst W14 (4 : Int32) 144 at_143 rfl rfl ?_
  refine own_iand W14 145 at_144 rfl ?_
  have hs1 : j1 + k1 ≤ 2 := by omega
  have Q1 := Q1 (by omega)
  suffices J17 : own_Go p e below C T14 (mkF m 153 #[.val (.int p1), .val (.long q2), .second, .val (.int p3), .val (.ref a1), .val (.long (q2 >>> ((3 : Int32) &&& 0x3f).toInt64)), .second, .val (.ref a5), .val (.int (1 : Int32)), .val (.int z1)] [(.int (if (p1 &&& (4 : Int32)) = (0 : Int32) then (0 : Int32) else (1 : Int32))), (.ref a1)]) by
    by_cases c18 : (p1 &&& (4 : Int32)) = (0 : Int32)
    · refine own_ifY W14 152 at_145 ((if0 _ _).trans (teq c18).1) (by decide) (by decide) ?_
      refine own_iconst W14 (0 : Int32) 153 at_152 rfl rfl ?_
      first | (simp only [if_pos c18] at J17; exact J17) | (simp only [if_pos c18] at J17 ⊢; exact J17)
    · refine own_ifN W14 148 at_145 ((if0 _ _).trans (feq c18).1) rfl ?_
      refine own_iconst W14 (1 : Int32) 149 at_148 rfl rfl ?_
      refine own_goto W14 153 at_149 (by decide) (by decide) ?_
      first | (simp only [if_neg c18] at J17; exact J17) | (simp only [if_neg c18] at J17 ⊢; exact J17)
  refine own_iload W14 155 at_153 rfl rfl ?_
  refine own_lload W14 157 at_155 rfl rfl ?_
  refine own_ldc2Long W14 160 at_157 (wd61 hw) rfl ?_
  refine own_ladd W14 161 at_160 rfl ?_
  refine own_aload W14 163 at_161 rfl rfl rfl ?_
  refine own_callS W14 (A := [(.ref a1), (.int (if (p1 &&& (4 : Int32)) = (0 : Int32) then (0 : Int32) else (1 : Int32))), (.int z1), (.long ((q2 >>> ((3 : Int32) &&& 0x3f).toInt64) + (2 : Int64))), (.ref a5)]) (wt := 0) (pc' := 166) (st := []) at_163 (wd43 hw) (wd44 hw) (wd45 hw) (wd46 hw) (by decide) (own_m6 l Z a0 hw [] h13 a1 (if (p1 &&& (4 : Int32)) = (0 : Int32) then (0 : Int32) else (1 : Int32)) z1 ((q2 >>> ((3 : Int32) &&& 0x3f).toInt64) + (2 : Int64)) a5 sl ss vv hd1 tl1 j1 k1 X_a1 X_a5 X_sl N_a1 Q1 ne_a_sl ne_a_ss ne_a_vv ne_sl_ss ne_sl_vv ne_ss_vv hh1 ht1 hz1 hle1 (by omega)) (allS (Or.inr o_a1) (allS (Or.inr o_ss) (allS (Or.inr o_vv) all0))) rfl pd_9 rfl (Nat.le_of_eq rfl) (by decide) (by decide) (by decide) (by decide) rfl ?_
  rintro T19 h19 _ W19 K19 P19 ⟨j2, k2, hd2, tl2, z2, rfl, hz2, hh2, ht2, hle2, hsum2, F_head_a1, F_tail_a1, N_a1, Q2⟩
  have X_a1 := X_a1.keep K19
  have X_sl := X_sl.keep K19
  have X_a5 := X_a5.keep K19
  show own_Go p e below C T19 (mkF m 166 #[.val (.int p1), .val (.long q2), .second, .val (.int p3), .val (.ref a1), .val (.long (q2 >>> ((3 : Int32) &&& 0x3f).toInt64)), .second, .val (.ref a5), .val (.int (1 : Int32)), .val (.int z1)] [(.int z2)])
  refine own_istore W19 168 #[.val (.int p1), .val (.long q2), .second, .val (.int p3), .val (.ref a1), .val (.long (q2 >>> ((3 : Int32) &&& 0x3f).toInt64)), .second, .val (.ref a5), .val (.int (1 : Int32)), .val (.int z2)] at_166 rfl rfl ?_
  refine own_iload W19 170 at_168 rfl rfl ?_
  refine own_ifN W19 173 at_170 ((if0 _ _).trans (feq ((by decide) : ¬ ((1 : Int32) = (0 : Int32)))).1) rfl ?_
  refine own_aload W19 175 at_173 rfl rfl rfl ?_
  refine own_callV W19 (A := []) (wt := 0) (pc' := 178) (st := []) at_175 (wd34 hw) (wd35 hw) (own_nf W19 (wd37 hw)) (wd37 hw) (wd36 hw) (wd2 hw) (wd38 hw) (by decide) X_a1 (own_m5 l Z a0 hw [] h19 a1 hd2 tl2 F_head_a1 F_tail_a1) all0 rfl pd_8 rfl (Nat.le_of_eq rfl) (by decide) (by decide) (by decide) (by decide) rfl ?_
  rintro T20 h20 _ W20 K20 P20 rfl
  rw [P20 rfl rfl] at W20
  show own_Go p e below C T20 (mkF m 178 #[.val (.int p1), .val (.long q2), .second, .val (.int p3), .val (.ref a1), .val (.long (q2 >>> ((3 : Int32) &&& 0x3f).toInt64)), .second, .val (.ref a5), .val (.int (1 : Int32)), .val (.int z2)] [(.int (if hd2 = tl2 then (1 : Int32) else 0))])
  rw [show (if hd2 = tl2 then (1 : Int32) else 0) = (if z2 = (0 : Int32) then (1 : Int32) else (0 : Int32)) from own_same01 hh2 ht2 hz2]
  refine own_iload W20 180 at_178 rfl rfl ?_
  suffices J21 : own_Go p e below C T20 (mkF m 188 #[.val (.int p1), .val (.long q2), .second, .val (.int p3), .val (.ref a1), .val (.long (q2 >>> ((3 : Int32) &&& 0x3f).toInt64)), .second, .val (.ref a5), .val (.int (1 : Int32)), .val (.int z2)] [(.int (if z2 = (0 : Int32) then (1 : Int32) else (0 : Int32))), (.int (if z2 = (0 : Int32) then (1 : Int32) else (0 : Int32)))]) by
    by_cases c22 : z2 = (0 : Int32)
    · refine own_ifN W20 183 at_180 ((if0 _ _).trans (teq c22).2) rfl ?_
      refine own_iconst W20 (1 : Int32) 184 at_183 rfl rfl ?_
      refine own_goto W20 188 at_184 (by decide) (by decide) ?_
      first | (simp only [if_pos c22] at J21; exact J21) | (simp only [if_pos c22] at J21 ⊢; exact J21)
    · refine own_ifY W20 187 at_180 ((if0 _ _).trans (feq c22).2) (by decide) (by decide) ?_
      refine own_iconst W20 (0 : Int32) 188 at_187 rfl rfl ?_
      first | (simp only [if_neg c22] at J21; exact J21) | (simp only [if_neg c22] at J21 ⊢; exact J21)
  refine own_icmpN W20 191 at_188 ((teq (rfl : (if z2 = (0 : Int32) then (1 : Int32) else (0 : Int32)) = (if z2 = (0 : Int32) then (1 : Int32) else (0 : Int32)))).2) rfl ?_
  refine own_iconst W20 (1 : Int32) 192 at_191 rfl rfl ?_
  refine own_goto W20 196 at_192 (by decide) (by decide) ?_
  refine own_istore W20 198 #[.val (.int p1), .val (.long q2), .second, .val (.int p3), .val (.ref a1), .val (.long (q2 >>> ((3 : Int32) &&& 0x3f).toInt64)), .second, .val (.ref a5), .val (.int (1 : Int32)), .val (.int z2)] at_196 rfl rfl ?_
  refine own_aload W20 200 at_198 rfl rfl rfl ?_
  refine own_iloadN W20 201 at_200 rfl rfl ?_
  refine own_bipush W20 (8 : Int32) 203 at_201 rfl rfl ?_
  refine own_iand W20 204 at_203 rfl ?_
  have hs2 : j2 + k2 ≤ 3 := by omega
  have Q2 := Q2 (by omega)
  suffices J23 : own_Go p e below C T20 (mkF m 212 #[.val (.int p1), .val (.long q2), .second, .val (.int p3), .val (.ref a1), .val (.long (q2 >>> ((3 : Int32) &&& 0x3f).toInt64)), .second, .val (.ref a5), .val (.int (1 : Int32)), .val (.int z2)] [(.int (if (p1 &&& (8 : Int32)) = (0 : Int32) then (0 : Int32) else (1 : Int32))), (.ref a1)]) by
    by_cases c24 : (p1 &&& (8 : Int32)) = (0 : Int32)
    · refine own_ifY W20 211 at_204 ((if0 _ _).trans (teq c24).1) (by decide) (by decide) ?_
      refine own_iconst W20 (0 : Int32) 212 at_211 rfl rfl ?_
      first | (simp only [if_pos c24] at J23; exact J23) | (simp only [if_pos c24] at J23 ⊢; exact J23)
    · refine own_ifN W20 207 at_204 ((if0 _ _).trans (feq c24).1) rfl ?_
      refine own_iconst W20 (1 : Int32) 208 at_207 rfl rfl ?_
      refine own_goto W20 212 at_208 (by decide) (by decide) ?_
      first | (simp only [if_neg c24] at J23; exact J23) | (simp only [if_neg c24] at J23 ⊢; exact J23)
  refine own_iload W20 214 at_212 rfl rfl ?_
  refine own_lload W20 216 at_214 rfl rfl ?_
  refine own_ldc2Long W20 219 at_216 (wd62 hw) rfl ?_
  refine own_ladd W20 220 at_219 rfl ?_
  refine own_aload W20 222 at_220 rfl rfl rfl ?_
  refine own_callS W20 (A := [(.ref a1), (.int (if (p1 &&& (8 : Int32)) = (0 : Int32) then (0 : Int32) else (1 : Int32))), (.int z2), (.long ((q2 >>> ((3 : Int32) &&& 0x3f).toInt64) + (3 : Int64))), (.ref a5)]) (wt := 0) (pc' := 225) (st := []) at_222 (wd43 hw) (wd44 hw) (wd45 hw) (wd46 hw) (by decide) (own_m6 l Z a0 hw [] h19 a1 (if (p1 &&& (8 : Int32)) = (0 : Int32) then (0 : Int32) else (1 : Int32)) z2 ((q2 >>> ((3 : Int32) &&& 0x3f).toInt64) + (3 : Int64)) a5 sl ss vv hd2 tl2 j2 k2 X_a1 X_a5 X_sl N_a1 Q2 ne_a_sl ne_a_ss ne_a_vv ne_sl_ss ne_sl_vv ne_ss_vv hh2 ht2 hz2 hle2 (by omega)) (allS (Or.inr o_a1) (allS (Or.inr o_ss) (allS (Or.inr o_vv) all0))) rfl pd_9 rfl (Nat.le_of_eq rfl) (by decide) (by decide) (by decide) (by decide) rfl ?_
  rintro T25 h25 _ W25 K25 P25 ⟨j3, k3, hd3, tl3, z3, rfl, hz3, hh3, ht3, hle3, hsum3, F_head_a1, F_tail_a1, N_a1, Q3⟩
  have X_a1 := X_a1.keep K25
  have X_sl := X_sl.keep K25
  have X_a5 := X_a5.keep K25
  show own_Go p e below C T25 (mkF m 225 #[.val (.int p1), .val (.long q2), .second, .val (.int p3), .val (.ref a1), .val (.long (q2 >>> ((3 : Int32) &&& 0x3f).toInt64)), .second, .val (.ref a5), .val (.int (1 : Int32)), .val (.int z2)] [(.int z3)])
  refine own_istore W25 227 #[.val (.int p1), .val (.long q2), .second, .val (.int p3), .val (.ref a1), .val (.long (q2 >>> ((3 : Int32) &&& 0x3f).toInt64)), .second, .val (.ref a5), .val (.int (1 : Int32)), .val (.int z3)] at_225 rfl rfl ?_
  refine own_iload W25 229 at_227 rfl rfl ?_
  refine own_ifN W25 232 at_229 ((if0 _ _).trans (feq ((by decide) : ¬ ((1 : Int32) = (0 : Int32)))).1) rfl ?_
  refine own_aload W25 234 at_232 rfl rfl rfl ?_
  refine own_callV W25 (A := []) (wt := 0) (pc' := 237) (st := []) at_234 (wd34 hw) (wd35 hw) (own_nf W25 (wd37 hw)) (wd37 hw) (wd36 hw) (wd2 hw) (wd38 hw) (by decide) X_a1 (own_m5 l Z a0 hw [] h25 a1 hd3 tl3 F_head_a1 F_tail_a1) all0 rfl pd_8 rfl (Nat.le_of_eq rfl) (by decide) (by decide) (by decide) (by decide) rfl ?_
  rintro T26 h26 _ W26 K26 P26 rfl
  rw [P26 rfl rfl] at W26
  show own_Go p e below C T26 (mkF m 237 #[.val (.int p1), .val (.long q2), .second, .val (.int p3), .val (.ref a1), .val (.long (q2 >>> ((3 : Int32) &&& 0x3f).toInt64)), .second, .val (.ref a5), .val (.int (1 : Int32)), .val (.int z3)] [(.int (if hd3 = tl3 then (1 : Int32) else 0))])
  rw [show (if hd3 = tl3 then (1 : Int32) else 0) = (if z3 = (0 : Int32) then (1 : Int32) else (0 : Int32)) from own_same01 hh3 ht3 hz3]
  refine own_iload W26 239 at_237 rfl rfl ?_
  suffices J27 : own_Go p e below C T26 (mkF m 247 #[.val (.int p1), .val (.long q2), .second, .val (.int p3), .val (.ref a1), .val (.long (q2 >>> ((3 : Int32) &&& 0x3f).toInt64)), .second, .val (.ref a5), .val (.int (1 : Int32)), .val (.int z3)] [(.int (if z3 = (0 : Int32) then (1 : Int32) else (0 : Int32))), (.int (if z3 = (0 : Int32) then (1 : Int32) else (0 : Int32)))]) by
    by_cases c28 : z3 = (0 : Int32)
    · refine own_ifN W26 242 at_239 ((if0 _ _).trans (teq c28).2) rfl ?_
      refine own_iconst W26 (1 : Int32) 243 at_242 rfl rfl ?_
      refine own_goto W26 247 at_243 (by decide) (by decide) ?_
      first | (simp only [if_pos c28] at J27; exact J27) | (simp only [if_pos c28] at J27 ⊢; exact J27)
    · refine own_ifY W26 246 at_239 ((if0 _ _).trans (feq c28).2) (by decide) (by decide) ?_
      refine own_iconst W26 (0 : Int32) 247 at_246 rfl rfl ?_
      first | (simp only [if_neg c28] at J27; exact J27) | (simp only [if_neg c28] at J27 ⊢; exact J27)
  refine own_icmpN W26 250 at_247 ((teq (rfl : (if z3 = (0 : Int32) then (1 : Int32) else (0 : Int32)) = (if z3 = (0 : Int32) then (1 : Int32) else (0 : Int32)))).2) rfl ?_
  refine own_iconst W26 (1 : Int32) 251 at_250 rfl rfl ?_
  refine own_goto W26 255 at_251 (by decide) (by decide) ?_
  refine own_istore W26 257 #[.val (.int p1), .val (.long q2), .second, .val (.int p3), .val (.ref a1), .val (.long (q2 >>> ((3 : Int32) &&& 0x3f).toInt64)), .second, .val (.ref a5), .val (.int (1 : Int32)), .val (.int z3)] at_255 rfl rfl ?_
  refine own_aload W26 259 at_257 rfl rfl rfl ?_
  refine own_iloadN W26 260 at_259 rfl rfl ?_
  refine own_bipush W26 (16 : Int32) 262 at_260 rfl rfl ?_
  refine own_iand W26 263 at_262 rfl ?_
  have hs3 : j3 + k3 ≤ 4 := by omega
  have Q3 := Q3 (by omega)
  suffices J29 : own_Go p e below C T26 (mkF m 271 #[.val (.int p1), .val (.long q2), .second, .val (.int p3), .val (.ref a1), .val (.long (q2 >>> ((3 : Int32) &&& 0x3f).toInt64)), .second, .val (.ref a5), .val (.int (1 : Int32)), .val (.int z3)] [(.int (if (p1 &&& (16 : Int32)) = (0 : Int32) then (0 : Int32) else (1 : Int32))), (.ref a1)]) by
    by_cases c30 : (p1 &&& (16 : Int32)) = (0 : Int32)
    · refine own_ifY W26 270 at_263 ((if0 _ _).trans (teq c30).1) (by decide) (by decide) ?_
      refine own_iconst W26 (0 : Int32) 271 at_270 rfl rfl ?_
      first | (simp only [if_pos c30] at J29; exact J29) | (simp only [if_pos c30] at J29 ⊢; exact J29)
    · refine own_ifN W26 266 at_263 ((if0 _ _).trans (feq c30).1) rfl ?_
      refine own_iconst W26 (1 : Int32) 267 at_266 rfl rfl ?_
      refine own_goto W26 271 at_267 (by decide) (by decide) ?_
      first | (simp only [if_neg c30] at J29; exact J29) | (simp only [if_neg c30] at J29 ⊢; exact J29)
  refine own_iload W26 273 at_271 rfl rfl ?_
  refine own_lload W26 275 at_273 rfl rfl ?_
  refine own_ldc2Long W26 278 at_275 (wd63 hw) rfl ?_
  refine own_ladd W26 279 at_278 rfl ?_
  refine own_aload W26 281 at_279 rfl rfl rfl ?_
  refine own_callS W26 (A := [(.ref a1), (.int (if (p1 &&& (16 : Int32)) = (0 : Int32) then (0 : Int32) else (1 : Int32))), (.int z3), (.long ((q2 >>> ((3 : Int32) &&& 0x3f).toInt64) + (4 : Int64))), (.ref a5)]) (wt := 0) (pc' := 284) (st := []) at_281 (wd43 hw) (wd44 hw) (wd45 hw) (wd46 hw) (by decide) (own_m6 l Z a0 hw [] h25 a1 (if (p1 &&& (16 : Int32)) = (0 : Int32) then (0 : Int32) else (1 : Int32)) z3 ((q2 >>> ((3 : Int32) &&& 0x3f).toInt64) + (4 : Int64)) a5 sl ss vv hd3 tl3 j3 k3 X_a1 X_a5 X_sl N_a1 Q3 ne_a_sl ne_a_ss ne_a_vv ne_sl_ss ne_sl_vv ne_ss_vv hh3 ht3 hz3 hle3 (by omega)) (allS (Or.inr o_a1) (allS (Or.inr o_ss) (allS (Or.inr o_vv) all0))) rfl pd_9 rfl (Nat.le_of_eq rfl) (by decide) (by decide) (by decide) (by decide) rfl ?_
  rintro T31 h31 _ W31 K31 P31 ⟨j4, k4, hd4, tl4, z4, rfl, hz4, hh4, ht4, hle4, hsum4, F_head_a1, F_tail_a1, N_a1, Q4⟩
  have X_a1 := X_a1.keep K31
  have X_sl := X_sl.keep K31
  have X_a5 := X_a5.keep K31
  show own_Go p e below C T31 (mkF m 284 #[.val (.int p1), .val (.long q2), .second, .val (.int p3), .val (.ref a1), .val (.long (q2 >>> ((3 : Int32) &&& 0x3f).toInt64)), .second, .val (.ref a5), .val (.int (1 : Int32)), .val (.int z3)] [(.int z4)])
  refine own_istore W31 286 #[.val (.int p1), .val (.long q2), .second, .val (.int p3), .val (.ref a1), .val (.long (q2 >>> ((3 : Int32) &&& 0x3f).toInt64)), .second, .val (.ref a5), .val (.int (1 : Int32)), .val (.int z4)] at_284 rfl rfl ?_
  refine own_iload W31 288 at_286 rfl rfl ?_
  refine own_ifN W31 291 at_288 ((if0 _ _).trans (feq ((by decide) : ¬ ((1 : Int32) = (0 : Int32)))).1) rfl ?_
  refine own_aload W31 293 at_291 rfl rfl rfl ?_
  refine own_callV W31 (A := []) (wt := 0) (pc' := 296) (st := []) at_293 (wd34 hw) (wd35 hw) (own_nf W31 (wd37 hw)) (wd37 hw) (wd36 hw) (wd2 hw) (wd38 hw) (by decide) X_a1 (own_m5 l Z a0 hw [] h31 a1 hd4 tl4 F_head_a1 F_tail_a1) all0 rfl pd_8 rfl (Nat.le_of_eq rfl) (by decide) (by decide) (by decide) (by decide) rfl ?_
  rintro T32 h32 _ W32 K32 P32 rfl
  rw [P32 rfl rfl] at W32
  show own_Go p e below C T32 (mkF m 296 #[.val (.int p1), .val (.long q2), .second, .val (.int p3), .val (.ref a1), .val (.long (q2 >>> ((3 : Int32) &&& 0x3f).toInt64)), .second, .val (.ref a5), .val (.int (1 : Int32)), .val (.int z4)] [(.int (if hd4 = tl4 then (1 : Int32) else 0))])
  rw [show (if hd4 = tl4 then (1 : Int32) else 0) = (if z4 = (0 : Int32) then (1 : Int32) else (0 : Int32)) from own_same01 hh4 ht4 hz4]
  refine own_iload W32 298 at_296 rfl rfl ?_
  suffices J33 : own_Go p e below C T32 (mkF m 306 #[.val (.int p1), .val (.long q2), .second, .val (.int p3), .val (.ref a1), .val (.long (q2 >>> ((3 : Int32) &&& 0x3f).toInt64)), .second, .val (.ref a5), .val (.int (1 : Int32)), .val (.int z4)] [(.int (if z4 = (0 : Int32) then (1 : Int32) else (0 : Int32))), (.int (if z4 = (0 : Int32) then (1 : Int32) else (0 : Int32)))]) by
    by_cases c34 : z4 = (0 : Int32)
    · refine own_ifN W32 301 at_298 ((if0 _ _).trans (teq c34).2) rfl ?_
      refine own_iconst W32 (1 : Int32) 302 at_301 rfl rfl ?_
      refine own_goto W32 306 at_302 (by decide) (by decide) ?_
      first | (simp only [if_pos c34] at J33; exact J33) | (simp only [if_pos c34] at J33 ⊢; exact J33)
    · refine own_ifY W32 305 at_298 ((if0 _ _).trans (feq c34).2) (by decide) (by decide) ?_
      refine own_iconst W32 (0 : Int32) 306 at_305 rfl rfl ?_
      first | (simp only [if_neg c34] at J33; exact J33) | (simp only [if_neg c34] at J33 ⊢; exact J33)
  refine own_icmpN W32 309 at_306 ((teq (rfl : (if z4 = (0 : Int32) then (1 : Int32) else (0 : Int32)) = (if z4 = (0 : Int32) then (1 : Int32) else (0 : Int32)))).2) rfl ?_
  refine own_iconst W32 (1 : Int32) 310 at_309 rfl rfl ?_
  refine own_goto W32 314 at_310 (by decide) (by decide) ?_
  refine own_istore W32 316 #[.val (.int p1), .val (.long q2), .second, .val (.int p3), .val (.ref a1), .val (.long (q2 >>> ((3 : Int32) &&& 0x3f).toInt64)), .second, .val (.ref a5), .val (.int (1 : Int32)), .val (.int z4)] at_314 rfl rfl ?_
  refine own_iload W32 318 at_316 rfl rfl ?_
  have hs4 : j4 + k4 ≤ 5 := by omega
  refine own_retZ (Q := fun v h => v = some (.int (1 : Int32))) W32 hC (by decide) (by decide) at_318 ?_
  exact rfl
theorem own_cache {args : Array Value} {s : State} (H : ∀ d ∈ jdkStatics_1, d.before args s = true) : ∃ (ca : Addr) (NN : Nat) (bf : Nat → Value), Sta s s.heap "java/lang/Integer$IntegerCache" "high" "I" (.int (127 : Int32)) ∧ Sta s s.heap "java/lang/Integer$IntegerCache" "cache" "[Ljava/lang/Integer;" (.ref ca) ∧ own_A s s.heap ca (.object "java/lang/Integer") NN bf ∧ 256 ≤ NN ∧ own_Bx s s.heap bf := by
  have h0 : (Cond.laysStatic "java/lang/Integer$IntegerCache" "high" "I").before args s = true := H _ (List.mem_of_getElem? (i := 0) rfl)
  have h1 : (Cond.initializedFor "java/lang/Integer$IntegerCache" "high" "I").before args s = true := H _ (List.mem_of_getElem? (i := 1) rfl)
  have h2 : (Cond.laysStatic "java/lang/Integer$IntegerCache" "cache" "[Ljava/lang/Integer;").before args s = true := H _ (List.mem_of_getElem? (i := 2) rfl)
  have h3 : (Cond.eq (Term.static "java/lang/Integer$IntegerCache" "high" "I") (Term.int (127 : Int32))).before args s = true := H _ (List.mem_of_getElem? (i := 3) rfl)
  have h4 : (Cond.arrayOf (Term.static "java/lang/Integer$IntegerCache" "cache" "[Ljava/lang/Integer;") (.object "java/lang/Integer")).before args s = true := H _ (List.mem_of_getElem? (i := 4) rfl)
  have h5 : (Cond.exactly (Term.static "java/lang/Integer$IntegerCache" "cache" "[Ljava/lang/Integer;") "[Ljava/lang/Integer;").before args s = true := H _ (List.mem_of_getElem? (i := 5) rfl)
  have h6 : (Cond.eq (Term.length (Term.static "java/lang/Integer$IntegerCache" "cache" "[Ljava/lang/Integer;")) (Term.int (256 : Int32))).before args s = true := H _ (List.mem_of_getElem? (i := 6) rfl)
  have h7 : (Cond.all (Term.static "java/lang/Integer$IntegerCache" "cache" "[Ljava/lang/Integer;") (.and (.exactly (.elem (Term.static "java/lang/Integer$IntegerCache" "cache" "[Ljava/lang/Integer;") (.index 0)) "java/lang/Integer") (.eq (.field (.elem (Term.static "java/lang/Integer$IntegerCache" "cache" "[Ljava/lang/Integer;") (.index 0)) "java/lang/Integer" "value" "I") (.sub (.index 0) (.int 128))))).before args s = true := H _ (List.mem_of_getElem? (i := 7) rfl)
  obtain ⟨c, k, i, f, st, cell, hc, hf, hs, hst, hS, hv, -, hsl, -⟩ := Cond.laysStatic_spec h0
  have hinit := Cond.initializedFor_spec hf h1
  obtain ⟨c', k', i', f', st', cell', hc', hf', hs', hst', hS', hv', -, hsl', -⟩ := Cond.laysStatic_spec h2
  cases hc.symm.trans hc'
  obtain rfl : k' = k := by
    have q1 := (State.fieldFound?_spec hf).1
    have q2 := (State.fieldFound?_spec hf').1
    rw [q1] at q2; exact (Option.some.inj q2).symm
  obtain ⟨ca, vca⟩ := exa_v (Cond.before_iff.mp h5)
  obtain ⟨A, hA⟩ := Arr.start vca (Cond.before_iff.mp h4)
  have v3 := eqv_i (Term.int_eval (127 : Int32)) (Cond.before_iff.mp h3)
  have v6 := eqv_i (Term.int_eval (256 : Int32)) (Cond.before_iff.mp h6)
  obtain ⟨b, cb, g1, g2, g3, g4⟩ := length_spec v6
  cases g1.symm.trans vca
  have hat : s.arrayAt? ca = some A := hA.fin (Vm.Alike.refl _)
  cases g2.symm.trans hat
  have hsz : A.slots.size = 256 := by
    have q1 := len_toInt g3
    have q2 := Value.int.inj g4
    rw [← q2] at q1
    have q3 : (256 : Int32).toInt = 256 := rfl
    omega
  have vcc : cell'.slots[f'.slot]? = some (.ref ca) := by
    have q := vca
    simp [Term.eval, State.fieldNamed?, hf', hs', hst', hS', hv'] at q
    simpa using q
  refine ⟨ca, A.slots.size, fun j => (A.slots[j]?).getD .null, Sta.start v3 (Or.inl h1), ⟨_, i', _, f', st', cell', hf', hs', hinit, hst', hS', hv', vcc⟩, ⟨A, hA, rfl, fun j hj => by simp [hj]⟩, by omega, fun j hj => ?_⟩
  have hz : (j.toInt32).toInt = (j : Int) := len_toInt (by omega)
  have hcl := own_cl hz
  have hnn := own_nn hz
  have hall := Cond.all_elim vca hat (Cond.before_iff.mp h7) (j.toInt32).toNatClampNeg (by rw [hcl]; omega)
  obtain ⟨u1, -⟩ := and_e hall
  obtain ⟨b, eb⟩ := exa_v u1
  have vca' : (Term.static "java/lang/Integer$IntegerCache" "cache" "[Ljava/lang/Integer;").eval args s none [(j.toInt32).toNatClampNeg] s = some (.ref ca) := vca
  have e2 := (elem_f vca' (idx_at hnn) hat hnn).symm.trans eb
  rw [hcl] at e2
  exact ⟨b, (by show (A.slots[j]?).getD .null = _; rw [e2]; rfl), exa_at eb u1⟩
set_option maxRecDepth 65536 in
set_option maxHeartbeats 40000000 in
theorem comes_1 {Post : Tables → Env → Array Value → State → Outcome → State → Prop} (hpost : ∀ tb e args s v u, (limb_1_1.after args s (.returned v) u = true ∧ limb_1_2.after args s (.returned v) u = true ∧ True) → FrameEnd s (.returned v) u (Jvm.fieldLocs frame_1_writes args s ++ Jvm.arrayLocs frame_1_arrays args s ++ Jvm.staticLocs frame_1_statics s) 24 192 → Post tb e args s (.returned v) u) :
    ArmFor flags0 classFile x code maxLocals ret World_1 tables_1 room_1 Calls_1 rest_1 Pre_1 Post := by
  intro l hfl _ _ p e ha hc hk s m args below hf hA hF happ hP
  obtain ⟨hcalls, hrest, hpre⟩ := hP
  obtain ⟨-, -, -, hnamed, -, -, -, hat⟩ := (Spec.applies_iff hf).mp happ
  obtain ⟨hg, hn⟩ := and_e (Cond.before_iff.mp (show (Jvm.Cond.and given_1 narrow_1).before args s = true from hpre))
  obtain ⟨g1, g2⟩ := and_e hg
  obtain ⟨g3, g4⟩ := and_e g2
  obtain ⟨g5, g6⟩ := and_e g4
  obtain ⟨w0, w1, w2, rfl⟩ : ∃ w0 w1 w2 : Value, args = #[w0, w1, w2] := by
    have hs : args.size = 3 := by simpa [Cond.value, given_1] using g1
    obtain ⟨L⟩ := args
    match L, hs with
    | [w0, w1, w2], _ => exact ⟨w0, w1, w2, rfl⟩
  have hw := fun d (hd : d ∈ tables_1) => atoms_spec (ws := Jvm.Cond.code x code maxLocals ret :: tables_1) hat d (List.mem_cons_of_mem _ hd)
  have hfit : Fit s := fun {y c} hc i hi => by
    obtain ⟨ha, rfl⟩ := Array.getElem?_eq_some_iff.mp hc
    have q := List.all_eq_true.mp ((Array.all_eq_true_iff_forall_mem.mp hF) _ (Array.getElem_mem ha)) i (List.mem_range.mpr hi)
    simpa [Array.getElem?_eq_getElem hi] using q
  obtain ⟨hsets, hown0⟩ := atoms_of _ (rest_1_c_eq ▸ (show rest_1_c.before _ s = true from hrest))
  have hr0 := Cond.before_iff.mp hown0
  obtain ⟨i0, ei0⟩ := is_v g3
  obtain rfl : w0 = (.int i0) := Option.some.inj ei0
  obtain ⟨i1, ei1⟩ := isL_v g5
  obtain rfl : w1 = (.long i1) := Option.some.inj ei1
  obtain ⟨i2, ei2⟩ := is_v g6
  obtain rfl : w2 = (.int i2) := Option.some.inj ei2
  obtain ⟨ca, NN, bf, sH, sC, vC, hNN, bX⟩ := own_cache hsets
  obtain ⟨n, o, h1, h2, h3, _, L, rfl, ⟨N, -, -, rfl⟩, hq⟩ := own_m0 l s _ hw tables_1 s.heap i0 i1 i2 ca NN bf sH sC vC hNN bX p e ha hc hk s m _ below hf ((Spec.applies_iff_loose hf).mp happ).1 ⟨rfl, State.Warmed39.refl s, rfl⟩ trivial
  refine ⟨n, _, h1, h2, h3, hpost _ _ _ _ _ _ ⟨Cond.after_iff.mpr rfl, Cond.after_iff.mpr (eq_i res_at (Term.int_eval (1)) rfl), trivial⟩ ⟨hq.1, hq.2.1, (hq.2.2.sift fun y hy => Or.inr ((N y hy).resolve_left (fun q => nomatch q))).mono (by decide) (by decide)⟩⟩
theorem main_1_1 : Claimed_1_1 := comes_1 fun _ _ _ _ _ _ h hF => ⟨h.1, hF⟩
theorem main_1_2 : Claimed_1_2 := comes_1 fun _ _ _ _ _ _ h hF => ⟨h.2.1, hF⟩
end Jvm.Pilot.@@N@@
namespace Jvm.Pilot.@@N@@
open Jvm Jvm.ClassFile Sem Op Lib Jvm.Free Jvm.Stand Jvm.Pilot.@@N@@.Jvm.D
/-! MADE BY PROGRAM (witnessworld.py) out of the Statement's table words and the real class files: 22 classes; the members and pool entries that the words name. The judged class is class 1, her method 1. -/
namespace start1
open Jvm.ClassFile
def u (s : String) : CpInfo := .utf8 (stringToUtf16 s)
/-- a pool by its gaps: so many unusable entries, then the entry; so many at the end -/
def gap : Nat → List CpInfo → List CpInfo
  | 0, r => r
  | n + 1, r => .unusable :: gap n r
def poolList (es : List (Nat × CpInfo)) (last : Nat) : List CpInfo := es.foldr (fun e r => gap e.1 (e.2 :: r)) (gap last [])
def pool (es : List (Nat × CpInfo)) (last : Nat) : Array CpInfo := ⟨poolList es last⟩
def fileOf (pool : Array CpInfo) (this : Nat) (attrs : Array Attribute := #[]) (ms : Array MethodInfo := #[]) (fl : Nat := 33) (sup : Nat := 0) (ifs : Array Nat := #[]) (fds : Array FieldInfo := #[]) : ClassFile where
  minorVersion := 0
  majorVersion := 65
  constantPool := pool
  accessFlags := fl
  thisClass := this
  superClass := sup
  interfaces := ifs
  fields := fds
  methods := ms
  attributes := attrs
def plain (name : String) (sup : Option ClassId) : Class where
  name := name
  kind := .ordinary
  loader := none
  accessFlags := 33
  super := sup
  interfaces := #[]
  cf := none
  fields := #[]
  methods := #[]
  instanceTypes := #[]
  staticTypes := #[]
  resolved := #[]
  callSites := []
  init := .initialized
  statics := none
  mirror := none

def pool0 : Array CpInfo := pool [(5, u "<init>"), (0, u "()V"), (1, .class_ 10), (1, u "java/lang/Object")] 113

def k0c0 : Code := { maxStack := 0, maxLocals := 1, code := object_method_1_code, exceptionTable := #[], attributes := #[] }
def k0m0 : Method := { name := "<init>", desc := "()V", sig := { parameters := [], returnType := none }, accessFlags := 1, code := some k0c0 }
/-- java/lang/Object -/
def k0 : Class := { plain "java/lang/Object" none with
  accessFlags := 33
  interfaces := #[]
  cf := some (fileOf pool0 8 #[] #[{ accessFlags := 1, nameIndex := 5, descriptorIndex := 6, attributes := #[] }] 33 0 #[] #[])
  fields := #[]
  methods := #[k0m0]
  instanceTypes := #[]
  staticTypes := #[]
  resolved := Array.replicate 124 none
  statics := none }

def pool1 : Array CpInfo := pool [(2, .class_ 4), (0, .nameAndType 5 6), (0, u "java/lang/Object"), (0, u "<init>"), (0, u "()V"), (0, .class_ 8), (0, u "com/example/minne/minne/SerialQueue"), (0, .methodref 7 3), (0, .methodref 11 12), (0, .class_ 13), (0, .nameAndType 14 15), (0, u "java/lang/Integer"), (0, u "valueOf"), (0, u "(I)Ljava/lang/Integer;"), (0, .methodref 7 17), (0, .nameAndType 18 19), (0, u "isEmpty"), (0, u "()Z"), (0, .methodref 21 22), (0, .class_ 23), (0, .nameAndType 24 25), (0, u "com/example/minne/minne/SerialQueueIsEmptyPinLaw"), (0, u "step"), (0, u "(Lcom/example/minne/minne/SerialQueue;ZIJLjava/lang/Integer;)I"), (0, .long 2), (1, .long 3), (1, .long 4), (1, .methodref 7 33), (0, .nameAndType 34 35), (0, u "add"), (0, u "(JLjava/lang/Object;)V"), (0, .methodref 7 37), (0, .nameAndType 38 39), (0, u "takeFirst"), (0, u "()Ljava/lang/Object;"), (2, u "law"), (0, u "(IJI)Z")] 5

def k1m0 : Method := { name := "<init>", desc := "()V", sig := { parameters := [], returnType := none }, accessFlags := 1, code := none }
def k1c1 : Code := { maxStack := 7, maxLocals := 10, code := code, exceptionTable := #[], attributes := #[] }
def k1m1 : Method := { name := "law", desc := "(IJI)Z", sig := { parameters := [.int, .long, .int], returnType := some .boolean }, accessFlags := 9, code := some k1c1 }
def k1c2 : Code := { maxStack := 4, maxLocals := 6, code := method_3_code, exceptionTable := #[], attributes := #[] }
def k1m2 : Method := { name := "step", desc := "(Lcom/example/minne/minne/SerialQueue;ZIJLjava/lang/Integer;)I", sig := { parameters := [(.object "com/example/minne/minne/SerialQueue"), .boolean, .int, .long, (.object "java/lang/Integer")], returnType := some .int }, accessFlags := 10, code := some k1c2 }
/-- com/example/minne/minne/SerialQueueIsEmptyPinLaw -/
def k1 : Class := { plain "com/example/minne/minne/SerialQueueIsEmptyPinLaw" (some 0) with
  accessFlags := 49
  interfaces := #[]
  cf := some (fileOf pool1 21 #[] #[{ accessFlags := 1, nameIndex := 5, descriptorIndex := 6, attributes := #[] }, { accessFlags := 9, nameIndex := 42, descriptorIndex := 43, attributes := #[] }, { accessFlags := 10, nameIndex := 24, descriptorIndex := 25, attributes := #[] }] 49 2 #[] #[])
  fields := #[]
  methods := #[k1m0, k1m1, k1m2]
  instanceTypes := #[]
  staticTypes := #[]
  resolved := Array.replicate 49 none
  statics := none }

def pool2 : Array CpInfo := pool [(1, .methodref 2 3), (0, .class_ 4), (0, .nameAndType 5 6), (0, u "java/lang/Object"), (0, u "<init>"), (0, u "()V"), (0, .class_ 8), (0, u "com/example/minne/minne/SerialQueue$Slots"), (0, .class_ 10), (0, u "com/example/minne/minne/SerialQueue"), (0, .methodref 7 12), (0, .nameAndType 5 13), (0, u "(JI)V"), (0, .fieldref 9 15), (0, .nameAndType 16 17), (0, u "slots"), (0, u "Lcom/example/minne/minne/SerialQueue$Slots;"), (0, .fieldref 9 19), (0, .nameAndType 20 21), (0, u "tail"), (0, u "J"), (0, .fieldref 7 23), (0, .nameAndType 24 21), (0, u "first"), (0, .fieldref 7 26), (0, .nameAndType 27 28), (0, u "serials"), (0, u "[J"), (0, .fieldref 9 30), (0, .nameAndType 31 21), (0, u "head"), (0, .methodref 7 33), (0, .nameAndType 34 35), (0, u "copy"), (0, u "(JJ)Lcom/example/minne/minne/SerialQueue$Slots;"), (0, .fieldref 7 37), (0, .nameAndType 38 39), (0, u "values"), (0, u "[Ljava/lang/Object;"), (8, .class_ 50), (1, u "com/example/minne/minne/SerialQueue$View"), (10, .class_ 62), (0, u "com/example/minne/minne/SerialQueue$Walk"), (12, u "LEAST_SLOTS"), (0, u "I"), (6, u "add"), (0, u "(JLjava/lang/Object;)V"), (2, u "takeFirst"), (0, u "()Ljava/lang/Object;"), (1, u "isEmpty"), (0, u "()Z")] 15

def k2c0 : Code := { maxStack := 6, maxLocals := 1, code := prog_12_method_1_code, exceptionTable := #[], attributes := #[] }
def k2m0 : Method := { name := "<init>", desc := "()V", sig := { parameters := [], returnType := none }, accessFlags := 0, code := some k2c0 }
def k2c1 : Code := { maxStack := 5, maxLocals := 8, code := ⟨#[0x2a, 0xb4, 0x00, 0x0e, 0x3a, 0x04, 0x2a, 0xb4, 0x00, 0x12, 0x37, 0x05, 0x16, 0x05, 0x19, 0x04, 0xb4, 0x00, 0x16, 0x65, 0x19, 0x04, 0xb4, 0x00, 0x19, 0xbe, 0x85, 0x94, 0x9a, 0x00, 0x16, 0x19, 0x04, 0x2a, 0xb4, 0x00, 0x1d, 0x16, 0x05, 0xb6, 0x00, 0x20, 0x3a, 0x04, 0x2a, 0x19, 0x04, 0xb5, 0x00, 0x0e, 0x16, 0x05, 0x19, 0x04, 0xb4, 0x00, 0x16, 0x65, 0x88, 0x36, 0x07, 0x19, 0x04, 0xb4, 0x00, 0x19, 0x15, 0x07, 0x1f, 0x50, 0x19, 0x04, 0xb4, 0x00, 0x24, 0x15, 0x07, 0x2d, 0x53, 0x2a, 0x16, 0x05, 0x0a, 0x61, 0xb5, 0x00, 0x12, 0xb1]⟩, exceptionTable := #[], attributes := #[] }
def k2m1 : Method := { name := "add", desc := "(JLjava/lang/Object;)V", sig := { parameters := [.long, (.object "java/lang/Object")], returnType := none }, accessFlags := 32, code := some k2c1 }
def k2c2 : Code := { maxStack := 5, maxLocals := 6, code := ⟨#[0x2a, 0xb4, 0x00, 0x1d, 0x40, 0x1f, 0x2a, 0xb4, 0x00, 0x12, 0x94, 0x9a, 0x00, 0x0b, 0xbb, 0x00, 0x28, 0x59, 0xb7, 0x00, 0x2a, 0xbf, 0x2a, 0xb4, 0x00, 0x0e, 0x4e, 0x1f, 0x2d, 0xb4, 0x00, 0x16, 0x65, 0x88, 0x36, 0x04, 0x2d, 0xb4, 0x00, 0x24, 0x15, 0x04, 0x32, 0x3a, 0x05, 0x2d, 0xb4, 0x00, 0x24, 0x15, 0x04, 0x01, 0x53, 0x2a, 0x1f, 0x0a, 0x61, 0xb5, 0x00, 0x1d, 0x19, 0x05, 0xb0]⟩, exceptionTable := #[], attributes := #[] }
def k2m2 : Method := { name := "takeFirst", desc := "()Ljava/lang/Object;", sig := { parameters := [], returnType := some (.object "java/lang/Object") }, accessFlags := 32, code := some k2c2 }
def k2c3 : Code := { maxStack := 4, maxLocals := 1, code := prog_12_method_4_code, exceptionTable := #[], attributes := #[] }
def k2m3 : Method := { name := "isEmpty", desc := "()Z", sig := { parameters := [], returnType := some .boolean }, accessFlags := 0, code := some k2c3 }
/-- com/example/minne/minne/SerialQueue -/
def k2 : Class := { plain "com/example/minne/minne/SerialQueue" (some 0) with
  accessFlags := 32
  interfaces := #[]
  cf := some (fileOf pool2 9 #[.nestMembers #[61, 48, 7]] #[{ accessFlags := 0, nameIndex := 5, descriptorIndex := 6, attributes := #[] }, { accessFlags := 32, nameIndex := 83, descriptorIndex := 84, attributes := #[] }, { accessFlags := 32, nameIndex := 87, descriptorIndex := 88, attributes := #[] }, { accessFlags := 0, nameIndex := 90, descriptorIndex := 91, attributes := #[] }] 32 2 #[] #[{ accessFlags := 26, nameIndex := 75, descriptorIndex := 76, attributes := #[] }, { accessFlags := 66, nameIndex := 16, descriptorIndex := 17, attributes := #[] }, { accessFlags := 66, nameIndex := 31, descriptorIndex := 21, attributes := #[] }, { accessFlags := 66, nameIndex := 20, descriptorIndex := 21, attributes := #[] }])
  fields := #[{ name := "LEAST_SLOTS", type := .int, accessFlags := 26, slot := 0, constantValue := 0 }, { name := "slots", type := (.object "com/example/minne/minne/SerialQueue$Slots"), accessFlags := 66, slot := 0, constantValue := 0 }, { name := "head", type := .long, accessFlags := 66, slot := 1, constantValue := 0 }, { name := "tail", type := .long, accessFlags := 66, slot := 2, constantValue := 0 }]
  methods := #[k2m0, k2m1, k2m2, k2m3]
  instanceTypes := #[(.object "com/example/minne/minne/SerialQueue$Slots"), .long, .long]
  staticTypes := #[.int]
  resolved := (((Array.replicate 107 none).set! 22 (some (.field 3 0))).set! 25 (some (.field 3 1))).set! 36 (some (.field 3 2))
  statics := none }

def pool3 : Array CpInfo := pool [(1, .class_ 2), (0, u "com/example/minne/minne/SerialQueue"), (0, .methodref 4 5), (0, .class_ 6), (0, .nameAndType 7 8), (0, u "java/lang/Object"), (0, u "<init>"), (0, u "()V"), (0, .fieldref 10 11), (0, .class_ 12), (0, .nameAndType 13 14), (0, u "com/example/minne/minne/SerialQueue$Slots"), (0, u "first"), (0, u "J"), (0, .fieldref 10 16), (0, .nameAndType 17 18), (0, u "serials"), (0, u "[J"), (0, .fieldref 10 20), (0, .nameAndType 21 22), (0, u "values"), (0, u "[Ljava/lang/Object;"), (0, .methodref 24 25), (0, .class_ 26), (0, .nameAndType 27 28), (0, u "java/lang/Math"), (0, u "max"), (0, u "(II)I"), (0, .methodref 10 30), (0, .nameAndType 7 31), (0, u "(JI)V"), (0, .methodref 33 34), (0, .class_ 35), (0, .nameAndType 36 37), (0, u "java/lang/System"), (0, u "arraycopy"), (0, u "(Ljava/lang/Object;ILjava/lang/Object;II)V"), (4, u "copy"), (0, u "(JJ)Lcom/example/minne/minne/SerialQueue$Slots;")] 7

def k3c0 : Code := { maxStack := 3, maxLocals := 4, code := prog_13_method_1_code, exceptionTable := #[], attributes := #[] }
def k3m0 : Method := { name := "<init>", desc := "(JI)V", sig := { parameters := [.long, .int], returnType := none }, accessFlags := 0, code := some k3c0 }
def k3c1 : Code := { maxStack := 7, maxLocals := 7, code := prog_13_method_2_code, exceptionTable := #[], attributes := #[] }
def k3m1 : Method := { name := "copy", desc := "(JJ)Lcom/example/minne/minne/SerialQueue$Slots;", sig := { parameters := [.long, .long], returnType := some (.object "com/example/minne/minne/SerialQueue$Slots") }, accessFlags := 0, code := some k3c1 }
/-- com/example/minne/minne/SerialQueue$Slots -/
def k3 : Class := { plain "com/example/minne/minne/SerialQueue$Slots" (some 0) with
  accessFlags := 48
  interfaces := #[]
  cf := some (fileOf pool3 10 #[.nestHost 1] #[{ accessFlags := 0, nameIndex := 7, descriptorIndex := 31, attributes := #[] }, { accessFlags := 0, nameIndex := 42, descriptorIndex := 43, attributes := #[] }] 48 4 #[] #[{ accessFlags := 18, nameIndex := 13, descriptorIndex := 14, attributes := #[] }, { accessFlags := 18, nameIndex := 17, descriptorIndex := 18, attributes := #[] }, { accessFlags := 18, nameIndex := 21, descriptorIndex := 22, attributes := #[] }])
  fields := #[{ name := "first", type := .long, accessFlags := 18, slot := 0, constantValue := 0 }, { name := "serials", type := (.array .long), accessFlags := 18, slot := 1, constantValue := 0 }, { name := "values", type := (.array (.object "java/lang/Object")), accessFlags := 18, slot := 2, constantValue := 0 }]
  methods := #[k3m0, k3m1]
  instanceTypes := #[.long, (.array .long), (.array (.object "java/lang/Object"))]
  staticTypes := #[]
  resolved := Array.replicate 51 none
  statics := none }

def pool4 : Array CpInfo := pool [(1, .class_ 2), (0, u "java/io/Serializable"), (0, .class_ 4), (0, u "java/lang/Object")] 2

/-- java/io/Serializable -/
def k4 : Class := { plain "java/io/Serializable" (some 0) with
  accessFlags := 1537
  interfaces := #[]
  cf := some (fileOf pool4 1 #[] #[] 1537 3 #[] #[])
  fields := #[]
  methods := #[]
  instanceTypes := #[]
  staticTypes := #[]
  resolved := Array.replicate 7 none
  statics := none }

def pool5 : Array CpInfo := pool [(1, .methodref 2 3), (0, .class_ 4), (0, .nameAndType 5 6), (0, u "java/lang/Object"), (0, u "<init>"), (0, u "()V"), (1, .class_ 10), (1, u "java/lang/Number"), (2, .class_ 14), (0, u "java/io/Serializable"), (0, u "serialVersionUID"), (0, u "J")] 20

def k5c0 : Code := { maxStack := 1, maxLocals := 1, code := jdk_18_method_1_code, exceptionTable := #[], attributes := #[] }
def k5m0 : Method := { name := "<init>", desc := "()V", sig := { parameters := [], returnType := none }, accessFlags := 1, code := some k5c0 }
/-- java/lang/Number -/
def k5 : Class := { plain "java/lang/Number" (some 0) with
  accessFlags := 1057
  interfaces := #[4]
  cf := some (fileOf pool5 8 #[] #[{ accessFlags := 1, nameIndex := 5, descriptorIndex := 6, attributes := #[] }] 1057 2 #[13] #[{ accessFlags := 26, nameIndex := 15, descriptorIndex := 16, attributes := #[] }])
  fields := #[{ name := "serialVersionUID", type := .long, accessFlags := 26, slot := 0, constantValue := 0 }]
  methods := #[k5m0]
  instanceTypes := #[]
  staticTypes := #[.long]
  resolved := Array.replicate 37 none
  statics := none }

def pool6 : Array CpInfo := pool [(1, .class_ 2), (0, u "java/lang/Comparable"), (0, .class_ 4), (0, u "java/lang/Object")] 7

/-- java/lang/Comparable -/
def k6 : Class := { plain "java/lang/Comparable" (some 0) with
  accessFlags := 1537
  interfaces := #[]
  cf := some (fileOf pool6 1 #[] #[] 1537 3 #[] #[])
  fields := #[]
  methods := #[]
  instanceTypes := #[]
  staticTypes := #[]
  resolved := Array.replicate 12 none
  statics := none }

def pool7 : Array CpInfo := pool [(1, .class_ 2), (0, u "java/lang/constant/Constable"), (0, .class_ 4), (0, u "java/lang/Object")] 6

/-- java/lang/constant/Constable -/
def k7 : Class := { plain "java/lang/constant/Constable" (some 0) with
  accessFlags := 1537
  interfaces := #[]
  cf := some (fileOf pool7 1 #[] #[] 1537 3 #[] #[])
  fields := #[]
  methods := #[]
  instanceTypes := #[]
  staticTypes := #[]
  resolved := Array.replicate 11 none
  statics := none }

def pool8 : Array CpInfo := pool [(1, .class_ 2), (0, u "java/lang/constant/ConstantDesc"), (0, .class_ 4), (0, u "java/lang/Object")] 32

/-- java/lang/constant/ConstantDesc -/
def k8 : Class := { plain "java/lang/constant/ConstantDesc" (some 0) with
  accessFlags := 1537
  interfaces := #[]
  cf := some (fileOf pool8 1 #[] #[] 1537 3 #[] #[])
  fields := #[]
  methods := #[]
  instanceTypes := #[]
  staticTypes := #[]
  resolved := Array.replicate 37 none
  statics := none }

def pool9 : Array CpInfo := pool [(1, .class_ 2), (0, u "java/lang/Integer"), (16, u "digits"), (0, u "[C"), (46, u "<init>"), (17, u "DigitOnes"), (0, u "[B"), (2, u "DigitTens"), (10, .nameAndType 67 101), (0, u "()V"), (85, u "valueOf"), (0, u "(I)Ljava/lang/Integer;"), (0, .class_ 190), (0, u "java/lang/Integer$IntegerCache"), (0, .fieldref 189 192), (0, .nameAndType 193 194), (0, u "high"), (0, u "I"), (0, .fieldref 189 196), (0, .nameAndType 197 198), (0, u "cache"), (0, u "[Ljava/lang/Integer;"), (0, .methodref 1 200), (0, .nameAndType 67 201), (0, u "(I)V"), (0, .methodref 203 100), (0, .class_ 204), (0, u "java/lang/Number"), (0, .fieldref 1 206), (0, .nameAndType 207 194), (0, u "value"), (94, u "TYPE"), (0, u "Ljava/lang/Class;"), (0, .class_ 305), (0, u "java/lang/Comparable"), (0, .class_ 307), (0, u "java/lang/constant/Constable"), (0, .class_ 309), (0, u "java/lang/constant/ConstantDesc"), (0, u "MIN_VALUE"), (1, u "MAX_VALUE"), (3, u "SIZE"), (1, u "BYTES"), (1, u "serialVersionUID"), (0, u "J")] 131

def k9c0 : Code := { maxStack := 3, maxLocals := 1, code := jdk_33_method_22_code, exceptionTable := #[], attributes := #[] }
def k9m0 : Method := { name := "valueOf", desc := "(I)Ljava/lang/Integer;", sig := { parameters := [.int], returnType := some (.object "java/lang/Integer") }, accessFlags := 9, code := some k9c0 }
def k9c1 : Code := { maxStack := 2, maxLocals := 2, code := jdk_33_method_23_code, exceptionTable := #[], attributes := #[] }
def k9m1 : Method := { name := "<init>", desc := "(I)V", sig := { parameters := [.int], returnType := none }, accessFlags := 1, code := some k9c1 }
/-- java/lang/Integer -/
def k9 : Class := { plain "java/lang/Integer" (some 5) with
  accessFlags := 49
  interfaces := #[6, 7, 8]
  cf := some (fileOf pool9 1 #[.nestMembers #[189]] #[{ accessFlags := 9, nameIndex := 187, descriptorIndex := 188, attributes := #[] }, { accessFlags := 1, nameIndex := 67, descriptorIndex := 201, attributes := #[] }] 49 203 #[304, 306, 308] #[{ accessFlags := 25, nameIndex := 310, descriptorIndex := 194, attributes := #[] }, { accessFlags := 25, nameIndex := 312, descriptorIndex := 194, attributes := #[] }, { accessFlags := 25, nameIndex := 302, descriptorIndex := 303, attributes := #[] }, { accessFlags := 24, nameIndex := 19, descriptorIndex := 20, attributes := #[] }, { accessFlags := 24, nameIndex := 89, descriptorIndex := 86, attributes := #[] }, { accessFlags := 24, nameIndex := 85, descriptorIndex := 86, attributes := #[] }, { accessFlags := 18, nameIndex := 207, descriptorIndex := 194, attributes := #[] }, { accessFlags := 25, nameIndex := 316, descriptorIndex := 194, attributes := #[] }, { accessFlags := 25, nameIndex := 318, descriptorIndex := 194, attributes := #[] }, { accessFlags := 26, nameIndex := 320, descriptorIndex := 321, attributes := #[] }])
  fields := #[{ name := "MIN_VALUE", type := .int, accessFlags := 25, slot := 0, constantValue := 0 }, { name := "MAX_VALUE", type := .int, accessFlags := 25, slot := 1, constantValue := 0 }, { name := "TYPE", type := (.object "java/lang/Class"), accessFlags := 25, slot := 2, constantValue := 0 }, { name := "digits", type := (.array .char), accessFlags := 24, slot := 3, constantValue := 0 }, { name := "DigitTens", type := (.array .byte), accessFlags := 24, slot := 4, constantValue := 0 }, { name := "DigitOnes", type := (.array .byte), accessFlags := 24, slot := 5, constantValue := 0 }, { name := "value", type := .int, accessFlags := 18, slot := 0, constantValue := 0 }, { name := "SIZE", type := .int, accessFlags := 25, slot := 6, constantValue := 0 }, { name := "BYTES", type := .int, accessFlags := 25, slot := 7, constantValue := 0 }, { name := "serialVersionUID", type := .long, accessFlags := 26, slot := 8, constantValue := 0 }]
  methods := #[k9m0, k9m1]
  instanceTypes := #[.int]
  staticTypes := #[.int, .int, (.object "java/lang/Class"), (.array .char), (.array .byte), (.array .byte), .int, .int, .long]
  resolved := Array.replicate 453 none
  statics := none }

def pool10 : Array CpInfo := pool [(2, .class_ 4), (1, u "java/lang/Object"), (0, u "<init>"), (0, u "()V"), (0, .class_ 8), (0, u "java/lang/Integer"), (7, .class_ 18), (1, u "java/lang/Integer$IntegerCache"), (0, u "$assertionsDisabled"), (0, u "Z"), (26, u "high"), (0, u "I"), (8, u "archivedCache"), (0, u "[Ljava/lang/Integer;"), (12, u "cache"), (0, u "low")] 27

def k10m0 : Method := { name := "<init>", desc := "()V", sig := { parameters := [], returnType := none }, accessFlags := 2, code := none }
/-- java/lang/Integer$IntegerCache -/
def k10 : Class := { plain "java/lang/Integer$IntegerCache" (some 0) with
  accessFlags := 48
  interfaces := #[]
  cf := some (fileOf pool10 16 #[.nestHost 7] #[{ accessFlags := 2, nameIndex := 5, descriptorIndex := 6, attributes := #[] }] 48 2 #[] #[{ accessFlags := 24, nameIndex := 72, descriptorIndex := 48, attributes := #[] }, { accessFlags := 24, nameIndex := 47, descriptorIndex := 48, attributes := #[] }, { accessFlags := 24, nameIndex := 71, descriptorIndex := 58, attributes := #[] }, { accessFlags := 8, nameIndex := 57, descriptorIndex := 58, attributes := #[] }, { accessFlags := 4120, nameIndex := 19, descriptorIndex := 20, attributes := #[] }])
  fields := #[{ name := "low", type := .int, accessFlags := 24, slot := 0, constantValue := 0 }, { name := "high", type := .int, accessFlags := 24, slot := 1, constantValue := 0 }, { name := "cache", type := (.array (.object "java/lang/Integer")), accessFlags := 24, slot := 2, constantValue := 0 }, { name := "archivedCache", type := (.array (.object "java/lang/Integer")), accessFlags := 8, slot := 3, constantValue := 0 }, { name := "$assertionsDisabled", type := .boolean, accessFlags := 4120, slot := 4, constantValue := 0 }]
  methods := #[k10m0]
  instanceTypes := #[]
  staticTypes := #[.int, .int, (.array (.object "java/lang/Integer")), (.array (.object "java/lang/Integer")), .boolean]
  resolved := Array.replicate 100 none
  statics := some 0 }

def pool11 : Array CpInfo := pool [(1, .class_ 2), (0, u "java/lang/Math"), (1, .class_ 6), (1, u "java/lang/Object"), (0, u "<init>"), (0, u "()V"), (89, .class_ 100), (1, u "java/lang/Math$RandomNumberGeneratorHolder"), (71, u "negativeZeroFloatBits"), (0, u "J"), (2, u "negativeZeroDoubleBits"), (21, u "max"), (46, u "$assertionsDisabled"), (0, u "Z"), (88, u "(II)I"), (2, u "twoToTheDoubleScaleDown"), (0, u "D"), (4, u "twoToTheDoubleScaleUp"), (9, u "E"), (3, u "PI"), (2, u "TAU"), (2, u "DEGREES_TO_RADIANS"), (0, u "RADIANS_TO_DEGREES")] 94

def k11m0 : Method := { name := "<init>", desc := "()V", sig := { parameters := [], returnType := none }, accessFlags := 2, code := none }
def k11c1 : Code := { maxStack := 2, maxLocals := 2, code := jdk_29_method_65_code, exceptionTable := #[], attributes := #[] }
def k11m1 : Method := { name := "max", desc := "(II)I", sig := { parameters := [.int, .int], returnType := some .int }, accessFlags := 9, code := some k11c1 }
/-- java/lang/Math -/
def k11 : Class := { plain "java/lang/Math" (some 0) with
  accessFlags := 49
  interfaces := #[]
  cf := some (fileOf pool11 1 #[.nestMembers #[98]] #[{ accessFlags := 2, nameIndex := 7, descriptorIndex := 8, attributes := #[] }, { accessFlags := 9, nameIndex := 198, descriptorIndex := 335, attributes := #[] }] 49 4 #[] #[{ accessFlags := 25, nameIndex := 354, descriptorIndex := 339, attributes := #[] }, { accessFlags := 25, nameIndex := 358, descriptorIndex := 339, attributes := #[] }, { accessFlags := 25, nameIndex := 361, descriptorIndex := 339, attributes := #[] }, { accessFlags := 26, nameIndex := 364, descriptorIndex := 339, attributes := #[] }, { accessFlags := 26, nameIndex := 365, descriptorIndex := 339, attributes := #[] }, { accessFlags := 26, nameIndex := 172, descriptorIndex := 173, attributes := #[] }, { accessFlags := 26, nameIndex := 176, descriptorIndex := 173, attributes := #[] }, { accessFlags := 8, nameIndex := 344, descriptorIndex := 339, attributes := #[] }, { accessFlags := 8, nameIndex := 338, descriptorIndex := 339, attributes := #[] }, { accessFlags := 4120, nameIndex := 245, descriptorIndex := 246, attributes := #[] }])
  fields := #[{ name := "E", type := .double, accessFlags := 25, slot := 0, constantValue := 0 }, { name := "PI", type := .double, accessFlags := 25, slot := 1, constantValue := 0 }, { name := "TAU", type := .double, accessFlags := 25, slot := 2, constantValue := 0 }, { name := "DEGREES_TO_RADIANS", type := .double, accessFlags := 26, slot := 3, constantValue := 0 }, { name := "RADIANS_TO_DEGREES", type := .double, accessFlags := 26, slot := 4, constantValue := 0 }, { name := "negativeZeroFloatBits", type := .long, accessFlags := 26, slot := 5, constantValue := 0 }, { name := "negativeZeroDoubleBits", type := .long, accessFlags := 26, slot := 6, constantValue := 0 }, { name := "twoToTheDoubleScaleUp", type := .double, accessFlags := 8, slot := 7, constantValue := 0 }, { name := "twoToTheDoubleScaleDown", type := .double, accessFlags := 8, slot := 8, constantValue := 0 }, { name := "$assertionsDisabled", type := .boolean, accessFlags := 4120, slot := 9, constantValue := 0 }]
  methods := #[k11m0, k11m1]
  instanceTypes := #[]
  staticTypes := #[.double, .double, .double, .double, .double, .long, .long, .double, .double, .boolean]
  resolved := Array.replicate 460 none
  statics := none }

def pool12 : Array CpInfo := pool [(2, .class_ 4), (1, u "java/lang/Object"), (0, u "<init>"), (0, u "()V"), (1, .class_ 10), (1, u "java/lang/System"), (0, u "allowSecurityManager"), (0, u "I"), (16, u "cons"), (0, u "Ljava/io/Console;"), (77, .class_ 110), (1, u "java/lang/System$CallersHolder"), (43, u "initialErrStream"), (0, u "Ljava/io/PrintStream;"), (19, u "security"), (0, u "Ljava/lang/SecurityManager;"), (31, .class_ 209), (0, u "java/lang/System$1"), (7, u "props"), (0, u "Ljava/util/Properties;"), (2, u "lineSeparator"), (0, u "Ljava/lang/String;"), (96, .class_ 321), (1, u "java/lang/System$LoggerFinder"), (5, .class_ 328), (0, u "java/lang/System$Logger"), (67, u "err"), (2, u "out"), (91, u "notSupportedJnuEncoding"), (15, u "in"), (17, u "initialIn"), (0, u "Ljava/io/InputStream;"), (35, u "bootLayer"), (0, u "Ljava/lang/ModuleLayer;"), (99, .class_ 664), (0, u "java/lang/System$2"), (9, u "NEVER"), (2, u "MAYBE"), (49, u "arraycopy"), (0, u "(Ljava/lang/Object;ILjava/lang/Object;II)V"), (72, .class_ 802), (0, u "java/lang/System$Logger$Level")] 31

def k12m0 : Method := { name := "<init>", desc := "()V", sig := { parameters := [], returnType := none }, accessFlags := 2, code := none }
def k12m1 : Method := { name := "arraycopy", desc := "(Ljava/lang/Object;ILjava/lang/Object;II)V", sig := { parameters := [(.object "java/lang/Object"), .int, (.object "java/lang/Object"), .int, .int], returnType := none }, accessFlags := 265, code := none }
/-- java/lang/System -/
def k12 : Class := { plain "java/lang/System" (some 0) with
  accessFlags := 49
  interfaces := #[]
  cf := some (fileOf pool12 8 #[.nestMembers #[319, 327, 801, 108, 663, 208]] #[{ accessFlags := 2, nameIndex := 5, descriptorIndex := 6, attributes := #[] }, { accessFlags := 265, nameIndex := 727, descriptorIndex := 728, attributes := #[] }] 49 2 #[] #[{ accessFlags := 25, nameIndex := 507, descriptorIndex := 526, attributes := #[] }, { accessFlags := 25, nameIndex := 399, descriptorIndex := 155, attributes := #[] }, { accessFlags := 25, nameIndex := 396, descriptorIndex := 155, attributes := #[] }, { accessFlags := 10, nameIndex := 525, descriptorIndex := 526, attributes := #[] }, { accessFlags := 26, nameIndex := 674, descriptorIndex := 12, attributes := #[] }, { accessFlags := 26, nameIndex := 677, descriptorIndex := 12, attributes := #[] }, { accessFlags := 10, nameIndex := 11, descriptorIndex := 12, attributes := #[] }, { accessFlags := 74, nameIndex := 175, descriptorIndex := 176, attributes := #[] }, { accessFlags := 10, nameIndex := 491, descriptorIndex := 222, attributes := #[] }, { accessFlags := 74, nameIndex := 29, descriptorIndex := 30, attributes := #[] }, { accessFlags := 74, nameIndex := 154, descriptorIndex := 155, attributes := #[] }, { accessFlags := 10, nameIndex := 217, descriptorIndex := 218, attributes := #[] }, { accessFlags := 10, nameIndex := 221, descriptorIndex := 222, attributes := #[] }, { accessFlags := 8, nameIndex := 562, descriptorIndex := 563, attributes := #[] }])
  fields := #[{ name := "in", type := (.object "java/io/InputStream"), accessFlags := 25, slot := 0, constantValue := 0 }, { name := "out", type := (.object "java/io/PrintStream"), accessFlags := 25, slot := 1, constantValue := 0 }, { name := "err", type := (.object "java/io/PrintStream"), accessFlags := 25, slot := 2, constantValue := 0 }, { name := "initialIn", type := (.object "java/io/InputStream"), accessFlags := 10, slot := 3, constantValue := 0 }, { name := "NEVER", type := .int, accessFlags := 26, slot := 4, constantValue := 0 }, { name := "MAYBE", type := .int, accessFlags := 26, slot := 5, constantValue := 0 }, { name := "allowSecurityManager", type := .int, accessFlags := 10, slot := 6, constantValue := 0 }, { name := "security", type := (.object "java/lang/SecurityManager"), accessFlags := 74, slot := 7, constantValue := 0 }, { name := "notSupportedJnuEncoding", type := (.object "java/lang/String"), accessFlags := 10, slot := 8, constantValue := 0 }, { name := "cons", type := (.object "java/io/Console"), accessFlags := 74, slot := 9, constantValue := 0 }, { name := "initialErrStream", type := (.object "java/io/PrintStream"), accessFlags := 74, slot := 10, constantValue := 0 }, { name := "props", type := (.object "java/util/Properties"), accessFlags := 10, slot := 11, constantValue := 0 }, { name := "lineSeparator", type := (.object "java/lang/String"), accessFlags := 10, slot := 12, constantValue := 0 }, { name := "bootLayer", type := (.object "java/lang/ModuleLayer"), accessFlags := 8, slot := 13, constantValue := 0 }]
  methods := #[k12m0, k12m1]
  instanceTypes := #[]
  staticTypes := #[(.object "java/io/InputStream"), (.object "java/io/PrintStream"), (.object "java/io/PrintStream"), (.object "java/io/InputStream"), .int, .int, .int, (.object "java/lang/SecurityManager"), (.object "java/lang/String"), (.object "java/io/Console"), (.object "java/io/PrintStream"), (.object "java/util/Properties"), (.object "java/lang/String"), (.object "java/lang/ModuleLayer")]
  resolved := Array.replicate 834 none
  statics := none }

def pool13 : Array CpInfo := pool [(1, u "java/lang/Cloneable"), (0, .class_ 1), (0, u "java/lang/Object"), (0, .class_ 3)] 3

/-- java/lang/Cloneable -/
def k13 : Class := { plain "java/lang/Cloneable" (some 0) with
  accessFlags := 1537
  interfaces := #[]
  cf := some (fileOf pool13 2 #[] #[] 1537 4 #[] #[])
  fields := #[]
  methods := #[]
  instanceTypes := #[]
  staticTypes := #[]
  resolved := Array.replicate 8 none
  statics := none }

/-- the primitive byte -/
def k14 : Class := { plain "byte" none with kind := .primitive 'B', accessFlags := 0x411 }
/-- [B -/
def k15 : Class := { plain "[B" (some 0) with kind := .array 14 .byte, interfaces := #[13, 4], accessFlags := 1041 }

/-- the primitive int -/
def k16 : Class := { plain "int" none with kind := .primitive 'I', accessFlags := 0x411 }
/-- [I -/
def k17 : Class := { plain "[I" (some 0) with kind := .array 16 .int, interfaces := #[13, 4], accessFlags := 1041 }

/-- the primitive long -/
def k18 : Class := { plain "long" none with kind := .primitive 'J', accessFlags := 0x411 }
/-- [J -/
def k19 : Class := { plain "[J" (some 0) with kind := .array 18 .long, interfaces := #[13, 4], accessFlags := 1041 }

/-- [Ljava/lang/Integer; -/
def k20 : Class := { plain "[Ljava/lang/Integer;" (some 0) with kind := .array 9 (.object "java/lang/Integer"), interfaces := #[13, 4], accessFlags := 1041 }

/-- [Ljava/lang/Object; -/
def k21 : Class := { plain "[Ljava/lang/Object;" (some 0) with kind := .array 0 (.object "java/lang/Object"), interfaces := #[13, 4], accessFlags := 1041 }

def heap : Heap := #[{ cls := 10, slots := #[.int 0, .int 127, .ref 1, .null, .int 0], vm := .statics 10 },
  { cls := 20, slots := #[.ref 2, .ref 3, .ref 4, .ref 5, .ref 6, .ref 7, .ref 8, .ref 9, .ref 10, .ref 11, .ref 12, .ref 13, .ref 14, .ref 15, .ref 16, .ref 17, .ref 18, .ref 19, .ref 20, .ref 21, .ref 22, .ref 23, .ref 24, .ref 25, .ref 26, .ref 27, .ref 28, .ref 29, .ref 30, .ref 31, .ref 32, .ref 33, .ref 34, .ref 35, .ref 36, .ref 37, .ref 38, .ref 39, .ref 40, .ref 41, .ref 42, .ref 43, .ref 44, .ref 45, .ref 46, .ref 47, .ref 48, .ref 49, .ref 50, .ref 51, .ref 52, .ref 53, .ref 54, .ref 55, .ref 56, .ref 57, .ref 58, .ref 59, .ref 60, .ref 61, .ref 62, .ref 63, .ref 64, .ref 65, .ref 66, .ref 67, .ref 68, .ref 69, .ref 70, .ref 71, .ref 72, .ref 73, .ref 74, .ref 75, .ref 76, .ref 77, .ref 78, .ref 79, .ref 80, .ref 81, .ref 82, .ref 83, .ref 84, .ref 85, .ref 86, .ref 87, .ref 88, .ref 89, .ref 90, .ref 91, .ref 92, .ref 93, .ref 94, .ref 95, .ref 96, .ref 97, .ref 98, .ref 99, .ref 100, .ref 101, .ref 102, .ref 103, .ref 104, .ref 105, .ref 106, .ref 107, .ref 108, .ref 109, .ref 110, .ref 111, .ref 112, .ref 113, .ref 114, .ref 115, .ref 116, .ref 117, .ref 118, .ref 119, .ref 120, .ref 121, .ref 122, .ref 123, .ref 124, .ref 125, .ref 126, .ref 127, .ref 128, .ref 129, .ref 130, .ref 131, .ref 132, .ref 133, .ref 134, .ref 135, .ref 136, .ref 137, .ref 138, .ref 139, .ref 140, .ref 141, .ref 142, .ref 143, .ref 144, .ref 145, .ref 146, .ref 147, .ref 148, .ref 149, .ref 150, .ref 151, .ref 152, .ref 153, .ref 154, .ref 155, .ref 156, .ref 157, .ref 158, .ref 159, .ref 160, .ref 161, .ref 162, .ref 163, .ref 164, .ref 165, .ref 166, .ref 167, .ref 168, .ref 169, .ref 170, .ref 171, .ref 172, .ref 173, .ref 174, .ref 175, .ref 176, .ref 177, .ref 178, .ref 179, .ref 180, .ref 181, .ref 182, .ref 183, .ref 184, .ref 185, .ref 186, .ref 187, .ref 188, .ref 189, .ref 190, .ref 191, .ref 192, .ref 193, .ref 194, .ref 195, .ref 196, .ref 197, .ref 198, .ref 199, .ref 200, .ref 201, .ref 202, .ref 203, .ref 204, .ref 205, .ref 206, .ref 207, .ref 208, .ref 209, .ref 210, .ref 211, .ref 212, .ref 213, .ref 214, .ref 215, .ref 216, .ref 217, .ref 218, .ref 219, .ref 220, .ref 221, .ref 222, .ref 223, .ref 224, .ref 225, .ref 226, .ref 227, .ref 228, .ref 229, .ref 230, .ref 231, .ref 232, .ref 233, .ref 234, .ref 235, .ref 236, .ref 237, .ref 238, .ref 239, .ref 240, .ref 241, .ref 242, .ref 243, .ref 244, .ref 245, .ref 246, .ref 247, .ref 248, .ref 249, .ref 250, .ref 251, .ref 252, .ref 253, .ref 254, .ref 255, .ref 256, .ref 257], vm := .none },
  { cls := 9, slots := #[.int (-128)], vm := .none },
  { cls := 9, slots := #[.int (-127)], vm := .none },
  { cls := 9, slots := #[.int (-126)], vm := .none },
  { cls := 9, slots := #[.int (-125)], vm := .none },
  { cls := 9, slots := #[.int (-124)], vm := .none },
  { cls := 9, slots := #[.int (-123)], vm := .none },
  { cls := 9, slots := #[.int (-122)], vm := .none },
  { cls := 9, slots := #[.int (-121)], vm := .none },
  { cls := 9, slots := #[.int (-120)], vm := .none },
  { cls := 9, slots := #[.int (-119)], vm := .none },
  { cls := 9, slots := #[.int (-118)], vm := .none },
  { cls := 9, slots := #[.int (-117)], vm := .none },
  { cls := 9, slots := #[.int (-116)], vm := .none },
  { cls := 9, slots := #[.int (-115)], vm := .none },
  { cls := 9, slots := #[.int (-114)], vm := .none },
  { cls := 9, slots := #[.int (-113)], vm := .none },
  { cls := 9, slots := #[.int (-112)], vm := .none },
  { cls := 9, slots := #[.int (-111)], vm := .none },
  { cls := 9, slots := #[.int (-110)], vm := .none },
  { cls := 9, slots := #[.int (-109)], vm := .none },
  { cls := 9, slots := #[.int (-108)], vm := .none },
  { cls := 9, slots := #[.int (-107)], vm := .none },
  { cls := 9, slots := #[.int (-106)], vm := .none },
  { cls := 9, slots := #[.int (-105)], vm := .none },
  { cls := 9, slots := #[.int (-104)], vm := .none },
  { cls := 9, slots := #[.int (-103)], vm := .none },
  { cls := 9, slots := #[.int (-102)], vm := .none },
  { cls := 9, slots := #[.int (-101)], vm := .none },
  { cls := 9, slots := #[.int (-100)], vm := .none },
  { cls := 9, slots := #[.int (-99)], vm := .none },
  { cls := 9, slots := #[.int (-98)], vm := .none },
  { cls := 9, slots := #[.int (-97)], vm := .none },
  { cls := 9, slots := #[.int (-96)], vm := .none },
  { cls := 9, slots := #[.int (-95)], vm := .none },
  { cls := 9, slots := #[.int (-94)], vm := .none },
  { cls := 9, slots := #[.int (-93)], vm := .none },
  { cls := 9, slots := #[.int (-92)], vm := .none },
  { cls := 9, slots := #[.int (-91)], vm := .none },
  { cls := 9, slots := #[.int (-90)], vm := .none },
  { cls := 9, slots := #[.int (-89)], vm := .none },
  { cls := 9, slots := #[.int (-88)], vm := .none },
  { cls := 9, slots := #[.int (-87)], vm := .none },
  { cls := 9, slots := #[.int (-86)], vm := .none },
  { cls := 9, slots := #[.int (-85)], vm := .none },
  { cls := 9, slots := #[.int (-84)], vm := .none },
  { cls := 9, slots := #[.int (-83)], vm := .none },
  { cls := 9, slots := #[.int (-82)], vm := .none },
  { cls := 9, slots := #[.int (-81)], vm := .none },
  { cls := 9, slots := #[.int (-80)], vm := .none },
  { cls := 9, slots := #[.int (-79)], vm := .none },
  { cls := 9, slots := #[.int (-78)], vm := .none },
  { cls := 9, slots := #[.int (-77)], vm := .none },
  { cls := 9, slots := #[.int (-76)], vm := .none },
  { cls := 9, slots := #[.int (-75)], vm := .none },
  { cls := 9, slots := #[.int (-74)], vm := .none },
  { cls := 9, slots := #[.int (-73)], vm := .none },
  { cls := 9, slots := #[.int (-72)], vm := .none },
  { cls := 9, slots := #[.int (-71)], vm := .none },
  { cls := 9, slots := #[.int (-70)], vm := .none },
  { cls := 9, slots := #[.int (-69)], vm := .none },
  { cls := 9, slots := #[.int (-68)], vm := .none },
  { cls := 9, slots := #[.int (-67)], vm := .none },
  { cls := 9, slots := #[.int (-66)], vm := .none },
  { cls := 9, slots := #[.int (-65)], vm := .none },
  { cls := 9, slots := #[.int (-64)], vm := .none },
  { cls := 9, slots := #[.int (-63)], vm := .none },
  { cls := 9, slots := #[.int (-62)], vm := .none },
  { cls := 9, slots := #[.int (-61)], vm := .none },
  { cls := 9, slots := #[.int (-60)], vm := .none },
  { cls := 9, slots := #[.int (-59)], vm := .none },
  { cls := 9, slots := #[.int (-58)], vm := .none },
  { cls := 9, slots := #[.int (-57)], vm := .none },
  { cls := 9, slots := #[.int (-56)], vm := .none },
  { cls := 9, slots := #[.int (-55)], vm := .none },
  { cls := 9, slots := #[.int (-54)], vm := .none },
  { cls := 9, slots := #[.int (-53)], vm := .none },
  { cls := 9, slots := #[.int (-52)], vm := .none },
  { cls := 9, slots := #[.int (-51)], vm := .none },
  { cls := 9, slots := #[.int (-50)], vm := .none },
  { cls := 9, slots := #[.int (-49)], vm := .none },
  { cls := 9, slots := #[.int (-48)], vm := .none },
  { cls := 9, slots := #[.int (-47)], vm := .none },
  { cls := 9, slots := #[.int (-46)], vm := .none },
  { cls := 9, slots := #[.int (-45)], vm := .none },
  { cls := 9, slots := #[.int (-44)], vm := .none },
  { cls := 9, slots := #[.int (-43)], vm := .none },
  { cls := 9, slots := #[.int (-42)], vm := .none },
  { cls := 9, slots := #[.int (-41)], vm := .none },
  { cls := 9, slots := #[.int (-40)], vm := .none },
  { cls := 9, slots := #[.int (-39)], vm := .none },
  { cls := 9, slots := #[.int (-38)], vm := .none },
  { cls := 9, slots := #[.int (-37)], vm := .none },
  { cls := 9, slots := #[.int (-36)], vm := .none },
  { cls := 9, slots := #[.int (-35)], vm := .none },
  { cls := 9, slots := #[.int (-34)], vm := .none },
  { cls := 9, slots := #[.int (-33)], vm := .none },
  { cls := 9, slots := #[.int (-32)], vm := .none },
  { cls := 9, slots := #[.int (-31)], vm := .none },
  { cls := 9, slots := #[.int (-30)], vm := .none },
  { cls := 9, slots := #[.int (-29)], vm := .none },
  { cls := 9, slots := #[.int (-28)], vm := .none },
  { cls := 9, slots := #[.int (-27)], vm := .none },
  { cls := 9, slots := #[.int (-26)], vm := .none },
  { cls := 9, slots := #[.int (-25)], vm := .none },
  { cls := 9, slots := #[.int (-24)], vm := .none },
  { cls := 9, slots := #[.int (-23)], vm := .none },
  { cls := 9, slots := #[.int (-22)], vm := .none },
  { cls := 9, slots := #[.int (-21)], vm := .none },
  { cls := 9, slots := #[.int (-20)], vm := .none },
  { cls := 9, slots := #[.int (-19)], vm := .none },
  { cls := 9, slots := #[.int (-18)], vm := .none },
  { cls := 9, slots := #[.int (-17)], vm := .none },
  { cls := 9, slots := #[.int (-16)], vm := .none },
  { cls := 9, slots := #[.int (-15)], vm := .none },
  { cls := 9, slots := #[.int (-14)], vm := .none },
  { cls := 9, slots := #[.int (-13)], vm := .none },
  { cls := 9, slots := #[.int (-12)], vm := .none },
  { cls := 9, slots := #[.int (-11)], vm := .none },
  { cls := 9, slots := #[.int (-10)], vm := .none },
  { cls := 9, slots := #[.int (-9)], vm := .none },
  { cls := 9, slots := #[.int (-8)], vm := .none },
  { cls := 9, slots := #[.int (-7)], vm := .none },
  { cls := 9, slots := #[.int (-6)], vm := .none },
  { cls := 9, slots := #[.int (-5)], vm := .none },
  { cls := 9, slots := #[.int (-4)], vm := .none },
  { cls := 9, slots := #[.int (-3)], vm := .none },
  { cls := 9, slots := #[.int (-2)], vm := .none },
  { cls := 9, slots := #[.int (-1)], vm := .none },
  { cls := 9, slots := #[.int 0], vm := .none },
  { cls := 9, slots := #[.int 1], vm := .none },
  { cls := 9, slots := #[.int 2], vm := .none },
  { cls := 9, slots := #[.int 3], vm := .none },
  { cls := 9, slots := #[.int 4], vm := .none },
  { cls := 9, slots := #[.int 5], vm := .none },
  { cls := 9, slots := #[.int 6], vm := .none },
  { cls := 9, slots := #[.int 7], vm := .none },
  { cls := 9, slots := #[.int 8], vm := .none },
  { cls := 9, slots := #[.int 9], vm := .none },
  { cls := 9, slots := #[.int 10], vm := .none },
  { cls := 9, slots := #[.int 11], vm := .none },
  { cls := 9, slots := #[.int 12], vm := .none },
  { cls := 9, slots := #[.int 13], vm := .none },
  { cls := 9, slots := #[.int 14], vm := .none },
  { cls := 9, slots := #[.int 15], vm := .none },
  { cls := 9, slots := #[.int 16], vm := .none },
  { cls := 9, slots := #[.int 17], vm := .none },
  { cls := 9, slots := #[.int 18], vm := .none },
  { cls := 9, slots := #[.int 19], vm := .none },
  { cls := 9, slots := #[.int 20], vm := .none },
  { cls := 9, slots := #[.int 21], vm := .none },
  { cls := 9, slots := #[.int 22], vm := .none },
  { cls := 9, slots := #[.int 23], vm := .none },
  { cls := 9, slots := #[.int 24], vm := .none },
  { cls := 9, slots := #[.int 25], vm := .none },
  { cls := 9, slots := #[.int 26], vm := .none },
  { cls := 9, slots := #[.int 27], vm := .none },
  { cls := 9, slots := #[.int 28], vm := .none },
  { cls := 9, slots := #[.int 29], vm := .none },
  { cls := 9, slots := #[.int 30], vm := .none },
  { cls := 9, slots := #[.int 31], vm := .none },
  { cls := 9, slots := #[.int 32], vm := .none },
  { cls := 9, slots := #[.int 33], vm := .none },
  { cls := 9, slots := #[.int 34], vm := .none },
  { cls := 9, slots := #[.int 35], vm := .none },
  { cls := 9, slots := #[.int 36], vm := .none },
  { cls := 9, slots := #[.int 37], vm := .none },
  { cls := 9, slots := #[.int 38], vm := .none },
  { cls := 9, slots := #[.int 39], vm := .none },
  { cls := 9, slots := #[.int 40], vm := .none },
  { cls := 9, slots := #[.int 41], vm := .none },
  { cls := 9, slots := #[.int 42], vm := .none },
  { cls := 9, slots := #[.int 43], vm := .none },
  { cls := 9, slots := #[.int 44], vm := .none },
  { cls := 9, slots := #[.int 45], vm := .none },
  { cls := 9, slots := #[.int 46], vm := .none },
  { cls := 9, slots := #[.int 47], vm := .none },
  { cls := 9, slots := #[.int 48], vm := .none },
  { cls := 9, slots := #[.int 49], vm := .none },
  { cls := 9, slots := #[.int 50], vm := .none },
  { cls := 9, slots := #[.int 51], vm := .none },
  { cls := 9, slots := #[.int 52], vm := .none },
  { cls := 9, slots := #[.int 53], vm := .none },
  { cls := 9, slots := #[.int 54], vm := .none },
  { cls := 9, slots := #[.int 55], vm := .none },
  { cls := 9, slots := #[.int 56], vm := .none },
  { cls := 9, slots := #[.int 57], vm := .none },
  { cls := 9, slots := #[.int 58], vm := .none },
  { cls := 9, slots := #[.int 59], vm := .none },
  { cls := 9, slots := #[.int 60], vm := .none },
  { cls := 9, slots := #[.int 61], vm := .none },
  { cls := 9, slots := #[.int 62], vm := .none },
  { cls := 9, slots := #[.int 63], vm := .none },
  { cls := 9, slots := #[.int 64], vm := .none },
  { cls := 9, slots := #[.int 65], vm := .none },
  { cls := 9, slots := #[.int 66], vm := .none },
  { cls := 9, slots := #[.int 67], vm := .none },
  { cls := 9, slots := #[.int 68], vm := .none },
  { cls := 9, slots := #[.int 69], vm := .none },
  { cls := 9, slots := #[.int 70], vm := .none },
  { cls := 9, slots := #[.int 71], vm := .none },
  { cls := 9, slots := #[.int 72], vm := .none },
  { cls := 9, slots := #[.int 73], vm := .none },
  { cls := 9, slots := #[.int 74], vm := .none },
  { cls := 9, slots := #[.int 75], vm := .none },
  { cls := 9, slots := #[.int 76], vm := .none },
  { cls := 9, slots := #[.int 77], vm := .none },
  { cls := 9, slots := #[.int 78], vm := .none },
  { cls := 9, slots := #[.int 79], vm := .none },
  { cls := 9, slots := #[.int 80], vm := .none },
  { cls := 9, slots := #[.int 81], vm := .none },
  { cls := 9, slots := #[.int 82], vm := .none },
  { cls := 9, slots := #[.int 83], vm := .none },
  { cls := 9, slots := #[.int 84], vm := .none },
  { cls := 9, slots := #[.int 85], vm := .none },
  { cls := 9, slots := #[.int 86], vm := .none },
  { cls := 9, slots := #[.int 87], vm := .none },
  { cls := 9, slots := #[.int 88], vm := .none },
  { cls := 9, slots := #[.int 89], vm := .none },
  { cls := 9, slots := #[.int 90], vm := .none },
  { cls := 9, slots := #[.int 91], vm := .none },
  { cls := 9, slots := #[.int 92], vm := .none },
  { cls := 9, slots := #[.int 93], vm := .none },
  { cls := 9, slots := #[.int 94], vm := .none },
  { cls := 9, slots := #[.int 95], vm := .none },
  { cls := 9, slots := #[.int 96], vm := .none },
  { cls := 9, slots := #[.int 97], vm := .none },
  { cls := 9, slots := #[.int 98], vm := .none },
  { cls := 9, slots := #[.int 99], vm := .none },
  { cls := 9, slots := #[.int 100], vm := .none },
  { cls := 9, slots := #[.int 101], vm := .none },
  { cls := 9, slots := #[.int 102], vm := .none },
  { cls := 9, slots := #[.int 103], vm := .none },
  { cls := 9, slots := #[.int 104], vm := .none },
  { cls := 9, slots := #[.int 105], vm := .none },
  { cls := 9, slots := #[.int 106], vm := .none },
  { cls := 9, slots := #[.int 107], vm := .none },
  { cls := 9, slots := #[.int 108], vm := .none },
  { cls := 9, slots := #[.int 109], vm := .none },
  { cls := 9, slots := #[.int 110], vm := .none },
  { cls := 9, slots := #[.int 111], vm := .none },
  { cls := 9, slots := #[.int 112], vm := .none },
  { cls := 9, slots := #[.int 113], vm := .none },
  { cls := 9, slots := #[.int 114], vm := .none },
  { cls := 9, slots := #[.int 115], vm := .none },
  { cls := 9, slots := #[.int 116], vm := .none },
  { cls := 9, slots := #[.int 117], vm := .none },
  { cls := 9, slots := #[.int 118], vm := .none },
  { cls := 9, slots := #[.int 119], vm := .none },
  { cls := 9, slots := #[.int 120], vm := .none },
  { cls := 9, slots := #[.int 121], vm := .none },
  { cls := 9, slots := #[.int 122], vm := .none },
  { cls := 9, slots := #[.int 123], vm := .none },
  { cls := 9, slots := #[.int 124], vm := .none },
  { cls := 9, slots := #[.int 125], vm := .none },
  { cls := 9, slots := #[.int 126], vm := .none },
  { cls := 9, slots := #[.int 127], vm := .none }]
def classes : Array Class := #[k0, k1, k2, k3, k4, k5, k6, k7, k8, k9, k10, k11, k12, k13, k14, k15, k16, k17, k18, k19, k20, k21]
def interned : List (Array UInt16 × Addr) := []
def slotsUsed : Nat := 517
def theMethod : MethodId := ⟨1, 1⟩
def args0 : Array Value := #[.int 31, .long 5, .int 7]
def aboutOver (below : List Frame) : State where
  vm := { classes := classes, interned := interned.toArray }
  heap := heap
  slotsUsed := slotsUsed
  threads := #[{ frames := .invoking theMethod args0 :: below }]
def below0 : List Frame := [.native { method := ⟨0, 0⟩, args := #[] }]
def about1 : State := aboutOver below0
def p0 : Program := .bare "" "" ""
def e0 : Env := launch0.env 0 0 0
theorem w_frames : about1.frames = Frame.invoking theMethod args0 :: below0 := rfl
set_option maxRecDepth 65536 in
theorem w_args : argsFit about1.vm theMethod args0 = true := by decide +kernel
set_option maxRecDepth 65536 in
theorem w_heap : heapFits about1 = true := by decide +kernel
set_option maxRecDepth 65536 in
theorem w_runnable : about1.curStatus? = some .runnable := by decide +kernel
set_option maxRecDepth 65536 in
theorem w_alone : about1.alone = true := by decide +kernel
set_option maxRecDepth 65536 in
theorem w_named : about1.methodNamed? x = some theMethod := by decide +kernel
set_option maxRecDepth 65536 in
theorem w_hears : about1.hears theMethod below0 = true := by decide +kernel
set_option maxRecDepth 65536 in
theorem w_ripe : about1.ripe theMethod args0 below0 = true := by decide +kernel
theorem w_running : about1.status = .running := rfl
set_option maxRecDepth 65536 in
theorem w_room : about1.hasRoom e0.platform room_1 = true :=
  launch0.hasRoom_least _ room_1 (by decide +kernel) (by decide +kernel) (by decide +kernel) (by decide +kernel) (by decide +kernel) (by decide +kernel)
theorem allAtoms_all (ts : List Jvm.Cond) (a : Array Jvm.Value) (st : Jvm.State) : (allAtoms ts).before a st = ts.all (fun c => c.before a st) := by
  induction ts with
  | nil => rfl
  | cons c t ih =>
    show (Jvm.Cond.and c (allAtoms t)).before a st = _
    rw [Jvm.Cond.before_and, ih, List.all_cons]
def words1 : List Jvm.Cond := Jvm.Cond.code x code maxLocals ret :: tables_1
/-- a 'code' word, met by the world's own term for the bytes: nothing is compared byte by byte -/
theorem code_word {y : MethodName} {bytes : ByteArray} {mx : Nat} {rt : Option FieldType} {a : Array Value} {s : State} {m : MethodId} {meth : Method} {c : Code} (h1 : s.methodNamed? y = some m) (h2 : s.vm.method? m = some meth) (h3 : meth.code = some c) (h4 : c.code = bytes)
    (h5 : (c.maxLocals == mx && c.exceptionTable.isEmpty && decide (c.maxStack ≤ mostOperands) && decide (meth.sig.returnType = rt) && !meth.locks && decide (parseMethodDescriptor y.desc = some meth.sig)) = true) : (Jvm.Cond.code y bytes mx rt).before a s = true := by
  simp only [Bool.and_eq_true, beq_iff_eq, Bool.not_eq_true', decide_eq_true_eq] at h5
  obtain ⟨⟨⟨⟨⟨g1, g2⟩, g3⟩, g4⟩, g5⟩, g6⟩ := h5
  simp [Cond.before, Cond.holds, Cond.value, h1, h2, h3, h4, g1, g2, g3, g4, g5, g6]
def isCode : Jvm.Cond → Bool
  | .code _ _ _ _ => true
  | _ => false
theorem all_split {L : List Jvm.Cond} {P : Jvm.Cond → Bool} (h1 : L.all (fun c => isCode c || P c) = true) (h2 : ∀ c ∈ L.filter isCode, P c = true) : L.all P = true := by
  refine List.all_eq_true.mpr fun c hc => ?_
  have h := List.all_eq_true.mp h1 c hc
  rcases Bool.eq_false_or_eq_true (isCode c) with hi | hi
  · exact h2 c (List.mem_filter.mpr ⟨hc, hi⟩)
  · simpa [hi] using h
set_option maxRecDepth 65536 in
theorem w_c0 : (Jvm.Cond.code x code maxLocals ret).before args0 about1 = true := code_word (m := ⟨1, 1⟩) (meth := k1m1) (c := k1c1) (by decide +kernel) rfl rfl rfl (by decide +kernel)
set_option maxRecDepth 65536 in
theorem w_c1 : (Jvm.Cond.code ({ cls := "com/example/minne/minne/SerialQueue", name := "<init>", desc := "()V" } : Jvm.MethodName) prog_12_method_1_code (1 : Nat) (Option.none : Option Jvm.ClassFile.FieldType)).before args0 about1 = true := code_word (m := ⟨2, 0⟩) (meth := k2m0) (c := k2c0) (by decide +kernel) rfl rfl rfl (by decide +kernel)
set_option maxRecDepth 65536 in
theorem w_c2 : (Jvm.Cond.code ({ cls := "java/lang/Object", name := "<init>", desc := "()V" } : Jvm.MethodName) object_method_1_code (1 : Nat) (Option.none : Option Jvm.ClassFile.FieldType)).before args0 about1 = true := code_word (m := ⟨0, 0⟩) (meth := k0m0) (c := k0c0) (by decide +kernel) rfl rfl rfl (by decide +kernel)
set_option maxRecDepth 65536 in
theorem w_c3 : (Jvm.Cond.code ({ cls := "com/example/minne/minne/SerialQueue$Slots", name := "<init>", desc := "(JI)V" } : Jvm.MethodName) prog_13_method_1_code (4 : Nat) (Option.none : Option Jvm.ClassFile.FieldType)).before args0 about1 = true := code_word (m := ⟨3, 0⟩) (meth := k3m0) (c := k3c0) (by decide +kernel) rfl rfl rfl (by decide +kernel)
set_option maxRecDepth 65536 in
theorem w_c4 : (Jvm.Cond.code ({ cls := "java/lang/Integer", name := "valueOf", desc := "(I)Ljava/lang/Integer;" } : Jvm.MethodName) jdk_33_method_22_code (1 : Nat) (Option.some (Jvm.ClassFile.FieldType.object "java/lang/Integer"))).before args0 about1 = true := code_word (m := ⟨9, 0⟩) (meth := k9m0) (c := k9c0) (by decide +kernel) rfl rfl rfl (by decide +kernel)
set_option maxRecDepth 65536 in
theorem w_c5 : (Jvm.Cond.code ({ cls := "com/example/minne/minne/SerialQueue", name := "isEmpty", desc := "()Z" } : Jvm.MethodName) prog_12_method_4_code (1 : Nat) (Option.some Jvm.ClassFile.FieldType.boolean)).before args0 about1 = true := code_word (m := ⟨2, 3⟩) (meth := k2m3) (c := k2c3) (by decide +kernel) rfl rfl rfl (by decide +kernel)
set_option maxRecDepth 65536 in
theorem w_c6 : (Jvm.Cond.code ({ cls := "com/example/minne/minne/SerialQueueIsEmptyPinLaw", name := "step", desc := "(Lcom/example/minne/minne/SerialQueue;ZIJLjava/lang/Integer;)I" } : Jvm.MethodName) method_3_code (6 : Nat) (Option.some Jvm.ClassFile.FieldType.int)).before args0 about1 = true := code_word (m := ⟨1, 2⟩) (meth := k1m2) (c := k1c2) (by decide +kernel) rfl rfl rfl (by decide +kernel)
set_option maxRecDepth 65536 in
theorem w_c7 : (Jvm.Cond.code ({ cls := "java/lang/Integer", name := "<init>", desc := "(I)V" } : Jvm.MethodName) jdk_33_method_23_code (2 : Nat) (Option.none : Option Jvm.ClassFile.FieldType)).before args0 about1 = true := code_word (m := ⟨9, 1⟩) (meth := k9m1) (c := k9c1) (by decide +kernel) rfl rfl rfl (by decide +kernel)
set_option maxRecDepth 65536 in
theorem w_c8 : (Jvm.Cond.code ({ cls := "java/lang/Number", name := "<init>", desc := "()V" } : Jvm.MethodName) jdk_18_method_1_code (1 : Nat) (Option.none : Option Jvm.ClassFile.FieldType)).before args0 about1 = true := code_word (m := ⟨5, 0⟩) (meth := k5m0) (c := k5c0) (by decide +kernel) rfl rfl rfl (by decide +kernel)
set_option maxRecDepth 65536 in
theorem w_c9 : (Jvm.Cond.code ({ cls := "com/example/minne/minne/SerialQueue$Slots", name := "copy", desc := "(JJ)Lcom/example/minne/minne/SerialQueue$Slots;" } : Jvm.MethodName) prog_13_method_2_code (7 : Nat) (Option.some (Jvm.ClassFile.FieldType.object "com/example/minne/minne/SerialQueue$Slots"))).before args0 about1 = true := code_word (m := ⟨3, 1⟩) (meth := k3m1) (c := k3c1) (by decide +kernel) rfl rfl rfl (by decide +kernel)
set_option maxRecDepth 65536 in
theorem w_c10 : (Jvm.Cond.code ({ cls := "java/lang/Math", name := "max", desc := "(II)I" } : Jvm.MethodName) jdk_29_method_65_code (2 : Nat) (Option.some Jvm.ClassFile.FieldType.int)).before args0 about1 = true := code_word (m := ⟨11, 1⟩) (meth := k11m1) (c := k11c1) (by decide +kernel) rfl rfl rfl (by decide +kernel)
def codes1 : List Jvm.Cond := [Jvm.Cond.code x code maxLocals ret, Jvm.Cond.code ({ cls := "com/example/minne/minne/SerialQueue", name := "<init>", desc := "()V" } : Jvm.MethodName) prog_12_method_1_code (1 : Nat) (Option.none : Option Jvm.ClassFile.FieldType), Jvm.Cond.code ({ cls := "java/lang/Object", name := "<init>", desc := "()V" } : Jvm.MethodName) object_method_1_code (1 : Nat) (Option.none : Option Jvm.ClassFile.FieldType), Jvm.Cond.code ({ cls := "com/example/minne/minne/SerialQueue$Slots", name := "<init>", desc := "(JI)V" } : Jvm.MethodName) prog_13_method_1_code (4 : Nat) (Option.none : Option Jvm.ClassFile.FieldType), Jvm.Cond.code ({ cls := "java/lang/Integer", name := "valueOf", desc := "(I)Ljava/lang/Integer;" } : Jvm.MethodName) jdk_33_method_22_code (1 : Nat) (Option.some (Jvm.ClassFile.FieldType.object "java/lang/Integer")), Jvm.Cond.code ({ cls := "com/example/minne/minne/SerialQueue", name := "isEmpty", desc := "()Z" } : Jvm.MethodName) prog_12_method_4_code (1 : Nat) (Option.some Jvm.ClassFile.FieldType.boolean), Jvm.Cond.code ({ cls := "com/example/minne/minne/SerialQueueIsEmptyPinLaw", name := "step", desc := "(Lcom/example/minne/minne/SerialQueue;ZIJLjava/lang/Integer;)I" } : Jvm.MethodName) method_3_code (6 : Nat) (Option.some Jvm.ClassFile.FieldType.int), Jvm.Cond.code ({ cls := "java/lang/Integer", name := "<init>", desc := "(I)V" } : Jvm.MethodName) jdk_33_method_23_code (2 : Nat) (Option.none : Option Jvm.ClassFile.FieldType), Jvm.Cond.code ({ cls := "java/lang/Number", name := "<init>", desc := "()V" } : Jvm.MethodName) jdk_18_method_1_code (1 : Nat) (Option.none : Option Jvm.ClassFile.FieldType), Jvm.Cond.code ({ cls := "com/example/minne/minne/SerialQueue$Slots", name := "copy", desc := "(JJ)Lcom/example/minne/minne/SerialQueue$Slots;" } : Jvm.MethodName) prog_13_method_2_code (7 : Nat) (Option.some (Jvm.ClassFile.FieldType.object "com/example/minne/minne/SerialQueue$Slots")), Jvm.Cond.code ({ cls := "java/lang/Math", name := "max", desc := "(II)I" } : Jvm.MethodName) jdk_29_method_65_code (2 : Nat) (Option.some Jvm.ClassFile.FieldType.int)]
set_option maxRecDepth 65536 in
theorem codes_eq : words1.filter isCode = codes1 := rfl
theorem w_codes : ∀ c ∈ words1.filter isCode, c.before args0 about1 = true := by
  rw [codes_eq]
  intro c hc
  simp only [codes1, List.mem_cons, List.not_mem_nil, or_false] at hc
  rcases hc with rfl | rfl | rfl | rfl | rfl | rfl | rfl | rfl | rfl | rfl | rfl
  · exact w_c0
  · exact w_c1
  · exact w_c2
  · exact w_c3
  · exact w_c4
  · exact w_c5
  · exact w_c6
  · exact w_c7
  · exact w_c8
  · exact w_c9
  · exact w_c10
set_option maxRecDepth 65536 in
theorem w_t1 : (words1.take 24).all (fun c => isCode c || c.before args0 about1) = true := by decide +kernel
set_option maxRecDepth 65536 in
theorem w_t2 : ((words1.drop 24).take 24).all (fun c => isCode c || c.before args0 about1) = true := by decide +kernel
set_option maxRecDepth 65536 in
theorem w_t3 : (((words1.drop 24).drop 24).take 24).all (fun c => isCode c || c.before args0 about1) = true := by decide +kernel
set_option maxRecDepth 65536 in
theorem w_t4 : (((words1.drop 24).drop 24).drop 24).all (fun c => isCode c || c.before args0 about1) = true := by decide +kernel
theorem w_tables : (allAtoms (Jvm.Cond.code x code maxLocals ret :: tables_1)).before args0 about1 = true := by
  rw [allAtoms_all]
  show words1.all (fun c => c.before args0 about1) = true
  refine all_split ?_ w_codes
  rw [← List.take_append_drop 24 words1, List.all_append, w_t1, ← List.take_append_drop 24 (words1.drop 24), List.all_append, w_t2, ← List.take_append_drop 24 ((words1.drop 24).drop 24), List.all_append, w_t3, w_t4]
  rfl
set_option maxRecDepth 65536 in
theorem w_rest : rest_1_c.before args0 about1 = true := by decide +kernel
set_option maxRecDepth 65536 in
theorem w_case : (Jvm.Cond.and given_1 narrow_1).before args0 about1 = true := by decide +kernel
theorem w_applies : (headSpec (Jvm.Cond.code x code maxLocals ret :: tables_1) room_1).applies x e0.platform about1 = true :=
  (Spec.applies_iff w_frames).mpr ⟨w_running, w_runnable, w_alone, w_named, w_hears, w_ripe, w_room, w_tables⟩
theorem atStart : AtStart classFile x code maxLocals ret World_1 tables_1 room_1 Calls_1 rest_1 Pre_1 launch0 p0 e0 about1 theMethod args0 below0 :=
  ⟨lists_1, trivial, launch0.admits_env _ _ _, launch0.least_env, fairChoices_fair.cas, fairChoices_fair.clock, w_frames, w_args, w_heap, w_applies, trivial, w_rest, w_case⟩
end start1
theorem witness_1 : WitnessClaimed_1 := ⟨start1.p0, start1.e0, start1.about1, start1.theMethod, start1.args0, start1.below0, start1.atStart⟩
end Jvm.Pilot.@@N@@
