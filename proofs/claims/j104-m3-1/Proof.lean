import JvmDerived
import JvmDerived.Pilot.@@N@@Statement
import JvmDerived.Pilot.@@N@@Code
set_option linter.unusedVariables false
set_option linter.unusedSimpArgs false
namespace Jvm.Pilot.@@N@@
namespace GoKit
open Sem ClassFile Op Lib Jvm.Stand Jvm.Free Jvm.LawKit Jvm.RoadKit
/-- how a walk may end: cold (it may have interned) or not -/
def FinE (w : Bool) (s : State) (o : Outcome) (U : State) (L : List Loc) (k n : Nat) : Prop := (w = true ∧ ReturnedEndW s o U L k n) ∨ (w = false ∧ FrameEnd s o U L k n)
/-- every place of the list lies in a cell made since, or in one of ws -/
def Fw (k : Nat) (ws : List Addr) (L : List Loc) : Prop := ∀ y ∈ L, k ≤ y.base ∨ y.base ∈ ws
theorem Fw.app {k : Nat} {ws : List Addr} {L L' : List Loc} (N : Fw k ws L) (N' : Fw k ws L') : Fw k ws (L ++ L') := fun y hy => (List.mem_append.mp hy).elim (N y) (N' y)
theorem Fw.snoc {k : Nat} {ws : List Addr} {L : List Loc} {a : Addr} {i : Nat} (N : Fw k ws L) (q : k ≤ a ∨ a ∈ ws) : Fw k ws (L ++ [⟨a, i⟩]) := N.app fun y hy => by cases List.mem_singleton.mp hy; exact q
theorem Fw.sub {k k' : Nat} {ws ws' : List Addr} {L : List Loc} (N : Fw k ws L) (hk : k' ≤ k) (q : ∀ x ∈ ws, k' ≤ x ∨ x ∈ ws') : Fw k' ws' L := fun y hy => (N y hy).elim (fun z => Or.inl (Nat.le_trans hk z)) (q _)
theorem Fw.of_fr {k : Nat} {ws : List Addr} {L : List Loc} (N : Fr k L) : Fw k ws L := fun y hy => Or.inl (N y hy)
theorem keep_same {s t : State} {L : List Loc} {k n : Nat} {ws : List Addr} (hs : s.sameButNew t L k n) (N : Fw s.heap.size ws L) : Keep s.heap t.heap ws := by
  obtain ⟨-, h1, -, -, -, h2⟩ := hs
  refine ⟨h1, fun x c hx hn => ?_, fun x c hx => ?_⟩
  · obtain ⟨c', e1, e2, e3, e4⟩ := h2 x c hx
    have hlt := (Array.getElem?_eq_some_iff.mp hx).1
    have e5 : c'.slots = c.slots := Array.ext_getElem? fun i => e4 i fun hm => (N _ hm).elim (fun z => Nat.lt_irrefl _ (Nat.lt_of_lt_of_le hlt z)) hn
    rw [e1, e2, e5]
  · obtain ⟨c', e1, e2, e3, -⟩ := h2 x c hx
    exact ⟨c', e1, by rw [e2], by rw [e2], e3⟩
theorem all_le {k : Nat} {ws : List Addr} (q : ∀ x ∈ ws, k ≤ x) : ∀ x ∈ ws, k ≤ x ∨ x ∈ ([] : List Addr) := fun x hx => Or.inl (q x hx)
/-- what is known of the body -/
def Kit (p : Program) (m : MethodId) (meth : Method) (c : Code) (bytes : ByteArray) (maxL : Nat) (ret : Option FieldType) (nm : String) : Prop :=
  p.tables.exec = Jvm.exec ∧ c.code = bytes ∧ c.maxLocals = maxL ∧ meth.sig.returnType = ret ∧ meth.locks = false ∧ meth.name = nm
/-- from the frame g over the heap h (tables: those of s with vm0) the body comes to an end of which Q holds -/
def Go (p : Program) (l : Launch) (e : Env) (R : Room) (s : State) (m : MethodId) (args : Array Value) (below : List Frame) (meth : Method) (c : Code)
    (Z : State) (k0 : Nat) (ws wF : List Addr) (own : String) (Q : Option Value → Heap → Vm → Prop) (w : Bool) (vm0 : Vm) (h : Heap) (ce sl : Nat) (g : JFrame) : Prop :=
  ∀ (T : State) (locs : List Loc), Stand p l e R (s.setVm vm0) m args below meth c T locs ce sl → T.heap = h → Fw k0 ws locs → s.Since vm0 h.size → Z.Warmed39 vm0 → vm0.findClass own = some m.cls → (w = true ∨ vm0 = s.vm) →
    ∃ (U : State) (o : Outcome), Steps p.tables e below (T.setTop g) U ∧ U.status = .running ∧ Ended U below o ∧ ∃ v L, o = .returned v ∧ (Q v U.heap U.vm ∧ Fw k0 wF L) ∧ FinE w s o U L R.cells R.slots
/-- a contract -/
def Con (l : Launch) (y : MethodName) (bytes : ByteArray) (maxL : Nat) (ret : Option FieldType) (wds : List Jvm.Cond) (rm : Room) (Z : State) (as' : Array Value) (h : Heap) (wF : List Addr) (V : Vm → Prop) (Q : Option Value → Heap → Vm → Prop) (w : Bool) : Prop :=
  MetFree l y (head1 (Jvm.Cond.code y bytes maxL ret :: wds) rm) (fun a U => a = as' ∧ Z.Warmed39 U.vm ∧ U.heap = h ∧ V U.vm) (fun _ _ _ _ _ => True) (fun _ U o U' => ∃ v L, o = .returned v ∧ (Q v U'.heap U'.vm ∧ Fw h.size wF L) ∧ FinE w U o U' L rm.cells rm.slots)
section
variable {p : Program} {l : Launch} {e : Env} {R : Room} {s : State} {m : MethodId} {args : Array Value} {below : List Frame} {meth : Method} {c : Code} {Z : State} {k0 : Nat} {ws wF : List Addr} {own : String} {Q : Option Value → Heap → Vm → Prop} {w : Bool} {vm0 : Vm} {h : Heap} {ce sl : Nat}
  {bytes : ByteArray} {maxL : Nat} {ret : Option FieldType} {nm : String} {Ls : Array Slot} {rest st : List Value} {a0 : Array Value}
theorem Con.intro {y : MethodName} {wds : List Jvm.Cond} {rm : Room} {as' : Array Value} {V : Vm → Prop} (hpn : plainName y.cls = true)
    (hgo : ∀ p e s m below meth c, Kit p m meth c bytes maxL ret y.name → V s.vm → s.heap = h → Go p l e rm s m as' below meth c Z h.size [] wF y.cls Q w s.vm h 0 0 (entryFrame m as' maxL)) :
    Con l y bytes maxL ret wds rm Z as' h wF V Q w := by
  refine MetFree.of_bodySF (plainFor_of_name hpn) hisR ?_
  intro p e s m args below meth c s₁ Bd hml0 hP hK
  obtain ⟨rfl, hZ, hh, hV⟩ := hP
  have hown : s.vm.findClass y.cls = some m.cls := findClass_of_methodNamed Bd.named
  have hnm := (name_of_methodNamed Bd.named Bd.method).1
  have e0 : s₁.heap = h := by rw [← hh, Bd.state]; rfl
  exact hgo p e s m below meth c ⟨Bd.exec, Bd.bytes, hml0, Bd.returns, Bd.notSynchronized, hnm⟩ hV hh s₁ [] (Stand.of_body Bd) e0 (fun _ q => nomatch q) ((State.WarmedH.refl s).since _) hZ hown (Or.inr rfl)
theorem Go.pure {g g' : JFrame} (f : ∀ T t, At T m c below → Steps p.tables e below (T.setTop g') t → Steps p.tables e below (T.setTop g) t) (k : Go p l e R s m args below meth c Z k0 ws wF own Q w vm0 h ce sl g') : Go p l e R s m args below meth c Z k0 ws wF own Q w vm0 h ce sl g :=
  fun T locs X eT N hS hZ ho hw => by
    obtain ⟨U, o, hU, r⟩ := k T locs X eT N hS hZ ho hw
    exact ⟨U, o, f T U X.here hU, r⟩
theorem Go.allow {g : JFrame} (a : Addr) (k : Go p l e R s m args below meth c Z k0 (a :: ws) wF own Q w vm0 h ce sl g) : Go p l e R s m args below meth c Z k0 ws wF own Q w vm0 h ce sl g :=
  fun T locs X eT N hS hZ ho hw => k T locs X eT (fun y hy => (N y hy).imp id (List.mem_cons_of_mem _)) hS hZ ho hw
/-- a step that gives a Stand over the same start, the heap grown -/
theorem Go.step {g g' : JFrame} {h' : Heap} {ce' sl' : Nat} (hgr : h.size ≤ h'.size)
    (f : ∀ T locs, Stand p l e R (s.setVm vm0) m args below meth c T locs ce sl → T.heap = h → Fw k0 ws locs → Z.Warmed39 (s.setVm vm0).vm → (s.setVm vm0).vm.findClass own = some m.cls →
      ∃ T' locs', Stand p l e R (s.setVm vm0) m args below meth c T' locs' ce' sl' ∧ T'.heap = h' ∧ Fw k0 ws locs' ∧ ∀ t, Steps p.tables e below (T'.setTop g') t → Steps p.tables e below (T.setTop g) t)
    (k : Go p l e R s m args below meth c Z k0 ws wF own Q w vm0 h' ce' sl' g') : Go p l e R s m args below meth c Z k0 ws wF own Q w vm0 h ce sl g :=
  fun T locs X eT N hS hZ ho hw => by
    obtain ⟨T', locs', X', eT', N', st⟩ := f T locs X eT N hZ ho
    obtain ⟨U, o, hU, r⟩ := k T' locs' X' eT' N' ⟨hS.1, hS.2.mono hgr⟩ hZ ho hw
    exact ⟨U, o, st U hU, r⟩
/-- the same, the new heap behind an existential -/
theorem Go.stepE {g : JFrame} {ce' sl' : Nat} {D : Heap → JFrame → Prop}
    (f : ∀ T locs, Stand p l e R (s.setVm vm0) m args below meth c T locs ce sl → T.heap = h → Fw k0 ws locs → Z.Warmed39 (s.setVm vm0).vm → (s.setVm vm0).vm.findClass own = some m.cls →
      ∃ T' locs' h' g', Stand p l e R (s.setVm vm0) m args below meth c T' locs' ce' sl' ∧ T'.heap = h' ∧ Fw k0 ws locs' ∧ h.size ≤ h'.size ∧ D h' g' ∧ ∀ t, Steps p.tables e below (T'.setTop g') t → Steps p.tables e below (T.setTop g) t)
    (k : ∀ h' g', D h' g' → Go p l e R s m args below meth c Z k0 ws wF own Q w vm0 h' ce' sl' g') : Go p l e R s m args below meth c Z k0 ws wF own Q w vm0 h ce sl g :=
  fun T locs X eT N hS hZ ho hw => by
    obtain ⟨T', locs', h', g', X', eT', N', hgr, hD, st⟩ := f T locs X eT N hZ ho
    obtain ⟨U, o, hU, r⟩ := k h' g' hD T' locs' X' eT' N' ⟨hS.1, hS.2.mono hgr⟩ hZ ho hw
    exact ⟨U, o, st U hU, r⟩
theorem iloadN (K : Kit p m meth c bytes maxL ret nm) {pc : Nat} {k : Fin 4} {v : Int32} (hd : decode bytes pc = .ok (.iload_n k, 1)) (hl : Ls[k.val]? = some (.val (.int v)))  (k : Go p l e R s m args below meth c Z k0 ws wF own Q w vm0 h ce sl (mkF m (pc + 1) Ls (.int v :: st))) : Go p l e R s m args below meth c Z k0 ws wF own Q w vm0 h ce sl (mkF m (pc) Ls (st)) :=
  Go.pure (fun T t A r => XS.iloadN A K.1 rfl (hb K.2.1 hd) hl  r) k
theorem iload (K : Kit p m meth c bytes maxL ret nm) {pc : Nat} {k : Nat} {v : Int32} (hd : decode bytes pc = .ok (.iload k, 2)) (hl : Ls[k]? = some (.val (.int v)))  (k : Go p l e R s m args below meth c Z k0 ws wF own Q w vm0 h ce sl (mkF m (pc + 2) Ls (.int v :: st))) : Go p l e R s m args below meth c Z k0 ws wF own Q w vm0 h ce sl (mkF m (pc) Ls (st)) :=
  Go.pure (fun T t A r => XS.iload A K.1 rfl (hb K.2.1 hd) hl  r) k
theorem lloadN (K : Kit p m meth c bytes maxL ret nm) {pc : Nat} {k : Fin 4} {v : Int64} (hd : decode bytes pc = .ok (.lload_n k, 1)) (hl : Ls[k.val]? = some (.val (.long v)))  (k : Go p l e R s m args below meth c Z k0 ws wF own Q w vm0 h ce sl (mkF m (pc + 1) Ls (.long v :: st))) : Go p l e R s m args below meth c Z k0 ws wF own Q w vm0 h ce sl (mkF m (pc) Ls (st)) :=
  Go.pure (fun T t A r => XT.lloadN A K.1 rfl (hb K.2.1 hd) hl  r) k
theorem lload (K : Kit p m meth c bytes maxL ret nm) {pc : Nat} {k : Nat} {v : Int64} (hd : decode bytes pc = .ok (.lload k, 2)) (hl : Ls[k]? = some (.val (.long v)))  (k : Go p l e R s m args below meth c Z k0 ws wF own Q w vm0 h ce sl (mkF m (pc + 2) Ls (.long v :: st))) : Go p l e R s m args below meth c Z k0 ws wF own Q w vm0 h ce sl (mkF m (pc) Ls (st)) :=
  Go.pure (fun T t A r => XT.lload A K.1 rfl (hb K.2.1 hd) hl  r) k
theorem aloadN (K : Kit p m meth c bytes maxL ret nm) {pc : Nat} {k : Fin 4} {v : Value} (hd : decode bytes pc = .ok (.aload_n k, 1)) (hl : Ls[k.val]? = some (.val (v))) (hv : v.isRef = true) (k : Go p l e R s m args below meth c Z k0 ws wF own Q w vm0 h ce sl (mkF m (pc + 1) Ls (v :: st))) : Go p l e R s m args below meth c Z k0 ws wF own Q w vm0 h ce sl (mkF m (pc) Ls (st)) :=
  Go.pure (fun T t A r => XS.aloadN A K.1 rfl (hb K.2.1 hd) hl hv r) k
theorem aload (K : Kit p m meth c bytes maxL ret nm) {pc : Nat} {k : Nat} {v : Value} (hd : decode bytes pc = .ok (.aload k, 2)) (hl : Ls[k]? = some (.val (v))) (hv : v.isRef = true) (k : Go p l e R s m args below meth c Z k0 ws wF own Q w vm0 h ce sl (mkF m (pc + 2) Ls (v :: st))) : Go p l e R s m args below meth c Z k0 ws wF own Q w vm0 h ce sl (mkF m (pc) Ls (st)) :=
  Go.pure (fun T t A r => XS.aload A K.1 rfl (hb K.2.1 hd) hl hv r) k
theorem istoreN (K : Kit p m meth c bytes maxL ret nm) {pc : Nat} {k : Fin 4} {v : Int32} {l' : Array Slot} (hd : decode bytes pc = .ok (.istore_n k, 1))  (hl : storeLocals Ls k.val (.int v) = some l') (k : Go p l e R s m args below meth c Z k0 ws wF own Q w vm0 h ce sl (mkF m (pc + 1) l' (st))) : Go p l e R s m args below meth c Z k0 ws wF own Q w vm0 h ce sl (mkF m (pc) Ls (.int v :: st)) :=
  Go.pure (fun T t A r => XS.istoreN A K.1 rfl (hb K.2.1 hd) rfl  hl r) k
theorem istore (K : Kit p m meth c bytes maxL ret nm) {pc : Nat} {k : Nat} {v : Int32} {l' : Array Slot} (hd : decode bytes pc = .ok (.istore k, 2))  (hl : storeLocals Ls k (.int v) = some l') (k : Go p l e R s m args below meth c Z k0 ws wF own Q w vm0 h ce sl (mkF m (pc + 2) l' (st))) : Go p l e R s m args below meth c Z k0 ws wF own Q w vm0 h ce sl (mkF m (pc) Ls (.int v :: st)) :=
  Go.pure (fun T t A r => XS.istore A K.1 rfl (hb K.2.1 hd) rfl  hl r) k
theorem lstoreN (K : Kit p m meth c bytes maxL ret nm) {pc : Nat} {k : Fin 4} {v : Int64} {l' : Array Slot} (hd : decode bytes pc = .ok (.lstore_n k, 1))  (hl : storeLocals Ls k.val (.long v) = some l') (k : Go p l e R s m args below meth c Z k0 ws wF own Q w vm0 h ce sl (mkF m (pc + 1) l' (st))) : Go p l e R s m args below meth c Z k0 ws wF own Q w vm0 h ce sl (mkF m (pc) Ls (.long v :: st)) :=
  Go.pure (fun T t A r => XT.lstoreN A K.1 rfl (hb K.2.1 hd) rfl  hl r) k
theorem lstore (K : Kit p m meth c bytes maxL ret nm) {pc : Nat} {k : Nat} {v : Int64} {l' : Array Slot} (hd : decode bytes pc = .ok (.lstore k, 2))  (hl : storeLocals Ls k (.long v) = some l') (k : Go p l e R s m args below meth c Z k0 ws wF own Q w vm0 h ce sl (mkF m (pc + 2) l' (st))) : Go p l e R s m args below meth c Z k0 ws wF own Q w vm0 h ce sl (mkF m (pc) Ls (.long v :: st)) :=
  Go.pure (fun T t A r => XT.lstore A K.1 rfl (hb K.2.1 hd) rfl  hl r) k
theorem astoreN (K : Kit p m meth c bytes maxL ret nm) {pc : Nat} {k : Fin 4} {v : Value} {l' : Array Slot} (hd : decode bytes pc = .ok (.astore_n k, 1)) (hv : v.isRef = true) (hl : storeLocals Ls k.val (v) = some l') (k : Go p l e R s m args below meth c Z k0 ws wF own Q w vm0 h ce sl (mkF m (pc + 1) l' (st))) : Go p l e R s m args below meth c Z k0 ws wF own Q w vm0 h ce sl (mkF m (pc) Ls (v :: st)) :=
  Go.pure (fun T t A r => XS.astoreN A K.1 rfl (hb K.2.1 hd) rfl hv hl r) k
theorem astore (K : Kit p m meth c bytes maxL ret nm) {pc : Nat} {k : Nat} {v : Value} {l' : Array Slot} (hd : decode bytes pc = .ok (.astore k, 2)) (hv : v.isRef = true) (hl : storeLocals Ls k (v) = some l') (k : Go p l e R s m args below meth c Z k0 ws wF own Q w vm0 h ce sl (mkF m (pc + 2) l' (st))) : Go p l e R s m args below meth c Z k0 ws wF own Q w vm0 h ce sl (mkF m (pc) Ls (v :: st)) :=
  Go.pure (fun T t A r => XS.astore A K.1 rfl (hb K.2.1 hd) rfl hv hl r) k
theorem iconst (K : Kit p m meth c bytes maxL ret nm) {pc : Nat} {i : Int} {x : Int32} (hd : decode bytes pc = .ok (.iconst i, 1)) (hv : Int32.ofInt i = x) (k : Go p l e R s m args below meth c Z k0 ws wF own Q w vm0 h ce sl (mkF m (pc + 1) Ls (.int x :: st))) : Go p l e R s m args below meth c Z k0 ws wF own Q w vm0 h ce sl (mkF m (pc) Ls (st)) :=
  Go.pure (fun T t A r => XS.iconst A K.1 rfl (hb K.2.1 hd) r) (hv ▸ k)
theorem bipush (K : Kit p m meth c bytes maxL ret nm) {pc : Nat} {i : Int} {x : Int32} (hd : decode bytes pc = .ok (.bipush i, 2)) (hv : (Int8.ofInt i).toInt32 = x) (k : Go p l e R s m args below meth c Z k0 ws wF own Q w vm0 h ce sl (mkF m (pc + 2) Ls (.int x :: st))) : Go p l e R s m args below meth c Z k0 ws wF own Q w vm0 h ce sl (mkF m (pc) Ls (st)) :=
  Go.pure (fun T t A r => XS.bipush A K.1 rfl (hb K.2.1 hd) r) (hv ▸ k)
theorem sipush (K : Kit p m meth c bytes maxL ret nm) {pc : Nat} {i : Int} {x : Int32} (hd : decode bytes pc = .ok (.sipush i, 3)) (hv : (Int16.ofInt i).toInt32 = x) (k : Go p l e R s m args below meth c Z k0 ws wF own Q w vm0 h ce sl (mkF m (pc + 3) Ls (.int x :: st))) : Go p l e R s m args below meth c Z k0 ws wF own Q w vm0 h ce sl (mkF m (pc) Ls (st)) :=
  Go.pure (fun T t A r => XS.sipush A K.1 rfl (hb K.2.1 hd) r) (hv ▸ k)
theorem lconst (K : Kit p m meth c bytes maxL ret nm) {pc : Nat} {i : Fin 2} {x : Int64} (hd : decode bytes pc = .ok (.lconst i, 1)) (hv : Int64.ofNat i = x) (k : Go p l e R s m args below meth c Z k0 ws wF own Q w vm0 h ce sl (mkF m (pc + 1) Ls (.long x :: st))) : Go p l e R s m args below meth c Z k0 ws wF own Q w vm0 h ce sl (mkF m (pc) Ls (st)) :=
  Go.pure (fun T t A r => XT.lconst A K.1 rfl (hb K.2.1 hd) r) (hv ▸ k)
theorem aconstNull (K : Kit p m meth c bytes maxL ret nm) {pc : Nat}  (hd : decode bytes pc = .ok (.aconst_null, 1))  (k : Go p l e R s m args below meth c Z k0 ws wF own Q w vm0 h ce sl (mkF m (pc + 1) Ls (.null :: st))) : Go p l e R s m args below meth c Z k0 ws wF own Q w vm0 h ce sl (mkF m (pc) Ls (st)) :=
  Go.pure (fun T t A r => XS.aconstNull A K.1 rfl (hb K.2.1 hd)   r) k
theorem iadd (K : Kit p m meth c bytes maxL ret nm) {pc : Nat} {x y : Int32} (hd : decode bytes pc = .ok (.iadd, 1))  (k : Go p l e R s m args below meth c Z k0 ws wF own Q w vm0 h ce sl (mkF m (pc + 1) Ls (.int (x + y) :: rest))) : Go p l e R s m args below meth c Z k0 ws wF own Q w vm0 h ce sl (mkF m (pc) Ls (.int y :: .int x :: rest)) :=
  Go.pure (fun T t A r => XS.iadd A K.1 rfl (hb K.2.1 hd) rfl  r) k
theorem isub (K : Kit p m meth c bytes maxL ret nm) {pc : Nat} {x y : Int32} (hd : decode bytes pc = .ok (.isub, 1))  (k : Go p l e R s m args below meth c Z k0 ws wF own Q w vm0 h ce sl (mkF m (pc + 1) Ls (.int (x - y) :: rest))) : Go p l e R s m args below meth c Z k0 ws wF own Q w vm0 h ce sl (mkF m (pc) Ls (.int y :: .int x :: rest)) :=
  Go.pure (fun T t A r => XS.isub A K.1 rfl (hb K.2.1 hd) rfl  r) k
theorem iand (K : Kit p m meth c bytes maxL ret nm) {pc : Nat} {x y : Int32} (hd : decode bytes pc = .ok (.iand, 1))  (k : Go p l e R s m args below meth c Z k0 ws wF own Q w vm0 h ce sl (mkF m (pc + 1) Ls (.int (x &&& y) :: rest))) : Go p l e R s m args below meth c Z k0 ws wF own Q w vm0 h ce sl (mkF m (pc) Ls (.int y :: .int x :: rest)) :=
  Go.pure (fun T t A r => XS.iand A K.1 rfl (hb K.2.1 hd) rfl  r) k
theorem imul (K : Kit p m meth c bytes maxL ret nm) {pc : Nat} {x y : Int32} (hd : decode bytes pc = .ok (.imul, 1))  (k : Go p l e R s m args below meth c Z k0 ws wF own Q w vm0 h ce sl (mkF m (pc + 1) Ls (.int (x * y) :: rest))) : Go p l e R s m args below meth c Z k0 ws wF own Q w vm0 h ce sl (mkF m (pc) Ls (.int y :: .int x :: rest)) :=
  Go.pure (fun T t A r => XS.imul A K.1 rfl (hb K.2.1 hd) rfl  r) k
theorem idiv (K : Kit p m meth c bytes maxL ret nm) {pc : Nat} {x y : Int32} (hd : decode bytes pc = .ok (.idiv, 1)) (hy : y ≠ 0) (k : Go p l e R s m args below meth c Z k0 ws wF own Q w vm0 h ce sl (mkF m (pc + 1) Ls (.int (x / y) :: rest))) : Go p l e R s m args below meth c Z k0 ws wF own Q w vm0 h ce sl (mkF m (pc) Ls (.int y :: .int x :: rest)) :=
  Go.pure (fun T t A r => XS.idiv A K.1 rfl (hb K.2.1 hd) rfl hy r) k
theorem ixor (K : Kit p m meth c bytes maxL ret nm) {pc : Nat} {x y : Int32} (hd : decode bytes pc = .ok (.ixor, 1))  (k : Go p l e R s m args below meth c Z k0 ws wF own Q w vm0 h ce sl (mkF m (pc + 1) Ls (.int (x ^^^ y) :: rest))) : Go p l e R s m args below meth c Z k0 ws wF own Q w vm0 h ce sl (mkF m (pc) Ls (.int y :: .int x :: rest)) :=
  Go.pure (fun T t A r => XT.ixor A K.1 rfl (hb K.2.1 hd) rfl  r) k
theorem ior (K : Kit p m meth c bytes maxL ret nm) {pc : Nat} {x y : Int32} (hd : decode bytes pc = .ok (.ior, 1))  (k : Go p l e R s m args below meth c Z k0 ws wF own Q w vm0 h ce sl (mkF m (pc + 1) Ls (.int (x ||| y) :: rest))) : Go p l e R s m args below meth c Z k0 ws wF own Q w vm0 h ce sl (mkF m (pc) Ls (.int y :: .int x :: rest)) :=
  Go.pure (fun T t A r => XT.ior A K.1 rfl (hb K.2.1 hd) rfl  r) k
theorem ishl (K : Kit p m meth c bytes maxL ret nm) {pc : Nat} {x y : Int32} (hd : decode bytes pc = .ok (.ishl, 1))  (k : Go p l e R s m args below meth c Z k0 ws wF own Q w vm0 h ce sl (mkF m (pc + 1) Ls (.int (x <<< (y &&& 31)) :: rest))) : Go p l e R s m args below meth c Z k0 ws wF own Q w vm0 h ce sl (mkF m (pc) Ls (.int y :: .int x :: rest)) :=
  Go.pure (fun T t A r => XT.ishl A K.1 rfl (hb K.2.1 hd) rfl  r) k
theorem ishr (K : Kit p m meth c bytes maxL ret nm) {pc : Nat} {x y : Int32} (hd : decode bytes pc = .ok (.ishr, 1))  (k : Go p l e R s m args below meth c Z k0 ws wF own Q w vm0 h ce sl (mkF m (pc + 1) Ls (.int (x >>> (y &&& 31)) :: rest))) : Go p l e R s m args below meth c Z k0 ws wF own Q w vm0 h ce sl (mkF m (pc) Ls (.int y :: .int x :: rest)) :=
  Go.pure (fun T t A r => XT.ishr A K.1 rfl (hb K.2.1 hd) rfl  r) k
theorem iushr (K : Kit p m meth c bytes maxL ret nm) {pc : Nat} {x y : Int32} (hd : decode bytes pc = .ok (.iushr, 1))  (k : Go p l e R s m args below meth c Z k0 ws wF own Q w vm0 h ce sl (mkF m (pc + 1) Ls (.int (XT.ushr x y) :: rest))) : Go p l e R s m args below meth c Z k0 ws wF own Q w vm0 h ce sl (mkF m (pc) Ls (.int y :: .int x :: rest)) :=
  Go.pure (fun T t A r => XT.iushr A K.1 rfl (hb K.2.1 hd) rfl  r) k
theorem irem (K : Kit p m meth c bytes maxL ret nm) {pc : Nat} {x y : Int32} (hd : decode bytes pc = .ok (.irem, 1)) (hy : y ≠ 0) (k : Go p l e R s m args below meth c Z k0 ws wF own Q w vm0 h ce sl (mkF m (pc + 1) Ls (.int (x % y) :: rest))) : Go p l e R s m args below meth c Z k0 ws wF own Q w vm0 h ce sl (mkF m (pc) Ls (.int y :: .int x :: rest)) :=
  fun T locs X eT N hS hZ ho hw => by
    obtain ⟨U, o, hU, r⟩ := k T locs X eT N hS hZ ho hw
    exact ⟨U, o, iremM X K.1 rfl (hb K.2.1 hd) rfl hy hU, r⟩
theorem ineg (K : Kit p m meth c bytes maxL ret nm) {pc : Nat} {x : Int32} (hd : decode bytes pc = .ok (.ineg, 1))  (k : Go p l e R s m args below meth c Z k0 ws wF own Q w vm0 h ce sl (mkF m (pc + 1) Ls (.int (-x) :: rest))) : Go p l e R s m args below meth c Z k0 ws wF own Q w vm0 h ce sl (mkF m (pc) Ls (.int x :: rest)) :=
  Go.pure (fun T t A r => XS.ineg A K.1 rfl (hb K.2.1 hd) rfl  r) k
theorem ladd (K : Kit p m meth c bytes maxL ret nm) {pc : Nat} {x y : Int64} (hd : decode bytes pc = .ok (.ladd, 1))  (k : Go p l e R s m args below meth c Z k0 ws wF own Q w vm0 h ce sl (mkF m (pc + 1) Ls (.long (x + y) :: rest))) : Go p l e R s m args below meth c Z k0 ws wF own Q w vm0 h ce sl (mkF m (pc) Ls (.long y :: .long x :: rest)) :=
  Go.pure (fun T t A r => XT.ladd A K.1 rfl (hb K.2.1 hd) rfl  r) k
theorem lsub (K : Kit p m meth c bytes maxL ret nm) {pc : Nat} {x y : Int64} (hd : decode bytes pc = .ok (.lsub, 1))  (k : Go p l e R s m args below meth c Z k0 ws wF own Q w vm0 h ce sl (mkF m (pc + 1) Ls (.long (x - y) :: rest))) : Go p l e R s m args below meth c Z k0 ws wF own Q w vm0 h ce sl (mkF m (pc) Ls (.long y :: .long x :: rest)) :=
  Go.pure (fun T t A r => XT.lsub A K.1 rfl (hb K.2.1 hd) rfl  r) k
theorem lmul (K : Kit p m meth c bytes maxL ret nm) {pc : Nat} {x y : Int64} (hd : decode bytes pc = .ok (.lmul, 1))  (k : Go p l e R s m args below meth c Z k0 ws wF own Q w vm0 h ce sl (mkF m (pc + 1) Ls (.long (x * y) :: rest))) : Go p l e R s m args below meth c Z k0 ws wF own Q w vm0 h ce sl (mkF m (pc) Ls (.long y :: .long x :: rest)) :=
  Go.pure (fun T t A r => XT.lmul A K.1 rfl (hb K.2.1 hd) rfl  r) k
theorem land (K : Kit p m meth c bytes maxL ret nm) {pc : Nat} {x y : Int64} (hd : decode bytes pc = .ok (.land, 1))  (k : Go p l e R s m args below meth c Z k0 ws wF own Q w vm0 h ce sl (mkF m (pc + 1) Ls (.long (x &&& y) :: rest))) : Go p l e R s m args below meth c Z k0 ws wF own Q w vm0 h ce sl (mkF m (pc) Ls (.long y :: .long x :: rest)) :=
  Go.pure (fun T t A r => XT.land A K.1 rfl (hb K.2.1 hd) rfl  r) k
theorem lor (K : Kit p m meth c bytes maxL ret nm) {pc : Nat} {x y : Int64} (hd : decode bytes pc = .ok (.lor, 1))  (k : Go p l e R s m args below meth c Z k0 ws wF own Q w vm0 h ce sl (mkF m (pc + 1) Ls (.long (x ||| y) :: rest))) : Go p l e R s m args below meth c Z k0 ws wF own Q w vm0 h ce sl (mkF m (pc) Ls (.long y :: .long x :: rest)) :=
  Go.pure (fun T t A r => XT.lor A K.1 rfl (hb K.2.1 hd) rfl  r) k
theorem lxor (K : Kit p m meth c bytes maxL ret nm) {pc : Nat} {x y : Int64} (hd : decode bytes pc = .ok (.lxor, 1))  (k : Go p l e R s m args below meth c Z k0 ws wF own Q w vm0 h ce sl (mkF m (pc + 1) Ls (.long (x ^^^ y) :: rest))) : Go p l e R s m args below meth c Z k0 ws wF own Q w vm0 h ce sl (mkF m (pc) Ls (.long y :: .long x :: rest)) :=
  Go.pure (fun T t A r => XT.lxor A K.1 rfl (hb K.2.1 hd) rfl  r) k
theorem lrem (K : Kit p m meth c bytes maxL ret nm) {pc : Nat} {x y : Int64} (hd : decode bytes pc = .ok (.lrem, 1)) (hy : y ≠ 0) (k : Go p l e R s m args below meth c Z k0 ws wF own Q w vm0 h ce sl (mkF m (pc + 1) Ls (.long (x - (x / y) * y) :: rest))) : Go p l e R s m args below meth c Z k0 ws wF own Q w vm0 h ce sl (mkF m (pc) Ls (.long y :: .long x :: rest)) :=
  Go.pure (fun T t A r => XT.lrem A K.1 rfl (hb K.2.1 hd) rfl hy r) k
theorem lcmp (K : Kit p m meth c bytes maxL ret nm) {pc : Nat} {x y : Int64} (hd : decode bytes pc = .ok (.lcmp, 1))  (k : Go p l e R s m args below meth c Z k0 ws wF own Q w vm0 h ce sl (mkF m (pc + 1) Ls (.int (XT.cmpL x y) :: rest))) : Go p l e R s m args below meth c Z k0 ws wF own Q w vm0 h ce sl (mkF m (pc) Ls (.long y :: .long x :: rest)) :=
  Go.pure (fun T t A r => XT.lcmp A K.1 rfl (hb K.2.1 hd) rfl  r) k
theorem i2l (K : Kit p m meth c bytes maxL ret nm) {pc : Nat} {x : Int32} (hd : decode bytes pc = .ok (.i2l, 1))  (k : Go p l e R s m args below meth c Z k0 ws wF own Q w vm0 h ce sl (mkF m (pc + 1) Ls (.long x.toInt64 :: rest))) : Go p l e R s m args below meth c Z k0 ws wF own Q w vm0 h ce sl (mkF m (pc) Ls (.int x :: rest)) :=
  Go.pure (fun T t A r => XT.i2l A K.1 rfl (hb K.2.1 hd) rfl  r) k
theorem l2i (K : Kit p m meth c bytes maxL ret nm) {pc : Nat} {x : Int64} (hd : decode bytes pc = .ok (.l2i, 1))  (k : Go p l e R s m args below meth c Z k0 ws wF own Q w vm0 h ce sl (mkF m (pc + 1) Ls (.int x.toInt32 :: rest))) : Go p l e R s m args below meth c Z k0 ws wF own Q w vm0 h ce sl (mkF m (pc) Ls (.long x :: rest)) :=
  Go.pure (fun T t A r => XT.l2i A K.1 rfl (hb K.2.1 hd) rfl  r) k
theorem i2b (K : Kit p m meth c bytes maxL ret nm) {pc : Nat} {x : Int32} (hd : decode bytes pc = .ok (.i2b, 1))  (k : Go p l e R s m args below meth c Z k0 ws wF own Q w vm0 h ce sl (mkF m (pc + 1) Ls (.int x.toInt8.toInt32 :: rest))) : Go p l e R s m args below meth c Z k0 ws wF own Q w vm0 h ce sl (mkF m (pc) Ls (.int x :: rest)) :=
  Go.pure (fun T t A r => XT.i2b A K.1 rfl (hb K.2.1 hd) rfl  r) k
theorem i2c (K : Kit p m meth c bytes maxL ret nm) {pc : Nat} {x : Int32} (hd : decode bytes pc = .ok (.i2c, 1))  (k : Go p l e R s m args below meth c Z k0 ws wF own Q w vm0 h ce sl (mkF m (pc + 1) Ls (.int x.toUInt32.toUInt16.toUInt32.toInt32 :: rest))) : Go p l e R s m args below meth c Z k0 ws wF own Q w vm0 h ce sl (mkF m (pc) Ls (.int x :: rest)) :=
  Go.pure (fun T t A r => XT.i2c A K.1 rfl (hb K.2.1 hd) rfl  r) k
theorem dup (K : Kit p m meth c bytes maxL ret nm) {pc : Nat} {x : Value} (hd : decode bytes pc = .ok (.dup, 1)) (hc : x.category = 1) (k : Go p l e R s m args below meth c Z k0 ws wF own Q w vm0 h ce sl (mkF m (pc + 1) Ls (x :: x :: rest))) : Go p l e R s m args below meth c Z k0 ws wF own Q w vm0 h ce sl (mkF m (pc) Ls (x :: rest)) :=
  Go.pure (fun T t A r => XS.dup A K.1 rfl (hb K.2.1 hd) rfl hc r) k
theorem pop (K : Kit p m meth c bytes maxL ret nm) {pc : Nat} {x : Value} (hd : decode bytes pc = .ok (.pop, 1)) (hc : x.category = 1) (k : Go p l e R s m args below meth c Z k0 ws wF own Q w vm0 h ce sl (mkF m (pc + 1) Ls (rest))) : Go p l e R s m args below meth c Z k0 ws wF own Q w vm0 h ce sl (mkF m (pc) Ls (x :: rest)) :=
  Go.pure (fun T t A r => XT.pop A K.1 rfl (hb K.2.1 hd) rfl hc r) k
theorem dupX1 (K : Kit p m meth c bytes maxL ret nm) {pc : Nat} {x y : Value} (hd : decode bytes pc = .ok (.dup_x1, 1)) (hc : x.category = 1) (hc' : y.category = 1) (k : Go p l e R s m args below meth c Z k0 ws wF own Q w vm0 h ce sl (mkF m (pc + 1) Ls (x :: y :: x :: rest))) : Go p l e R s m args below meth c Z k0 ws wF own Q w vm0 h ce sl (mkF m (pc) Ls (x :: y :: rest)) :=
  Go.pure (fun T t A r => XT.dupX1 A K.1 rfl (hb K.2.1 hd) rfl hc hc' r) k
theorem dup2 (K : Kit p m meth c bytes maxL ret nm) {pc : Nat} {x y : Value} (hd : decode bytes pc = .ok (.dup2, 1)) (hc : x.category = 1) (hc' : y.category = 1) (k : Go p l e R s m args below meth c Z k0 ws wF own Q w vm0 h ce sl (mkF m (pc + 1) Ls (x :: y :: x :: y :: rest))) : Go p l e R s m args below meth c Z k0 ws wF own Q w vm0 h ce sl (mkF m (pc) Ls (x :: y :: rest)) :=
  Go.pure (fun T t A r => XT.dup2 A K.1 rfl (hb K.2.1 hd) rfl hc hc' r) k
theorem iinc (K : Kit p m meth c bytes maxL ret nm) {pc : Nat} {k : Nat} {cst : Int} {x y : Int32} {l' : Array Slot} (hd : decode bytes pc = .ok (.iinc k cst, 3)) (hl : Ls[k]? = some (.val (.int x))) (hv : x + Int32.ofInt cst = y) (hl' : storeLocals Ls k (.int y) = some l') (k : Go p l e R s m args below meth c Z k0 ws wF own Q w vm0 h ce sl (mkF m (pc + 3) l' (st))) : Go p l e R s m args below meth c Z k0 ws wF own Q w vm0 h ce sl (mkF m (pc) Ls (st)) :=
  Go.pure (fun T t A r => XS.iinc A K.1 rfl (hb K.2.1 hd) hl (hv ▸ hl') r) k
theorem goto (K : Kit p m meth c bytes maxL ret nm) {pc pc' : Nat} {o : Int} (hd : decode bytes pc = .ok (.goto o, 3)) (hp : 0 ≤ (pc : Int) + o ∧ ((pc : Int) + o).toNat = pc') (k : Go p l e R s m args below meth c Z k0 ws wF own Q w vm0 h ce sl (mkF m (pc') Ls (st))) : Go p l e R s m args below meth c Z k0 ws wF own Q w vm0 h ce sl (mkF m (pc) Ls (st)) :=
  Go.pure (fun T t A r => XS.goto A K.1 rfl rfl (hb K.2.1 hd) hp.1 hp.2 r) k
theorem icmp_eq_y (K : Kit p m meth c bytes maxL ret nm) {pc pc' : Nat} {o : Int} {x y : Int32} (hd : decode bytes pc = .ok (.if_icmp .eq o, 3)) (hp : 0 ≤ (pc : Int) + o ∧ ((pc : Int) + o).toNat = pc') (q : x = y) (k : Go p l e R s m args below meth c Z k0 ws wF own Q w vm0 h ce sl (mkF m (pc') Ls (rest))) : Go p l e R s m args below meth c Z k0 ws wF own Q w vm0 h ce sl (mkF m (pc) Ls (.int y :: .int x :: rest)) :=
  Go.pure (fun T t A r => XS.icmpYes A K.1 rfl rfl (hb K.2.1 hd) rfl (teq q).1 hp.1 hp.2 r) k
theorem icmp_eq_n (K : Kit p m meth c bytes maxL ret nm) {pc : Nat} {o : Int} {x y : Int32} (hd : decode bytes pc = .ok (.if_icmp .eq o, 3)) (q : ¬ x = y) (k : Go p l e R s m args below meth c Z k0 ws wF own Q w vm0 h ce sl (mkF m (pc + 3) Ls (rest))) : Go p l e R s m args below meth c Z k0 ws wF own Q w vm0 h ce sl (mkF m (pc) Ls (.int y :: .int x :: rest)) :=
  Go.pure (fun T t A r => XS.icmpNo A K.1 rfl (hb K.2.1 hd) rfl (feq q).1 r) k
theorem icmp_eq (K : Kit p m meth c bytes maxL ret nm) {pc pc' : Nat} {o : Int} {x y : Int32} (hd : decode bytes pc = .ok (.if_icmp .eq o, 3)) (hp : 0 ≤ (pc : Int) + o ∧ ((pc : Int) + o).toNat = pc') (k1 : x = y → Go p l e R s m args below meth c Z k0 ws wF own Q w vm0 h ce sl (mkF m (pc') Ls (rest))) (k2 : ¬ x = y → Go p l e R s m args below meth c Z k0 ws wF own Q w vm0 h ce sl (mkF m (pc + 3) Ls (rest))) : Go p l e R s m args below meth c Z k0 ws wF own Q w vm0 h ce sl (mkF m (pc) Ls (.int y :: .int x :: rest)) :=
  (Classical.em (x = y)).elim (fun q => icmp_eq_y K hd hp q (k1 q)) (fun q => icmp_eq_n K hd (by first | exact q | exact Classical.not_not.mp q) (k2 (by first | exact q | exact Classical.not_not.mp q)))
theorem if_eq_y (K : Kit p m meth c bytes maxL ret nm) {pc pc' : Nat} {o : Int} {x : Int32} (hd : decode bytes pc = .ok (.ifCond .eq o, 3)) (hp : 0 ≤ (pc : Int) + o ∧ ((pc : Int) + o).toNat = pc') (q : x = (0 : Int32)) (k : Go p l e R s m args below meth c Z k0 ws wF own Q w vm0 h ce sl (mkF m (pc') Ls (rest))) : Go p l e R s m args below meth c Z k0 ws wF own Q w vm0 h ce sl (mkF m (pc) Ls (.int x :: rest)) :=
  Go.pure (fun T t A r => XS.ifYes A K.1 rfl rfl (hb K.2.1 hd) rfl ((if0 _ _).trans (teq q).1) hp.1 hp.2 r) k
theorem if_eq_n (K : Kit p m meth c bytes maxL ret nm) {pc : Nat} {o : Int} {x : Int32} (hd : decode bytes pc = .ok (.ifCond .eq o, 3)) (q : ¬ x = (0 : Int32)) (k : Go p l e R s m args below meth c Z k0 ws wF own Q w vm0 h ce sl (mkF m (pc + 3) Ls (rest))) : Go p l e R s m args below meth c Z k0 ws wF own Q w vm0 h ce sl (mkF m (pc) Ls (.int x :: rest)) :=
  Go.pure (fun T t A r => XS.ifNo A K.1 rfl (hb K.2.1 hd) rfl ((if0 _ _).trans (feq q).1) r) k
theorem if_eq (K : Kit p m meth c bytes maxL ret nm) {pc pc' : Nat} {o : Int} {x : Int32} (hd : decode bytes pc = .ok (.ifCond .eq o, 3)) (hp : 0 ≤ (pc : Int) + o ∧ ((pc : Int) + o).toNat = pc') (k1 : x = (0 : Int32) → Go p l e R s m args below meth c Z k0 ws wF own Q w vm0 h ce sl (mkF m (pc') Ls (rest))) (k2 : ¬ x = (0 : Int32) → Go p l e R s m args below meth c Z k0 ws wF own Q w vm0 h ce sl (mkF m (pc + 3) Ls (rest))) : Go p l e R s m args below meth c Z k0 ws wF own Q w vm0 h ce sl (mkF m (pc) Ls (.int x :: rest)) :=
  (Classical.em (x = (0 : Int32))).elim (fun q => if_eq_y K hd hp q (k1 q)) (fun q => if_eq_n K hd (by first | exact q | exact Classical.not_not.mp q) (k2 (by first | exact q | exact Classical.not_not.mp q)))
theorem icmp_ne_y (K : Kit p m meth c bytes maxL ret nm) {pc pc' : Nat} {o : Int} {x y : Int32} (hd : decode bytes pc = .ok (.if_icmp .ne o, 3)) (hp : 0 ≤ (pc : Int) + o ∧ ((pc : Int) + o).toNat = pc') (q : ¬ x = y) (k : Go p l e R s m args below meth c Z k0 ws wF own Q w vm0 h ce sl (mkF m (pc') Ls (rest))) : Go p l e R s m args below meth c Z k0 ws wF own Q w vm0 h ce sl (mkF m (pc) Ls (.int y :: .int x :: rest)) :=
  Go.pure (fun T t A r => XS.icmpYes A K.1 rfl rfl (hb K.2.1 hd) rfl (feq q).2 hp.1 hp.2 r) k
theorem icmp_ne_n (K : Kit p m meth c bytes maxL ret nm) {pc : Nat} {o : Int} {x y : Int32} (hd : decode bytes pc = .ok (.if_icmp .ne o, 3)) (q : x = y) (k : Go p l e R s m args below meth c Z k0 ws wF own Q w vm0 h ce sl (mkF m (pc + 3) Ls (rest))) : Go p l e R s m args below meth c Z k0 ws wF own Q w vm0 h ce sl (mkF m (pc) Ls (.int y :: .int x :: rest)) :=
  Go.pure (fun T t A r => XS.icmpNo A K.1 rfl (hb K.2.1 hd) rfl (teq q).2 r) k
theorem icmp_ne (K : Kit p m meth c bytes maxL ret nm) {pc pc' : Nat} {o : Int} {x y : Int32} (hd : decode bytes pc = .ok (.if_icmp .ne o, 3)) (hp : 0 ≤ (pc : Int) + o ∧ ((pc : Int) + o).toNat = pc') (k1 : ¬ x = y → Go p l e R s m args below meth c Z k0 ws wF own Q w vm0 h ce sl (mkF m (pc') Ls (rest))) (k2 : x = y → Go p l e R s m args below meth c Z k0 ws wF own Q w vm0 h ce sl (mkF m (pc + 3) Ls (rest))) : Go p l e R s m args below meth c Z k0 ws wF own Q w vm0 h ce sl (mkF m (pc) Ls (.int y :: .int x :: rest)) :=
  (Classical.em (¬ x = y)).elim (fun q => icmp_ne_y K hd hp q (k1 q)) (fun q => icmp_ne_n K hd (by first | exact q | exact Classical.not_not.mp q) (k2 (by first | exact q | exact Classical.not_not.mp q)))
theorem if_ne_y (K : Kit p m meth c bytes maxL ret nm) {pc pc' : Nat} {o : Int} {x : Int32} (hd : decode bytes pc = .ok (.ifCond .ne o, 3)) (hp : 0 ≤ (pc : Int) + o ∧ ((pc : Int) + o).toNat = pc') (q : ¬ x = (0 : Int32)) (k : Go p l e R s m args below meth c Z k0 ws wF own Q w vm0 h ce sl (mkF m (pc') Ls (rest))) : Go p l e R s m args below meth c Z k0 ws wF own Q w vm0 h ce sl (mkF m (pc) Ls (.int x :: rest)) :=
  Go.pure (fun T t A r => XS.ifYes A K.1 rfl rfl (hb K.2.1 hd) rfl ((if0 _ _).trans (feq q).2) hp.1 hp.2 r) k
theorem if_ne_n (K : Kit p m meth c bytes maxL ret nm) {pc : Nat} {o : Int} {x : Int32} (hd : decode bytes pc = .ok (.ifCond .ne o, 3)) (q : x = (0 : Int32)) (k : Go p l e R s m args below meth c Z k0 ws wF own Q w vm0 h ce sl (mkF m (pc + 3) Ls (rest))) : Go p l e R s m args below meth c Z k0 ws wF own Q w vm0 h ce sl (mkF m (pc) Ls (.int x :: rest)) :=
  Go.pure (fun T t A r => XS.ifNo A K.1 rfl (hb K.2.1 hd) rfl ((if0 _ _).trans (teq q).2) r) k
theorem if_ne (K : Kit p m meth c bytes maxL ret nm) {pc pc' : Nat} {o : Int} {x : Int32} (hd : decode bytes pc = .ok (.ifCond .ne o, 3)) (hp : 0 ≤ (pc : Int) + o ∧ ((pc : Int) + o).toNat = pc') (k1 : ¬ x = (0 : Int32) → Go p l e R s m args below meth c Z k0 ws wF own Q w vm0 h ce sl (mkF m (pc') Ls (rest))) (k2 : x = (0 : Int32) → Go p l e R s m args below meth c Z k0 ws wF own Q w vm0 h ce sl (mkF m (pc + 3) Ls (rest))) : Go p l e R s m args below meth c Z k0 ws wF own Q w vm0 h ce sl (mkF m (pc) Ls (.int x :: rest)) :=
  (Classical.em (¬ x = (0 : Int32))).elim (fun q => if_ne_y K hd hp q (k1 q)) (fun q => if_ne_n K hd (by first | exact q | exact Classical.not_not.mp q) (k2 (by first | exact q | exact Classical.not_not.mp q)))
theorem icmp_lt_y (K : Kit p m meth c bytes maxL ret nm) {pc pc' : Nat} {o : Int} {x y : Int32} (hd : decode bytes pc = .ok (.if_icmp .lt o, 3)) (hp : 0 ≤ (pc : Int) + o ∧ ((pc : Int) + o).toNat = pc') (q : x < y) (k : Go p l e R s m args below meth c Z k0 ws wF own Q w vm0 h ce sl (mkF m (pc') Ls (rest))) : Go p l e R s m args below meth c Z k0 ws wF own Q w vm0 h ce sl (mkF m (pc) Ls (.int y :: .int x :: rest)) :=
  Go.pure (fun T t A r => XS.icmpYes A K.1 rfl rfl (hb K.2.1 hd) rfl (tlt q).1 hp.1 hp.2 r) k
theorem icmp_lt_n (K : Kit p m meth c bytes maxL ret nm) {pc : Nat} {o : Int} {x y : Int32} (hd : decode bytes pc = .ok (.if_icmp .lt o, 3)) (q : ¬ x < y) (k : Go p l e R s m args below meth c Z k0 ws wF own Q w vm0 h ce sl (mkF m (pc + 3) Ls (rest))) : Go p l e R s m args below meth c Z k0 ws wF own Q w vm0 h ce sl (mkF m (pc) Ls (.int y :: .int x :: rest)) :=
  Go.pure (fun T t A r => XS.icmpNo A K.1 rfl (hb K.2.1 hd) rfl (flt q).1 r) k
theorem icmp_lt (K : Kit p m meth c bytes maxL ret nm) {pc pc' : Nat} {o : Int} {x y : Int32} (hd : decode bytes pc = .ok (.if_icmp .lt o, 3)) (hp : 0 ≤ (pc : Int) + o ∧ ((pc : Int) + o).toNat = pc') (k1 : x < y → Go p l e R s m args below meth c Z k0 ws wF own Q w vm0 h ce sl (mkF m (pc') Ls (rest))) (k2 : ¬ x < y → Go p l e R s m args below meth c Z k0 ws wF own Q w vm0 h ce sl (mkF m (pc + 3) Ls (rest))) : Go p l e R s m args below meth c Z k0 ws wF own Q w vm0 h ce sl (mkF m (pc) Ls (.int y :: .int x :: rest)) :=
  (Classical.em (x < y)).elim (fun q => icmp_lt_y K hd hp q (k1 q)) (fun q => icmp_lt_n K hd (by first | exact q | exact Classical.not_not.mp q) (k2 (by first | exact q | exact Classical.not_not.mp q)))
theorem if_lt_y (K : Kit p m meth c bytes maxL ret nm) {pc pc' : Nat} {o : Int} {x : Int32} (hd : decode bytes pc = .ok (.ifCond .lt o, 3)) (hp : 0 ≤ (pc : Int) + o ∧ ((pc : Int) + o).toNat = pc') (q : x < (0 : Int32)) (k : Go p l e R s m args below meth c Z k0 ws wF own Q w vm0 h ce sl (mkF m (pc') Ls (rest))) : Go p l e R s m args below meth c Z k0 ws wF own Q w vm0 h ce sl (mkF m (pc) Ls (.int x :: rest)) :=
  Go.pure (fun T t A r => XS.ifYes A K.1 rfl rfl (hb K.2.1 hd) rfl ((if0 _ _).trans (tlt q).1) hp.1 hp.2 r) k
theorem if_lt_n (K : Kit p m meth c bytes maxL ret nm) {pc : Nat} {o : Int} {x : Int32} (hd : decode bytes pc = .ok (.ifCond .lt o, 3)) (q : ¬ x < (0 : Int32)) (k : Go p l e R s m args below meth c Z k0 ws wF own Q w vm0 h ce sl (mkF m (pc + 3) Ls (rest))) : Go p l e R s m args below meth c Z k0 ws wF own Q w vm0 h ce sl (mkF m (pc) Ls (.int x :: rest)) :=
  Go.pure (fun T t A r => XS.ifNo A K.1 rfl (hb K.2.1 hd) rfl ((if0 _ _).trans (flt q).1) r) k
theorem if_lt (K : Kit p m meth c bytes maxL ret nm) {pc pc' : Nat} {o : Int} {x : Int32} (hd : decode bytes pc = .ok (.ifCond .lt o, 3)) (hp : 0 ≤ (pc : Int) + o ∧ ((pc : Int) + o).toNat = pc') (k1 : x < (0 : Int32) → Go p l e R s m args below meth c Z k0 ws wF own Q w vm0 h ce sl (mkF m (pc') Ls (rest))) (k2 : ¬ x < (0 : Int32) → Go p l e R s m args below meth c Z k0 ws wF own Q w vm0 h ce sl (mkF m (pc + 3) Ls (rest))) : Go p l e R s m args below meth c Z k0 ws wF own Q w vm0 h ce sl (mkF m (pc) Ls (.int x :: rest)) :=
  (Classical.em (x < (0 : Int32))).elim (fun q => if_lt_y K hd hp q (k1 q)) (fun q => if_lt_n K hd (by first | exact q | exact Classical.not_not.mp q) (k2 (by first | exact q | exact Classical.not_not.mp q)))
theorem icmp_ge_y (K : Kit p m meth c bytes maxL ret nm) {pc pc' : Nat} {o : Int} {x y : Int32} (hd : decode bytes pc = .ok (.if_icmp .ge o, 3)) (hp : 0 ≤ (pc : Int) + o ∧ ((pc : Int) + o).toNat = pc') (q : ¬ x < y) (k : Go p l e R s m args below meth c Z k0 ws wF own Q w vm0 h ce sl (mkF m (pc') Ls (rest))) : Go p l e R s m args below meth c Z k0 ws wF own Q w vm0 h ce sl (mkF m (pc) Ls (.int y :: .int x :: rest)) :=
  Go.pure (fun T t A r => XS.icmpYes A K.1 rfl rfl (hb K.2.1 hd) rfl (flt q).2.1 hp.1 hp.2 r) k
theorem icmp_ge_n (K : Kit p m meth c bytes maxL ret nm) {pc : Nat} {o : Int} {x y : Int32} (hd : decode bytes pc = .ok (.if_icmp .ge o, 3)) (q : x < y) (k : Go p l e R s m args below meth c Z k0 ws wF own Q w vm0 h ce sl (mkF m (pc + 3) Ls (rest))) : Go p l e R s m args below meth c Z k0 ws wF own Q w vm0 h ce sl (mkF m (pc) Ls (.int y :: .int x :: rest)) :=
  Go.pure (fun T t A r => XS.icmpNo A K.1 rfl (hb K.2.1 hd) rfl (tlt q).2.1 r) k
theorem icmp_ge (K : Kit p m meth c bytes maxL ret nm) {pc pc' : Nat} {o : Int} {x y : Int32} (hd : decode bytes pc = .ok (.if_icmp .ge o, 3)) (hp : 0 ≤ (pc : Int) + o ∧ ((pc : Int) + o).toNat = pc') (k1 : ¬ x < y → Go p l e R s m args below meth c Z k0 ws wF own Q w vm0 h ce sl (mkF m (pc') Ls (rest))) (k2 : x < y → Go p l e R s m args below meth c Z k0 ws wF own Q w vm0 h ce sl (mkF m (pc + 3) Ls (rest))) : Go p l e R s m args below meth c Z k0 ws wF own Q w vm0 h ce sl (mkF m (pc) Ls (.int y :: .int x :: rest)) :=
  (Classical.em (¬ x < y)).elim (fun q => icmp_ge_y K hd hp q (k1 q)) (fun q => icmp_ge_n K hd (by first | exact q | exact Classical.not_not.mp q) (k2 (by first | exact q | exact Classical.not_not.mp q)))
theorem if_ge_y (K : Kit p m meth c bytes maxL ret nm) {pc pc' : Nat} {o : Int} {x : Int32} (hd : decode bytes pc = .ok (.ifCond .ge o, 3)) (hp : 0 ≤ (pc : Int) + o ∧ ((pc : Int) + o).toNat = pc') (q : ¬ x < (0 : Int32)) (k : Go p l e R s m args below meth c Z k0 ws wF own Q w vm0 h ce sl (mkF m (pc') Ls (rest))) : Go p l e R s m args below meth c Z k0 ws wF own Q w vm0 h ce sl (mkF m (pc) Ls (.int x :: rest)) :=
  Go.pure (fun T t A r => XS.ifYes A K.1 rfl rfl (hb K.2.1 hd) rfl ((if0 _ _).trans (flt q).2.1) hp.1 hp.2 r) k
theorem if_ge_n (K : Kit p m meth c bytes maxL ret nm) {pc : Nat} {o : Int} {x : Int32} (hd : decode bytes pc = .ok (.ifCond .ge o, 3)) (q : x < (0 : Int32)) (k : Go p l e R s m args below meth c Z k0 ws wF own Q w vm0 h ce sl (mkF m (pc + 3) Ls (rest))) : Go p l e R s m args below meth c Z k0 ws wF own Q w vm0 h ce sl (mkF m (pc) Ls (.int x :: rest)) :=
  Go.pure (fun T t A r => XS.ifNo A K.1 rfl (hb K.2.1 hd) rfl ((if0 _ _).trans (tlt q).2.1) r) k
theorem if_ge (K : Kit p m meth c bytes maxL ret nm) {pc pc' : Nat} {o : Int} {x : Int32} (hd : decode bytes pc = .ok (.ifCond .ge o, 3)) (hp : 0 ≤ (pc : Int) + o ∧ ((pc : Int) + o).toNat = pc') (k1 : ¬ x < (0 : Int32) → Go p l e R s m args below meth c Z k0 ws wF own Q w vm0 h ce sl (mkF m (pc') Ls (rest))) (k2 : x < (0 : Int32) → Go p l e R s m args below meth c Z k0 ws wF own Q w vm0 h ce sl (mkF m (pc + 3) Ls (rest))) : Go p l e R s m args below meth c Z k0 ws wF own Q w vm0 h ce sl (mkF m (pc) Ls (.int x :: rest)) :=
  (Classical.em (¬ x < (0 : Int32))).elim (fun q => if_ge_y K hd hp q (k1 q)) (fun q => if_ge_n K hd (by first | exact q | exact Classical.not_not.mp q) (k2 (by first | exact q | exact Classical.not_not.mp q)))
theorem icmp_gt_y (K : Kit p m meth c bytes maxL ret nm) {pc pc' : Nat} {o : Int} {x y : Int32} (hd : decode bytes pc = .ok (.if_icmp .gt o, 3)) (hp : 0 ≤ (pc : Int) + o ∧ ((pc : Int) + o).toNat = pc') (q : y < x) (k : Go p l e R s m args below meth c Z k0 ws wF own Q w vm0 h ce sl (mkF m (pc') Ls (rest))) : Go p l e R s m args below meth c Z k0 ws wF own Q w vm0 h ce sl (mkF m (pc) Ls (.int y :: .int x :: rest)) :=
  Go.pure (fun T t A r => XS.icmpYes A K.1 rfl rfl (hb K.2.1 hd) rfl (tlt q).2.2.1 hp.1 hp.2 r) k
theorem icmp_gt_n (K : Kit p m meth c bytes maxL ret nm) {pc : Nat} {o : Int} {x y : Int32} (hd : decode bytes pc = .ok (.if_icmp .gt o, 3)) (q : ¬ y < x) (k : Go p l e R s m args below meth c Z k0 ws wF own Q w vm0 h ce sl (mkF m (pc + 3) Ls (rest))) : Go p l e R s m args below meth c Z k0 ws wF own Q w vm0 h ce sl (mkF m (pc) Ls (.int y :: .int x :: rest)) :=
  Go.pure (fun T t A r => XS.icmpNo A K.1 rfl (hb K.2.1 hd) rfl (flt q).2.2.1 r) k
theorem icmp_gt (K : Kit p m meth c bytes maxL ret nm) {pc pc' : Nat} {o : Int} {x y : Int32} (hd : decode bytes pc = .ok (.if_icmp .gt o, 3)) (hp : 0 ≤ (pc : Int) + o ∧ ((pc : Int) + o).toNat = pc') (k1 : y < x → Go p l e R s m args below meth c Z k0 ws wF own Q w vm0 h ce sl (mkF m (pc') Ls (rest))) (k2 : ¬ y < x → Go p l e R s m args below meth c Z k0 ws wF own Q w vm0 h ce sl (mkF m (pc + 3) Ls (rest))) : Go p l e R s m args below meth c Z k0 ws wF own Q w vm0 h ce sl (mkF m (pc) Ls (.int y :: .int x :: rest)) :=
  (Classical.em (y < x)).elim (fun q => icmp_gt_y K hd hp q (k1 q)) (fun q => icmp_gt_n K hd (by first | exact q | exact Classical.not_not.mp q) (k2 (by first | exact q | exact Classical.not_not.mp q)))
theorem if_gt_y (K : Kit p m meth c bytes maxL ret nm) {pc pc' : Nat} {o : Int} {x : Int32} (hd : decode bytes pc = .ok (.ifCond .gt o, 3)) (hp : 0 ≤ (pc : Int) + o ∧ ((pc : Int) + o).toNat = pc') (q : (0 : Int32) < x) (k : Go p l e R s m args below meth c Z k0 ws wF own Q w vm0 h ce sl (mkF m (pc') Ls (rest))) : Go p l e R s m args below meth c Z k0 ws wF own Q w vm0 h ce sl (mkF m (pc) Ls (.int x :: rest)) :=
  Go.pure (fun T t A r => XS.ifYes A K.1 rfl rfl (hb K.2.1 hd) rfl ((if0 _ _).trans (tlt q).2.2.1) hp.1 hp.2 r) k
theorem if_gt_n (K : Kit p m meth c bytes maxL ret nm) {pc : Nat} {o : Int} {x : Int32} (hd : decode bytes pc = .ok (.ifCond .gt o, 3)) (q : ¬ (0 : Int32) < x) (k : Go p l e R s m args below meth c Z k0 ws wF own Q w vm0 h ce sl (mkF m (pc + 3) Ls (rest))) : Go p l e R s m args below meth c Z k0 ws wF own Q w vm0 h ce sl (mkF m (pc) Ls (.int x :: rest)) :=
  Go.pure (fun T t A r => XS.ifNo A K.1 rfl (hb K.2.1 hd) rfl ((if0 _ _).trans (flt q).2.2.1) r) k
theorem if_gt (K : Kit p m meth c bytes maxL ret nm) {pc pc' : Nat} {o : Int} {x : Int32} (hd : decode bytes pc = .ok (.ifCond .gt o, 3)) (hp : 0 ≤ (pc : Int) + o ∧ ((pc : Int) + o).toNat = pc') (k1 : (0 : Int32) < x → Go p l e R s m args below meth c Z k0 ws wF own Q w vm0 h ce sl (mkF m (pc') Ls (rest))) (k2 : ¬ (0 : Int32) < x → Go p l e R s m args below meth c Z k0 ws wF own Q w vm0 h ce sl (mkF m (pc + 3) Ls (rest))) : Go p l e R s m args below meth c Z k0 ws wF own Q w vm0 h ce sl (mkF m (pc) Ls (.int x :: rest)) :=
  (Classical.em ((0 : Int32) < x)).elim (fun q => if_gt_y K hd hp q (k1 q)) (fun q => if_gt_n K hd (by first | exact q | exact Classical.not_not.mp q) (k2 (by first | exact q | exact Classical.not_not.mp q)))
theorem icmp_le_y (K : Kit p m meth c bytes maxL ret nm) {pc pc' : Nat} {o : Int} {x y : Int32} (hd : decode bytes pc = .ok (.if_icmp .le o, 3)) (hp : 0 ≤ (pc : Int) + o ∧ ((pc : Int) + o).toNat = pc') (q : ¬ y < x) (k : Go p l e R s m args below meth c Z k0 ws wF own Q w vm0 h ce sl (mkF m (pc') Ls (rest))) : Go p l e R s m args below meth c Z k0 ws wF own Q w vm0 h ce sl (mkF m (pc) Ls (.int y :: .int x :: rest)) :=
  Go.pure (fun T t A r => XS.icmpYes A K.1 rfl rfl (hb K.2.1 hd) rfl (flt q).2.2.2 hp.1 hp.2 r) k
theorem icmp_le_n (K : Kit p m meth c bytes maxL ret nm) {pc : Nat} {o : Int} {x y : Int32} (hd : decode bytes pc = .ok (.if_icmp .le o, 3)) (q : y < x) (k : Go p l e R s m args below meth c Z k0 ws wF own Q w vm0 h ce sl (mkF m (pc + 3) Ls (rest))) : Go p l e R s m args below meth c Z k0 ws wF own Q w vm0 h ce sl (mkF m (pc) Ls (.int y :: .int x :: rest)) :=
  Go.pure (fun T t A r => XS.icmpNo A K.1 rfl (hb K.2.1 hd) rfl (tlt q).2.2.2 r) k
theorem icmp_le (K : Kit p m meth c bytes maxL ret nm) {pc pc' : Nat} {o : Int} {x y : Int32} (hd : decode bytes pc = .ok (.if_icmp .le o, 3)) (hp : 0 ≤ (pc : Int) + o ∧ ((pc : Int) + o).toNat = pc') (k1 : ¬ y < x → Go p l e R s m args below meth c Z k0 ws wF own Q w vm0 h ce sl (mkF m (pc') Ls (rest))) (k2 : y < x → Go p l e R s m args below meth c Z k0 ws wF own Q w vm0 h ce sl (mkF m (pc + 3) Ls (rest))) : Go p l e R s m args below meth c Z k0 ws wF own Q w vm0 h ce sl (mkF m (pc) Ls (.int y :: .int x :: rest)) :=
  (Classical.em (¬ y < x)).elim (fun q => icmp_le_y K hd hp q (k1 q)) (fun q => icmp_le_n K hd (by first | exact q | exact Classical.not_not.mp q) (k2 (by first | exact q | exact Classical.not_not.mp q)))
theorem if_le_y (K : Kit p m meth c bytes maxL ret nm) {pc pc' : Nat} {o : Int} {x : Int32} (hd : decode bytes pc = .ok (.ifCond .le o, 3)) (hp : 0 ≤ (pc : Int) + o ∧ ((pc : Int) + o).toNat = pc') (q : ¬ (0 : Int32) < x) (k : Go p l e R s m args below meth c Z k0 ws wF own Q w vm0 h ce sl (mkF m (pc') Ls (rest))) : Go p l e R s m args below meth c Z k0 ws wF own Q w vm0 h ce sl (mkF m (pc) Ls (.int x :: rest)) :=
  Go.pure (fun T t A r => XS.ifYes A K.1 rfl rfl (hb K.2.1 hd) rfl ((if0 _ _).trans (flt q).2.2.2) hp.1 hp.2 r) k
theorem if_le_n (K : Kit p m meth c bytes maxL ret nm) {pc : Nat} {o : Int} {x : Int32} (hd : decode bytes pc = .ok (.ifCond .le o, 3)) (q : (0 : Int32) < x) (k : Go p l e R s m args below meth c Z k0 ws wF own Q w vm0 h ce sl (mkF m (pc + 3) Ls (rest))) : Go p l e R s m args below meth c Z k0 ws wF own Q w vm0 h ce sl (mkF m (pc) Ls (.int x :: rest)) :=
  Go.pure (fun T t A r => XS.ifNo A K.1 rfl (hb K.2.1 hd) rfl ((if0 _ _).trans (tlt q).2.2.2) r) k
theorem if_le (K : Kit p m meth c bytes maxL ret nm) {pc pc' : Nat} {o : Int} {x : Int32} (hd : decode bytes pc = .ok (.ifCond .le o, 3)) (hp : 0 ≤ (pc : Int) + o ∧ ((pc : Int) + o).toNat = pc') (k1 : ¬ (0 : Int32) < x → Go p l e R s m args below meth c Z k0 ws wF own Q w vm0 h ce sl (mkF m (pc') Ls (rest))) (k2 : (0 : Int32) < x → Go p l e R s m args below meth c Z k0 ws wF own Q w vm0 h ce sl (mkF m (pc + 3) Ls (rest))) : Go p l e R s m args below meth c Z k0 ws wF own Q w vm0 h ce sl (mkF m (pc) Ls (.int x :: rest)) :=
  (Classical.em (¬ (0 : Int32) < x)).elim (fun q => if_le_y K hd hp q (k1 q)) (fun q => if_le_n K hd (by first | exact q | exact Classical.not_not.mp q) (k2 (by first | exact q | exact Classical.not_not.mp q)))
theorem ifnull_y (K : Kit p m meth c bytes maxL ret nm) {pc pc' : Nat} {o : Int}  (hd : decode bytes pc = .ok (.ifnull o, 3)) (hp : 0 ≤ (pc : Int) + o ∧ ((pc : Int) + o).toNat = pc') (k : Go p l e R s m args below meth c Z k0 ws wF own Q w vm0 h ce sl (mkF m (pc') Ls (rest))) : Go p l e R s m args below meth c Z k0 ws wF own Q w vm0 h ce sl (mkF m (pc) Ls (.null :: rest)) :=
  Go.pure (fun T t A r => XS.ifnullYes A K.1 rfl rfl (hb K.2.1 hd) rfl hp.1 hp.2 r) k
theorem ifnull_n (K : Kit p m meth c bytes maxL ret nm) {pc : Nat} {o : Int} {b : Addr} (hd : decode bytes pc = .ok (.ifnull o, 3)) (k : Go p l e R s m args below meth c Z k0 ws wF own Q w vm0 h ce sl (mkF m (pc + 3) Ls (rest))) : Go p l e R s m args below meth c Z k0 ws wF own Q w vm0 h ce sl (mkF m (pc) Ls (.ref b :: rest)) :=
  Go.pure (fun T t A r => XS.ifnullNo A K.1 rfl (hb K.2.1 hd) rfl r) k
theorem ifnonnull_y (K : Kit p m meth c bytes maxL ret nm) {pc pc' : Nat} {o : Int} {b : Addr} (hd : decode bytes pc = .ok (.ifnonnull o, 3)) (hp : 0 ≤ (pc : Int) + o ∧ ((pc : Int) + o).toNat = pc') (k : Go p l e R s m args below meth c Z k0 ws wF own Q w vm0 h ce sl (mkF m (pc') Ls (rest))) : Go p l e R s m args below meth c Z k0 ws wF own Q w vm0 h ce sl (mkF m (pc) Ls (.ref b :: rest)) :=
  Go.pure (fun T t A r => XT.ifnonnullYes A K.1 rfl rfl (hb K.2.1 hd) rfl hp.1 hp.2 r) k
theorem ifnonnull_n (K : Kit p m meth c bytes maxL ret nm) {pc : Nat} {o : Int}  (hd : decode bytes pc = .ok (.ifnonnull o, 3)) (k : Go p l e R s m args below meth c Z k0 ws wF own Q w vm0 h ce sl (mkF m (pc + 3) Ls (rest))) : Go p l e R s m args below meth c Z k0 ws wF own Q w vm0 h ce sl (mkF m (pc) Ls (.null :: rest)) :=
  Go.pure (fun T t A r => XT.ifnonnullNo A K.1 rfl (hb K.2.1 hd) rfl r) k
theorem acmp_eq_y (K : Kit p m meth c bytes maxL ret nm) {pc pc' : Nat} {o : Int} {x y : Value} (hd : decode bytes pc = .ok (.if_acmp .eq o, 3)) (hp : 0 ≤ (pc : Int) + o ∧ ((pc : Int) + o).toNat = pc') (r1 : x.isRef = true) (r2 : y.isRef = true) (q : x = y) (k : Go p l e R s m args below meth c Z k0 ws wF own Q w vm0 h ce sl (mkF m (pc') Ls (rest))) : Go p l e R s m args below meth c Z k0 ws wF own Q w vm0 h ce sl (mkF m (pc) Ls (y :: x :: rest)) :=
  Go.pure (fun T t A r => XT.acmpYes A K.1 rfl rfl (hb K.2.1 hd) rfl r1 r2 (decide_eq_true q) hp.1 hp.2 r) k
theorem acmp_eq_n (K : Kit p m meth c bytes maxL ret nm) {pc : Nat} {o : Int} {x y : Value} (hd : decode bytes pc = .ok (.if_acmp .eq o, 3)) (r1 : x.isRef = true) (r2 : y.isRef = true) (q : ¬ x = y) (k : Go p l e R s m args below meth c Z k0 ws wF own Q w vm0 h ce sl (mkF m (pc + 3) Ls (rest))) : Go p l e R s m args below meth c Z k0 ws wF own Q w vm0 h ce sl (mkF m (pc) Ls (y :: x :: rest)) :=
  Go.pure (fun T t A r => XT.acmpNo A K.1 rfl (hb K.2.1 hd) rfl r1 r2 (decide_eq_false q) r) k
theorem acmp_ne_y (K : Kit p m meth c bytes maxL ret nm) {pc pc' : Nat} {o : Int} {x y : Value} (hd : decode bytes pc = .ok (.if_acmp .ne o, 3)) (hp : 0 ≤ (pc : Int) + o ∧ ((pc : Int) + o).toNat = pc') (r1 : x.isRef = true) (r2 : y.isRef = true) (q : ¬ x = y) (k : Go p l e R s m args below meth c Z k0 ws wF own Q w vm0 h ce sl (mkF m (pc') Ls (rest))) : Go p l e R s m args below meth c Z k0 ws wF own Q w vm0 h ce sl (mkF m (pc) Ls (y :: x :: rest)) :=
  Go.pure (fun T t A r => XT.acmpYes A K.1 rfl rfl (hb K.2.1 hd) rfl r1 r2 (decide_eq_true q) hp.1 hp.2 r) k
theorem acmp_ne_n (K : Kit p m meth c bytes maxL ret nm) {pc : Nat} {o : Int} {x y : Value} (hd : decode bytes pc = .ok (.if_acmp .ne o, 3)) (r1 : x.isRef = true) (r2 : y.isRef = true) (q : x = y) (k : Go p l e R s m args below meth c Z k0 ws wF own Q w vm0 h ce sl (mkF m (pc + 3) Ls (rest))) : Go p l e R s m args below meth c Z k0 ws wF own Q w vm0 h ce sl (mkF m (pc) Ls (y :: x :: rest)) :=
  Go.pure (fun T t A r => XT.acmpNo A K.1 rfl (hb K.2.1 hd) rfl r1 r2 (decide_eq_false (fun z => z q)) r) k
theorem ret_core (K : Kit p m meth c bytes maxL ret nm) {g : JFrame} {v : Option Value} (hv : meth.sig.returnType = none → v = none) (hn : ∀ x ∈ ws, x ∈ wF) (hce : ce ≤ R.cells) (hsl : sl ≤ R.slots)
    (f : ∀ (T : State) (locs : List Loc) (fs : List Frame), Stand p l e R (s.setVm vm0) m args below meth c T locs ce sl → (∀ (f : JFrame) (acts : List Action), f.method = m → f.locked = none → f.entered = [] → (doReturn e (T.setTop f) acts v).1 = T.setFrames fs) → Steps p.tables e below (T.setTop g) (T.setFrames fs))
    (hq : ∀ vm1, (s.setVm vm0).WarmedH vm1 → Q v h vm1) : Go p l e R s m args below meth c Z k0 ws wF own Q w vm0 h ce sl g :=
  fun T locs X eT N hS hZ ho hw => by
    have N' : Fw k0 wF locs := fun y hy => (N y hy).imp id (hn _)
    rcases Bool.eq_false_or_eq_true w with hw1 | hw0
    · obtain ⟨fs, h1, h2, h3, h4⟩ := X.leaveW hS (by rw [eT]; exact Nat.le_refl _) (v := v) hv K.2.2.2.2.1
      refine ⟨T.setFrames fs, _, f T locs fs X h1, h2, h3, v, locs, rfl, ⟨?_, N'⟩, Or.inl ⟨hw1, ?_⟩⟩
      · show Q v T.heap T.vm
        rw [eT]; exact hq _ X.warmed
      · exact ⟨h4.1, h4.2.1, h4.2.2.1, h4.2.2.2.mono hce hsl⟩
    · rcases hw with hw | hw
      · rw [hw] at hw0; cases hw0
      subst hw
      obtain ⟨fs, h1, h2, h3, h4, h5⟩ := X.leave (v := v) hv K.2.2.2.2.1
      refine ⟨T.setFrames fs, _, f T locs fs X h1, h2, h3, v, locs, rfl, ⟨?_, N'⟩, Or.inr ⟨hw0, ⟨v, rfl⟩, h4, h5.mono hce hsl⟩⟩
      show Q v T.heap T.vm
      rw [eT]; exact hq _ X.warmed
theorem retV (K : Kit p m meth c bytes maxL none nm) {pc : Nat} (hd : decode bytes pc = .ok (.return_, 1)) (hn : ∀ x ∈ ws, x ∈ wF) (hce : ce ≤ R.cells) (hsl : sl ≤ R.slots) (hq : ∀ vm1, (s.setVm vm0).WarmedH vm1 → Q none h vm1) : Go p l e R s m args below meth c Z k0 ws wF own Q w vm0 h ce sl (mkF m pc Ls []) :=
  ret_core K (fun _ => rfl) hn hce hsl (fun T locs fs X hr => X.returnOut K.1 K.2.2.2.1 (hb K.2.1 hd) hr) hq
theorem retZ (K : Kit p m meth c bytes maxL (some t) nm) (ht : t = .boolean ∨ t = .byte ∨ t = .char ∨ t = .short) {pc : Nat} {z z' : Int32} (hz : nar t z = z') (hd : decode bytes pc = .ok (.ireturn, 1)) (hn : ∀ x ∈ ws, x ∈ wF) (hce : ce ≤ R.cells) (hsl : sl ≤ R.slots) (hq : ∀ vm1, (s.setVm vm0).WarmedH vm1 → Q (some (.int z')) h vm1) : Go p l e R s m args below meth c Z k0 ws wF own Q w vm0 h ce sl (mkF m pc Ls (.int z :: rest)) :=
  ret_core K (v := some (.int z')) (fun h => by rw [K.2.2.2.1] at h; cases h) hn hce hsl (fun T locs fs X hr => retN X K.1 K.2.2.2.1 ht (hb K.2.1 hd) (fun f acts a1 a2 a3 => by rw [hz]; exact hr f acts a1 a2 a3)) hq
theorem retOf (K : Kit p m meth c bytes maxL (some t) nm) {pc : Nat} {i : Instr} {v : Value} (hn' : narrow t v = v)
    (hi : (i = .ireturn ∧ (t = .int ∨ t = .boolean ∨ t = .byte ∨ t = .char ∨ t = .short) ∧ ∃ z, v = .int z) ∨ (i = .lreturn ∧ t = .long ∧ ∃ z, v = .long z) ∨ (i = .dreturn ∧ t = .double ∧ ∃ z, v = .double z) ∨ (i = .freturn ∧ t = .float ∧ ∃ z, v = .float z) ∨ (i = .areturn ∧ t.isReference = true ∧ v.isRef = true))
    (hd : decode bytes pc = .ok (i, 1)) (hn : ∀ x ∈ ws, x ∈ wF) (hce : ce ≤ R.cells) (hsl : sl ≤ R.slots) (hq : ∀ vm1, (s.setVm vm0).WarmedH vm1 → Q (some v) h vm1) : Go p l e R s m args below meth c Z k0 ws wF own Q w vm0 h ce sl (mkF m pc Ls (v :: rest)) :=
  ret_core K (v := some v) (fun h => by rw [K.2.2.2.1] at h; cases h) hn hce hsl (fun T locs fs X hr => retOut X K.1 K.2.2.2.1 hn' hi (hb K.2.1 hd) hr) hq
theorem retI (K : Kit p m meth c bytes maxL (some .int) nm) {pc : Nat} {z : Int32} (hd : decode bytes pc = .ok (.ireturn, 1)) (hn : ∀ x ∈ ws, x ∈ wF) (hce : ce ≤ R.cells) (hsl : sl ≤ R.slots) (hq : ∀ vm1, (s.setVm vm0).WarmedH vm1 → Q (some (.int z)) h vm1) : Go p l e R s m args below meth c Z k0 ws wF own Q w vm0 h ce sl (mkF m pc Ls (.int z :: rest)) :=
  retOf K rfl (Or.inl ⟨rfl, Or.inl rfl, z, rfl⟩) hd hn hce hsl hq
theorem retL (K : Kit p m meth c bytes maxL (some .long) nm) {pc : Nat} {z : Int64} (hd : decode bytes pc = .ok (.lreturn, 1)) (hn : ∀ x ∈ ws, x ∈ wF) (hce : ce ≤ R.cells) (hsl : sl ≤ R.slots) (hq : ∀ vm1, (s.setVm vm0).WarmedH vm1 → Q (some (.long z)) h vm1) : Go p l e R s m args below meth c Z k0 ws wF own Q w vm0 h ce sl (mkF m pc Ls (.long z :: rest)) :=
  retOf K rfl (Or.inr (Or.inl ⟨rfl, rfl, z, rfl⟩)) hd hn hce hsl hq
theorem narrow_ref {t : FieldType} {v : Value} (ht : t.isReference = true) : narrow t v = v := by
  cases t <;> first | rfl | (simp [FieldType.isReference] at ht) | (cases v <;> rfl)
theorem retA (K : Kit p m meth c bytes maxL (some t) nm) (ht : t.isReference = true) {pc : Nat} {v : Value} (hv : v.isRef = true) (hd : decode bytes pc = .ok (.areturn, 1)) (hn : ∀ x ∈ ws, x ∈ wF) (hce : ce ≤ R.cells) (hsl : sl ≤ R.slots) (hq : ∀ vm1, (s.setVm vm0).WarmedH vm1 → Q (some v) h vm1) : Go p l e R s m args below meth c Z k0 ws wF own Q w vm0 h ce sl (mkF m pc Ls (v :: rest)) :=
  retOf K (narrow_ref ht) (Or.inr (Or.inr (Or.inr (Or.inr ⟨rfl, ht, hv⟩)))) hd hn hce hsl hq
theorem getF (K : Kit p m meth c bytes maxL ret nm) {pc idx : Nat} {R0 O n d host : String} (wl : (Jvm.Cond.fieldLink own idx R0 n d).before a0 Z = true ∨ (Jvm.Cond.fieldLinkNest own idx R0 n d host).before a0 Z = true) (via : Via Z R0 O n d) {a : Addr} {v : Value} (F : Fld Z h a O n d v) (hd : decode bytes pc = .ok (.getfield idx, 3)) (k : Go p l e R s m args below meth c Z k0 ws wF own Q w vm0 h ce sl (mkF m (pc + 3) Ls (v :: rest))) : Go p l e R s m args below meth c Z k0 ws wF own Q w vm0 h ce sl (mkF m (pc) Ls (.ref a :: rest)) :=
  Go.step (Nat.le_refl _) (fun T locs X eT N hZ ho => by
    obtain ⟨T', X', e', st⟩ := RoadKit.getF X K.1 hZ ho wl via eT F (g := mkF m pc Ls (.ref a :: rest)) rfl rfl (hb K.2.1 hd)
    exact ⟨T', locs, X', e', N, st⟩) k
theorem getS (K : Kit p m meth c bytes maxL ret nm) {pc idx : Nat} {R0 O n d : String} (wl : (Jvm.Cond.fieldLink own idx R0 n d).before a0 Z = true) (via : Via Z R0 O n d) {v : Value} (F : Sta Z h O n d v) (hd : decode bytes pc = .ok (.getstatic idx, 3)) (k : Go p l e R s m args below meth c Z k0 ws wF own Q w vm0 h ce sl (mkF m (pc + 3) Ls (v :: st))) : Go p l e R s m args below meth c Z k0 ws wF own Q w vm0 h ce sl (mkF m (pc) Ls (st)) :=
  Go.step (Nat.le_refl _) (fun T locs X eT N hZ ho => by
    obtain ⟨T', X', e', st⟩ := RoadKit.getS (host := "") X K.1 hZ ho wl via eT F (g := mkF m pc Ls st) rfl (hb K.2.1 hd)
    exact ⟨T', locs, X', e', N, st⟩) k
theorem putF (K : Kit p m meth c bytes maxL ret nm) {pc idx kk : Nat} {R0 O n d C : String} {ty : FieldType} (wl : (Jvm.Cond.fieldLink own idx R0 n d).before a0 Z = true) (via : Via Z R0 O n d) {a : Addr} {v old : Value} (F : Fld Z h a O n d old) (E : Exa Z h a C)
    (L : (Jvm.Cond.lays C O n d).before a0 Z = true ∨ ((Jvm.Cond.laysFinal C O n d).before a0 Z = true ∧ own = O ∧ nm = "<init>")) (wi : (Jvm.Cond.instantiable C kk).before a0 Z = true) (hty : parseFieldDescriptor d = some ty) (hn' : narrow ty v = v) (hf : fits ty v = true) (hn : k0 ≤ a ∨ a ∈ ws)
    (hd : decode bytes pc = .ok (.putfield idx, 3)) (k : ∀ h', Wr h h' a (RoadKit.slotOf Z O n d) v → Fld Z h' a O n d v → Go p l e R s m args below meth c Z k0 ws wF own Q w vm0 h' ce sl (mkF m (pc + 3) Ls (rest))) : Go p l e R s m args below meth c Z k0 ws wF own Q w vm0 h ce sl (mkF m (pc) Ls (v :: .ref a :: rest)) :=
  fun T locs X eT N hS hZ ho hw => by
    obtain ⟨T', h', X', e', W, st⟩ := RoadKit.putF (host := "") X K.1 hZ ho (Or.inl wl) via eT F E (L.imp id fun q => ⟨q.1, q.2.1, K.2.2.2.2.2.trans q.2.2⟩) wi hty hn' hf (g := mkF m pc Ls (v :: .ref a :: rest)) rfl rfl (hb K.2.1 hd)
    obtain ⟨U, o, hU, r⟩ := k h' W (F.same W) T' _ X' e' (Fw.snoc N hn) ⟨hS.1, hS.2.mono (Nat.le_of_eq W.size.symm)⟩ hZ ho hw
    exact ⟨U, o, st U hU, r⟩
theorem newO (K : Kit p m meth c bytes maxL ret nm) {pc idx n : Nat} {C : String} (wl : (Jvm.Cond.classLink own idx C).before a0 Z = true) (wi : (Jvm.Cond.instantiable C n).before a0 Z = true) (wz : (Jvm.Cond.initialized C).before a0 Z = true)
    (hd : decode bytes pc = .ok (.new idx, 3)) (hc : ce + 1 ≤ R.cells) (hl : sl + n ≤ R.slots)
    (k : ∀ h' a, a = h.size → Ext h h' → Exa Z h' a C → (∀ {O nm d : String} {ty : FieldType}, Laid Z a0 C O nm d → parseFieldDescriptor d = some ty → Fld Z h' a O nm d (defaultValue ty)) → Go p l e R s m args below meth c Z k0 ws wF own Q w vm0 h' (ce + 1) (sl + n) (mkF m (pc + 3) Ls (.ref a :: st))) : Go p l e R s m args below meth c Z k0 ws wF own Q w vm0 h ce sl (mkF m (pc) Ls (st)) :=
  fun T locs X eT N hS hZ ho hw => by
    obtain ⟨T', h', X', e', E, A, D, -, st⟩ := RoadKit.newO X K.1 hZ ho wl wi wz eT (g := mkF m pc Ls st) rfl (hb K.2.1 hd) hc hl
    obtain ⟨U, o, hU, r⟩ := k h' h.size rfl E A (fun {_ _ _ _} => D) T' _ X' e' N ⟨hS.1, hS.2.mono E.1⟩ hZ ho hw
    exact ⟨U, o, st U hU, r⟩
theorem newP (K : Kit p m meth c bytes maxL ret nm) {pc : Nat} {aty : ArrayType} {n : Int32} (wl : (Jvm.Cond.arrayClass (newarray.typeOf aty)).before a0 Z = true) (hd : decode bytes pc = .ok (.newarray aty, 2)) (hn : ¬ n < 0) {cap : Nat} (hcap : n.toNatClampNeg ≤ cap) (hb' : cap * 8 ≤ 536870912) (hc : ce + 1 ≤ R.cells) (hl : sl + cap ≤ R.slots)
    (k : ∀ h' a cA, a = h.size → Ext h h' → Arv Z h' a cA (newarray.typeOf aty) n [] (defaultValue (newarray.typeOf aty)) → Go p l e R s m args below meth c Z k0 ws wF own Q w vm0 h' (ce + 1) (sl + cap) (mkF m (pc + 2) Ls (.ref a :: rest))) : Go p l e R s m args below meth c Z k0 ws wF own Q w vm0 h ce sl (mkF m (pc) Ls (.int n :: rest)) :=
  fun T locs X eT N hS hZ ho hw => by
    obtain ⟨T', h', cA, X', e', E, A, st⟩ := RoadKit.newP X K.1 hZ wl eT (g := mkF m pc Ls (.int n :: rest)) rfl (hb K.2.1 hd) rfl hn hcap hb' hc hl
    obtain ⟨U, o, hU, r⟩ := k h' h.size cA rfl E (Arv.new A hn) T' _ X' e' N ⟨hS.1, hS.2.mono E.1⟩ hZ ho hw
    exact ⟨U, o, st U hU, r⟩
theorem castore (K : Kit p m meth c bytes maxL ret nm) {pc i : Nat} {a : Addr} {kc : ClassId} {z j x : Int32} {vs : List Value} {dv : Value} (A : Arv Z h a kc .char z vs dv) (hj : ¬ j < 0 ∧ j < z) (hi : j.toNatClampNeg = i) (hi' : i < vs.length) (hn : k0 ≤ a ∨ a ∈ ws) (hd : decode bytes pc = .ok (.castore, 1))
    (k : ∀ h', Wr h h' a i (.int (nar .char x)) → Arv Z h' a kc .char z (vs.set i (.int (nar .char x))) dv → Go p l e R s m args below meth c Z k0 ws wF own Q w vm0 h' ce sl (mkF m (pc + 1) Ls (rest))) : Go p l e R s m args below meth c Z k0 ws wF own Q w vm0 h ce sl (mkF m (pc) Ls (.int x :: .int j :: .ref a :: rest)) :=
  fun T locs X eT N hS hZ ho hw => by
    obtain ⟨cl, Ar, q, S, Nz, H, G⟩ := A
    obtain ⟨T', h', X', e', W, st⟩ := RoadKit.stC X K.1 hZ eT Ar (j := j) (inb_of S hj) (g := mkF m pc Ls (.int x :: .int j :: .ref a :: rest)) rfl rfl (hb K.2.1 hd)
    have V := Arv.set Ar q S Nz H G (fits_nar_char _) W i hi hi'
    rw [hi] at W
    obtain ⟨U, o, hU, r⟩ := k h' W V T' _ X' e' (Fw.snoc N hn) ⟨hS.1, hS.2.mono (Nat.le_of_eq W.size.symm)⟩ hZ ho hw
    exact ⟨U, o, st U hU, r⟩
theorem bastore (K : Kit p m meth c bytes maxL ret nm) {pc i : Nat} {a : Addr} {kc : ClassId} {z j x : Int32} {vs : List Value} {dv : Value} (A : Arv Z h a kc .byte z vs dv) (hj : ¬ j < 0 ∧ j < z) (hi : j.toNatClampNeg = i) (hi' : i < vs.length) (hn : k0 ≤ a ∨ a ∈ ws) (hd : decode bytes pc = .ok (.bastore, 1))
    (k : ∀ h', Wr h h' a i (.int (nar .byte x)) → Arv Z h' a kc .byte z (vs.set i (.int (nar .byte x))) dv → Go p l e R s m args below meth c Z k0 ws wF own Q w vm0 h' ce sl (mkF m (pc + 1) Ls (rest))) : Go p l e R s m args below meth c Z k0 ws wF own Q w vm0 h ce sl (mkF m (pc) Ls (.int x :: .int j :: .ref a :: rest)) :=
  fun T locs X eT N hS hZ ho hw => by
    obtain ⟨cl, Ar, q, S, Nz, H, G⟩ := A
    obtain ⟨T', h', X', e', W, st⟩ := RoadKit.stB X K.1 hZ eT Ar (j := j) (inb_of S hj) (g := mkF m pc Ls (.int x :: .int j :: .ref a :: rest)) rfl rfl (hb K.2.1 hd)
    have V := Arv.set Ar q S Nz H G (fits_nar_byte _) W i hi hi'
    rw [hi] at W
    obtain ⟨U, o, hU, r⟩ := k h' W V T' _ X' e' (Fw.snoc N hn) ⟨hS.1, hS.2.mono (Nat.le_of_eq W.size.symm)⟩ hZ ho hw
    exact ⟨U, o, st U hU, r⟩
theorem iastore (K : Kit p m meth c bytes maxL ret nm) {pc i : Nat} {a : Addr} {kc : ClassId} {z j x : Int32} {vs : List Value} {dv : Value} (A : Arv Z h a kc .int z vs dv) (hj : ¬ j < 0 ∧ j < z) (hi : j.toNatClampNeg = i) (hi' : i < vs.length) (hn : k0 ≤ a ∨ a ∈ ws) (hd : decode bytes pc = .ok (.iastore, 1))
    (k : ∀ h', Wr h h' a i (.int x) → Arv Z h' a kc .int z (vs.set i (.int x)) dv → Go p l e R s m args below meth c Z k0 ws wF own Q w vm0 h' ce sl (mkF m (pc + 1) Ls (rest))) : Go p l e R s m args below meth c Z k0 ws wF own Q w vm0 h ce sl (mkF m (pc) Ls (.int x :: .int j :: .ref a :: rest)) :=
  fun T locs X eT N hS hZ ho hw => by
    obtain ⟨cl, Ar, q, S, Nz, H, G⟩ := A
    obtain ⟨T', h', X', e', W, st⟩ := RoadKit.stI X K.1 hZ eT Ar (j := j) (inb_of S hj) (g := mkF m pc Ls (.int x :: .int j :: .ref a :: rest)) rfl rfl (hb K.2.1 hd)
    have V := Arv.set Ar q S Nz H G rfl W i hi hi'
    rw [hi] at W
    obtain ⟨U, o, hU, r⟩ := k h' W V T' _ X' e' (Fw.snoc N hn) ⟨hS.1, hS.2.mono (Nat.le_of_eq W.size.symm)⟩ hZ ho hw
    exact ⟨U, o, st U hU, r⟩
theorem caload (K : Kit p m meth c bytes maxL ret nm) {pc : Nat} {a : Addr} {kc : ClassId} {z j : Int32} {vs : List Value} {dv v : Value} (A : Arv Z h a kc .char z vs dv) (hj : ¬ j < 0 ∧ j < z) (hv : vs.getD j.toNatClampNeg dv = v) (hd : decode bytes pc = .ok (.caload, 1)) (k : Go p l e R s m args below meth c Z k0 ws wF own Q w vm0 h ce sl (mkF m (pc + 1) Ls (v :: rest))) : Go p l e R s m args below meth c Z k0 ws wF own Q w vm0 h ce sl (mkF m (pc) Ls (.int j :: .ref a :: rest)) :=
  Go.step (Nat.le_refl _) (fun T locs X eT N hZ ho => by
    obtain ⟨cl, Ar, q, S, Nz, H, G⟩ := A
    exact ⟨T, locs, X, eT, N, fun t r => X.caload K.1 (j := j) (v := v) (by rw [eT]; exact Ar.1) (State.isArrayOf_alike hZ.alike Ar.2.1) Ar.2.2 (inb_of S hj) (H.at (inb_of S hj) hv) (g := mkF m pc Ls (.int j :: .ref a :: rest)) rfl rfl (hb K.2.1 hd) t r⟩) k
theorem iaload (K : Kit p m meth c bytes maxL ret nm) {pc : Nat} {a : Addr} {kc : ClassId} {z j : Int32} {vs : List Value} {dv v : Value} (A : Arv Z h a kc .int z vs dv) (hj : ¬ j < 0 ∧ j < z) (hv : vs.getD j.toNatClampNeg dv = v) (hd : decode bytes pc = .ok (.iaload, 1)) (k : Go p l e R s m args below meth c Z k0 ws wF own Q w vm0 h ce sl (mkF m (pc + 1) Ls (v :: rest))) : Go p l e R s m args below meth c Z k0 ws wF own Q w vm0 h ce sl (mkF m (pc) Ls (.int j :: .ref a :: rest)) :=
  Go.step (Nat.le_refl _) (fun T locs X eT N hZ ho => by
    obtain ⟨cl, Ar, q, S, Nz, H, G⟩ := A
    exact ⟨T, locs, X, eT, N, fun t r => X.iaload K.1 (j := j) (v := v) (by rw [eT]; exact Ar.1) (State.isArrayOf_alike hZ.alike Ar.2.1) Ar.2.2 (inb_of S hj) (H.at (inb_of S hj) hv) (g := mkF m pc Ls (.int j :: .ref a :: rest)) rfl rfl (hb K.2.1 hd) t r⟩) k
theorem baload (K : Kit p m meth c bytes maxL ret nm) {pc : Nat} {a : Addr} {kc : ClassId} {z j : Int32} {vs : List Value} {dv v : Value} (A : Arv Z h a kc .byte z vs dv) (hj : ¬ j < 0 ∧ j < z) (hv : vs.getD j.toNatClampNeg dv = v) (hd : decode bytes pc = .ok (.baload, 1)) (k : Go p l e R s m args below meth c Z k0 ws wF own Q w vm0 h ce sl (mkF m (pc + 1) Ls (v :: rest))) : Go p l e R s m args below meth c Z k0 ws wF own Q w vm0 h ce sl (mkF m (pc) Ls (.int j :: .ref a :: rest)) :=
  Go.step (Nat.le_refl _) (fun T locs X eT N hZ ho => by
    obtain ⟨cl, Ar, q, S, Nz, H, G⟩ := A
    exact ⟨T, locs, X, eT, N, fun t r => X.baloadBytes K.1 (j := j) (v := v) (by rw [eT]; exact Ar.1) (State.isArrayOf_alike hZ.alike Ar.2.1) Ar.2.2 (inb_of S hj) (H.at (inb_of S hj) hv) (g := mkF m pc Ls (.int j :: .ref a :: rest)) rfl rfl (hb K.2.1 hd) t r⟩) k
theorem arrlen (K : Kit p m meth c bytes maxL ret nm) {pc : Nat} {a : Addr} {kc : ClassId} {ty : FieldType} {z : Int32} {vs : List Value} {dv : Value} (A : Arv Z h a kc ty z vs dv) (hd : decode bytes pc = .ok (.arraylength, 1)) (k : Go p l e R s m args below meth c Z k0 ws wF own Q w vm0 h ce sl (mkF m (pc + 1) Ls (.int z :: rest))) : Go p l e R s m args below meth c Z k0 ws wF own Q w vm0 h ce sl (mkF m (pc) Ls (.ref a :: rest)) :=
  Go.step (Nat.le_refl _) (fun T locs X eT N hZ ho => by
    obtain ⟨cl, Ar, q, S, Nz, H, G⟩ := A
    exact ⟨T, locs, X, eT, N, fun t r => X.arraylength K.1 (by rw [eT]; exact Ar.1) (State.isArrayOf_alike hZ.alike Ar.2.1) (g := mkF m pc Ls (.ref a :: rest)) rfl rfl (hb K.2.1 hd) t (by rw [len_of S Nz]; exact r)⟩) k
theorem instY (K : Kit p m meth c bytes maxL ret nm) {pc idx : Nat} {C : String} (wl : (Jvm.Cond.classLink own idx C).before a0 Z = true) {a : Addr} (I : Ins Z h a C true) (hd : decode bytes pc = .ok (.instanceof idx, 3)) (k : Go p l e R s m args below meth c Z k0 ws wF own Q w vm0 h ce sl (mkF m (pc + 3) Ls (.int 1 :: rest))) : Go p l e R s m args below meth c Z k0 ws wF own Q w vm0 h ce sl (mkF m (pc) Ls (.ref a :: rest)) :=
  Go.step (Nat.le_refl _) (fun T locs X eT N hZ ho => by
    obtain ⟨T', X', e', st⟩ := RoadKit.instY X K.1 hZ ho wl eT I (g := mkF m pc Ls (.ref a :: rest)) rfl rfl (hb K.2.1 hd)
    exact ⟨T', locs, X', e', N, st⟩) k
theorem instNo (K : Kit p m meth c bytes maxL ret nm) {pc idx : Nat} {C D : String} (wl : (Jvm.Cond.classLink own idx C).before a0 Z = true) {a : Addr} (E : Exa Z h a D) (I : ∃ c t, Z.vm.findClass D = some c ∧ Z.vm.findClass C = some t ∧ Z.vm.assignable c t = false) (hd : decode bytes pc = .ok (.instanceof idx, 3)) (k : Go p l e R s m args below meth c Z k0 ws wF own Q w vm0 h ce sl (mkF m (pc + 3) Ls (.int 0 :: rest))) : Go p l e R s m args below meth c Z k0 ws wF own Q w vm0 h ce sl (mkF m (pc) Ls (.ref a :: rest)) :=
  Go.step (Nat.le_refl _) (fun T locs X eT N hZ ho => by
    obtain ⟨T', X', e', st⟩ := RoadKit.instNo X K.1 hZ ho wl eT E I (g := mkF m pc Ls (.ref a :: rest)) rfl rfl (hb K.2.1 hd)
    exact ⟨T', locs, X', e', N, st⟩) k
theorem instNull (K : Kit p m meth c bytes maxL ret nm) {pc idx : Nat} (hd : decode bytes pc = .ok (.instanceof idx, 3)) (k : Go p l e R s m args below meth c Z k0 ws wF own Q w vm0 h ce sl (mkF m (pc + 3) Ls (.int 0 :: rest))) : Go p l e R s m args below meth c Z k0 ws wF own Q w vm0 h ce sl (mkF m (pc) Ls (.null :: rest)) :=
  Go.step (Nat.le_refl _) (fun T locs X eT N hZ ho => ⟨T, locs, X, eT, N, fun t r => X.instanceofNull K.1 (g := mkF m pc Ls (.null :: rest)) rfl rfl (hb K.2.1 hd) t r⟩) k
theorem castY (K : Kit p m meth c bytes maxL ret nm) {pc idx : Nat} {C : String} (wl : (Jvm.Cond.classLink own idx C).before a0 Z = true) {a : Addr} (I : Ins Z h a C true) (hd : decode bytes pc = .ok (.checkcast idx, 3)) (k : Go p l e R s m args below meth c Z k0 ws wF own Q w vm0 h ce sl (mkF m (pc + 3) Ls (.ref a :: rest))) : Go p l e R s m args below meth c Z k0 ws wF own Q w vm0 h ce sl (mkF m (pc) Ls (.ref a :: rest)) :=
  Go.step (Nat.le_refl _) (fun T locs X eT N hZ ho => by
    obtain ⟨T', X', e', st⟩ := RoadKit.castY X K.1 hZ ho wl eT I (g := mkF m pc Ls (.ref a :: rest)) rfl rfl (hb K.2.1 hd)
    exact ⟨T', locs, X', e', N, st⟩) k
theorem castNull (K : Kit p m meth c bytes maxL ret nm) {pc idx : Nat} (hd : decode bytes pc = .ok (.checkcast idx, 3)) (k : Go p l e R s m args below meth c Z k0 ws wF own Q w vm0 h ce sl (mkF m (pc + 3) Ls (.null :: rest))) : Go p l e R s m args below meth c Z k0 ws wF own Q w vm0 h ce sl (mkF m (pc) Ls (.null :: rest)) :=
  Go.step (Nat.le_refl _) (fun T locs X eT N hZ ho => ⟨T, locs, X, eT, N, fun t r => X.checkcastNull K.1 (g := mkF m pc Ls (.null :: rest)) rfl rfl (hb K.2.1 hd) t r⟩) k
theorem initO (K : Kit p m meth c bytes maxL ret nm) {pc idx : Nat} (w1 : (Jvm.Cond.methodLink own idx Lib.objectInit).before a0 Z = true) (w2 : (Jvm.Cond.instanceMethod Lib.objectInit).before a0 Z = true) (w3 : (Jvm.Cond.code Lib.objectInit ⟨#[0xb1]⟩ 1 none).before a0 Z = true) {a : Addr} (hsz : Ls.size = maxL) (hd : decode bytes pc = .ok (.invokespecial idx, 3))
    (hf : 1 ≤ R.frames) (hl : (rest.map fun v => v.category).sum + 12 ≤ R.locals) (k : Go p l e R s m args below meth c Z k0 ws wF own Q w vm0 h ce sl (mkF m (pc + 3) Ls (rest))) : Go p l e R s m args below meth c Z k0 ws wF own Q w vm0 h ce sl (mkF m (pc) Ls (.ref a :: rest)) :=
  Go.step (Nat.le_refl _) (fun T locs X eT N hZ ho => by
    obtain ⟨T', X', e', st⟩ := RoadKit.initO X K.1 hZ ho w1 w2 w3 eT (g := mkF m pc Ls (.ref a :: rest)) rfl (by rw [K.2.2.1]; exact hsz) rfl (hb K.2.1 hd) hf (W := (rest.map fun v => v.category).sum) (by show 2 * 0 + _ ≤ _; omega) hl
    exact ⟨T', locs, X', e', N, st⟩) k
theorem ldcInt (K : Kit p m meth c bytes maxL ret nm) {pc idx : Nat} {v : Int32} (wl : (Jvm.Cond.constant own idx v).before a0 Z = true) (hd : decode bytes pc = .ok (.ldc idx, 2)) (k : Go p l e R s m args below meth c Z k0 ws wF own Q w vm0 h ce sl (mkF m (pc + 2) Ls (.int v :: st))) : Go p l e R s m args below meth c Z k0 ws wF own Q w vm0 h ce sl (mkF m (pc) Ls (st)) :=
  Go.step (Nat.le_refl _) (fun T locs X eT N hZ ho => ⟨T, locs, X, eT, N, fun t r => X.ldcInt K.1 ho (mvT hZ wl) (g := mkF m pc Ls st) rfl (hb K.2.1 hd) t r⟩) k
theorem ldc2Long (K : Kit p m meth c bytes maxL ret nm) {pc idx : Nat} {v : Int64} (wl : (Jvm.Cond.constantLong own idx v).before a0 Z = true) (hd : decode bytes pc = .ok (.ldc2_w idx, 3)) (k : Go p l e R s m args below meth c Z k0 ws wF own Q w vm0 h ce sl (mkF m (pc + 3) Ls (.long v :: st))) : Go p l e R s m args below meth c Z k0 ws wF own Q w vm0 h ce sl (mkF m (pc) Ls (st)) :=
  Go.step (Nat.le_refl _) (fun T locs X eT N hZ ho => ⟨T, locs, X, eT, N, fun t r => X.ldc2Long K.1 ho (mvT hZ wl) (g := mkF m pc Ls st) rfl (hb K.2.1 hd) t r⟩) k
/-- a payer's two ends, as RoadKit's backOf and the String laws have them -/
def BK (l : Launch) (R : Room) (p : Program) (e : Env) (below : List Frame) (s : State) (args : Array Value) (y : MethodName) (len W : Nat) (as' : Array Value) (h : Heap) (rc rs : Nat) (Qf : Option Value → Heap → List Loc → Prop) : Prop :=
  Back l R p e below s args y len W (fun A a => a = as' ∧ A.U.heap = h ∧ A.cells + rc ≤ R.cells ∧ A.slots + rs ≤ R.slots) (fun A _ v B => ∃ L, Qf v B.U.heap L ∧ B.locs = A.locs ++ L ∧ B.cells = A.cells + rc ∧ B.slots = A.slots + rs)
def BKS (l : Launch) (R : Room) (p : Program) (e : Env) (below : List Frame) (s : State) (args : Array Value) (y : MethodName) (len W : Nat) (as' : Array Value) (h : Heap) (rc rs : Nat) (V : Vm → Prop) (Qf : Option Value → Heap → Vm → List Loc → Prop) : Prop :=
  BackS l R p e below s args y len W (fun A a => a = as' ∧ A.U.heap = h ∧ V A.U.vm ∧ A.cells + rc ≤ R.cells ∧ A.slots + rs ≤ R.slots) (fun A _ v B => ∃ L, Qf v B.U.heap B.U.vm L ∧ B.locs = A.locs ++ L ∧ B.cells = A.cells + rc ∧ B.slots = A.slots + rs)
theorem Con.bk {y : MethodName} {by' : ByteArray} {mL : Nat} {rt : Option FieldType} {rm : Room} {as' : Array Value} {h : Heap} {Qc : Option Value → Heap → Vm → Prop} (C : Con l y by' mL rt [] rm Z as' h wF (fun _ => True) Qc false) {len W : Nat} (hZ : Z.Warmed39 s.vm)
    (wc : (Jvm.Cond.code y by' mL rt).before a0 Z = true) (wz : (Jvm.Cond.initialized y.cls).before a0 Z = true) (hf : rm.frames + 1 ≤ R.frames) (hl : W + (mL + 11) + rm.locals ≤ R.locals) :
    BK l R p e below s args y len W as' h rm.cells rm.slots (fun v h' L => (∃ vm, Qc v h' vm) ∧ Fw h.size wF L ∧ Keep h h' wF) :=
  backOf (Q := fun v h' L => (∃ vm, Qc v h' vm) ∧ Fw h.size wF L ∧ Keep h h' wF) (fun p' e' ha hc hk s' m' a' b' hf' happ hP hK => by
    obtain ⟨n, o, h1, h2, h3, v, L, r1, ⟨r2, r3⟩, r4⟩ := C p' e' ha hc hk s' m' a' b' hf' happ ⟨hP.1, hP.2.1, hP.2.2, trivial⟩ hK
    have eh := hP.2.2
    subst eh
    rcases r4 with r4 | r4
    · exact nomatch r4.1
    exact ⟨n, o, h1, h2, h3, v, L, r1, ⟨⟨_, r2⟩, r3, by have q := keep_same r4.2.2.2 r3; exact q⟩, r4.2⟩) hZ wc wz hf hl
theorem Con.bks {y : MethodName} {by' : ByteArray} {mL : Nat} {rt : Option FieldType} {rm : Room} {as' : Array Value} {h : Heap} {V : Vm → Prop} {Qc : Option Value → Heap → Vm → Prop} (C : Con l y by' mL rt [] rm Z as' h wF V Qc true) {len W : Nat} (hZ : Z.Warmed39 s.vm)
    (wc : (Jvm.Cond.code y by' mL rt).before a0 Z = true) (wz : (Jvm.Cond.initialized y.cls).before a0 Z = true) (hf : rm.frames + 1 ≤ R.frames) (hl : W + (mL + 11) + rm.locals ≤ R.locals) :
    BKS l R p e below s args y len W as' h rm.cells rm.slots V (fun v h' vm L => Qc v h' vm ∧ Fw h.size wF L ∧ Keep h h' wF) :=
  BackS.of_freeW (bytes := by') (maxL := mL) (ret := rt) (E := fun _ first o t L k n => k = rm.cells ∧ n = rm.slots ∧ ∃ v, o = .returned v ∧ Qc v t.heap t.vm ∧ Fw h.size wF L) C hf hl
    (fun m' meth' c' A a Y hp => have hU : Z.Warmed39 A.U.vm := wtrans hZ Y.warmed
      ⟨by show (Jvm.Cond.and _ .tt).before a A.U = true; rw [Jvm.Cond.before_and, mv hU wc]; rfl, mv hU wc, mv hU wz, hp.2.2.2.1, hp.2.2.2.2⟩)
    (fun m' meth' c' A a g mk Y hp => ⟨hp.1, wtrans hZ Y.warmed, hp.2.1, hp.2.2.1⟩) (fun _ _ _ _ _ _ _ _ _ => trivial)
    (fun a first o t q => by
      obtain ⟨v, L, r1, ⟨r2, r3⟩, r4⟩ := q
      exact ⟨L, _, _, r4.elim (fun q => q.2) (fun q => nomatch q.1), rfl, rfl, v, r1, r2, r3⟩)
    (fun m' meth' c' A a g mk v t L k n Y hp _ hR q => by
      obtain ⟨e1, e2, v', e3, e4, e5⟩ := q
      have eh : (A.U.calling g mk a).heap = h := hp.2.1
      have K : Keep (A.U.calling g mk a).heap t.heap wF := by have q := keep_same hR.2.2.2 (ws := wF) (by rw [eh]; exact e5); exact q
      rw [eh] at K
      cases e3; subst e1 e2; exact ⟨L, ⟨e4, e5, K⟩, rfl, rfl, rfl⟩)
theorem callS (K : Kit p m meth c bytes maxL ret nm) {pc idx : Nat} {y : MethodName} {as' : Array Value} {rc rs : Nat} {Qf : Option Value → Heap → List Loc → Prop} {by' : ByteArray} {mL : Nat} {rt : Option FieldType} (wl : (Jvm.Cond.methodLink own idx y).before a0 Z = true) (wt : (Jvm.Cond.static y).before a0 Z = true) (wz : (Jvm.Cond.initialized y.cls).before a0 Z = true) (wc : (Jvm.Cond.code y by' mL rt).before a0 Z = true) (hy : y.cls ≠ "java/lang/invoke/MethodHandle" ∧ y.cls ≠ "java/lang/invoke/VarHandle")  (hK : Z.Warmed39 (s.setVm vm0).vm → BK l R p e below (s.setVm vm0) args y 3 (rest.map fun v => v.category).sum as' h rc rs Qf)
    {argsL : List Value} (has : as' = argsL.toArray) (hst : st = argsL.reverse ++ rest) (hlen : ∀ sig, parseMethodDescriptor y.desc = some sig → argsL.length = sig.parameters.length) (hsz : Ls.size = maxL) (hd : decode bytes pc = .ok (.invokestatic idx, 3)) (hce : ce + rc ≤ R.cells) (hsl : sl + rs ≤ R.slots) (hfr : ∀ v h' L, Qf v h' L → Fw k0 ws L ∧ h.size ≤ h'.size)
    (k : ∀ v h' L, Qf v h' L → Go p l e R s m args below meth c Z k0 ws wF own Q w vm0 h' (ce + rc) (sl + rs) (mkF m (pc + 3) Ls (v.toList ++ rest))) : Go p l e R s m args below meth c Z k0 ws wF own Q w vm0 h ce sl (mkF m (pc) Ls (st)) :=
  fun T locs X eT N hS hZ ho hw => by
    subst has hst
    obtain ⟨v, vm1, ⟨T', L', c', s'⟩, hW1, X', ⟨L, hQ, q1, q2, q3⟩, st⟩ := Jvm.LawKit.callS X K.1 ho (mvT hZ wl) (mvT hZ wt) (mvT hZ wz) (mvT hZ wc) hy (hK hZ) (g := mkF m pc Ls (argsL.reverse ++ rest)) rfl (by rw [K.2.2.1]; exact hsz) (argsL := argsL) (rest := rest) hlen rfl (by show 2 * 0 + _ ≤ _; omega) (hb K.2.1 hd) (fun _ _ => ⟨rfl, eT, hce, hsl⟩)
    dsimp only [Pt.U, Pt.locs, Pt.cells, Pt.slots] at X' q1 q2 q3 st hQ
    subst q1 q2 q3
    obtain ⟨U, o, hU, r⟩ := k v T'.heap L hQ T' _ X' rfl (Fw.app N (hfr _ _ _ hQ).1) ⟨hS.1, hS.2.mono (hfr _ _ _ hQ).2⟩ hZ ho hw
    exact ⟨U, o, st U hU, r⟩
theorem callSS (K : Kit p m meth c bytes maxL ret nm) {pc idx : Nat} {y : MethodName} {as' : Array Value} {rc rs : Nat} {V : Vm → Prop} {Qf : Option Value → Heap → Vm → List Loc → Prop} {by' : ByteArray} {mL : Nat} {rt : Option FieldType} (wl : (Jvm.Cond.methodLink own idx y).before a0 Z = true) (wt : (Jvm.Cond.static y).before a0 Z = true) (wz : (Jvm.Cond.initialized y.cls).before a0 Z = true) (wc : (Jvm.Cond.code y by' mL rt).before a0 Z = true) (hy : y.cls ≠ "java/lang/invoke/MethodHandle" ∧ y.cls ≠ "java/lang/invoke/VarHandle")  (hw1 : w = true) (hV : ∀ vm1, (s.setVm vm0).WarmedH vm1 → V vm1) (hK : Z.Warmed39 (s.setVm vm0).vm → BKS l R p e below (s.setVm vm0) args y 3 (rest.map fun v => v.category).sum as' h rc rs V Qf)
    {argsL : List Value} (has : as' = argsL.toArray) (hst : st = argsL.reverse ++ rest) (hlen : ∀ sig, parseMethodDescriptor y.desc = some sig → argsL.length = sig.parameters.length) (hsz : Ls.size = maxL) (hd : decode bytes pc = .ok (.invokestatic idx, 3)) (hce : ce + rc ≤ R.cells) (hsl : sl + rs ≤ R.slots) (hfr : ∀ v h' vm L, Qf v h' vm L → Fw k0 ws L)
    (k : ∀ v h' vm1 L, Qf v h' vm1 L → h.size ≤ h'.size → (s.setVm vm0).Warmed39 vm1 → Go p l e R s m args below meth c Z k0 ws wF own Q w vm1 h' (ce + rc) (sl + rs) (mkF m (pc + 3) Ls (v.toList ++ rest))) : Go p l e R s m args below meth c Z k0 ws wF own Q w vm0 h ce sl (mkF m (pc) Ls (st)) :=
  fun T locs X eT N hS hZ ho hw => by
    subst has hst
    obtain ⟨v, vm1, ⟨T', L', c', s'⟩, hW1, X', hS2, hgr, ⟨L, hQ, q1, q2, q3⟩, st⟩ := callSS X K.1 ho (mvT hZ wl) (mvT hZ wt) (mvT hZ wz) (mvT hZ wc) hy (hK hZ) (g := mkF m pc Ls (argsL.reverse ++ rest)) rfl (by rw [K.2.2.1]; exact hsz) (argsL := argsL) (rest := rest) hlen rfl (by show 2 * 0 + _ ≤ _; omega) (hb K.2.1 hd) (fun vm1 hv => ⟨rfl, eT, hV vm1 hv, hce, hsl⟩)
    dsimp only [Pt.U, Pt.locs, Pt.cells, Pt.slots] at X' q1 q2 q3 st hQ hS2 hgr
    subst q1 q2 q3
    rw [eT] at hgr
    obtain ⟨U, o, hU, r⟩ := k v T'.heap T'.vm L hQ hgr hS2.1 T' _ X' rfl (Fw.app N (hfr _ _ _ _ hQ)) (hS.trans hS2 hgr) (State.Warmed39.trans (t := s.setVm vm0) hZ hS2.1) ((hS2.1.alike.findClass _ _).trans ho) (Or.inl hw1)
    exact ⟨U, o, st.trans hU, r⟩
theorem callI (K : Kit p m meth c bytes maxL ret nm) {pc idx : Nat} {y : MethodName} {as' : Array Value} {rc rs : Nat} {Qf : Option Value → Heap → List Loc → Prop} {by' : ByteArray} {mL : Nat} (hy1 : y.name = "<init>") (wl : (Jvm.Cond.methodLink own idx y).before a0 Z = true) (wt : (Jvm.Cond.instanceMethod y).before a0 Z = true) (wc : (Jvm.Cond.code y by' mL none).before a0 Z = true) (hy : y.cls ≠ "java/lang/invoke/MethodHandle" ∧ y.cls ≠ "java/lang/invoke/VarHandle") {a : Addr}  (hK : Z.Warmed39 (s.setVm vm0).vm → BK l R p e below (s.setVm vm0) args y 3 (rest.map fun v => v.category).sum as' h rc rs Qf)
    {argsL : List Value} (has : as' = (.ref a :: argsL).toArray) (hst : st = argsL.reverse ++ .ref a :: rest) (hlen : ∀ sig, parseMethodDescriptor y.desc = some sig → argsL.length = sig.parameters.length) (hsz : Ls.size = maxL) (hd : decode bytes pc = .ok (.invokespecial idx, 3)) (hce : ce + rc ≤ R.cells) (hsl : sl + rs ≤ R.slots) (hfr : ∀ v h' L, Qf v h' L → Fw k0 ws L ∧ h.size ≤ h'.size)
    (k : ∀ v h' L, Qf v h' L → Go p l e R s m args below meth c Z k0 ws wF own Q w vm0 h' (ce + rc) (sl + rs) (mkF m (pc + 3) Ls (v.toList ++ rest))) : Go p l e R s m args below meth c Z k0 ws wF own Q w vm0 h ce sl (mkF m (pc) Ls (st)) :=
  fun T locs X eT N hS hZ ho hw => by
    subst has hst
    obtain ⟨v, vm1, ⟨T', L', c', s'⟩, hW1, X', ⟨L, hQ, q1, q2, q3⟩, st⟩ := X.specialBack K.1 hy1 ho (mvT hZ wl) (mvT hZ wt) (mvT hZ wc) hy (hK hZ) (g := mkF m pc Ls (argsL.reverse ++ .ref a :: rest)) rfl (by rw [K.2.2.1]; exact hsz) (Steps.refl _) (a := a) (argsL := argsL) (rest := rest) hlen rfl (by show 2 * 0 + _ ≤ _; omega) (hb K.2.1 hd) (fun _ _ => ⟨rfl, eT, hce, hsl⟩)
    dsimp only [Pt.U, Pt.locs, Pt.cells, Pt.slots] at X' q1 q2 q3 st hQ
    subst q1 q2 q3
    obtain ⟨U, o, hU, r⟩ := k v T'.heap L hQ T' _ X' rfl (Fw.app N (hfr _ _ _ hQ).1) ⟨hS.1, hS.2.mono (hfr _ _ _ hQ).2⟩ hZ ho hw
    exact ⟨U, o, st.trans hU, r⟩
theorem callIS (K : Kit p m meth c bytes maxL ret nm) {pc idx : Nat} {y : MethodName} {as' : Array Value} {rc rs : Nat} {V : Vm → Prop} {Qf : Option Value → Heap → Vm → List Loc → Prop} {by' : ByteArray} {mL : Nat} (hy1 : y.name = "<init>") (wl : (Jvm.Cond.methodLink own idx y).before a0 Z = true) (wt : (Jvm.Cond.instanceMethod y).before a0 Z = true) (wc : (Jvm.Cond.code y by' mL none).before a0 Z = true) (hy : y.cls ≠ "java/lang/invoke/MethodHandle" ∧ y.cls ≠ "java/lang/invoke/VarHandle") {a : Addr}  (hw1 : w = true) (hV : ∀ vm1, (s.setVm vm0).WarmedH vm1 → V vm1) (hK : Z.Warmed39 (s.setVm vm0).vm → BKS l R p e below (s.setVm vm0) args y 3 (rest.map fun v => v.category).sum as' h rc rs V Qf)
    {argsL : List Value} (has : as' = (.ref a :: argsL).toArray) (hst : st = argsL.reverse ++ .ref a :: rest) (hlen : ∀ sig, parseMethodDescriptor y.desc = some sig → argsL.length = sig.parameters.length) (hsz : Ls.size = maxL) (hd : decode bytes pc = .ok (.invokespecial idx, 3)) (hce : ce + rc ≤ R.cells) (hsl : sl + rs ≤ R.slots) (hfr : ∀ v h' vm L, Qf v h' vm L → Fw k0 ws L)
    (k : ∀ v h' vm1 L, Qf v h' vm1 L → h.size ≤ h'.size → (s.setVm vm0).Warmed39 vm1 → Go p l e R s m args below meth c Z k0 ws wF own Q w vm1 h' (ce + rc) (sl + rs) (mkF m (pc + 3) Ls (v.toList ++ rest))) : Go p l e R s m args below meth c Z k0 ws wF own Q w vm0 h ce sl (mkF m (pc) Ls (st)) :=
  fun T locs X eT N hS hZ ho hw => by
    subst has hst
    obtain ⟨v, vm1, ⟨T', L', c', s'⟩, hW1, X', hS2, hgr, ⟨L, hQ, q1, q2, q3⟩, st⟩ := X.specialBackS K.1 hy1 ho (mvT hZ wl) (mvT hZ wt) (mvT hZ wc) hy (hK hZ) (g := mkF m pc Ls (argsL.reverse ++ .ref a :: rest)) rfl (by rw [K.2.2.1]; exact hsz) (Steps.refl _) (a := a) (argsL := argsL) (rest := rest) hlen rfl (by show 2 * 0 + _ ≤ _; omega) (hb K.2.1 hd) (fun vm1 hv => ⟨rfl, eT, hV vm1 hv, hce, hsl⟩)
    dsimp only [Pt.U, Pt.locs, Pt.cells, Pt.slots] at X' q1 q2 q3 st hQ hS2 hgr
    subst q1 q2 q3
    rw [eT] at hgr
    obtain ⟨U, o, hU, r⟩ := k v T'.heap T'.vm L hQ hgr hS2.1 T' _ X' rfl (Fw.app N (hfr _ _ _ _ hQ)) (hS.trans hS2 hgr) (State.Warmed39.trans (t := s.setVm vm0) hZ hS2.1) ((hS2.1.alike.findClass _ _).trans ho) (Or.inl hw1)
    exact ⟨U, o, st.trans hU, r⟩
theorem callV (K : Kit p m meth c bytes maxL ret nm) {pc idx : Nat} {y : MethodName} {as' : Array Value} {rc rs : Nat} {Qf : Option Value → Heap → List Loc → Prop} {z : MethodName} {C : String} (wl : (Jvm.Cond.methodLink own idx y).before a0 Z = true) (wd : (Jvm.Cond.declares y).before a0 Z = true) (nf : NotFace (s.setVm vm0) y ∨ ((Jvm.Cond.selects y.cls y y).before a0 Z = true)) (wt : (Jvm.Cond.selects C y z).before a0 Z = true) (wc : (Jvm.Cond.instanceMethod z).before a0 Z = true) (hy : y.cls ≠ "java/lang/invoke/MethodHandle" ∧ y.cls ≠ "java/lang/invoke/VarHandle") {a : Addr} (E : Exa Z h a C)  (hK : Z.Warmed39 (s.setVm vm0).vm → BK l R p e below (s.setVm vm0) args z 3 (rest.map fun v => v.category).sum as' h rc rs Qf)
    {argsL : List Value} (has : as' = (.ref a :: argsL).toArray) (hst : st = argsL.reverse ++ .ref a :: rest) (hlen : ∀ sig, parseMethodDescriptor y.desc = some sig → argsL.length = sig.parameters.length) (hsz : Ls.size = maxL) (hd : decode bytes pc = .ok (.invokevirtual idx, 3)) (hce : ce + rc ≤ R.cells) (hsl : sl + rs ≤ R.slots) (hfr : ∀ v h' L, Qf v h' L → Fw k0 ws L ∧ h.size ≤ h'.size)
    (k : ∀ v h' L, Qf v h' L → Go p l e R s m args below meth c Z k0 ws wF own Q w vm0 h' (ce + rc) (sl + rs) (mkF m (pc + 3) Ls (v.toList ++ rest))) : Go p l e R s m args below meth c Z k0 ws wF own Q w vm0 h ce sl (mkF m (pc) Ls (st)) :=
  fun T locs X eT N hS hZ ho hw => by
    subst has hst
    obtain ⟨cq, kq, qa, qb, qc⟩ := isOf (s := s.setVm vm0) hZ eT E
    have nf' : NotFace (s.setVm vm0) y := nf.elim id (fun q => notFace_of_selects (args := #[]) (mvT hZ q))
    obtain ⟨v, vm1, ⟨T', L', c', s'⟩, hW1, X', ⟨L, hQ, q1, q2, q3⟩, st⟩ := X.virtualBack K.1 ho (mvT hZ wl) (mvT hZ wd) nf' (mvT hZ wt) (mvT hZ wc) hy (hK hZ) qa qc (g := mkF m pc Ls (argsL.reverse ++ .ref a :: rest)) rfl (by rw [K.2.2.1]; exact hsz) (Steps.refl _) (argsL := argsL) (rest := rest) hlen rfl (by show 2 * 0 + _ ≤ _; omega) (hb K.2.1 hd) (fun _ _ => ⟨rfl, eT, hce, hsl⟩)
    dsimp only [Pt.U, Pt.locs, Pt.cells, Pt.slots] at X' q1 q2 q3 st hQ
    subst q1 q2 q3
    obtain ⟨U, o, hU, r⟩ := k v T'.heap L hQ T' _ X' rfl (Fw.app N (hfr _ _ _ hQ).1) ⟨hS.1, hS.2.mono (hfr _ _ _ hQ).2⟩ hZ ho hw
    exact ⟨U, o, st.trans hU, r⟩
theorem callVS (K : Kit p m meth c bytes maxL ret nm) {pc idx : Nat} {y : MethodName} {as' : Array Value} {rc rs : Nat} {V : Vm → Prop} {Qf : Option Value → Heap → Vm → List Loc → Prop} {z : MethodName} {C : String} (wl : (Jvm.Cond.methodLink own idx y).before a0 Z = true) (wd : (Jvm.Cond.declares y).before a0 Z = true) (nf : NotFace (s.setVm vm0) y ∨ ((Jvm.Cond.selects y.cls y y).before a0 Z = true)) (wt : (Jvm.Cond.selects C y z).before a0 Z = true) (wc : (Jvm.Cond.instanceMethod z).before a0 Z = true) (hy : y.cls ≠ "java/lang/invoke/MethodHandle" ∧ y.cls ≠ "java/lang/invoke/VarHandle") {a : Addr} (E : Exa Z h a C)  (hw1 : w = true) (hV : ∀ vm1, (s.setVm vm0).WarmedH vm1 → V vm1) (hK : Z.Warmed39 (s.setVm vm0).vm → BKS l R p e below (s.setVm vm0) args z 3 (rest.map fun v => v.category).sum as' h rc rs V Qf)
    {argsL : List Value} (has : as' = (.ref a :: argsL).toArray) (hst : st = argsL.reverse ++ .ref a :: rest) (hlen : ∀ sig, parseMethodDescriptor y.desc = some sig → argsL.length = sig.parameters.length) (hsz : Ls.size = maxL) (hd : decode bytes pc = .ok (.invokevirtual idx, 3)) (hce : ce + rc ≤ R.cells) (hsl : sl + rs ≤ R.slots) (hfr : ∀ v h' vm L, Qf v h' vm L → Fw k0 ws L)
    (k : ∀ v h' vm1 L, Qf v h' vm1 L → h.size ≤ h'.size → (s.setVm vm0).Warmed39 vm1 → Go p l e R s m args below meth c Z k0 ws wF own Q w vm1 h' (ce + rc) (sl + rs) (mkF m (pc + 3) Ls (v.toList ++ rest))) : Go p l e R s m args below meth c Z k0 ws wF own Q w vm0 h ce sl (mkF m (pc) Ls (st)) :=
  fun T locs X eT N hS hZ ho hw => by
    subst has hst
    obtain ⟨cq, kq, qa, qb, qc⟩ := isOf (s := s.setVm vm0) hZ eT E
    have nf' : NotFace (s.setVm vm0) y := nf.elim id (fun q => notFace_of_selects (args := #[]) (mvT hZ q))
    obtain ⟨v, vm1, ⟨T', L', c', s'⟩, hW1, X', hS2, hgr, ⟨L, hQ, q1, q2, q3⟩, st⟩ := X.virtualBackS K.1 ho (mvT hZ wl) (mvT hZ wd) nf' (mvT hZ wt) (mvT hZ wc) hy (hK hZ) qa qc (g := mkF m pc Ls (argsL.reverse ++ .ref a :: rest)) rfl (by rw [K.2.2.1]; exact hsz) (Steps.refl _) (argsL := argsL) (rest := rest) hlen rfl (by show 2 * 0 + _ ≤ _; omega) (hb K.2.1 hd) (fun vm1 hv => ⟨rfl, eT, hV vm1 hv, hce, hsl⟩)
    dsimp only [Pt.U, Pt.locs, Pt.cells, Pt.slots] at X' q1 q2 q3 st hQ hS2 hgr
    subst q1 q2 q3
    rw [eT] at hgr
    obtain ⟨U, o, hU, r⟩ := k v T'.heap T'.vm L hQ hgr hS2.1 T' _ X' rfl (Fw.app N (hfr _ _ _ _ hQ)) (hS.trans hS2 hgr) (State.Warmed39.trans (t := s.setVm vm0) hZ hS2.1) ((hS2.1.alike.findClass _ _).trans ho) (Or.inl hw1)
    exact ⟨U, o, st.trans hU, r⟩
theorem ib_warm {vm1 : Vm} {Ts : List String} (I : IB Z vm0 Ts) (hW : (s.setVm vm0).WarmedH vm1) : IB Z vm1 Ts := by
  obtain ⟨more, h1, h2⟩ := I
  exact ⟨more, by rw [hW.interned_eq]; exact h1, h2⟩
/-- ldc of a String constant whose text the walk reads -/
theorem ldcT (K : Kit p m meth c bytes maxL ret nm) (hw1 : w = true) {pc idx : Nat} {text : String} {Ts : List String} {n0 : Nat} {h00 : Heap} (hsh : s.heap = h00) (hk0 : k0 = h00.size) (O : Old Z n0 h00) (hws : ws = []) (wl : (Jvm.Cond.stringLink own idx text).before a0 Z = true) (wS : ∀ a ∈ Bundle.stringAtoms, a.before a0 Z = true) (I : IB Z vm0 Ts) (hnot : text ∉ Ts) (hh : Jvm.Lit.constHeld Z own idx) (hcw : Jvm.Lit.compactW.before a0 Z = true)
    {vs : List Value} {z : Int32} (ht : (∀ c ∈ text.toList, c.toNat < 256) ∧ text.toList.map (fun c => Value.int (Jvm.Lit.byteI c.toNat.toUInt16)) = vs) (hz : ¬ z < 0) (hl : z.toNatClampNeg = vs.length)
    (hd : decode bytes pc = .ok (.ldc idx, 2)) {n : Nat} (hn : 4 * text.toList.length ≤ n) (hbig : n ≤ 536870912) (hc : ce + 2 ≤ R.cells) (hl' : sl + (n + 4) ≤ R.slots)
    (k : ∀ h' vm1 a b kb, Ext h h' → Exa Z h' a "java/lang/String" → Fld Z h' a "java/lang/String" "coder" "B" (.int 0) → Fld Z h' a "java/lang/String" "value" "[B" (.ref b) → Arv Z h' b kb .byte z vs (.int 0) → IB Z vm1 (text :: Ts) → Lit (s.setVm vm1) own idx a → Go p l e R s m args below meth c Z k0 ws wF own Q w vm1 h' (ce + 2) (sl + (n + 4)) (mkF m (pc + 2) Ls (.ref a :: st))) : Go p l e R s m args below meth c Z k0 ws wF own Q w vm0 h ce sl (mkF m (pc) Ls (st)) :=
  fun T locs X eT N hS hZ ho hw => by
    subst hsh hk0 hws
    have N' : Fr s.heap.size locs := fun y hy => (N y hy).elim id (fun z => nomatch z)
    obtain ⟨a, T', h', k1, b, kb, X', e', E, hS', hk1, hZ', ho', r1, r2, r3, r4, r5, r6, r7, r8, st⟩ := ldcSVL X K.1 hZ ho wl wS eT hS (Nat.le_refl _) N' (fun b cl hb => O.2.2 b cl hb) I hnot hh hcw ht hz hl (g := mkF m pc Ls st) rfl (hb K.2.1 hd) hn hbig hc hl'
    obtain ⟨U, o, hU, r⟩ := k h' T'.vm a b kb E r1 r2 r3 r4 r7 r8 T' _ X' e' N ⟨hS'.1, hS'.2.mono hk1⟩ hZ' ho' (Or.inl hw1)
    exact ⟨U, o, st U hU, r⟩
theorem ldcA (K : Kit p m meth c bytes maxL ret nm) {pc idx : Nat} {text : String} {a : Addr} (wl : (Jvm.Cond.stringLink own idx text).before a0 Z = true) (L : Lit (s.setVm vm0) own idx a) (hd : decode bytes pc = .ok (.ldc idx, 2)) (k : Go p l e R s m args below meth c Z k0 ws wF own Q w vm0 h ce sl (mkF m (pc + 2) Ls (.ref a :: st))) : Go p l e R s m args below meth c Z k0 ws wF own Q w vm0 h ce sl (mkF m (pc) Ls (st)) :=
  Go.step (Nat.le_refl _) (fun T locs X eT N hZ ho => ⟨T, locs, X, eT, N, fun t r => ldcAgain X K.1 hZ ho wl L (g := mkF m pc Ls st) rfl (hb K.2.1 hd) t r⟩) k
/-- ldc of a String constant whose text nobody reads -/
theorem ldcN (K : Kit p m meth c bytes maxL ret nm) (hw1 : w = true) {pc idx : Nat} {text : String} (wl : (Jvm.Cond.stringLink own idx text).before a0 Z = true) (wS : ∀ a ∈ Bundle.stringAtoms, a.before a0 Z = true) (hd : decode bytes pc = .ok (.ldc idx, 2)) {n : Nat} (hn : 4 * text.toList.length ≤ n) (hbig : n ≤ 536870912) (hc : ce + 2 ≤ R.cells) (hl' : sl + (n + 4) ≤ R.slots)
    (k : ∀ h' vm1 a, Ext h h' → Go p l e R s m args below meth c Z k0 ws wF own Q w vm1 h' (ce + 2) (sl + (n + 4)) (mkF m (pc + 2) Ls (.ref a :: st))) : Go p l e R s m args below meth c Z k0 ws wF own Q w vm0 h ce sl (mkF m (pc) Ls (st)) :=
  fun T locs X eT N hS hZ ho hw => by
    obtain ⟨a, T', h', k1, X', e', E, hS', hk1, hZ', ho', st⟩ := ldcS X K.1 hZ ho wl wS eT hS (Nat.le_refl _) (g := mkF m pc Ls st) rfl (hb K.2.1 hd) hn hbig hc hl'
    obtain ⟨U, o, hU, r⟩ := k h' T'.vm a E T' _ X' e' N ⟨hS'.1, hS'.2.mono hk1⟩ hZ' ho' (Or.inl hw1)
    exact ⟨U, o, st U hU, r⟩
end
open Jvm Jvm.ClassFile Sem Op Lib Jvm.Free Jvm.Stand Jvm.LawKit Jvm.RoadKit
theorem ane {a b : Nat} (h : ¬ a = b) : (a : Addr) ≠ b := h
theorem fits_isRef {t : FieldType} {v : Value} (ht : t.isReference = true) (h : v.isRef = true) : fits t v = true := by
  cases t <;> cases v <;> first | rfl | (exact absurd ht (by decide)) | (exact absurd h (by simp [Value.isRef]))
theorem cat_ref (a : Addr) : (Value.ref a).category = 1 := rfl
theorem cat_int (a : Int32) : (Value.int a).category = 1 := rfl
theorem cat_long (a : Int64) : (Value.long a).category = 2 := rfl
theorem cat_null : Value.null.category = 1 := rfl
theorem cat_isRef {v : Value} (h : v.isRef = true) : v.category = 1 := by
  cases v <;> first | rfl | (simp [Value.isRef] at h)
theorem i2c_id {x : Int32} (h0 : ¬ x < 0) (h1 : ¬ (65535 : Int32) < x) : x.toUInt32.toUInt16.toUInt32.toInt32 = x := by
  have := c_i2c x
  have a0 : (0 : Int32).toInt = 0 := by decide
  have a1 : (65535 : Int32).toInt = 65535 := by decide
  rw [Int32.lt_iff_toInt_lt] at h0 h1
  apply Int32.toInt_inj.mp
  omega
theorem mask_rng (x : Int32) (m : Int32) (hm : 0 ≤ m.toInt) : ¬ (x &&& m) < 0 ∧ ¬ m < (x &&& m) := by
  have := c_and x m hm
  have a0 : (0 : Int32).toInt = 0 := by decide
  rw [Int32.lt_iff_toInt_lt, Int32.lt_iff_toInt_lt]
  omega
theorem nar_char_id {x : Int32} (h0 : ¬ x < 0) (h1 : ¬ (65535 : Int32) < x) : nar .char x = x := i2c_id h0 h1
theorem nle {a b c : Int32} (h : ¬ b < a) (hbc : ¬ c < b) : ¬ c < a := by
  rw [Int32.lt_iff_toInt_lt] at *; omega
theorem ch255 (x : Int32) : nar .char ((x &&& 255).toUInt32.toUInt16.toUInt32.toInt32) = x &&& 255 := by
  have := mask_rng x 255 (by decide)
  rw [i2c_mask]
  exact nar_char_id this.1 (nle this.2 (by decide))
theorem and3 (x : Int32) : x &&& 3 = 0 ∨ x &&& 3 = 1 ∨ x &&& 3 = 2 ∨ x &&& 3 = 3 := by
  have h := c_and x 3 (by decide)
  have a3 : (3 : Int32).toInt = 3 := by decide
  rw [a3] at h
  have : (x &&& 3).toInt = 0 ∨ (x &&& 3).toInt = 1 ∨ (x &&& 3).toInt = 2 ∨ (x &&& 3).toInt = 3 := by omega
  rcases this with q | q | q | q
  · exact Or.inl (Int32.toInt_inj.mp (q.trans (by decide)))
  · exact Or.inr (Or.inl (Int32.toInt_inj.mp (q.trans (by decide))))
  · exact Or.inr (Or.inr (Or.inl (Int32.toInt_inj.mp (q.trans (by decide)))))
  · exact Or.inr (Or.inr (Or.inr (Int32.toInt_inj.mp (q.trans (by decide)))))
end GoKit
end Jvm.Pilot.@@N@@
/- laws to paste: Road.backV, Road.eqW, Road.codOf (cut by pick.py; bodies as the Statement names them) -/
namespace Jvm.Pilot.@@N@@
namespace StrChars
open Jvm Sem ClassFile Op Lib Jvm.Stand Jvm.Free.XT Jvm.Free.ALB Jvm.Free.JM Jvm.Free
open Jvm.Lib.Cold (StaticIs)
/-- a char array whose places are chars -/
def Ch (a : Addr) (A : Cell) (U : State) : Prop := Arr .char a A U ∧ Typed .char A
theorem Ch.mv {a : Addr} {A : Cell} {U U' : State} (h : Ch a A U) (hal : U.vm.Alike U'.vm) (hh : U'.heap = U.heap) : Ch a A U' := ⟨h.1.mv hal hh, h.2⟩
theorem Ch.keep {a : Addr} {A : Cell} {U U' : State} (h : Ch a A U) (hal : U.vm.Alike U'.vm) (hk : U'.heap[a]? = some A) : Ch a A U' := ⟨h.1.keep hal hk, h.2⟩
/-- what place i of a char[]'s cell holds -/
def cv (A : Cell) (i : Nat) : Int32 := match A.slots[i]? with | some (.int x) => x | _ => 0
theorem Ch.get {a : Addr} {A : Cell} {U : State} (h : Ch a A U) {i : Nat} (hi : i < A.slots.size) : A.slots[i]? = some (.int (cv A i)) := by
  have e := Array.getElem?_eq_getElem hi
  have f := h.2 i _ e
  unfold cv; rw [e]
  generalize A.slots[i] = v at f
  cases v <;> simp [fits] at f ⊢
/-- the byte that i2b leaves of a char -/
def lo8 (x : Int32) : Int32 := x.toInt8.toInt32
theorem fits_lo8 (y : Int32) : fits .byte (.int (lo8 y)) = true := by
  have h1 := y.toInt8.le_toInt
  have h2 := y.toInt8.toInt_lt
  simp only [lo8, fits, Bool.and_eq_true, decide_eq_true_eq, Int32.le_iff_toInt_le, Int8.toInt_toInt32, show (-128 : Int32).toInt = -128 from by decide, show (127 : Int32).toInt = 127 from by decide]
  omega
/-- A' is A but that each place j of lo .. hi - 1 holds f j -/
def Laid (A A' : Cell) (lo hi : Nat) (f : Nat → Value) : Prop := A'.cls = A.cls ∧ A'.vm = A.vm ∧ A'.slots.size = A.slots.size ∧ ∀ i, A'.slots[i]? = if lo ≤ i ∧ i < hi then some (f i) else A.slots[i]?
theorem Laid.zero (A : Cell) (lo : Nat) (f : Nat → Value) : Laid A A lo (lo + 0) f := ⟨rfl, rfl, rfl, fun i => by rw [if_neg (by omega)]⟩
theorem Laid.step {A Ak : Cell} {lo k : Nat} {f : Nat → Value} {v : Value} (h : Laid A Ak lo k f) (hlo : lo ≤ k) (hk : k < Ak.slots.size) (hv : v = f k) : Laid A (Ak.setSlot k v) lo (k + 1) f := by
  refine ⟨h.1, h.2.1, by simpa [Cell.setSlot] using h.2.2.1, fun i => ?_⟩
  by_cases e : k = i
  · subst e; rw [Cell.slots_setSlot_self v hk, if_pos (by omega), hv]
  · rw [Cell.slots_setSlot_ne v e, h.2.2.2 i]
    by_cases q : lo ≤ i ∧ i < k
    · rw [if_pos q, if_pos (by omega)]
    · rw [if_neg q, if_neg (by omega)]
def U16 : String := "java/lang/StringUTF16"
namespace Cmp5
def yN : MethodName := ⟨"java/lang/StringUTF16", "compress", "([CI[BII)I"⟩
abbrev yB : ByteArray := jdk_52_method_21_code
theorem d0 : decode yB 0 = .ok (.iconst 0, 1) := by decide +kernel
theorem d1 : decode yB 1 = .ok (.istore 5, 2) := by decide +kernel
theorem d3 : decode yB 3 = .ok (.iload 5, 2) := by decide +kernel
theorem d5 : decode yB 5 = .ok (.iload 4, 2) := by decide +kernel
theorem d7 : decode yB 7 = .ok (.if_icmp (.ge) 37, 3) := by decide +kernel
theorem d10 : decode yB 10 = .ok (.aload_n 0, 1) := by decide +kernel
theorem d11 : decode yB 11 = .ok (.iload_n 1, 1) := by decide +kernel
theorem d12 : decode yB 12 = .ok (.caload, 1) := by decide +kernel
theorem d13 : decode yB 13 = .ok (.istore 6, 2) := by decide +kernel
theorem d15 : decode yB 15 = .ok (.iload 6, 2) := by decide +kernel
theorem d17 : decode yB 17 = .ok (.sipush 255, 3) := by decide +kernel
theorem d20 : decode yB 20 = .ok (.if_icmp (.le) 6, 3) := by decide +kernel
theorem d26 : decode yB 26 = .ok (.aload_n 2, 1) := by decide +kernel
theorem d27 : decode yB 27 = .ok (.iload_n 3, 1) := by decide +kernel
theorem d28 : decode yB 28 = .ok (.iload 6, 2) := by decide +kernel
theorem d30 : decode yB 30 = .ok (.i2b, 1) := by decide +kernel
theorem d31 : decode yB 31 = .ok (.bastore, 1) := by decide +kernel
theorem d32 : decode yB 32 = .ok (.iinc 1 1, 3) := by decide +kernel
theorem d35 : decode yB 35 = .ok (.iinc 3 1, 3) := by decide +kernel
theorem d38 : decode yB 38 = .ok (.iinc 5 1, 3) := by decide +kernel
theorem d41 : decode yB 41 = .ok (.goto (-38), 3) := by decide +kernel
theorem d44 : decode yB 44 = .ok (.iload 4, 2) := by decide +kernel
theorem d46 : decode yB 46 = .ok (.ireturn, 1) := by decide +kernel
def site : List Cond := []
def tab : Cond := tabOf yN yB 7 (some .int) site
def P (b : Addr) (A : Cell) (d : Addr) (B : Cell) (o q len : Nat) (args : Array Value) (s : State) : Prop := args = #[.ref b, .int (Int32.ofNat o), .ref d, .int (Int32.ofNat q), .int (Int32.ofNat len)] ∧ Ch b A s ∧ Arr .byte d B s ∧ b ≠ d ∧ o + len ≤ A.slots.size ∧ q + len ≤ B.slots.size ∧ ∀ i, i < len → ¬ 255 < cv A (o + i)
def E (b : Addr) (A : Cell) (d : Addr) (B : Cell) (o q len : Nat) (r : Option Value) (s u : State) : Prop := r = some (.int (Int32.ofNat len)) ∧ ∃ B', Put d B' s u ∧ Laid B B' q (q + len) (fun j => Value.int (lo8 (cv A (o + (j - q)))))
/-- no char of the range above 255: len; the places written hold each char's low byte -/
theorem law (l : Launch) (b : Addr) (A : Cell) (d : Addr) (B : Cell) (o q len : Nat) : Law l yN 5 5 0 0 yB 7 (some .int) site (P b A d B o q len) (E b A d B o q len) (copyLocs d q len) 0 0 := by
  refine Law.of_walk (plainFor_of_name (by decide +kernel)) (by decide +kernel) (by decide +kernel) (by decide) (fun _ _ h => by rw [h.1]; rfl) (fun _ U U' hal hh h => ⟨h.1, h.2.1.mv hal hh, h.2.2.1.mv hal hh, h.2.2.2⟩) (fun r U U' V V' h1 hal h2 h => ⟨h.1, h.2.elim fun B' q => ⟨B', q.1.mv h1 h2, q.2⟩⟩) ?_
  intro p e s m args below meth c s₁ X0 hexec hbytes hml hret hlk hnm hown hh0 W hP
  obtain ⟨rfl, hA, hB, hne, l1, l2, hp⟩ := hP
  have c1 : Steps p.tables e below (s₁.setTop (entryFrame m #[.ref b, .int (Int32.ofNat o), .ref d, .int (Int32.ofNat q), .int (Int32.ofNat len)] 7)) (s₁.setTop (mkF m 0 #[.val (.ref b), .val (.int (Int32.ofNat o)), .val (.ref d), .val (.int (Int32.ofNat q)), .val (.int (Int32.ofNat len)), .unset, .unset] [])) := entry rfl
  have hA0 := hA.1.mv X0.warmed.alike hh0
  have hB0 := hB.mv X0.warmed.alike hh0
  have a31 := hA.1.2.2.2
  have c2 : Steps p.tables e below (s₁.setTop (entryFrame m #[.ref b, .int (Int32.ofNat o), .ref d, .int (Int32.ofNat q), .int (Int32.ofNat len)] 7)) (s₁.setTop (mkF m 3 #[.val (.ref b), .val (.int (Int32.ofNat o)), .val (.ref d), .val (.int (Int32.ofNat q)), .val (.int (Int32.ofNat len)), .val (.int 0), .unset] [])) := c1.trans (by
    refine iconstV X0.here hexec rfl 0 (hb hbytes d0) (by decide) ?_
    refine XS.istore X0.here hexec rfl (hb hbytes d1) rfl rfl ?_
    exact Steps.refl _)
  have loop : ∀ (r i : Nat), i + r = len → ∀ (z : Slot), (z = .unset ∨ ∃ w, z = .val w ∧ w.category = 1) → ∀ (Tl : State) (Bk : Cell), Stand p l e { frames := 0, locals := 0, cells := 0, slots := 0 } s m #[.ref b, .int (Int32.ofNat o), .ref d, .int (Int32.ofNat q), .int (Int32.ofNat len)] below meth c Tl ([] ++ copyLocs d q i) 0 0 → Put d Bk s₁ Tl → Laid B Bk q (q + i) (fun j => Value.int (lo8 (cv A (o + (j - q))))) →
      Steps p.tables e below (s₁.setTop (entryFrame m #[.ref b, .int (Int32.ofNat o), .ref d, .int (Int32.ofNat q), .int (Int32.ofNat len)] 7)) (Tl.setTop (mkF m 3 #[.val (.ref b), .val (.int (Int32.ofNat (o + i))), .val (.ref d), .val (.int (Int32.ofNat (q + i))), .val (.int (Int32.ofNat len)), .val (.int (Int32.ofNat i)), z] [])) → ∃ (T' : State) (B' : Cell) (z' : Slot), Stand p l e { frames := 0, locals := 0, cells := 0, slots := 0 } s m #[.ref b, .int (Int32.ofNat o), .ref d, .int (Int32.ofNat q), .int (Int32.ofNat len)] below meth c T' ([] ++ copyLocs d q len) 0 0 ∧ Put d B' s₁ T' ∧ Laid B B' q (q + len) (fun j => Value.int (lo8 (cv A (o + (j - q))))) ∧
      Steps p.tables e below (s₁.setTop (entryFrame m #[.ref b, .int (Int32.ofNat o), .ref d, .int (Int32.ofNat q), .int (Int32.ofNat len)] 7)) (T'.setTop (mkF m 3 #[.val (.ref b), .val (.int (Int32.ofNat (o + len))), .val (.ref d), .val (.int (Int32.ofNat (q + len))), .val (.int (Int32.ofNat len)), .val (.int (Int32.ofNat len)), z'] [])) := by
    intro r
    induction r with
    | zero =>
      intro i hi z hz Tl Bk Xl pl fl cl
      have hil : i = len := by omega
      rw [hil] at Xl fl cl
      exact ⟨Tl, Bk, z, Xl, pl, fl, cl⟩
    | succ r ih =>
      intro i hi z hz Tl Bk Xl pl fl cl
      have all := X0.warmed.alike.symm.trans Xl.warmed.alike
      have hAl := hA0.keep all (pl.other hne hA0.1)
      have hBk := hB0.like all pl.1 fl.1 fl.2.1 fl.2.2.1
      have hlt : q + i < Bk.slots.size := by rw [fl.2.2.1]; omega
      have c3 : Steps p.tables e below (s₁.setTop (entryFrame m #[.ref b, .int (Int32.ofNat o), .ref d, .int (Int32.ofNat q), .int (Int32.ofNat len)] 7)) (Tl.setTop (mkF m 12 #[.val (.ref b), .val (.int (Int32.ofNat (o + i))), .val (.ref d), .val (.int (Int32.ofNat (q + i))), .val (.int (Int32.ofNat len)), .val (.int (Int32.ofNat i)), z] [.int (Int32.ofNat (o + i)), .ref b])) := cl.trans (by
        refine XS.iload Xl.here hexec rfl (hb hbytes d3) rfl ?_
        refine XS.iload Xl.here hexec rfl (hb hbytes d5) rfl ?_
        refine XS.icmpNo Xl.here hexec rfl (hb hbytes d7) rfl (ii_ge_f (lt32 (by omega) (by omega))) ?_
        refine XS.aloadN Xl.here hexec rfl (hb hbytes d10) rfl rfl ?_
        refine XS.iloadN Xl.here hexec rfl (hb hbytes d11) rfl ?_
        exact Steps.refl _)
      have c4 : Steps p.tables e below (s₁.setTop (entryFrame m #[.ref b, .int (Int32.ofNat o), .ref d, .int (Int32.ofNat q), .int (Int32.ofNat len)] 7)) (Tl.setTop (mkF m 13 #[.val (.ref b), .val (.int (Int32.ofNat (o + i))), .val (.ref d), .val (.int (Int32.ofNat (q + i))), .val (.int (Int32.ofNat len)), .val (.int (Int32.ofNat i)), z] [.int (cv A (o + i))])) := c3.trans (by
        refine Xl.aget hexec hAl rfl (hA.get (i := o + i) (by omega)) rfl rfl (hb hbytes d12) ?_
        exact Steps.refl _)
      have c5 : Steps p.tables e below (s₁.setTop (entryFrame m #[.ref b, .int (Int32.ofNat o), .ref d, .int (Int32.ofNat q), .int (Int32.ofNat len)] 7)) (Tl.setTop (mkF m 15 #[.val (.ref b), .val (.int (Int32.ofNat (o + i))), .val (.ref d), .val (.int (Int32.ofNat (q + i))), .val (.int (Int32.ofNat len)), .val (.int (Int32.ofNat i)), .val (.int (cv A (o + i)))] [])) := c4.trans (by
        refine XS.istoreS Xl.here hexec rfl (hb hbytes d13) rfl rfl hz ?_
        exact Steps.refl _)
      have c6 : Steps p.tables e below (s₁.setTop (entryFrame m #[.ref b, .int (Int32.ofNat o), .ref d, .int (Int32.ofNat q), .int (Int32.ofNat len)] 7)) (Tl.setTop (mkF m 31 #[.val (.ref b), .val (.int (Int32.ofNat (o + i))), .val (.ref d), .val (.int (Int32.ofNat (q + i))), .val (.int (Int32.ofNat len)), .val (.int (Int32.ofNat i)), .val (.int (cv A (o + i)))] [.int (lo8 (cv A (o + i))), .int (Int32.ofNat (q + i)), .ref d])) := c5.trans (by
        refine XS.iload Xl.here hexec rfl (hb hbytes d15) rfl ?_
        refine sipushV Xl.here hexec rfl 255 (hb hbytes d17) (by decide) ?_
        refine XS.icmpYes Xl.here hexec rfl (pc0 := 20) rfl (hb hbytes d20) rfl (ii_le_t (hp i (by omega))) (by decide) rfl ?_
        refine XS.aloadN Xl.here hexec rfl (hb hbytes d26) rfl rfl ?_
        refine XS.iloadN Xl.here hexec rfl (hb hbytes d27) rfl ?_
        refine XS.iload Xl.here hexec rfl (hb hbytes d28) rfl ?_
        refine i2b Xl.here hexec rfl (hb hbytes d30) rfl ?_
        exact Steps.refl _)
      obtain ⟨T7, X7, p7, st7⟩ := Xl.aput hexec hBk rfl hlt rfl (fits_lo8 (cv A (o + i))) (g := (mkF m 31 #[.val (.ref b), .val (.int (Int32.ofNat (o + i))), .val (.ref d), .val (.int (Int32.ofNat (q + i))), .val (.int (Int32.ofNat len)), .val (.int (Int32.ofNat i)), .val (.int (cv A (o + i)))] [.int (lo8 (cv A (o + i))), .int (Int32.ofNat (q + i)), .ref d])) rfl (rest := []) rfl (hb hbytes d31)
      have c8 : Steps p.tables e below (s₁.setTop (entryFrame m #[.ref b, .int (Int32.ofNat o), .ref d, .int (Int32.ofNat q), .int (Int32.ofNat len)] 7)) (T7.setTop (mkF m 32 #[.val (.ref b), .val (.int (Int32.ofNat (o + i))), .val (.ref d), .val (.int (Int32.ofNat (q + i))), .val (.int (Int32.ofNat len)), .val (.int (Int32.ofNat i)), .val (.int (cv A (o + i)))] [])) := c6.trans (st7 _ (Steps.refl _))
      have c9 : Steps p.tables e below (s₁.setTop (entryFrame m #[.ref b, .int (Int32.ofNat o), .ref d, .int (Int32.ofNat q), .int (Int32.ofNat len)] 7)) (T7.setTop (mkF m 3 #[.val (.ref b), .val (.int (Int32.ofNat (o + i) + 1)), .val (.ref d), .val (.int (Int32.ofNat (q + i) + 1)), .val (.int (Int32.ofNat len)), .val (.int (Int32.ofNat i + 1)), .val (.int (cv A (o + i)))] [])) := c8.trans (by
        refine iincV X7.here hexec rfl 1 (hb hbytes d32) (by decide) rfl rfl ?_
        refine iincV X7.here hexec rfl 1 (hb hbytes d35) (by decide) rfl rfl ?_
        refine iincV X7.here hexec rfl 1 (hb hbytes d38) (by decide) rfl rfl ?_
        refine XS.goto X7.here hexec rfl (pc0 := 41) rfl (hb hbytes d41) (by decide) rfl ?_
        exact Steps.refl _)
      have c10 : Steps p.tables e below (s₁.setTop (entryFrame m #[.ref b, .int (Int32.ofNat o), .ref d, .int (Int32.ofNat q), .int (Int32.ofNat len)] 7)) (T7.setTop (mkF m 3 #[.val (.ref b), .val (.int (Int32.ofNat (o + (i + 1)))), .val (.ref d), .val (.int (Int32.ofNat (q + (i + 1)))), .val (.int (Int32.ofNat len)), .val (.int (Int32.ofNat (i + 1))), .val (.int (cv A (o + i)))] [])) := by
        have := c9
        rw [succ32, succ32, succ32] at this
        exact this
      exact ih (i + 1) (by omega) _ (Or.inr ⟨_, rfl, rfl⟩) T7 _ (by rw [copyLocs_step, ← List.append_assoc]; exact X7) (pl.trans p7) (fl.step (by omega) hlt (by simp)) c10
  obtain ⟨T9, B9, z9, X9, p9, f9, g9⟩ := loop len 0 (by omega) .unset (Or.inl rfl) s₁ B (by simpa [copyLocs] using X0) ⟨hB0.1, fun _ _ => rfl, rfl⟩ (Laid.zero _ _ _) c2
  have c11 : Steps p.tables e below (s₁.setTop (entryFrame m #[.ref b, .int (Int32.ofNat o), .ref d, .int (Int32.ofNat q), .int (Int32.ofNat len)] 7)) (T9.setTop (mkF m 46 #[.val (.ref b), .val (.int (Int32.ofNat (o + len))), .val (.ref d), .val (.int (Int32.ofNat (q + len))), .val (.int (Int32.ofNat len)), .val (.int (Int32.ofNat len)), z9] [.int (Int32.ofNat len)])) := g9.trans (by
    refine XS.iload X9.here hexec rfl (hb hbytes d3) rfl ?_
    refine XS.iload X9.here hexec rfl (hb hbytes d5) rfl ?_
    refine XS.icmpYes X9.here hexec rfl (pc0 := 7) rfl (hb hbytes d7) rfl (ii_ge_t (nlt32 (by omega) (Nat.le_refl _))) (by decide) rfl ?_
    refine XS.iload X9.here hexec rfl (hb hbytes d44) rfl ?_
    exact Steps.refl _)
  exact ⟨T9, some (.int (Int32.ofNat len)), _, _, _, X9, by simp, rfl, rfl, (fun h => by cases h), ⟨rfl, B9, p9.from hh0, f9⟩, fun fs hl => c11.trans (X9.ireturnOut hexec hret rfl (Or.inl rfl) (hb hbytes d46) hl)⟩
end Cmp5
namespace Cmp3
def yN : MethodName := ⟨"java/lang/StringUTF16", "compress", "([CII)[B"⟩
abbrev yB : ByteArray := jdk_52_method_16_code
theorem d0 : decode yB 0 = .ok (.iload_n 2, 1) := by decide +kernel
theorem d1 : decode yB 1 = .ok (.newarray .byte, 2) := by decide +kernel
theorem d3 : decode yB 3 = .ok (.astore_n 3, 1) := by decide +kernel
theorem d4 : decode yB 4 = .ok (.aload_n 0, 1) := by decide +kernel
theorem d5 : decode yB 5 = .ok (.iload_n 1, 1) := by decide +kernel
theorem d6 : decode yB 6 = .ok (.aload_n 3, 1) := by decide +kernel
theorem d7 : decode yB 7 = .ok (.iconst 0, 1) := by decide +kernel
theorem d8 : decode yB 8 = .ok (.iload_n 2, 1) := by decide +kernel
theorem d9 : decode yB 9 = .ok (.invokestatic 115, 3) := by decide +kernel
theorem d12 : decode yB 12 = .ok (.istore 4, 2) := by decide +kernel
theorem d14 : decode yB 14 = .ok (.iload 4, 2) := by decide +kernel
theorem d16 : decode yB 16 = .ok (.iload_n 2, 1) := by decide +kernel
theorem d17 : decode yB 17 = .ok (.if_icmp (.eq) 40, 3) := by decide +kernel
theorem d57 : decode yB 57 = .ok (.aload_n 3, 1) := by decide +kernel
theorem d58 : decode yB 58 = .ok (.areturn, 1) := by decide +kernel
def site : List Cond := [.arrayClass .byte, Cmp5.tab] ++ staticW U16 115 Cmp5.yN
def tab : Cond := tabOf yN yB 6 (some (.array .byte)) site
def P (b : Addr) (A : Cell) (o len : Nat) (args : Array Value) (s : State) : Prop := args = #[.ref b, .int (Int32.ofNat o), .int (Int32.ofNat len)] ∧ Ch b A s ∧ o + len ≤ A.slots.size ∧ len ≤ 536870912 ∧ ∀ i, i < len → ¬ 255 < cv A (o + i)
def E (b : Addr) (A : Cell) (o len : Nat) (r : Option Value) (s u : State) : Prop := NewArr .byte "[B" len (fun j => .int (lo8 (cv A (o + j)))) r s u ∧ u.heap.size = s.heap.size + 1
/-- no char of the range above 255: a new byte[] of their low bytes -/
theorem law (l : Launch) (b : Addr) (A : Cell) (o len : Nat) : Law l yN 3 3 1 18 yB 6 (some (.array .byte)) site (P b A o len) (E b A o len) [] 1 len := by
  refine Law.of_walk (plainFor_of_name (by decide +kernel)) (by decide +kernel) (by decide +kernel) (by decide) (fun _ _ h => by rw [h.1]; rfl) (fun _ U U' hal hh h => ⟨h.1, h.2.1.mv hal hh, h.2.2⟩) (fun r U U' V V' h1 hal h2 h => ⟨NewArr.mv r U U' V V' h1 hal h2 h.1, by rw [h1, h2]; exact h.2⟩) ?_
  intro p e s m args below meth c s₁ X0 hexec hbytes hml hret hlk hnm hown hh0 W hP
  obtain ⟨rfl, hA, l1, l2, hp⟩ := hP
  have a31 := hA.1.2.2.2
  have c1 : Steps p.tables e below (s₁.setTop (entryFrame m #[.ref b, .int (Int32.ofNat o), .int (Int32.ofNat len)] 6)) (s₁.setTop (mkF m 0 #[.val (.ref b), .val (.int (Int32.ofNat o)), .val (.int (Int32.ofNat len)), .unset, .unset, .unset] [])) := entry rfl
  have c2 : Steps p.tables e below (s₁.setTop (entryFrame m #[.ref b, .int (Int32.ofNat o), .int (Int32.ofNat len)] 6)) (s₁.setTop (mkF m 1 #[.val (.ref b), .val (.int (Int32.ofNat o)), .val (.int (Int32.ofNat len)), .unset, .unset, .unset] [.int (Int32.ofNat len)])) := c1.trans (by
    refine XS.iloadN X0.here hexec rfl (hb hbytes d0) rfl ?_
    exact Steps.refl _)
  obtain ⟨T3, B3, X3, ba3, bs3, bv3, bh3, bf3, st3⟩ := X0.anew hexec (atype := .byte) (wk W (.arrayClass .byte)) rfl (by show len * 1 ≤ _; omega) (by omega) (g := (mkF m 1 #[.val (.ref b), .val (.int (Int32.ofNat o)), .val (.int (Int32.ofNat len)), .unset, .unset, .unset] [.int (Int32.ofNat len)])) rfl (hb hbytes d1) (rest := []) rfl (Nat.le_refl _) (by show 0 + len ≤ len; omega)
  rw [hh0] at ba3 st3
  have kp3 : XT.Kept s T3 := (XT.Kept.of_eq hh0).push bh3
  have hA3 := hA.keep X3.warmed.alike (kp3 _ _ hA.1.1)
  have hne : b ≠ s.heap.size := hA.1.ne
  have c4 : Steps p.tables e below (s₁.setTop (entryFrame m #[.ref b, .int (Int32.ofNat o), .int (Int32.ofNat len)] 6)) (T3.setTop (mkF m 3 #[.val (.ref b), .val (.int (Int32.ofNat o)), .val (.int (Int32.ofNat len)), .unset, .unset, .unset] [.ref s.heap.size])) := c2.trans (st3 _ (Steps.refl _))
  have c5 : Steps p.tables e below (s₁.setTop (entryFrame m #[.ref b, .int (Int32.ofNat o), .int (Int32.ofNat len)] 6)) (T3.setTop (mkF m 9 #[.val (.ref b), .val (.int (Int32.ofNat o)), .val (.int (Int32.ofNat len)), .val (.ref s.heap.size), .unset, .unset] [.int (Int32.ofNat len), .int 0, .ref s.heap.size, .int (Int32.ofNat o), .ref b])) := c4.trans (by
    refine XS.astoreN X3.here hexec rfl (hb hbytes d3) rfl rfl rfl ?_
    refine XS.aloadN X3.here hexec rfl (hb hbytes d4) rfl rfl ?_
    refine XS.iloadN X3.here hexec rfl (hb hbytes d5) rfl ?_
    refine XS.aloadN X3.here hexec rfl (hb hbytes d6) rfl rfl ?_
    refine iconstV X3.here hexec rfl 0 (hb hbytes d7) (by decide) ?_
    refine XS.iloadN X3.here hexec rfl (hb hbytes d8) rfl ?_
    exact Steps.refl _)
  obtain ⟨v6, T6, X6, E6, g6⟩ := X3.callS hexec (Cmp5.law l b A s.heap.size B3 o 0 len) hown (wks W (staticW U16 115 Cmp5.yN)) (wk W Cmp5.tab) (W := 0) (Nat.le_of_ble_eq_true rfl) (Nat.le_of_ble_eq_true rfl) (Nat.le_refl _) (by show 0 + len + 0 ≤ len; omega) (g := (mkF m 9 #[.val (.ref b), .val (.int (Int32.ofNat o)), .val (.int (Int32.ofNat len)), .val (.ref s.heap.size), .unset, .unset] [.int (Int32.ofNat len), .int (Int32.ofNat 0), .ref s.heap.size, .int (Int32.ofNat o), .ref b])) rfl (by rw [hml]; rfl) c5 (argsL := [.ref b, .int (Int32.ofNat o), .ref s.heap.size, .int (Int32.ofNat 0), .int (Int32.ofNat len)]) (rest := []) rfl rfl (by show 2 * 0 + 0 ≤ _; decide) (hb hbytes d9) (⟨rfl, hA3, ba3, hne, l1, by rw [bs3]; simp, hp⟩)
  obtain ⟨rfl, B6, p6, f6⟩ := E6
  have c7 : Steps p.tables e below (s₁.setTop (entryFrame m #[.ref b, .int (Int32.ofNat o), .int (Int32.ofNat len)] 6)) (T6.setTop (mkF m 12 #[.val (.ref b), .val (.int (Int32.ofNat o)), .val (.int (Int32.ofNat len)), .val (.ref s.heap.size), .unset, .unset] [.int (Int32.ofNat len)])) := g6
  have c8 : Steps p.tables e below (s₁.setTop (entryFrame m #[.ref b, .int (Int32.ofNat o), .int (Int32.ofNat len)] 6)) (T6.setTop (mkF m 58 #[.val (.ref b), .val (.int (Int32.ofNat o)), .val (.int (Int32.ofNat len)), .val (.ref s.heap.size), .val (.int (Int32.ofNat len)), .unset] [.ref s.heap.size])) := c7.trans (by
    refine XS.istore X6.here hexec rfl (hb hbytes d12) rfl rfl ?_
    refine XS.iload X6.here hexec rfl (hb hbytes d14) rfl ?_
    refine XS.iloadN X6.here hexec rfl (hb hbytes d16) rfl ?_
    refine XS.icmpYes X6.here hexec rfl (pc0 := 17) rfl (hb hbytes d17) rfl (ii_eq_t rfl) (by decide) rfl ?_
    refine XS.aloadN X6.here hexec rfl (hb hbytes d57) rfl rfl ?_
    exact Steps.refl _)
  have X8 := X6.wide (L' := []) (cells' := 1) (slots' := len) (fun x hx hlt => by
    simp only [List.nil_append, copyLocs, List.mem_map, List.mem_range] at hx
    obtain ⟨i, -, rfl⟩ := hx
    exact absurd hlt (Nat.lt_irrefl _)) (Nat.le_refl _) (by omega)
  exact ⟨T6, some (.ref s.heap.size), _, _, _, X8, rfl, rfl, rfl, (fun h => by cases h), ⟨⟨rfl, B6, ba3.like (X3.warmed.alike.symm.trans X6.warmed.alike) p6.1 f6.1 f6.2.1 f6.2.2.1, f6.2.1.trans bv3, by rw [X6.warmed.alike.findClass, f6.1]; exact bf3, by rw [f6.2.2.1, bs3]; simp, fun j hj => by rw [f6.2.2.2 j, if_pos (by omega)]; rfl, kp3.put p6 (Nat.le_refl _)⟩, by rw [p6.2.2, bh3, hh0]; simp⟩, fun fs hl => c8.trans (X8.areturnOut hexec rfl hret rfl (hb hbytes d58) hl)⟩
end Cmp3
namespace CodL
def yN : MethodName := ⟨"java/lang/StringUTF16", "coderFromArrayLen", "([BI)B"⟩
abbrev yB : ByteArray := jdk_52_method_15_code
theorem d0 : decode yB 0 = .ok (.iload_n 1, 1) := by decide +kernel
theorem d1 : decode yB 1 = .ok (.aload_n 0, 1) := by decide +kernel
theorem d2 : decode yB 2 = .ok (.arraylength, 1) := by decide +kernel
theorem d3 : decode yB 3 = .ok (.isub, 1) := by decide +kernel
theorem d4 : decode yB 4 = .ok (.bipush 31, 2) := by decide +kernel
theorem d6 : decode yB 6 = .ok (.iushr, 1) := by decide +kernel
theorem d7 : decode yB 7 = .ok (.i2b, 1) := by decide +kernel
theorem d8 : decode yB 8 = .ok (.ireturn, 1) := by decide +kernel
def site : List Cond := []
def tab : Cond := tabOf yN yB 2 (some .byte) site
def P (d : Addr) (B : Cell) (args : Array Value) (s : State) : Prop := args = #[.ref d, .int (Int32.ofNat B.slots.size)] ∧ Arr .byte d B s
def E (r : Option Value) (s u : State) : Prop := XT.PureE (some (.int 0)) r s u
/-- an array as long as the number of chars: LATIN1 -/
theorem law (l : Launch) (d : Addr) (B : Cell) : Law l yN 2 2 0 0 yB 2 (some .byte) site (P d B) E [] 0 0 := by
  refine Law.of_walk (plainFor_of_name (by decide +kernel)) (by decide +kernel) (by decide +kernel) (by decide) (fun _ _ h => by rw [h.1]; rfl) (fun _ U U' hal hh h => ⟨h.1, h.2.mv hal hh⟩) (fun r U U' V V' h1 hal h2 h => XT.PureE.mv r U U' V V' h1 hal h2 h) ?_
  intro p e s m args below meth c s₁ X0 hexec hbytes hml hret hlk hnm hown hh0 W hP
  obtain ⟨rfl, hB⟩ := hP
  have hB0 := hB.mv X0.warmed.alike hh0
  have c1 : Steps p.tables e below (s₁.setTop (entryFrame m #[.ref d, .int (Int32.ofNat B.slots.size)] 2)) (s₁.setTop (mkF m 0 #[.val (.ref d), .val (.int (Int32.ofNat B.slots.size))] [])) := entry rfl
  have c2 : Steps p.tables e below (s₁.setTop (entryFrame m #[.ref d, .int (Int32.ofNat B.slots.size)] 2)) (s₁.setTop (mkF m 2 #[.val (.ref d), .val (.int (Int32.ofNat B.slots.size))] [.ref d, .int (Int32.ofNat B.slots.size)])) := c1.trans (by
    refine XS.iloadN X0.here hexec rfl (hb hbytes d0) rfl ?_
    refine XS.aloadN X0.here hexec rfl (hb hbytes d1) rfl rfl ?_
    exact Steps.refl _)
  have c3 : Steps p.tables e below (s₁.setTop (entryFrame m #[.ref d, .int (Int32.ofNat B.slots.size)] 2)) (s₁.setTop (mkF m 8 #[.val (.ref d), .val (.int (Int32.ofNat B.slots.size))] [.int (lo8 (ushr (Int32.ofNat B.slots.size - Int32.ofNat B.slots.size) 31))])) := c2.trans (by
    refine X0.alen hexec hB0 rfl rfl (hb hbytes d2) ?_
    refine XS.isub X0.here hexec rfl (hb hbytes d3) rfl ?_
    refine bipushV X0.here hexec rfl 31 (hb hbytes d4) (by decide) ?_
    refine iushr X0.here hexec rfl (hb hbytes d6) rfl ?_
    refine i2b X0.here hexec rfl (hb hbytes d7) rfl ?_
    exact Steps.refl _)
  have e0 : lo8 (ushr (Int32.ofNat B.slots.size - Int32.ofNat B.slots.size) 31) = 0 := by rw [Int32.sub_self]; decide
  rw [e0] at c3
  exact ⟨s₁, some (.int 0), _, _, _, X0, rfl, rfl, rfl, (fun h => by cases h), ⟨rfl, hh0⟩, fun fs hl => c3.trans (X0.ireturnOut hexec hret rfl (Or.inr (Or.inr (Or.inl rfl))) (hb hbytes d8) hl)⟩
end CodL
/-- the String at a is Latin-1 over a new byte[] (the heap's one new cell): the low bytes of the len chars of A from o on; every cell but a is kept -/
def Got (a : Addr) (D : Cell) (fV fC : Field) (A : Cell) (o len : Nat) (r : Option Value) (s u : State) : Prop := r = none ∧ ∃ D' V : Cell, Blank "java/lang/String" a D' u ∧ Same D D' [fV.slot, fC.slot] ∧ D'.slots[fV.slot]? = some (.ref s.heap.size) ∧ D'.slots[fC.slot]? = some (.int 0) ∧ Arr .byte s.heap.size V u ∧ V.vm = .none ∧ u.vm.findClass "[B" = some V.cls ∧ V.slots.size = len ∧ (∀ j, j < len → V.slots[j]? = some (.int (lo8 (cv A (o + j))))) ∧ (∀ (y : Addr) (c : Cell), y ≠ a → s.heap[y]? = some c → u.heap[y]? = some c) ∧ u.heap.size = s.heap.size + 1
theorem Got.mv {a : Addr} {D A : Cell} {fV fC : Field} {o len : Nat} : ∀ r (U U' V V' : State), U'.heap = U.heap → V.vm.Alike V'.vm → V'.heap = V.heap → Got a D fV fC A o len r U V → Got a D fV fC A o len r U' V' :=
  fun r U U' V V' h1 hal h2 ⟨e0, D', X, a1, a2, a3, a4, a5, a6, a7, a8, a9, a10, a11⟩ => ⟨e0, D', X, a1.mv hal h2, a2, by rw [h1]; exact a3, a4, by rw [h1]; exact a5.mv hal h2, a6, by rw [hal.findClass]; exact a7, a8, a9, by rw [h1, h2]; exact a10, by rw [h1, h2]; exact a11⟩
namespace New4
def yN : MethodName := ⟨"java/lang/String", "<init>", "([CIILjava/lang/Void;)V"⟩
abbrev yB : ByteArray := jdk_42_method_149_code
theorem d0 : decode yB 0 = .ok (.aload_n 0, 1) := by decide +kernel
theorem d1 : decode yB 1 = .ok (.invokespecial 1, 3) := by decide +kernel
theorem d4 : decode yB 4 = .ok (.iload_n 3, 1) := by decide +kernel
theorem d5 : decode yB 5 = .ok (.ifCond (.ne) 22, 3) := by decide +kernel
theorem d27 : decode yB 27 = .ok (.getstatic 38, 3) := by decide +kernel
theorem d30 : decode yB 30 = .ok (.ifCond (.eq) 28, 3) := by decide +kernel
theorem d33 : decode yB 33 = .ok (.aload_n 1, 1) := by decide +kernel
theorem d34 : decode yB 34 = .ok (.iload_n 2, 1) := by decide +kernel
theorem d35 : decode yB 35 = .ok (.iload_n 3, 1) := by decide +kernel
theorem d36 : decode yB 36 = .ok (.invokestatic 177, 3) := by decide +kernel
theorem d39 : decode yB 39 = .ok (.astore 5, 2) := by decide +kernel
theorem d41 : decode yB 41 = .ok (.aload_n 0, 1) := by decide +kernel
theorem d42 : decode yB 42 = .ok (.aload 5, 2) := by decide +kernel
theorem d44 : decode yB 44 = .ok (.iload_n 3, 1) := by decide +kernel
theorem d45 : decode yB 45 = .ok (.invokestatic 47, 3) := by decide +kernel
theorem d48 : decode yB 48 = .ok (.putfield 15, 3) := by decide +kernel
theorem d51 : decode yB 51 = .ok (.aload_n 0, 1) := by decide +kernel
theorem d52 : decode yB 52 = .ok (.aload 5, 2) := by decide +kernel
theorem d54 : decode yB 54 = .ok (.putfield 9, 3) := by decide +kernel
theorem d57 : decode yB 57 = .ok (.return_, 1) := by decide +kernel
def site : List Cond := [.fieldLink "java/lang/String" 38 "java/lang/String" "COMPACT_STRINGS" "Z", Cmp3.tab, CodL.tab, .laysFinal "java/lang/String" "java/lang/String" "value" "[B", .fieldLink "java/lang/String" 9 "java/lang/String" "value" "[B", .laysFinal "java/lang/String" "java/lang/String" "coder" "B", .fieldLink "java/lang/String" 15 "java/lang/String" "coder" "B"] ++ objW "java/lang/String" 1 ++ staticW "java/lang/String" 177 Cmp3.yN ++ staticW "java/lang/String" 47 CodL.yN
def tab : Cond := tabOf yN yB 6 none site
def P (a : Addr) (D : Cell) (fV fC : Field) (b : Addr) (A : Cell) (z : Int32) (o len : Nat) (args : Array Value) (s : State) : Prop := args = #[.ref a, .ref b, .int (Int32.ofNat o), .int (Int32.ofNat len), .null] ∧ Blank "java/lang/String" a D s ∧ Found "java/lang/String" "value" "[B" fV s ∧ Found "java/lang/String" "coder" "B" fC s ∧ Ch b A s ∧ StaticIs s "java/lang/String" "COMPACT_STRINGS" "Z" (.int z) ∧ ¬ z = 0 ∧ 0 < len ∧ o + len ≤ A.slots.size ∧ len ≤ 536870912 ∧ ∀ i, i < len → ¬ 255 < cv A (o + i)
def E (a : Addr) (D : Cell) (fV fC : Field) (A : Cell) (o len : Nat) (r : Option Value) (s u : State) : Prop := Got a D fV fC A o len r s u
/-- len > 0, no char of the range above 255: a Latin-1 String of their low bytes -/
theorem law (l : Launch) (a : Addr) (D : Cell) (fV fC : Field) (b : Addr) (A : Cell) (z : Int32) (o len : Nat) : Law l yN 5 4 2 35 yB 6 none site (P a D fV fC b A z o len) (E a D fV fC A o len) [⟨a, fC.slot⟩, ⟨a, fV.slot⟩] 1 len := by
  refine Law.of_walk (plainFor_of_name (by decide +kernel)) (by decide +kernel) (by decide +kernel) (by decide) (fun _ _ h => by rw [h.1]; rfl) (fun _ U U' hal hh h => ⟨h.1, h.2.1.mv hal hh, h.2.2.1.al hal, h.2.2.2.1.al hal, h.2.2.2.2.1.mv hal hh, h.2.2.2.2.2.1.there hal hh, h.2.2.2.2.2.2⟩) (fun r U U' V V' h1 hal h2 h => Got.mv r U U' V V' h1 hal h2 h) ?_
  intro p e s m args below meth c s₁ X0 hexec hbytes hml hret hlk hnm hown hh0 W hP
  obtain ⟨rfl, hB, f1, f2, hA, s1, hz, l0, l1, l2, hp⟩ := hP
  have a31 := hA.1.2.2.2
  have c1 : Steps p.tables e below (s₁.setTop (entryFrame m #[.ref a, .ref b, .int (Int32.ofNat o), .int (Int32.ofNat len), .null] 6)) (s₁.setTop (mkF m 0 #[.val (.ref a), .val (.ref b), .val (.int (Int32.ofNat o)), .val (.int (Int32.ofNat len)), .val .null, .unset] [])) := entry rfl
  have c2 : Steps p.tables e below (s₁.setTop (entryFrame m #[.ref a, .ref b, .int (Int32.ofNat o), .int (Int32.ofNat len), .null] 6)) (s₁.setTop (mkF m 1 #[.val (.ref a), .val (.ref b), .val (.int (Int32.ofNat o)), .val (.int (Int32.ofNat len)), .val .null, .unset] [.ref a])) := c1.trans (by
    refine XS.aloadN X0.here hexec rfl (hb hbytes d0) rfl rfl ?_
    exact Steps.refl _)
  obtain ⟨T3, X3, q3, st3⟩ := X0.oinit hexec hown (wks W (objW "java/lang/String" 1)) (g := (mkF m 1 #[.val (.ref a), .val (.ref b), .val (.int (Int32.ofNat o)), .val (.int (Int32.ofNat len)), .val .null, .unset] [.ref a])) rfl (by rw [hml]; rfl) (rest := []) rfl (hb hbytes d1) (W := 0) (by show 2 * 0 + 0 ≤ _; decide) (Nat.le_of_ble_eq_true rfl) (Nat.le_of_ble_eq_true rfl)
  have hh3 := q3.trans hh0
  have c4 : Steps p.tables e below (s₁.setTop (entryFrame m #[.ref a, .ref b, .int (Int32.ofNat o), .int (Int32.ofNat len), .null] 6)) (T3.setTop (mkF m 27 #[.val (.ref a), .val (.ref b), .val (.int (Int32.ofNat o)), .val (.int (Int32.ofNat len)), .val .null, .unset] [])) := (c2.trans (st3 _ (Steps.refl _))).trans (by
    refine XS.iloadN X3.here hexec rfl (hb hbytes d4) rfl ?_
    refine XS.ifYes X3.here hexec rfl (pc0 := 5) rfl (hb hbytes d5) rfl (i0_ne_t (nz32 (by omega) l0)) (by decide) rfl ?_
    exact Steps.refl _)
  obtain ⟨T5, X5, q5, st5⟩ := X3.sget hexec hown (wk W (.fieldLink "java/lang/String" 38 "java/lang/String" "COMPACT_STRINGS" "Z")) s1 (fun _ _ h => by rw [hh3]; exact h) (g := (mkF m 27 #[.val (.ref a), .val (.ref b), .val (.int (Int32.ofNat o)), .val (.int (Int32.ofNat len)), .val .null, .unset] [])) rfl (hb hbytes d27)
  have hh5 := q5.trans hh3
  have c6 : Steps p.tables e below (s₁.setTop (entryFrame m #[.ref a, .ref b, .int (Int32.ofNat o), .int (Int32.ofNat len), .null] 6)) (T5.setTop (mkF m 30 #[.val (.ref a), .val (.ref b), .val (.int (Int32.ofNat o)), .val (.int (Int32.ofNat len)), .val .null, .unset] [.int z])) := c4.trans (st5 _ (Steps.refl _))
  have c7 : Steps p.tables e below (s₁.setTop (entryFrame m #[.ref a, .ref b, .int (Int32.ofNat o), .int (Int32.ofNat len), .null] 6)) (T5.setTop (mkF m 36 #[.val (.ref a), .val (.ref b), .val (.int (Int32.ofNat o)), .val (.int (Int32.ofNat len)), .val .null, .unset] [.int (Int32.ofNat len), .int (Int32.ofNat o), .ref b])) := c6.trans (by
    refine XS.ifNo X5.here hexec rfl (hb hbytes d30) rfl (i0_eq_f hz) ?_
    refine XS.aloadN X5.here hexec rfl (hb hbytes d33) rfl rfl ?_
    refine XS.iloadN X5.here hexec rfl (hb hbytes d34) rfl ?_
    refine XS.iloadN X5.here hexec rfl (hb hbytes d35) rfl ?_
    exact Steps.refl _)
  obtain ⟨v8, T8, X8, E8, g8⟩ := X5.callS hexec (Cmp3.law l b A o len) hown (wks W (staticW "java/lang/String" 177 Cmp3.yN)) (wk W Cmp3.tab) (W := 0) (Nat.le_of_ble_eq_true rfl) (Nat.le_of_ble_eq_true rfl) (Nat.le_refl _) (by show 0 + len ≤ len; omega) (g := (mkF m 36 #[.val (.ref a), .val (.ref b), .val (.int (Int32.ofNat o)), .val (.int (Int32.ofNat len)), .val .null, .unset] [.int (Int32.ofNat len), .int (Int32.ofNat o), .ref b])) rfl (by rw [hml]; rfl) c7 (argsL := [.ref b, .int (Int32.ofNat o), .int (Int32.ofNat len)]) (rest := []) rfl rfl (by show 2 * 0 + 0 ≤ _; decide) (hb hbytes d36) (⟨rfl, hA.mv X5.warmed.alike hh5, l1, l2, hp⟩)
  obtain ⟨e8, z8⟩ := E8
  obtain ⟨rfl, N, n1, n2, n3, n4, n5, n6⟩ := NewArr.mv _ T5 s _ _ hh5.symm (Vm.Alike.refl _) rfl e8
  rw [hh5] at z8
  have hB1 := hB.keep X8.warmed.alike (n6 _ _ hB.1)
  have hne : s.heap.size ≠ a := (Nat.ne_of_lt (Array.getElem?_eq_some_iff.mp hB.1).1).symm
  have c9 : Steps p.tables e below (s₁.setTop (entryFrame m #[.ref a, .ref b, .int (Int32.ofNat o), .int (Int32.ofNat len), .null] 6)) (T8.setTop (mkF m 39 #[.val (.ref a), .val (.ref b), .val (.int (Int32.ofNat o)), .val (.int (Int32.ofNat len)), .val .null, .unset] [.ref s.heap.size])) := g8
  have c10 : Steps p.tables e below (s₁.setTop (entryFrame m #[.ref a, .ref b, .int (Int32.ofNat o), .int (Int32.ofNat len), .null] 6)) (T8.setTop (mkF m 45 #[.val (.ref a), .val (.ref b), .val (.int (Int32.ofNat o)), .val (.int (Int32.ofNat len)), .val .null, .val (.ref s.heap.size)] [.int (Int32.ofNat N.slots.size), .ref s.heap.size, .ref a])) := by
    have hc : Steps p.tables e below (s₁.setTop (entryFrame m #[.ref a, .ref b, .int (Int32.ofNat o), .int (Int32.ofNat len), .null] 6)) (T8.setTop (mkF m 45 #[.val (.ref a), .val (.ref b), .val (.int (Int32.ofNat o)), .val (.int (Int32.ofNat len)), .val .null, .val (.ref s.heap.size)] [.int (Int32.ofNat len), .ref s.heap.size, .ref a])) := c9.trans (by
      refine XS.astore X8.here hexec rfl (hb hbytes d39) rfl rfl rfl ?_
      refine XS.aloadN X8.here hexec rfl (hb hbytes d41) rfl rfl ?_
      refine XS.aload X8.here hexec rfl (hb hbytes d42) rfl rfl ?_
      refine XS.iloadN X8.here hexec rfl (hb hbytes d44) rfl ?_
      exact Steps.refl _)
    rw [n4]; exact hc
  obtain ⟨v11, T11, X11, E11, g11⟩ := X8.callS hexec (CodL.law l s.heap.size N) hown (wks W (staticW "java/lang/String" 47 CodL.yN)) (wk W CodL.tab) (W := 1) (Nat.le_of_ble_eq_true rfl) (Nat.le_of_ble_eq_true rfl) (Nat.le_refl _) (by show 0 + len + 0 ≤ len; omega) (g := (mkF m 45 #[.val (.ref a), .val (.ref b), .val (.int (Int32.ofNat o)), .val (.int (Int32.ofNat len)), .val .null, .val (.ref s.heap.size)] [.int (Int32.ofNat N.slots.size), .ref s.heap.size, .ref a])) rfl (by rw [hml]; rfl) c10 (argsL := [.ref s.heap.size, .int (Int32.ofNat N.slots.size)]) (rest := [.ref a]) rfl rfl (by show 2 * 0 + (1 + 0) ≤ _; decide) (hb hbytes d45) (⟨rfl, n1⟩)
  obtain ⟨rfl, q11⟩ := E11
  have hB11 := hB1.mv (X8.warmed.alike.symm.trans X11.warmed.alike) q11
  have c12 : Steps p.tables e below (s₁.setTop (entryFrame m #[.ref a, .ref b, .int (Int32.ofNat o), .int (Int32.ofNat len), .null] 6)) (T11.setTop (mkF m 48 #[.val (.ref a), .val (.ref b), .val (.int (Int32.ofNat o)), .val (.int (Int32.ofNat len)), .val .null, .val (.ref s.heap.size)] [.int 0, .ref a])) := g11
  obtain ⟨T13, X13, p13, bl13, sl13, st13⟩ := X11.finit hexec hown (wk W (.fieldLink "java/lang/String" 15 "java/lang/String" "coder" "B")) (Or.inr ⟨_, (wk W (.laysFinal "java/lang/String" "java/lang/String" "coder" "B"))⟩) (Or.inl ⟨rfl, hnm⟩) f2 (Or.inl rfl) hB11 (t := .byte) (by decide +kernel) rfl (g := (mkF m 48 #[.val (.ref a), .val (.ref b), .val (.int (Int32.ofNat o)), .val (.int (Int32.ofNat len)), .val .null, .val (.ref s.heap.size)] [.int 0, .ref a])) rfl (rest := []) rfl (hb hbytes d48)
  have c14 : Steps p.tables e below (s₁.setTop (entryFrame m #[.ref a, .ref b, .int (Int32.ofNat o), .int (Int32.ofNat len), .null] 6)) (T13.setTop (mkF m 54 #[.val (.ref a), .val (.ref b), .val (.int (Int32.ofNat o)), .val (.int (Int32.ofNat len)), .val .null, .val (.ref s.heap.size)] [.ref s.heap.size, .ref a])) := (c12.trans (st13 _ (Steps.refl _))).trans (by
    refine XS.aloadN X13.here hexec rfl (hb hbytes d51) rfl rfl ?_
    refine XS.aload X13.here hexec rfl (hb hbytes d52) rfl rfl ?_
    exact Steps.refl _)
  obtain ⟨T15, X15, p15, bl15, sl15, st15⟩ := X13.finit hexec hown (wk W (.fieldLink "java/lang/String" 9 "java/lang/String" "value" "[B")) (Or.inr ⟨_, (wk W (.laysFinal "java/lang/String" "java/lang/String" "value" "[B"))⟩) (Or.inl ⟨rfl, hnm⟩) f1 (Or.inl rfl) bl13 (t := (.array .byte)) (by decide +kernel) rfl (g := (mkF m 54 #[.val (.ref a), .val (.ref b), .val (.int (Int32.ofNat o)), .val (.int (Int32.ofNat len)), .val .null, .val (.ref s.heap.size)] [.ref s.heap.size, .ref a])) rfl (rest := []) rfl (hb hbytes d54)
  have c16 : Steps p.tables e below (s₁.setTop (entryFrame m #[.ref a, .ref b, .int (Int32.ofNat o), .int (Int32.ofNat len), .null] 6)) (T15.setTop (mkF m 57 #[.val (.ref a), .val (.ref b), .val (.int (Int32.ofNat o)), .val (.int (Int32.ofNat len)), .val .null, .val (.ref s.heap.size)] [])) := c14.trans (st15 _ (Steps.refl _))
  have ap := apart (Or.inr ⟨_, (wk W (.laysFinal "java/lang/String" "java/lang/String" "value" "[B"))⟩) (Or.inr ⟨_, (wk W (.laysFinal "java/lang/String" "java/lang/String" "coder" "B"))⟩) f1 f2 (t₁ := .array .byte) (t₂ := .byte) (by decide +kernel) (by decide +kernel) (by decide)
  have al := X8.warmed.alike.symm.trans X15.warmed.alike
  have n7 : T11.heap[s.heap.size]? = some N := by rw [q11]; exact n1.1
  exact ⟨T15, none, _, _, _, X15, by simp, rfl, by omega, (fun _ => rfl), ⟨rfl, _, N, bl15, ((Same.refl D _).set _ (by simp)).set _ (by simp), sl15, (Cell.slots_setSlot_ne _ ap).trans sl13, n1.keep al (p15.other hne (p13.other hne n7)), n2, by rw [al.findClass]; exact n3, n4, n5, fun y c h1 h2 => p15.other h1 (p13.other h1 (by rw [q11]; exact n6 y c h2)), by rw [p15.2.2, p13.2.2, q11]; exact z8⟩, fun fs hl => c16.trans (X15.returnOut hexec hret (hb hbytes d57) hl)⟩
end New4
namespace New1
def yN : MethodName := ⟨"java/lang/String", "<init>", "([C)V"⟩
abbrev yB : ByteArray := jdk_42_method_3_code
theorem d0 : decode yB 0 = .ok (.aload_n 0, 1) := by decide +kernel
theorem d1 : decode yB 1 = .ok (.aload_n 1, 1) := by decide +kernel
theorem d2 : decode yB 2 = .ok (.iconst 0, 1) := by decide +kernel
theorem d3 : decode yB 3 = .ok (.aload_n 1, 1) := by decide +kernel
theorem d4 : decode yB 4 = .ok (.arraylength, 1) := by decide +kernel
theorem d5 : decode yB 5 = .ok (.aconst_null, 1) := by decide +kernel
theorem d6 : decode yB 6 = .ok (.invokespecial 27, 3) := by decide +kernel
theorem d9 : decode yB 9 = .ok (.return_, 1) := by decide +kernel
def site : List Cond := [New4.tab] ++ initW "java/lang/String" 27 New4.yN
def tab : Cond := tabOf yN yB 2 none site
def P (a : Addr) (D : Cell) (fV fC : Field) (b : Addr) (A : Cell) (z : Int32) (args : Array Value) (s : State) : Prop := args = #[.ref a, .ref b] ∧ Blank "java/lang/String" a D s ∧ Found "java/lang/String" "value" "[B" fV s ∧ Found "java/lang/String" "coder" "B" fC s ∧ Ch b A s ∧ StaticIs s "java/lang/String" "COMPACT_STRINGS" "Z" (.int z) ∧ ¬ z = 0 ∧ 0 < A.slots.size ∧ A.slots.size ≤ 536870912 ∧ ∀ i, i < A.slots.size → ¬ 255 < cv A i
def E (a : Addr) (D : Cell) (fV fC : Field) (A : Cell) (r : Option Value) (s u : State) : Prop := Got a D fV fC A 0 A.slots.size r s u
/-- new String(chars), not empty, no char above 255: a Latin-1 String of their low bytes -/
theorem law (l : Launch) (a : Addr) (D : Cell) (fV fC : Field) (b : Addr) (A : Cell) (z : Int32) : Law l yN 2 1 3 52 yB 2 none site (P a D fV fC b A z) (E a D fV fC A) [⟨a, fC.slot⟩, ⟨a, fV.slot⟩] 1 A.slots.size := by
  refine Law.of_walk (plainFor_of_name (by decide +kernel)) (by decide +kernel) (by decide +kernel) (by decide) (fun _ _ h => by rw [h.1]; rfl) (fun _ U U' hal hh h => ⟨h.1, h.2.1.mv hal hh, h.2.2.1.al hal, h.2.2.2.1.al hal, h.2.2.2.2.1.mv hal hh, h.2.2.2.2.2.1.there hal hh, h.2.2.2.2.2.2⟩) (fun r U U' V V' h1 hal h2 h => Got.mv r U U' V V' h1 hal h2 h) ?_
  intro p e s m args below meth c s₁ X0 hexec hbytes hml hret hlk hnm hown hh0 W hP
  obtain ⟨rfl, hB, f1, f2, hA, s1, hz, l0, l2, hp⟩ := hP
  have c1 : Steps p.tables e below (s₁.setTop (entryFrame m #[.ref a, .ref b] 2)) (s₁.setTop (mkF m 0 #[.val (.ref a), .val (.ref b)] [])) := entry rfl
  have c2 : Steps p.tables e below (s₁.setTop (entryFrame m #[.ref a, .ref b] 2)) (s₁.setTop (mkF m 6 #[.val (.ref a), .val (.ref b)] [.null, .int (Int32.ofNat A.slots.size), .int 0, .ref b, .ref a])) := c1.trans (by
    refine XS.aloadN X0.here hexec rfl (hb hbytes d0) rfl rfl ?_
    refine XS.aloadN X0.here hexec rfl (hb hbytes d1) rfl rfl ?_
    refine iconstV X0.here hexec rfl 0 (hb hbytes d2) (by decide) ?_
    refine XS.aloadN X0.here hexec rfl (hb hbytes d3) rfl rfl ?_
    refine X0.alen hexec (hA.1.mv X0.warmed.alike hh0) rfl rfl (hb hbytes d4) ?_
    refine XS.aconstNull X0.here hexec rfl (hb hbytes d5) ?_
    exact Steps.refl _)
  obtain ⟨v3, T3, X3, E3, g3⟩ := X0.callN hexec (New4.law l a D fV fC b A z 0 A.slots.size) rfl hown (wks W (initW "java/lang/String" 27 New4.yN)) (W New4.tab (by simp only [site, List.mem_cons, List.mem_append, true_or, or_true])) (W := 0) (Nat.le_of_ble_eq_true rfl) (Nat.le_of_ble_eq_true rfl) (Nat.le_refl _) (by show 0 + A.slots.size ≤ A.slots.size; omega) (g := (mkF m 6 #[.val (.ref a), .val (.ref b)] [.null, .int (Int32.ofNat A.slots.size), .int (Int32.ofNat 0), .ref b, .ref a])) rfl (by rw [hml]; rfl) c2 (argsL := [.ref b, .int (Int32.ofNat 0), .int (Int32.ofNat A.slots.size), .null]) (rest := []) rfl rfl (by show 2 * 0 + 0 ≤ _; decide) (hb hbytes d6) (⟨rfl, hB.mv X0.warmed.alike hh0, f1.al X0.warmed.alike, f2.al X0.warmed.alike, hA.mv X0.warmed.alike hh0, s1.there X0.warmed.alike hh0, hz, l0, by omega, l2, fun i hi => by rw [Nat.zero_add]; exact hp i hi⟩)
  have e0 := Got.mv _ s₁ s _ _ hh0.symm (Vm.Alike.refl _) rfl E3
  obtain rfl := e0.1
  have c4 : Steps p.tables e below (s₁.setTop (entryFrame m #[.ref a, .ref b] 2)) (T3.setTop (mkF m 9 #[.val (.ref a), .val (.ref b)] [])) := g3
  exact ⟨T3, none, _, _, _, X3, by simp, rfl, by omega, (fun _ => rfl), e0, fun fs hl => c4.trans (X3.returnOut hexec hret (hb hbytes d9) hl)⟩
theorem pays {l : Launch} {R : Room} {p : Program} {e : Env} {below : List Frame} {s : State} {sargs : Array Value} {len W : Nat} (a : Addr) (D : Cell) (fV fC : Field) (b : Addr) (A : Cell) (z : Int32) (htab : tab.before sargs s = true) (hfr : 4 ≤ R.frames) (hlo : W + 65 ≤ R.locals) :
    Back l R p e below s sargs yN len W (fun A₁ a₁ => A₁.cells + 1 ≤ R.cells ∧ A₁.slots + A.slots.size ≤ R.slots ∧ P a D fV fC b A z a₁ A₁.U) (fun A₁ _ v₁ B₁ => E a D fV fC A v₁ A₁.U B₁.U ∧ B₁.locs = A₁.locs ++ [⟨a, fC.slot⟩, ⟨a, fV.slot⟩] ∧ B₁.cells = A₁.cells + 1 ∧ B₁.slots = A₁.slots + A.slots.size) :=
  (law l a D fV fC b A z).pays htab hfr (by omega)
end New1
/-- the byte, read back as charAt reads it, is the char -/
theorem lo8_mask {x : Int32} (h0 : ¬ x < 0) (h1 : ¬ 255 < x) : lo8 x &&& 255 = x := by
  have t : ∀ k : Fin 256, lo8 (Int32.ofNat k.val) &&& 255 = Int32.ofNat k.val := by decide +kernel
  rw [Int32.lt_iff_toInt_lt] at h0 h1
  have e0 : (0 : Int32).toInt = 0 := rfl
  have e1 : (255 : Int32).toInt = 255 := rfl
  obtain ⟨k, hk⟩ : ∃ k : Nat, x.toInt = k := ⟨x.toInt.toNat, by omega⟩
  have hx : x = Int32.ofNat k := Int32.toInt_inj.mp (by rw [hk, Int32.toInt_ofNat_small (by omega)])
  rw [hx]
  exact t ⟨k, by omega⟩
end StrChars
namespace StrChars.Road
open Jvm Sem ClassFile Op Lib Jvm.Stand Jvm.Free Jvm.Free.XT
open Jvm.Lib.Cold (StaticIs)
abbrev ST : String := "java/lang/String"
/-- every table word that New1's law asks, flat -/
abbrev words : List Jvm.Cond := [.code New1.yN New1.yB 2 none, .initialized ST, .methodLink ST 27 New4.yN, .instanceMethod New4.yN,
  .code New4.yN New4.yB 6 none, .fieldLink ST 38 ST "COMPACT_STRINGS" "Z", .laysFinal ST ST "value" "[B", .fieldLink ST 9 ST "value" "[B", .laysFinal ST ST "coder" "B", .fieldLink ST 15 ST "coder" "B",
  .methodLink ST 1 Lib.objectInit, .instanceMethod Lib.objectInit, .code Lib.objectInit ⟨#[0xb1]⟩ 1 none, .methodLink ST 177 Cmp3.yN, .static Cmp3.yN, .methodLink ST 47 CodL.yN, .static CodL.yN,
  .code Cmp3.yN Cmp3.yB 6 (some (.array .byte)), .initialized U16, .arrayClass .byte, .methodLink U16 115 Cmp5.yN, .static Cmp5.yN, .code Cmp5.yN Cmp5.yB 7 (some .int), .code CodL.yN CodL.yB 2 (some .byte)]
theorem tab_of {a : Array Value} {s : State} (h : ∀ w ∈ words, w.before a s = true) : New1.tab.before a s = true := by
  have h5 : Cmp5.tab.before a s = true := unparts (wk h (.code Cmp5.yN Cmp5.yB 7 (some .int))) (wks h (.initialized Cmp5.yN.cls :: Cmp5.site))
  have hc : CodL.tab.before a s = true := unparts (wk h (.code CodL.yN CodL.yB 2 (some .byte))) (wks h (.initialized CodL.yN.cls :: CodL.site))
  have q5 : ∀ w ∈ Cmp5.tab :: words, w.before a s = true := fun w hw => (List.mem_cons.mp hw).elim (fun e => e ▸ h5) (h w)
  have h3 : Cmp3.tab.before a s = true := unparts (wk q5 (.code Cmp3.yN Cmp3.yB 6 (some (.array .byte)))) (wks q5 (.initialized Cmp3.yN.cls :: Cmp3.site))
  have q3 : ∀ w ∈ Cmp3.tab :: CodL.tab :: words, w.before a s = true := fun w hw => (List.mem_cons.mp hw).elim (fun e => e ▸ h3) fun hw => (List.mem_cons.mp hw).elim (fun e => e ▸ hc) (h w)
  have h4 : New4.tab.before a s = true := unparts (wk q3 (.code New4.yN New4.yB 6 none)) (wks q3 (.initialized New4.yN.cls :: New4.site))
  have q4 : ∀ w ∈ New4.tab :: words, w.before a s = true := fun w hw => (List.mem_cons.mp hw).elim (fun e => e ▸ h4) (h w)
  exact unparts (wk q4 (.code New1.yN New1.yB 2 none)) (wks q4 (.initialized New1.yN.cls :: New1.site))
/-- the words ride from the start Z to the walk's own state -/
theorem moved {Z s : State} {a0 args : Array Value} (hZ : Z.Warmed39 s.vm) (hw : ∀ d ∈ words, d.before a0 Z = true) : ∀ d ∈ words, d.before args s = true := fun d hd => by
  have q := hw d hd
  have t : ∀ d ∈ words, d = .arrayClass .byte ∨ (d.onTables && d.keepsFace) = true := by decide +kernel
  rcases t d hd with rfl | t
  · exact RoadKit.mvA hZ q
  · exact RoadKit.mv hZ q t
/-- WHAT COMES BACK, over the tables of the start Z: h the heap at the call, h' behind it -/
def Q (Z : State) (x : Addr) (A : Cell) (h : Heap) (v : Option Value) (h' : Heap) (L : List Loc) : Prop := v = none ∧ (∀ y ∈ L, y.base = x) ∧ RoadKit.Keep h h' [x] ∧ h'.size = h.size + 1 ∧ RoadKit.Exa Z h' x ST ∧ RoadKit.Fld Z h' x ST "value" "[B" (.ref h.size) ∧ RoadKit.Fld Z h' x ST "coder" "B" (.int 0) ∧
  (∃ V : Cell, RoadKit.Arr Z h' h.size V .byte ∧ V.vm = .none ∧ Z.vm.findClass "[B" = some V.cls ∧ V.slots.size = A.slots.size ∧ ∀ j, j < A.slots.size → V.slots[j]? = some (.int (lo8 (cv A j)))) ∧
  ∀ (O n d : String) (w : Value), RoadKit.Fld Z h x O n d w → RoadKit.slotOf Z O n d ≠ RoadKit.slotOf Z ST "value" "[B" → RoadKit.slotOf Z O n d ≠ RoadKit.slotOf Z ST "coder" "B" → RoadKit.Fld Z h' x O n d w
/-- **new String(chars) AT A CALL, IN THE ROAD'S FORM**: for specialBack behind newO: x the fresh String, b the char[] with the cell A -/
theorem back {p : Program} {l : Launch} {e : Env} {R : Room} {s : State} {args : Array Value} {below : List Frame} {len W : Nat} {Z : State} {a0 : Array Value} {h : Heap} (hZ : Z.Warmed39 s.vm) (hw : ∀ d ∈ words, d.before a0 Z = true) {kI : Nat} (wi : (Jvm.Cond.instantiable ST kI).before a0 Z = true)
    {x b : Addr} {A : Cell} {z : Int32} {v0 c0 : Value} (E : RoadKit.Exa Z h x ST) (V : RoadKit.Fld Z h x ST "value" "[B" v0) (C : RoadKit.Fld Z h x ST "coder" "B" c0) (K : RoadKit.Arr Z h b A .char) (hty : Typed .char A) (S : RoadKit.Sta Z h ST "COMPACT_STRINGS" "Z" (.int z)) (hz : ¬ z = 0)
    (l0 : 0 < A.slots.size) (l2 : A.slots.size ≤ 536870912) (hp : ∀ i, i < A.slots.size → ¬ 255 < cv A i) (hfr : 4 ≤ R.frames) (hlo : W + 65 ≤ R.locals) :
    Back l R p e below s args New1.yN len W (fun P a => a = #[.ref x, .ref b] ∧ P.U.heap = h ∧ P.cells + 1 ≤ R.cells ∧ P.slots + A.slots.size ≤ R.slots)
      (fun P _ v B => ∃ L, Q Z x A h v B.U.heap L ∧ B.locs = P.locs ++ L ∧ B.cells = P.cells + 1 ∧ B.slots = P.slots + A.slots.size) := by
  intro m meth c P g ig mk a X hg hsize hdg hW hn hp'
  obtain ⟨rfl, rfl, r1, r2⟩ := hp'
  have al : Z.vm.Alike P.U.vm := hZ.alike.trans X.warmed.alike
  obtain ⟨D, cfV, kV, iV, fV, hD, gV, stV, knV, obV, asV, slV⟩ := id V
  obtain ⟨D', cfC, kC, iC, fC, hD', gC, stC, -, -, asC, slC⟩ := id C
  cases hD.symm.trans hD'
  obtain ⟨D2, kD, e1, e2, e3, e4, e5⟩ := id E
  cases hD.symm.trans e1
  obtain ⟨c2, k2, i1, i2, i3, -⟩ := Cond.instantiable_spec wi
  cases e2.symm.trans i1
  cases e3.symm.trans i2
  obtain ⟨kU, u1, u2⟩ := al.2.2 _ _ e3
  have hB : Blank ST x D P.U := ⟨hD, ⟨knV, fun q hq => by rw [hq] at obV; cases obV⟩, by rw [al.findClass]; exact e2, kU, u1, by rw [u2]; exact i3, by rw [u2]; exact e5 i3⟩
  have F1 : Found ST "value" "[B" fV P.U := ⟨SBG.found_only al ⟨cfV, kV, iV, gV⟩, stV⟩
  have F2 : Found ST "coder" "B" fC P.U := ⟨SBG.found_only al ⟨cfC, kC, iC, gC⟩, stC⟩
  have hA : Ch b A P.U := ⟨⟨K.1, State.isArrayOf_alike al K.2.1, K.2.2, by omega⟩, hty⟩
  have hS : StaticIs P.U ST "COMPACT_STRINGS" "Z" (.int z) := by
    obtain ⟨cfS, iS, kS, fS, st, cS, t1, t2, t3, t4, t5, t6, t7⟩ := S
    exact StaticIs.there (s := { Z with heap := P.U.heap }) ⟨cfS, iS, kS, fS, st, cS, t1, t2, t3, t4, t5, (fun q => by rw [q] at t6; cases t6), t7⟩ al rfl
  obtain ⟨v, B, X', ⟨⟨hv, E', V', q1, q2, q3, q4, q5, q6, q7, q8, q9, q10, q11⟩, hl, hc, hs⟩, st⟩ := New1.pays x D fV fC b A z (tab_of (moved hZ hw)) hfr hlo m meth c P g ig mk _ X hg hsize hdg hW hn ⟨r1, r2, rfl, hB, F1, F2, hA, hS, hz, l0, l2, hp⟩
  have al' : Z.vm.Alike B.U.vm := hZ.alike.trans X'.warmed.alike
  have hsz : E'.slots.size = D.slots.size := by
    obtain ⟨-, -, -, kB, w1, w2, w3⟩ := q1
    obtain ⟨kB', y1, y2⟩ := al'.2.2 _ _ e3
    rw [q2.2.1] at w1
    cases w1.symm.trans y1
    rw [w3, e5 i3, y2]
  refine ⟨v, B, X', ⟨_, ⟨hv, ?_, ⟨by omega, fun y cy hy hn' => q10 y cy (by simpa using hn') hy, fun y cy hy => ?_⟩, q11, ⟨E', _, q1.1, by rw [q2.2.1]; exact e2, by rw [q2.2.1]; exact e3, by rw [q2.1]; exact obV, fun _ => by rw [hsz]; exact e5 i3⟩,
    ⟨E', cfV, kV, iV, fV, q1.1, gV, stV, by rw [q2.1]; exact knV, by rw [q2.1]; exact obV, by rw [q2.2.1]; exact asV, q3⟩, ⟨E', cfC, kC, iC, fC, q1.1, gC, stC, by rw [q2.1]; exact knV, by rw [q2.1]; exact obV, by rw [q2.2.1]; exact asC, q4⟩,
    ⟨V', ⟨q5.1, State.isArrayOf_alike al'.symm q5.2.1, q5.2.2.1⟩, q6, by rw [← al'.findClass]; exact q7, q8, fun j hj => by have := q9 j hj; rwa [Nat.zero_add] at this⟩, fun O n d w F n1 n2 => ?_⟩, hl, hc, hs⟩, st⟩
  · intro y hy
    simp only [List.mem_cons, List.not_mem_nil, or_false] at hy
    rcases hy with rfl | rfl <;> rfl
  · by_cases q : y = x
    · subst q
      cases hD.symm.trans hy
      exact ⟨E', q1.1, q2.2.1, q2.1, hsz⟩
    · exact ⟨cy, q10 y cy q hy, rfl, rfl, rfl⟩
  · obtain ⟨D3, cf, k, i, f, g1, g2, g3, g4, g5, g6, g7⟩ := F
    cases hD.symm.trans g1
    simp only [RoadKit.slotOf, g2, gV, gC, Option.map_some, Option.getD_some] at n1 n2
    exact ⟨E', cf, k, i, f, q1.1, g2, g3, by rw [q2.1]; exact g4, by rw [q2.1]; exact g5, by rw [q2.2.1]; exact g6, by rw [q2.2.2 f.slot (by simp [n1, n2])]; exact g7⟩
end StrChars.Road
namespace StrChars.Road
open Jvm Sem ClassFile Op Lib Jvm.Stand Jvm.Free Jvm.Free.XT
/-- WHAT COMES BACK, the byte[] as a list of values -/
def QA (Z : State) (x : Addr) (zn : Int32) (cs : List Int32) (h : Heap) (v : Option Value) (h' : Heap) (L : List Loc) : Prop := v = none ∧ (∀ y ∈ L, y.base = x) ∧ RoadKit.Keep h h' [x] ∧ h'.size = h.size + 1 ∧ RoadKit.Exa Z h' x ST ∧ RoadKit.Fld Z h' x ST "value" "[B" (.ref h.size) ∧ RoadKit.Fld Z h' x ST "coder" "B" (.int 0) ∧
  (∃ kb, Z.vm.findClass "[B" = some kb ∧ RoadKit.Arv Z h' h.size kb .byte zn (cs.map fun c => .int (lo8 c)) (.int 0)) ∧
  ∀ (O n d : String) (w : Value), RoadKit.Fld Z h x O n d w → RoadKit.slotOf Z O n d ≠ RoadKit.slotOf Z ST "value" "[B" → RoadKit.slotOf Z O n d ≠ RoadKit.slotOf Z ST "coder" "B" → RoadKit.Fld Z h' x O n d w
/-- **new String(chars) AT A CALL, THE ARRAYS AS LISTS**: the char[] at b holds cs, not empty, no char above 255 -/
theorem backArv {p : Program} {l : Launch} {e : Env} {R : Room} {s : State} {args : Array Value} {below : List Frame} {len W : Nat} {Z : State} {a0 : Array Value} {h : Heap} (hZ : Z.Warmed39 s.vm) (hw : ∀ d ∈ words, d.before a0 Z = true) {kI : Nat} (wi : (Jvm.Cond.instantiable ST kI).before a0 Z = true)
    {x b : Addr} {k : ClassId} {zn z : Int32} {cs : List Int32} {dv v0 c0 : Value} (E : RoadKit.Exa Z h x ST) (V : RoadKit.Fld Z h x ST "value" "[B" v0) (C : RoadKit.Fld Z h x ST "coder" "B" c0) (K : RoadKit.Arv Z h b k .char zn (cs.map Value.int) dv) (S : RoadKit.Sta Z h ST "COMPACT_STRINGS" "Z" (.int z)) (hz : ¬ z = 0)
    (hlen : zn.toNatClampNeg = cs.length) (h0 : 0 < cs.length) (hbig : cs.length ≤ 536870912) (hall : ∀ c ∈ cs, ¬ 255 < c) (hfr : 4 ≤ R.frames) (hlo : W + 65 ≤ R.locals) :
    Back l R p e below s args New1.yN len W (fun P a => a = #[.ref x, .ref b] ∧ P.U.heap = h ∧ P.cells + 1 ≤ R.cells ∧ P.slots + cs.length ≤ R.slots)
      (fun P _ v B => ∃ L, QA Z x zn cs h v B.U.heap L ∧ B.locs = P.locs ++ L ∧ B.cells = P.cells + 1 ∧ B.slots = P.slots + cs.length) := by
  obtain ⟨A, K1, K2, K3, K4, K5, K6⟩ := K
  have e : A.slots.size = cs.length := K3.trans hlen
  have hat : ∀ (i : Nat) (hi : i < cs.length), A.slots[i]? = some (.int cs[i]) := fun i hi => by rw [K5 i (by omega)]; simp [List.getD_eq_getElem?_getD, hi]
  have hcv : ∀ (i : Nat) (hi : i < cs.length), cv A i = cs[i] := fun i hi => by unfold cv; rw [hat i hi]
  have hty : Typed .char A := fun i v hv => by
    have hi : i < A.slots.size := (Array.getElem?_eq_some_iff.mp hv).1
    have q := K5 i hi
    rw [hv] at q
    rw [Option.some.inj q]
    exact K6 i hi
  refine Back.mono (back hZ hw wi E V C K1 hty S hz (by omega) (by omega) (fun i hi => by rw [hcv i (by omega)]; exact hall _ (List.getElem_mem _)) hfr hlo) (fun P a hp => ⟨hp.1, hp.2.1, hp.2.2.1, by rw [e]; exact hp.2.2.2⟩) (fun P a v B hp hq => ?_)
  obtain ⟨L, ⟨q1, q2, q3, q4, q5, q6, q7, ⟨V', v1, v2, v3, v4, v5⟩, q9⟩, hl, hc, hs⟩ := hq
  refine ⟨L, ⟨q1, q2, q3, q4, q5, q6, q7, ⟨V'.cls, v3, V', v1, rfl, by rw [v4, e, hlen], K4, fun i hi => ?_, fun i hi => ?_⟩, q9⟩, hl, hc, by rw [hs, e]⟩
  · have hi' : i < cs.length := by omega
    rw [v5 i (by omega), hcv i hi']; simp [List.getD_eq_getElem?_getD, hi']
  · have hi' : i < cs.length := by omega
    simp only [List.getD_eq_getElem?_getD, List.getElem?_map, List.getElem?_eq_getElem hi', Option.map_some, Option.getD_some]
    exact fits_lo8 _
end StrChars.Road
namespace StrChars.Road
open Jvm Sem ClassFile Op Lib Jvm.Stand Jvm.Free Jvm.Free.XT
/-- WHAT COMES BACK, in the writer's own shape -/
def QV (Z : State) (x : Addr) (N : Int32) (bs : List Int32) (h : Heap) (n0 : Nat) (v : Option Value) (h' : Heap) (L : List Loc) : Prop := v = none ∧ RoadKit.Fr n0 L ∧ RoadKit.Keep h h' [x] ∧ RoadKit.Exa Z h' x ST ∧ RoadKit.Fld Z h' x ST "coder" "B" (.int 0) ∧
  ∃ (t : Addr) (kb : ClassId), n0 ≤ t ∧ h.size ≤ t ∧ ¬ t = x ∧ RoadKit.Fld Z h' x ST "value" "[B" (.ref t) ∧ RoadKit.Arv Z h' t kb .byte N (bs.map Value.int) (.int 0)
/-- **new String(chars) AT A CALL, FOR THE WRITER**: a char[] of n known ints, each 0 to 255 -/
theorem backV {p : Program} {l : Launch} {e : Env} {R : Room} {s : State} {args : Array Value} {below : List Frame} {len W : Nat} {Z : State} {a0 : Array Value} {h : Heap} (hZ : Z.Warmed39 s.vm) (hw : ∀ d ∈ words, d.before a0 Z = true) {kI : Nat} (wi : (Jvm.Cond.instantiable ST kI).before a0 Z = true)
    {x b : Addr} {kC : ClassId} {cs bs : List Int32} {d v0 c0 : Value} {z N : Int32} {n n0 : Nat} (hx0 : n0 ≤ x) (hh0 : n0 ≤ h.size) (E : RoadKit.Exa Z h x ST) (V : RoadKit.Fld Z h x ST "value" "[B" v0) (C : RoadKit.Fld Z h x ST "coder" "B" c0) (K : RoadKit.Arv Z h b kC .char N (cs.map Value.int) d) (S : RoadKit.Sta Z h ST "COMPACT_STRINGS" "Z" (.int z)) (hz : ¬ z = 0)
    (hn : cs.length = n) (hN : N = Int32.ofNat n) (l0 : 0 < n) (l2 : n ≤ 4000) (hp : ∀ c ∈ cs, ¬ c < 0 ∧ ¬ (255 : Int32) < c) (hb : bs = cs.map (fun c => c.toInt8.toInt32)) (hfr : 4 ≤ R.frames) (hlo : W + 65 ≤ R.locals) :
    Back l R p e below s args (⟨"java/lang/String", "<init>", "([C)V"⟩ : MethodName) len W (fun P a => a = #[.ref x, .ref b] ∧ P.U.heap = h ∧ P.cells + 1 ≤ R.cells ∧ P.slots + n ≤ R.slots)
      (fun P _ v B => ∃ L, QV Z x N bs h n0 v B.U.heap L ∧ B.locs = P.locs ++ L ∧ B.cells = P.cells + 1 ∧ B.slots = P.slots + n) := by
  subst hn hN hb
  refine Back.mono (backArv hZ hw wi E V C K S hz (n32 (by omega)) l0 (by omega) (fun c hc => (hp c hc).2) hfr hlo) (fun P a hp => hp) (fun P a v B hp hq => ?_)
  obtain ⟨L, ⟨q1, q2, q3, q4, q5, q6, q7, ⟨kb, v1, v2⟩, q9⟩, hl, hc, hs⟩ := hq
  exact ⟨L, ⟨q1, fun y hy => by rw [q2 y hy]; exact hx0, q3, q5, q7, h.size, kb, hh0, Nat.le_refl _, Nat.ne_of_gt E.lt, q6, by rw [List.map_map]; exact v2⟩, hl, hc, hs⟩
end StrChars.Road
namespace StrChars
open Jvm Sem ClassFile Op Lib Jvm.Stand Jvm.Free.XT Jvm.Free.ALB Jvm.Free.JM Jvm.Free
open Jvm.Lib.Cold (StaticIs)
def hi8 (x : Int32) : Int32 := lo8 (x >>> ((8 : Int32) &&& 31))
/-- what StringUTF16.getChar makes of two bytes -/
def pairCh (u v : Int32) : Int32 := (((u &&& 255) <<< ((0 : Int32) &&& 31)) ||| ((v &&& 255) <<< ((8 : Int32) &&& 31))).toUInt32.toUInt16.toUInt32.toInt32
theorem lo8_and (x : Int32) : (lo8 x &&& 255).toBitVec.toNat = x.toBitVec.toNat % 256 := by
  have h : (lo8 x).toBitVec = (x.toBitVec.signExtend 8).signExtend 32 := by rw [lo8, Int8.toBitVec_toInt32, Int32.toBitVec_toInt8]
  rw [Int32.toBitVec_and, BitVec.toNat_and, h]
  have e : ((x.toBitVec.signExtend 8).signExtend 32).toNat % 256 = x.toBitVec.toNat % 256 := by
    rw [BitVec.toNat_signExtend]
    have hlt := x.toBitVec.isLt
    simp only [BitVec.toNat_setWidth, BitVec.toNat_signExtend]
    split <;> split <;> omega
  rw [← e]
  exact Nat.and_two_pow_sub_one_eq_mod _ 8
theorem pair_says {c : Int32} (h0 : ¬ c < 0) (h1 : ¬ 65535 < c) : pairCh (lo8 c) (hi8 c) = c := by
  rw [Int32.lt_iff_toInt_lt] at h0 h1
  have e0 : (0 : Int32).toInt = 0 := rfl
  have e1 : (65535 : Int32).toInt = 65535 := rfl
  have hc : c.toInt = c.toBitVec.toNat := by
    have := c.toBitVec.isLt
    have e : c.toInt = c.toBitVec.toInt := rfl
    rw [e] at h0 h1
    rw [e]
    rw [BitVec.toInt_eq_toNat_cond] at h0 h1 ⊢
    split at h0 <;> split <;> omega
  have hn : c.toBitVec.toNat < 65536 := by omega
  have a1 := lo8_and c
  have a2 : (hi8 c &&& 255).toBitVec.toNat = c.toBitVec.toNat / 256 := by
    rw [hi8, lo8_and]
    have e : ((8 : Int32) &&& 31) = 8 := by decide
    rw [e, Int32.toBitVec_shiftRight]
    have e2 : ((8 : Int32).toBitVec.smod 32) = 8#32 := by decide
    rw [e2, BitVec.sshiftRight_eq', BitVec.toNat_sshiftRight_of_msb_false (by rw [BitVec.msb_eq_false_iff_two_mul_lt]; omega)]
    show c.toBitVec.toNat >>> 8 % 256 = _
    rw [Nat.shiftRight_eq_div_pow]
    omega
  unfold pairCh
  apply Int32.toBitVec_inj.mp
  apply BitVec.eq_of_toNat_eq
  have f0 : ((0 : Int32) &&& 31) = 0 := by decide
  have f8 : ((8 : Int32) &&& 31) = 8 := by decide
  rw [f0, f8]
  have g : (((lo8 c &&& 255) <<< (0 : Int32)) ||| ((hi8 c &&& 255) <<< (8 : Int32))).toBitVec.toNat = c.toBitVec.toNat := by
    rw [Int32.toBitVec_or, Int32.toBitVec_shiftLeft, Int32.toBitVec_shiftLeft]
    have s0 : ((0 : Int32).toBitVec.smod 32) = 0#32 := by decide
    have s8 : ((8 : Int32).toBitVec.smod 32) = 8#32 := by decide
    rw [s0, s8, BitVec.toNat_or]
    simp only [BitVec.shiftLeft_eq', BitVec.toNat_shiftLeft, a1, a2]
    show (c.toBitVec.toNat % 256) <<< 0 % 2 ^ 32 ||| (c.toBitVec.toNat / 256) <<< 8 % 2 ^ 32 = _
    rw [Nat.shiftLeft_zero, Nat.mod_eq_of_lt (show c.toBitVec.toNat % 256 < 2 ^ 32 by omega), Nat.mod_eq_of_lt (show (c.toBitVec.toNat / 256) <<< 8 < 2 ^ 32 by rw [Nat.shiftLeft_eq]; omega), Nat.or_comm, ← Nat.shiftLeft_add_eq_or_of_lt (by omega), Nat.shiftLeft_eq]
    omega
  show BitVec.toNat (((((lo8 c &&& 255) <<< (0 : Int32)) ||| ((hi8 c &&& 255) <<< (8 : Int32))).toBitVec.setWidth 16).setWidth 32) = _
  rw [BitVec.toNat_setWidth, BitVec.toNat_setWidth, g]
  omega
end StrChars
namespace StrChars
open Jvm Sem ClassFile Op Lib Jvm.Stand Jvm.Free.XT Jvm.Free.ALB Jvm.Free.JM Jvm.Free
open Jvm.Lib.Cold (StaticIs)
/-- the array's cell V codes the n chars f 0 .. f (n - 1) by the coder cd, as the JDK does: coder 1 just where some char is above 255 -/
def Cod (cd : Int32) (n : Nat) (f : Nat → Int32) (V : Cell) : Prop := (cd = 0 ∧ V.slots.size = n ∧ ∀ j, j < n → V.slots[j]? = some (.int (lo8 (f j))) ∧ ¬ 255 < f j) ∨ (cd = 1 ∧ V.slots.size = 2 * n ∧ (∀ j, j < n → V.slots[2 * j]? = some (.int (lo8 (f j))) ∧ V.slots[2 * j + 1]? = some (.int (hi8 (f j)))) ∧ ∃ j, j < n ∧ 255 < f j)
/-- **x is a String of the n chars f 0 .. f (n - 1)**, Latin-1 or UTF-16; its array at t has the cell V -/
def Txt (x t : Addr) (V : Cell) (cd : Int32) (n : Nat) (f : Nat → Int32) (U : State) : Prop := Exact "java/lang/String" x U ∧ Has x "java/lang/String" "value" "[B" (.ref t) U ∧ Has x "java/lang/String" "coder" "B" (.int cd) U ∧ XT.Arr .byte t V U ∧ Cod cd n f V ∧ ∀ j, j < n → ¬ f j < 0 ∧ ¬ 65535 < f j
theorem Txt.mv {x t : Addr} {V : Cell} {cd : Int32} {n : Nat} {f : Nat → Int32} {U U' : State} (h : Txt x t V cd n f U) (hal : U.vm.Alike U'.vm) (hh : U'.heap = U.heap) : Txt x t V cd n f U' := ⟨h.1.mv hal hh, h.2.1.mv hal hh, h.2.2.1.mv hal hh, h.2.2.2.1.mv hal hh, h.2.2.2.2⟩
end StrChars
namespace StrChars.Road
open Jvm Sem ClassFile Op Lib Jvm.Stand Jvm.Free Jvm.Free.XT
open Jvm.Lib.Cold (StaticIs)
theorem consq {a : Array Value} {s : State} {c : Jvm.Cond} {L : List Jvm.Cond} (h0 : c.before a s = true) (h : ∀ w ∈ L, w.before a s = true) : ∀ w ∈ c :: L, w.before a s = true := fun w hw => (List.mem_cons.mp hw).elim (fun e => e ▸ h0) (h w)
/-- the bytes of the chars cs, low before high -/
def wideBytes : List Int32 → List Value
  | [] => []
  | c :: cs => .int (lo8 c) :: .int (hi8 c) :: wideBytes cs
theorem wide_lo (d : Value) : ∀ (cs : List Int32) (j : Nat), j < cs.length → (wideBytes cs).getD (2 * j) d = .int (lo8 (cs.getD j 0))
  | [], j, h => absurd h (Nat.not_lt_zero j)
  | c :: cs, 0, _ => rfl
  | c :: cs, j + 1, h => by
    have q := wide_lo d cs j (by simpa using h)
    rw [show 2 * (j + 1) = 2 * j + 1 + 1 from by omega]
    simpa [wideBytes] using q
theorem wide_hi (d : Value) : ∀ (cs : List Int32) (j : Nat), j < cs.length → (wideBytes cs).getD (2 * j + 1) d = .int (hi8 (cs.getD j 0))
  | [], j, h => absurd h (Nat.not_lt_zero j)
  | c :: cs, 0, _ => rfl
  | c :: cs, j + 1, h => by
    have q := wide_hi d cs j (by simpa using h)
    rw [show 2 * (j + 1) + 1 = 2 * j + 1 + 1 + 1 from by omega]
    simpa [wideBytes] using q
theorem low_at (d : Value) (cs : List Int32) (j : Nat) (h : j < cs.length) : (cs.map fun c => Value.int (lo8 c)).getD j d = .int (lo8 (cs.getD j 0)) := by
  simp [List.getD_eq_getElem?_getD, h]
/-- an array of N2 bytes vs codes the chars cs by the coder cd -/
def CodA (cs : List Int32) (cd N2 : Int32) (vs : List Value) : Prop := (cd = 0 ∧ N2 = Int32.ofNat cs.length ∧ vs = (cs.map fun c => Value.int (lo8 c)) ∧ ∀ c ∈ cs, ¬ 255 < c) ∨ (cd = 1 ∧ N2 = Int32.ofNat (2 * cs.length) ∧ vs = wideBytes cs ∧ ∃ c ∈ cs, 255 < c)
theorem CodA.cod {cs : List Int32} {cd N2 : Int32} {vs : List Value} {V : Cell} (h : CodA cs cd N2 vs) (hn : 2 * cs.length < 2 ^ 31) (hs : V.slots.size = N2.toNatClampNeg) (hv : RoadKit.Has V vs (.int 0)) : Cod cd cs.length (fun j => cs.getD j 0) V := by
  rcases h with ⟨rfl, rfl, rfl, h⟩ | ⟨rfl, rfl, rfl, c, hc, hw⟩
  · rw [n32 (by omega)] at hs
    exact Or.inl ⟨rfl, hs, fun j hj => ⟨by rw [hv j (by omega), low_at _ _ _ hj], by
      have e : cs.getD j 0 = cs[j] := by simp [List.getD_eq_getElem?_getD, hj]
      show ¬ 255 < cs.getD j 0
      rw [e]; exact h _ (List.getElem_mem _)⟩⟩
  · rw [n32 (by omega)] at hs
    obtain ⟨j, hj, rfl⟩ := List.getElem_of_mem hc
    exact Or.inr ⟨rfl, hs, fun j hj => ⟨by rw [hv _ (by omega), wide_lo _ _ _ hj], by rw [hv _ (by omega), wide_hi _ _ _ hj]⟩, j, hj, by
      have e : cs.getD j 0 = cs[j] := by simp [List.getD_eq_getElem?_getD, hj]
      show 255 < cs.getD j 0
      rw [e]; exact hw⟩
/-- an object of exactly java/lang/String, its two fields found: as the laws ask it -/
theorem strObj {Z U : State} {a0 : Array Value} {kI : Nat} (wi : (Jvm.Cond.instantiable ST kI).before a0 Z = true) (al : Z.vm.Alike U.vm) {x : Addr} {v0 c0 : Value} (E : RoadKit.Exa Z U.heap x ST) (V : RoadKit.Fld Z U.heap x ST "value" "[B" v0) (C : RoadKit.Fld Z U.heap x ST "coder" "B" c0) :
    ∃ (D : Cell) (fV fC : Field), Blank ST x D U ∧ Found ST "value" "[B" fV U ∧ Found ST "coder" "B" fC U ∧ D.slots[fV.slot]? = some v0 ∧ D.slots[fC.slot]? = some c0 ∧ RoadKit.slotOf Z ST "value" "[B" = fV.slot ∧ RoadKit.slotOf Z ST "coder" "B" = fC.slot := by
  obtain ⟨D, cfV, kV, iV, fV, hD, gV, stV, knV, obV, asV, slV⟩ := V
  obtain ⟨D', cfC, kC, iC, fC, hD', gC, stC, -, -, asC, slC⟩ := C
  cases hD.symm.trans hD'
  obtain ⟨D2, kD, e1, e2, e3, e4, e5⟩ := E
  cases hD.symm.trans e1
  obtain ⟨c2, k2, i1, i2, i3, -⟩ := Cond.instantiable_spec wi
  cases e2.symm.trans i1
  cases e3.symm.trans i2
  obtain ⟨kU, u1, u2⟩ := al.2.2 _ _ e3
  exact ⟨D, fV, fC, ⟨hD, ⟨knV, fun q hq => by rw [hq] at obV; cases obV⟩, by rw [al.findClass]; exact e2, kU, u1, by rw [u2]; exact i3, by rw [u2]; exact e5 i3⟩, ⟨SBG.found_only al ⟨cfV, kV, iV, gV⟩, stV⟩, ⟨SBG.found_only al ⟨cfC, kC, iC, gC⟩, stC⟩, slV, slC, by simp [RoadKit.slotOf, gV], by simp [RoadKit.slotOf, gC]⟩
theorem sta_is {Z U : State} (al : Z.vm.Alike U.vm) {C n d : String} {v : Value} (S : RoadKit.Sta Z U.heap C n d v) : StaticIs U C n d v := by
  obtain ⟨cfS, iS, kS, fS, st, cS, t1, t2, t3, t4, t5, t6, t7⟩ := S
  exact StaticIs.there (s := { Z with heap := U.heap }) ⟨cfS, iS, kS, fS, st, cS, t1, t2, t3, t4, t5, (fun q => by rw [q] at t6; cases t6), t7⟩ al rfl
end StrChars.Road
namespace StrChars
open Jvm Sem ClassFile Op Lib Jvm.Stand Jvm.Free.XT Jvm.Free.ALB Jvm.Free.JM Jvm.Free
open Jvm.Lib.Cold (StaticIs)
/-- what place i of a byte[]'s cell holds -/
def yv (A : Cell) (i : Nat) : Int32 := match A.slots[i]? with | some (.int x) => x | _ => 0
theorem yv_get {a : Addr} {A : Cell} {U : State} (h : XT.Arr .byte a A U) (ht : Typed .byte A) {i : Nat} (hi : i < A.slots.size) : A.slots[i]? = some (.int (yv A i)) := by
  have e := Array.getElem?_eq_getElem hi
  have f := ht i _ e
  unfold yv; rw [e]
  generalize A.slots[i] = v at f
  cases v <;> simp [fits] at f ⊢
/-- the two arrays are equal, place for place -/
def EqC (A B : Cell) : Prop := A.slots.size = B.slots.size ∧ ∀ i, i < A.slots.size → yv A i = yv B i
/-- a boolean that says whether p -/
def Says01 (q : Prop) (r : Option Value) (s u : State) : Prop := ∃ v : Int32, r = some (.int v) ∧ u.heap = s.heap ∧ ((v = 1 ∧ q) ∨ (v = 0 ∧ ¬ q))
theorem Says01.mv {q : Prop} : ∀ r (U U' V V' : State), U'.heap = U.heap → V.vm.Alike V'.vm → V'.heap = V.heap → Says01 q r U V → Says01 q r U' V' :=
  fun r U U' V V' h1 _ h2 ⟨v, a, b, c⟩ => ⟨v, a, by rw [h1, h2]; exact b, c⟩
namespace LEq
def yN : MethodName := ⟨"java/lang/StringLatin1", "equals", "([B[B)Z"⟩
abbrev yB : ByteArray := jdk_43_method_13_code
theorem d0 : decode yB 0 = .ok (.aload_n 0, 1) := by decide +kernel
theorem d1 : decode yB 1 = .ok (.arraylength, 1) := by decide +kernel
theorem d2 : decode yB 2 = .ok (.aload_n 1, 1) := by decide +kernel
theorem d3 : decode yB 3 = .ok (.arraylength, 1) := by decide +kernel
theorem d4 : decode yB 4 = .ok (.if_icmp (.ne) 30, 3) := by decide +kernel
theorem d7 : decode yB 7 = .ok (.iconst 0, 1) := by decide +kernel
theorem d8 : decode yB 8 = .ok (.istore_n 2, 1) := by decide +kernel
theorem d9 : decode yB 9 = .ok (.iload_n 2, 1) := by decide +kernel
theorem d10 : decode yB 10 = .ok (.aload_n 0, 1) := by decide +kernel
theorem d11 : decode yB 11 = .ok (.arraylength, 1) := by decide +kernel
theorem d12 : decode yB 12 = .ok (.if_icmp (.ge) 20, 3) := by decide +kernel
theorem d15 : decode yB 15 = .ok (.aload_n 0, 1) := by decide +kernel
theorem d16 : decode yB 16 = .ok (.iload_n 2, 1) := by decide +kernel
theorem d17 : decode yB 17 = .ok (.baload, 1) := by decide +kernel
theorem d18 : decode yB 18 = .ok (.aload_n 1, 1) := by decide +kernel
theorem d19 : decode yB 19 = .ok (.iload_n 2, 1) := by decide +kernel
theorem d20 : decode yB 20 = .ok (.baload, 1) := by decide +kernel
theorem d21 : decode yB 21 = .ok (.if_icmp (.eq) 5, 3) := by decide +kernel
theorem d24 : decode yB 24 = .ok (.iconst 0, 1) := by decide +kernel
theorem d25 : decode yB 25 = .ok (.ireturn, 1) := by decide +kernel
theorem d26 : decode yB 26 = .ok (.iinc 2 1, 3) := by decide +kernel
theorem d29 : decode yB 29 = .ok (.goto (-20), 3) := by decide +kernel
theorem d32 : decode yB 32 = .ok (.iconst 1, 1) := by decide +kernel
theorem d33 : decode yB 33 = .ok (.ireturn, 1) := by decide +kernel
theorem d34 : decode yB 34 = .ok (.iconst 0, 1) := by decide +kernel
theorem d35 : decode yB 35 = .ok (.ireturn, 1) := by decide +kernel
def site : List Cond := []
def tab : Cond := tabOf yN yB 3 (some .boolean) site
def P (a : Addr) (A : Cell) (b : Addr) (B : Cell) (args : Array Value) (s : State) : Prop := args = #[.ref a, .ref b] ∧ XT.Arr .byte a A s ∧ Typed .byte A ∧ XT.Arr .byte b B s ∧ Typed .byte B
/-- whether two byte[] are equal, place for place -/
theorem law (l : Launch) (a : Addr) (A : Cell) (b : Addr) (B : Cell) : Law l yN 2 2 0 0 yB 3 (some .boolean) site (P a A b B) (Says01 (EqC A B)) [] 0 0 := by
  refine Law.of_walk (plainFor_of_name (by decide +kernel)) (by decide +kernel) (by decide +kernel) (by decide) (fun _ _ h => by rw [h.1]; rfl) (fun _ U U' hal hh h => ⟨h.1, h.2.1.mv hal hh, h.2.2.1, h.2.2.2.1.mv hal hh, h.2.2.2.2⟩) (fun r U U' V V' h1 hal h2 h => Says01.mv r U U' V V' h1 hal h2 h) ?_
  intro p e s m args below meth c s₁ X0 hexec hbytes hml hret hlk hnm hown hh0 W hP
  obtain ⟨rfl, hA, tA, hB, tB⟩ := hP
  have a31 := hA.2.2.2
  have b31 := hB.2.2.2
  have hA0 := hA.mv X0.warmed.alike hh0
  have hB0 := hB.mv X0.warmed.alike hh0
  have c1 : Steps p.tables e below (s₁.setTop (entryFrame m #[.ref a, .ref b] 3)) (s₁.setTop (mkF m 0 #[.val (.ref a), .val (.ref b), .unset] [])) := entry rfl
  have c2 : Steps p.tables e below (s₁.setTop (entryFrame m #[.ref a, .ref b] 3)) (s₁.setTop (mkF m 4 #[.val (.ref a), .val (.ref b), .unset] [.int (Int32.ofNat B.slots.size), .int (Int32.ofNat A.slots.size)])) := c1.trans (by
    refine XS.aloadN X0.here hexec rfl (hb hbytes d0) rfl rfl ?_
    refine X0.alen hexec hA0 rfl rfl (hb hbytes d1) ?_
    refine XS.aloadN X0.here hexec rfl (hb hbytes d2) rfl rfl ?_
    refine X0.alen hexec hB0 rfl rfl (hb hbytes d3) ?_
    exact Steps.refl _)
  by_cases hs : A.slots.size = B.slots.size
  · have c3 : Steps p.tables e below (s₁.setTop (entryFrame m #[.ref a, .ref b] 3)) (s₁.setTop (mkF m 9 #[.val (.ref a), .val (.ref b), .val (.int 0)] [])) := c2.trans (by
      refine XS.icmpNo X0.here hexec rfl (hb hbytes d4) rfl (ii_ne_f (by rw [hs])) ?_
      refine iconstV X0.here hexec rfl 0 (hb hbytes d7) (by decide) ?_
      refine XS.istoreN X0.here hexec rfl (hb hbytes d8) rfl rfl ?_
      exact Steps.refl _)
    have loop : ∀ (r i : Nat), i + r = A.slots.size → (∀ j, j < i → yv A j = yv B j) → Steps p.tables e below (s₁.setTop (entryFrame m #[.ref a, .ref b] 3)) (s₁.setTop (mkF m 9 #[.val (.ref a), .val (.ref b), .val (.int (Int32.ofNat i))] [])) → ∃ (pc : Nat) (Ls : Array Slot) (v : Int32), (pc = 25 ∨ pc = 33) ∧ ((v = 1 ∧ EqC A B) ∨ (v = 0 ∧ ¬ EqC A B)) ∧ Steps p.tables e below (s₁.setTop (entryFrame m #[.ref a, .ref b] 3)) (s₁.setTop (mkF m pc Ls [.int v])) := by
      intro r
      induction r with
      | zero =>
        intro i hi he cl
        exact ⟨33, _, 1, Or.inr rfl, Or.inl ⟨rfl, hs, fun j hj => he j (by omega)⟩, cl.trans (by
          refine XS.iloadN X0.here hexec rfl (hb hbytes d9) rfl ?_
          refine XS.aloadN X0.here hexec rfl (hb hbytes d10) rfl rfl ?_
          refine X0.alen hexec hA0 rfl rfl (hb hbytes d11) ?_
          refine XS.icmpYes X0.here hexec rfl (pc0 := 12) rfl (hb hbytes d12) rfl (ii_ge_t (nlt32 (by omega) (by omega))) (by decide) rfl ?_
          refine iconstV X0.here hexec rfl 1 (hb hbytes d32) (by decide) ?_
          exact Steps.refl _)⟩
      | succ r ih =>
        intro i hi he cl
        have c4 : Steps p.tables e below (s₁.setTop (entryFrame m #[.ref a, .ref b] 3)) (s₁.setTop (mkF m 21 #[.val (.ref a), .val (.ref b), .val (.int (Int32.ofNat i))] [.int (yv B i), .int (yv A i)])) := cl.trans (by
          refine XS.iloadN X0.here hexec rfl (hb hbytes d9) rfl ?_
          refine XS.aloadN X0.here hexec rfl (hb hbytes d10) rfl rfl ?_
          refine X0.alen hexec hA0 rfl rfl (hb hbytes d11) ?_
          refine XS.icmpNo X0.here hexec rfl (hb hbytes d12) rfl (ii_ge_f (lt32 (by omega) (by omega))) ?_
          refine XS.aloadN X0.here hexec rfl (hb hbytes d15) rfl rfl ?_
          refine XS.iloadN X0.here hexec rfl (hb hbytes d16) rfl ?_
          refine X0.aget hexec hA0 rfl (yv_get hA tA (i := i) (by omega)) rfl rfl (hb hbytes d17) ?_
          refine XS.aloadN X0.here hexec rfl (hb hbytes d18) rfl rfl ?_
          refine XS.iloadN X0.here hexec rfl (hb hbytes d19) rfl ?_
          refine X0.aget hexec hB0 rfl (yv_get hB tB (i := i) (by omega)) rfl rfl (hb hbytes d20) ?_
          exact Steps.refl _)
        by_cases hv : yv A i = yv B i
        · have c5 : Steps p.tables e below (s₁.setTop (entryFrame m #[.ref a, .ref b] 3)) (s₁.setTop (mkF m 9 #[.val (.ref a), .val (.ref b), .val (.int (Int32.ofNat i + 1))] [])) := c4.trans (by
            refine XS.icmpYes X0.here hexec rfl (pc0 := 21) rfl (hb hbytes d21) rfl (ii_eq_t hv) (by decide) rfl ?_
            refine iincV X0.here hexec rfl 1 (hb hbytes d26) (by decide) rfl rfl ?_
            refine XS.goto X0.here hexec rfl (pc0 := 29) rfl (hb hbytes d29) (by decide) rfl ?_
            exact Steps.refl _)
          rw [succ32] at c5
          exact ih (i + 1) (by omega) (fun j hj => by
            by_cases e : j = i
            · rw [e]; exact hv
            · exact he j (by omega)) c5
        · exact ⟨25, _, 0, Or.inl rfl, Or.inr ⟨rfl, fun q => hv (q.2 i (by omega))⟩, c4.trans (by
            refine XS.icmpNo X0.here hexec rfl (hb hbytes d21) rfl (ii_eq_f hv) ?_
            refine iconstV X0.here hexec rfl 0 (hb hbytes d24) (by decide) ?_
            exact Steps.refl _)⟩
    obtain ⟨pc, Ls, v, hpc, hv, cz⟩ := loop A.slots.size 0 (by omega) (fun j hj => absurd hj (Nat.not_lt_zero j)) c3
    have nv : narrow .boolean (.int v) = .int v := by rcases hv with ⟨rfl, -⟩ | ⟨rfl, -⟩ <;> rfl
    rcases hpc with rfl | rfl
    · exact ⟨s₁, some (.int v), _, _, _, X0, rfl, rfl, rfl, (fun h => by cases h), ⟨v, rfl, hh0, hv⟩, fun fs hl => cz.trans (X0.ireturnOut hexec hret nv (Or.inr (Or.inl rfl)) (hb hbytes d25) hl)⟩
    · exact ⟨s₁, some (.int v), _, _, _, X0, rfl, rfl, rfl, (fun h => by cases h), ⟨v, rfl, hh0, hv⟩, fun fs hl => cz.trans (X0.ireturnOut hexec hret nv (Or.inr (Or.inl rfl)) (hb hbytes d33) hl)⟩
  · have c3 : Steps p.tables e below (s₁.setTop (entryFrame m #[.ref a, .ref b] 3)) (s₁.setTop (mkF m 35 #[.val (.ref a), .val (.ref b), .unset] [.int 0])) := c2.trans (by
      refine XS.icmpYes X0.here hexec rfl (pc0 := 4) rfl (hb hbytes d4) rfl (ii_ne_t (ne32 a31 b31 hs)) (by decide) rfl ?_
      refine iconstV X0.here hexec rfl 0 (hb hbytes d34) (by decide) ?_
      exact Steps.refl _)
    exact ⟨s₁, some (.int 0), _, _, _, X0, rfl, rfl, rfl, (fun h => by cases h), ⟨0, rfl, hh0, Or.inr ⟨rfl, fun q => hs q.1⟩⟩, fun fs hl => c3.trans (X0.ireturnOut hexec hret rfl (Or.inr (Or.inl rfl)) (hb hbytes d35) hl)⟩
end LEq
theorem Cod.ty {cd : Int32} {n : Nat} {f : Nat → Int32} {V : Cell} (h : Cod cd n f V) : Typed .byte V := fun i v hv => by
  have hi : i < V.slots.size := (Array.getElem?_eq_some_iff.mp hv).1
  rcases h with ⟨-, k1, k2⟩ | ⟨-, k1, k2, -⟩
  · rw [(k2 i (by omega)).1] at hv; cases hv; exact fits_lo8 _
  · rcases Nat.mod_two_eq_zero_or_one i with e | e
    · obtain ⟨j, rfl⟩ : ∃ j, i = 2 * j := ⟨i / 2, by omega⟩
      rw [(k2 j (by omega)).1] at hv; cases hv; exact fits_lo8 _
    · obtain ⟨j, rfl⟩ : ∃ j, i = 2 * j + 1 := ⟨i / 2, by omega⟩
      rw [(k2 j (by omega)).2] at hv; cases hv; exact fits_lo8 _
/-- the same text -/
def SameT (n : Nat) (f : Nat → Int32) (k : Nat) (g : Nat → Int32) : Prop := n = k ∧ ∀ j, j < n → f j = g j
theorem lo8_inj {x y : Int32} (h0 : ¬ x < 0) (h1 : ¬ 255 < x) (k0 : ¬ y < 0) (k1 : ¬ 255 < y) (h : lo8 x = lo8 y) : x = y := by
  rw [← lo8_mask h0 h1, ← lo8_mask k0 k1, h]
/-- arrays coded by one coder are equal just where the texts are -/
theorem Cod.eqv {cd : Int32} {n k : Nat} {f g : Nat → Int32} {V V' : Cell} (h : Cod cd n f V) (h' : Cod cd k g V') (hf : ∀ j, j < n → ¬ f j < 0 ∧ ¬ 65535 < f j) (hg : ∀ j, j < k → ¬ g j < 0 ∧ ¬ 65535 < g j) : EqC V V' ↔ SameT n f k g := by
  have yvv : ∀ {W : Cell} {i : Nat} {x : Int32}, W.slots[i]? = some (.int x) → yv W i = x := fun q => by unfold yv; rw [q]
  rcases h with ⟨rfl, k1, k2⟩ | ⟨rfl, k1, k2, -⟩
  · rcases h' with ⟨-, m1, m2⟩ | ⟨e, -⟩
    · constructor
      · rintro ⟨e1, e2⟩
        refine ⟨by omega, fun j hj => ?_⟩
        have q := e2 j (by omega)
        rw [yvv (k2 j hj).1, yvv (m2 j (by omega)).1] at q
        exact lo8_inj (hf j hj).1 (k2 j hj).2 (hg j (by omega)).1 (m2 j (by omega)).2 q
      · rintro ⟨rfl, e2⟩
        refine ⟨by omega, fun j hj => ?_⟩
        rw [yvv (k2 j (by omega)).1, yvv (m2 j (by omega)).1, e2 j (by omega)]
    · exact absurd e (by decide)
  · rcases h' with ⟨e, -⟩ | ⟨-, m1, m2, -⟩
    · exact absurd e (by decide)
    · constructor
      · rintro ⟨e1, e2⟩
        refine ⟨by omega, fun j hj => ?_⟩
        have q1 := e2 (2 * j) (by omega)
        have q2 := e2 (2 * j + 1) (by omega)
        rw [yvv (k2 j hj).1, yvv (m2 j (by omega)).1] at q1
        rw [yvv (k2 j hj).2, yvv (m2 j (by omega)).2] at q2
        rw [← pair_says (hf j hj).1 (hf j hj).2, ← pair_says (hg j (by omega)).1 (hg j (by omega)).2, q1, q2]
      · rintro ⟨rfl, e2⟩
        refine ⟨by omega, fun i hi => ?_⟩
        rcases Nat.mod_two_eq_zero_or_one i with e | e
        · obtain ⟨j, rfl⟩ : ∃ j, i = 2 * j := ⟨i / 2, by omega⟩
          rw [yvv (k2 j (by omega)).1, yvv (m2 j (by omega)).1, e2 j (by omega)]
        · obtain ⟨j, rfl⟩ : ∃ j, i = 2 * j + 1 := ⟨i / 2, by omega⟩
          rw [yvv (k2 j (by omega)).2, yvv (m2 j (by omega)).2, e2 j (by omega)]
/-- two codings differ: so do the texts -/
theorem Cod.dif {cd cd' : Int32} {n k : Nat} {f g : Nat → Int32} {V V' : Cell} (h : Cod cd n f V) (h' : Cod cd' k g V') (hne : ¬ cd = cd') : ¬ SameT n f k g := by
  rintro ⟨rfl, e⟩
  rcases h with ⟨rfl, -, k2⟩ | ⟨rfl, -, -, j, hj, hw⟩
  · rcases h' with ⟨rfl, -⟩ | ⟨-, -, -, j, hj, hw⟩
    · exact hne rfl
    · exact (k2 j hj).2 (by rw [e j hj]; exact hw)
  · rcases h' with ⟨-, -, m2⟩ | ⟨rfl, -⟩
    · exact (m2 j hj).2 (by rw [← e j hj]; exact hw)
    · exact hne rfl
/-- an object of exactly C is an instance of C -/
theorem cinst {p : Program} {l : Launch} {e : Env} {R : Room} {s : State} {m : MethodId} {args : Array Value} {below : List Frame} {meth : Method} {c : Code} {T : State} {locs : List Loc} {cells slots : Nat} (X : Stand p l e R s m args below meth c T locs cells slots) (hexec : p.tables.exec = Jvm.exec) {own C : String} {index : Nat} (hown : s.vm.findClass own = some m.cls) (hlink : (Cond.classLink own index C).before args s = true) {a : Addr} (hE : Exact C a T)
    {g : JFrame} (hg : g.method = m) {rest : List Value} (hstack : g.stack = .ref a :: rest) (hdg : decode c.code g.pc = .ok (.instanceof index, 3)) :
    ∃ T', Stand p l e R s m args below meth c T' locs cells slots ∧ T'.heap = T.heap ∧ ∀ target, Steps p.tables e below (T'.setTop { g with pc := g.pc + 3, stack := .int 1 :: rest }) target → Steps p.tables e below (T.setTop g) target := by
  obtain ⟨cB, h1, D, h2, h3, h4⟩ := hE
  have h1' : s.vm.findClass C = some cB := by rw [← X.warmed.alike.findClass]; exact h1
  obtain ⟨vm', X', st⟩ := X.instanceofYes hexec hown hlink h2 h4 h1' (by rw [h3]; exact Jvm.Free.SB.assignable_self _ _) hg hstack hdg
  exact ⟨_, X', rfl, st⟩
theorem cself {p : Program} {l : Launch} {e : Env} {R : Room} {s : State} {m : MethodId} {args : Array Value} {below : List Frame} {meth : Method} {c : Code} {T : State} {locs : List Loc} {cells slots : Nat} (X : Stand p l e R s m args below meth c T locs cells slots) (hexec : p.tables.exec = Jvm.exec) {own C : String} {index : Nat} (hown : s.vm.findClass own = some m.cls) (hlink : (Cond.classLink own index C).before args s = true) {a : Addr} (hE : Exact C a T)
    {g : JFrame} (hg : g.method = m) {rest : List Value} (hstack : g.stack = .ref a :: rest) (hdg : decode c.code g.pc = .ok (.checkcast index, 3)) :
    ∃ T', Stand p l e R s m args below meth c T' locs cells slots ∧ T'.heap = T.heap ∧ ∀ target, Steps p.tables e below (T'.setTop { g with pc := g.pc + 3, stack := .ref a :: rest }) target → Steps p.tables e below (T.setTop g) target := by
  obtain ⟨cB, h1, D, h2, h3, h4⟩ := hE
  have h1' : s.vm.findClass C = some cB := by rw [← X.warmed.alike.findClass]; exact h1
  obtain ⟨vm', X', st⟩ := X.checkcastYes hexec hown hlink h2 h4 h1' (by rw [h3]; exact Jvm.Free.SB.assignable_self _ _) hg hstack hdg
  exact ⟨_, X', rfl, fun t h => st t (by rw [← hstack] at h; exact h)⟩
namespace SEq
def yN : MethodName := ⟨"java/lang/String", "equals", "(Ljava/lang/Object;)Z"⟩
abbrev yB : ByteArray := jdk_42_method_66_code
theorem d0 : decode yB 0 = .ok (.aload_n 0, 1) := by decide +kernel
theorem d1 : decode yB 1 = .ok (.aload_n 1, 1) := by decide +kernel
theorem d2 : decode yB 2 = .ok (.if_acmp (.ne) 5, 3) := by decide +kernel
theorem d5 : decode yB 5 = .ok (.iconst 1, 1) := by decide +kernel
theorem d6 : decode yB 6 = .ok (.ireturn, 1) := by decide +kernel
theorem d7 : decode yB 7 = .ok (.aload_n 1, 1) := by decide +kernel
theorem d8 : decode yB 8 = .ok (.instanceof 10, 3) := by decide +kernel
theorem d11 : decode yB 11 = .ok (.ifCond (.eq) 43, 3) := by decide +kernel
theorem d14 : decode yB 14 = .ok (.aload_n 1, 1) := by decide +kernel
theorem d15 : decode yB 15 = .ok (.checkcast 10, 3) := by decide +kernel
theorem d18 : decode yB 18 = .ok (.astore_n 2, 1) := by decide +kernel
theorem d19 : decode yB 19 = .ok (.getstatic 38, 3) := by decide +kernel
theorem d22 : decode yB 22 = .ok (.ifCond (.eq) 14, 3) := by decide +kernel
theorem d25 : decode yB 25 = .ok (.aload_n 0, 1) := by decide +kernel
theorem d26 : decode yB 26 = .ok (.getfield 15, 3) := by decide +kernel
theorem d29 : decode yB 29 = .ok (.aload_n 2, 1) := by decide +kernel
theorem d30 : decode yB 30 = .ok (.getfield 15, 3) := by decide +kernel
theorem d33 : decode yB 33 = .ok (.if_icmp (.ne) 21, 3) := by decide +kernel
theorem d36 : decode yB 36 = .ok (.aload_n 0, 1) := by decide +kernel
theorem d37 : decode yB 37 = .ok (.getfield 9, 3) := by decide +kernel
theorem d40 : decode yB 40 = .ok (.aload_n 2, 1) := by decide +kernel
theorem d41 : decode yB 41 = .ok (.getfield 9, 3) := by decide +kernel
theorem d44 : decode yB 44 = .ok (.invokestatic 541, 3) := by decide +kernel
theorem d47 : decode yB 47 = .ok (.ifCond (.eq) 7, 3) := by decide +kernel
theorem d50 : decode yB 50 = .ok (.iconst 1, 1) := by decide +kernel
theorem d51 : decode yB 51 = .ok (.goto 4, 3) := by decide +kernel
theorem d54 : decode yB 54 = .ok (.iconst 0, 1) := by decide +kernel
theorem d55 : decode yB 55 = .ok (.ireturn, 1) := by decide +kernel
def site : List Cond := [.classLink "java/lang/String" 10 "java/lang/String", .fieldLink "java/lang/String" 38 "java/lang/String" "COMPACT_STRINGS" "Z", .fieldLink "java/lang/String" 15 "java/lang/String" "coder" "B", .fieldLink "java/lang/String" 9 "java/lang/String" "value" "[B", LEq.tab] ++ staticW "java/lang/String" 541 LEq.yN
def tab : Cond := tabOf yN yB 3 (some .boolean) site
def P (x t : Addr) (V : Cell) (cd : Int32) (n : Nat) (f : Nat → Int32) (y t' : Addr) (V' : Cell) (cd' : Int32) (k : Nat) (g : Nat → Int32) (z : Int32) (args : Array Value) (s : State) : Prop := args = #[.ref x, .ref y] ∧ Txt x t V cd n f s ∧ Txt y t' V' cd' k g s ∧ StaticIs s "java/lang/String" "COMPACT_STRINGS" "Z" (.int z) ∧ ¬ z = 0
/-- equals(Object) of two Strings: whether the texts are the same -/
theorem law (l : Launch) (x t : Addr) (V : Cell) (cd : Int32) (n : Nat) (f : Nat → Int32) (y t' : Addr) (V' : Cell) (cd' : Int32) (k : Nat) (g : Nat → Int32) (z : Int32) : Law l yN 2 1 1 14 yB 3 (some .boolean) site (P x t V cd n f y t' V' cd' k g z) (Says01 (SameT n f k g)) [] 0 0 := by
  refine Law.of_walk (plainFor_of_name (by decide +kernel)) (by decide +kernel) (by decide +kernel) (by decide) (fun _ _ h => by rw [h.1]; rfl) (fun _ U U' hal hh h => ⟨h.1, h.2.1.mv hal hh, h.2.2.1.mv hal hh, h.2.2.2.1.there hal hh, h.2.2.2.2⟩) (fun r U U' V V' h1 hal h2 h => Says01.mv r U U' V V' h1 hal h2 h) ?_
  intro p e s m args below meth c s₁ X0 hexec hbytes hml hret hlk hnm hown hh0 W hP
  obtain ⟨rfl, hx, hy, s1, hz⟩ := hP
  have c1 : Steps p.tables e below (s₁.setTop (entryFrame m #[.ref x, .ref y] 3)) (s₁.setTop (mkF m 2 #[.val (.ref x), .val (.ref y), .unset] [.ref y, .ref x])) := Steps.trans (entry rfl) (by
    show Steps p.tables e below (s₁.setTop (mkF m 0 #[.val (.ref x), .val (.ref y), .unset] [])) _
    refine XS.aloadN X0.here hexec rfl (hb hbytes d0) rfl rfl ?_
    refine XS.aloadN X0.here hexec rfl (hb hbytes d1) rfl rfl ?_
    exact Steps.refl _)
  by_cases hxy : x = y
  · have c2 : Steps p.tables e below (s₁.setTop (entryFrame m #[.ref x, .ref y] 3)) (s₁.setTop (mkF m 6 #[.val (.ref x), .val (.ref y), .unset] [.int 1])) := c1.trans (by
      refine acmpNo X0.here hexec rfl (hb hbytes d2) rfl rfl rfl (by simp [acmp, hxy]) ?_
      refine iconstV X0.here hexec rfl 1 (hb hbytes d5) (by decide) ?_
      exact Steps.refl _)
    subst hxy
    have ec : cd = cd' := by
      obtain ⟨D, fd, a1, a2, a3⟩ := hx.2.2.1
      obtain ⟨D', fd', b1, b2, b3⟩ := hy.2.2.1
      cases a1.symm.trans b1
      obtain ⟨q1, q2, q3, q4⟩ := a2.1
      obtain ⟨r1, r2, r3, r4⟩ := b2.1
      cases q4.symm.trans r4
      cases a3.symm.trans b3; rfl
    have et : t = t' := by
      obtain ⟨D, fd, a1, a2, a3⟩ := hx.2.1
      obtain ⟨D', fd', b1, b2, b3⟩ := hy.2.1
      cases a1.symm.trans b1
      obtain ⟨q1, q2, q3, q4⟩ := a2.1
      obtain ⟨r1, r2, r3, r4⟩ := b2.1
      cases q4.symm.trans r4
      cases a3.symm.trans b3; rfl
    subst ec et
    have ev : V = V' := by cases hx.2.2.2.1.1.symm.trans hy.2.2.2.1.1; rfl
    subst ev
    have hs : SameT n f k g := (Cod.eqv hx.2.2.2.2.1 hy.2.2.2.2.1 hx.2.2.2.2.2 hy.2.2.2.2.2).mp ⟨rfl, fun _ _ => rfl⟩
    exact ⟨s₁, some (.int 1), _, _, _, X0, rfl, rfl, rfl, (fun h => by cases h), ⟨1, rfl, hh0, Or.inl ⟨rfl, hs⟩⟩, fun fs hl => c2.trans (X0.ireturnOut hexec hret rfl (Or.inr (Or.inl rfl)) (hb hbytes d6) hl)⟩
  · have c2 : Steps p.tables e below (s₁.setTop (entryFrame m #[.ref x, .ref y] 3)) (s₁.setTop (mkF m 8 #[.val (.ref x), .val (.ref y), .unset] [.ref y])) := c1.trans (by
      refine acmpYes X0.here hexec rfl (pc0 := 2) rfl (hb hbytes d2) rfl rfl rfl (by simp [acmp, hxy]) (by decide) rfl ?_
      refine XS.aloadN X0.here hexec rfl (hb hbytes d7) rfl rfl ?_
      exact Steps.refl _)
    obtain ⟨T3, X3, q3, st3⟩ := cinst X0 hexec hown (wk W (.classLink "java/lang/String" 10 "java/lang/String")) (hy.mv X0.warmed.alike hh0).1 (g := (mkF m 8 #[.val (.ref x), .val (.ref y), .unset] [.ref y])) rfl (rest := []) rfl (hb hbytes d8)
    have hh3 := q3.trans hh0
    have c4 : Steps p.tables e below (s₁.setTop (entryFrame m #[.ref x, .ref y] 3)) (T3.setTop (mkF m 15 #[.val (.ref x), .val (.ref y), .unset] [.ref y])) := (c2.trans (st3 _ (Steps.refl _))).trans (by
      refine XS.ifNo X3.here hexec rfl (hb hbytes d11) rfl (i0_eq_f (by decide)) ?_
      refine XS.aloadN X3.here hexec rfl (hb hbytes d14) rfl rfl ?_
      exact Steps.refl _)
    obtain ⟨T5, X5, q5, st5⟩ := cself X3 hexec hown (wk W (.classLink "java/lang/String" 10 "java/lang/String")) (hy.mv X3.warmed.alike hh3).1 (g := (mkF m 15 #[.val (.ref x), .val (.ref y), .unset] [.ref y])) rfl (rest := []) rfl (hb hbytes d15)
    have hh5 := q5.trans hh3
    have c6 : Steps p.tables e below (s₁.setTop (entryFrame m #[.ref x, .ref y] 3)) (T5.setTop (mkF m 19 #[.val (.ref x), .val (.ref y), .val (.ref y)] [])) := (c4.trans (st5 _ (Steps.refl _))).trans (by
      refine XS.astoreN X5.here hexec rfl (hb hbytes d18) rfl rfl rfl ?_
      exact Steps.refl _)
    obtain ⟨T7, X7, q7, st7⟩ := X5.sget hexec hown (wk W (.fieldLink "java/lang/String" 38 "java/lang/String" "COMPACT_STRINGS" "Z")) s1 (fun _ _ h => by rw [hh5]; exact h) (g := (mkF m 19 #[.val (.ref x), .val (.ref y), .val (.ref y)] [])) rfl (hb hbytes d19)
    have hh7 := q7.trans hh5
    have c8 : Steps p.tables e below (s₁.setTop (entryFrame m #[.ref x, .ref y] 3)) (T7.setTop (mkF m 26 #[.val (.ref x), .val (.ref y), .val (.ref y)] [.ref x])) := (c6.trans (st7 _ (Steps.refl _))).trans (by
      refine XS.ifNo X7.here hexec rfl (hb hbytes d22) rfl (i0_eq_f hz) ?_
      refine XS.aloadN X7.here hexec rfl (hb hbytes d25) rfl rfl ?_
      exact Steps.refl _)
    obtain ⟨T9, X9, q9, st9⟩ := X7.hget hexec hown (wk W (.fieldLink "java/lang/String" 15 "java/lang/String" "coder" "B")) (hx.mv X7.warmed.alike hh7).2.2.1 (g := (mkF m 26 #[.val (.ref x), .val (.ref y), .val (.ref y)] [.ref x])) rfl (rest := []) rfl (hb hbytes d26)
    have hh9 := q9.trans hh7
    have c10 : Steps p.tables e below (s₁.setTop (entryFrame m #[.ref x, .ref y] 3)) (T9.setTop (mkF m 30 #[.val (.ref x), .val (.ref y), .val (.ref y)] [.ref y, .int cd])) := (c8.trans (st9 _ (Steps.refl _))).trans (by
      refine XS.aloadN X9.here hexec rfl (hb hbytes d29) rfl rfl ?_
      exact Steps.refl _)
    obtain ⟨T11, X11, q11, st11⟩ := X9.hget hexec hown (wk W (.fieldLink "java/lang/String" 15 "java/lang/String" "coder" "B")) (hy.mv X9.warmed.alike hh9).2.2.1 (g := (mkF m 30 #[.val (.ref x), .val (.ref y), .val (.ref y)] [.ref y, .int cd])) rfl (rest := [.int cd]) rfl (hb hbytes d30)
    have hh11 := q11.trans hh9
    have c12 : Steps p.tables e below (s₁.setTop (entryFrame m #[.ref x, .ref y] 3)) (T11.setTop (mkF m 33 #[.val (.ref x), .val (.ref y), .val (.ref y)] [.int cd', .int cd])) := c10.trans (st11 _ (Steps.refl _))
    by_cases hcd : cd = cd'
    · subst hcd
      have c13 : Steps p.tables e below (s₁.setTop (entryFrame m #[.ref x, .ref y] 3)) (T11.setTop (mkF m 37 #[.val (.ref x), .val (.ref y), .val (.ref y)] [.ref x])) := c12.trans (by
        refine XS.icmpNo X11.here hexec rfl (hb hbytes d33) rfl (ii_ne_f rfl) ?_
        refine XS.aloadN X11.here hexec rfl (hb hbytes d36) rfl rfl ?_
        exact Steps.refl _)
      obtain ⟨T14, X14, q14, st14⟩ := X11.hget hexec hown (wk W (.fieldLink "java/lang/String" 9 "java/lang/String" "value" "[B")) (hx.mv X11.warmed.alike hh11).2.1 (g := (mkF m 37 #[.val (.ref x), .val (.ref y), .val (.ref y)] [.ref x])) rfl (rest := []) rfl (hb hbytes d37)
      have hh14 := q14.trans hh11
      have c15 : Steps p.tables e below (s₁.setTop (entryFrame m #[.ref x, .ref y] 3)) (T14.setTop (mkF m 41 #[.val (.ref x), .val (.ref y), .val (.ref y)] [.ref y, .ref t])) := (c13.trans (st14 _ (Steps.refl _))).trans (by
        refine XS.aloadN X14.here hexec rfl (hb hbytes d40) rfl rfl ?_
        exact Steps.refl _)
      obtain ⟨T16, X16, q16, st16⟩ := X14.hget hexec hown (wk W (.fieldLink "java/lang/String" 9 "java/lang/String" "value" "[B")) (hy.mv X14.warmed.alike hh14).2.1 (g := (mkF m 41 #[.val (.ref x), .val (.ref y), .val (.ref y)] [.ref y, .ref t])) rfl (rest := [.ref t]) rfl (hb hbytes d41)
      have hh16 := q16.trans hh14
      have c17 : Steps p.tables e below (s₁.setTop (entryFrame m #[.ref x, .ref y] 3)) (T16.setTop (mkF m 44 #[.val (.ref x), .val (.ref y), .val (.ref y)] [.ref t', .ref t])) := c15.trans (st16 _ (Steps.refl _))
      obtain ⟨v18, T18, X18, E18, g18⟩ := X16.callS hexec (LEq.law l t V t' V') hown (wks W (staticW "java/lang/String" 541 LEq.yN)) (wk W LEq.tab) (W := 0) (Nat.le_of_ble_eq_true rfl) (Nat.le_of_ble_eq_true rfl) (Nat.le_refl _) (Nat.le_refl _) (g := (mkF m 44 #[.val (.ref x), .val (.ref y), .val (.ref y)] [.ref t', .ref t])) rfl (by rw [hml]; rfl) c17 (argsL := [.ref t, .ref t']) (rest := []) rfl rfl (by show 2 * 0 + 0 ≤ _; decide) (hb hbytes d44) (⟨rfl, hx.2.2.2.1.mv X16.warmed.alike hh16, hx.2.2.2.2.1.ty, hy.2.2.2.1.mv X16.warmed.alike hh16, hy.2.2.2.2.1.ty⟩)
      obtain ⟨v, rfl, q18, hv⟩ := E18
      have iff := Cod.eqv hx.2.2.2.2.1 hy.2.2.2.2.1 hx.2.2.2.2.2 hy.2.2.2.2.2
      rcases hv with ⟨rfl, he⟩ | ⟨rfl, he⟩
      · have c19 : Steps p.tables e below (s₁.setTop (entryFrame m #[.ref x, .ref y] 3)) (T18.setTop (mkF m 55 #[.val (.ref x), .val (.ref y), .val (.ref y)] [.int 1])) := Steps.trans g18 (by
          refine XS.ifNo X18.here hexec rfl (hb hbytes d47) rfl (i0_eq_f (by decide)) ?_
          refine iconstV X18.here hexec rfl 1 (hb hbytes d50) (by decide) ?_
          refine XS.goto X18.here hexec rfl (pc0 := 51) rfl (hb hbytes d51) (by decide) rfl ?_
          exact Steps.refl _)
        exact ⟨T18, some (.int 1), _, _, _, X18, rfl, rfl, rfl, (fun h => by cases h), ⟨1, rfl, q18.trans hh16, Or.inl ⟨rfl, iff.mp he⟩⟩, fun fs hl => c19.trans (X18.ireturnOut hexec hret rfl (Or.inr (Or.inl rfl)) (hb hbytes d55) hl)⟩
      · have c19 : Steps p.tables e below (s₁.setTop (entryFrame m #[.ref x, .ref y] 3)) (T18.setTop (mkF m 55 #[.val (.ref x), .val (.ref y), .val (.ref y)] [.int 0])) := Steps.trans g18 (by
          refine XS.ifYes X18.here hexec rfl (pc0 := 47) rfl (hb hbytes d47) rfl (i0_eq_t rfl) (by decide) rfl ?_
          refine iconstV X18.here hexec rfl 0 (hb hbytes d54) (by decide) ?_
          exact Steps.refl _)
        exact ⟨T18, some (.int 0), _, _, _, X18, rfl, rfl, rfl, (fun h => by cases h), ⟨0, rfl, q18.trans hh16, Or.inr ⟨rfl, fun q => he (iff.mpr q)⟩⟩, fun fs hl => c19.trans (X18.ireturnOut hexec hret rfl (Or.inr (Or.inl rfl)) (hb hbytes d55) hl)⟩
    · have c13 : Steps p.tables e below (s₁.setTop (entryFrame m #[.ref x, .ref y] 3)) (T11.setTop (mkF m 55 #[.val (.ref x), .val (.ref y), .val (.ref y)] [.int 0])) := c12.trans (by
        refine XS.icmpYes X11.here hexec rfl (pc0 := 33) rfl (hb hbytes d33) rfl (ii_ne_t hcd) (by decide) rfl ?_
        refine iconstV X11.here hexec rfl 0 (hb hbytes d54) (by decide) ?_
        exact Steps.refl _)
      exact ⟨T11, some (.int 0), _, _, _, X11, rfl, rfl, rfl, (fun h => by cases h), ⟨0, rfl, hh11, Or.inr ⟨rfl, Cod.dif hx.2.2.2.2.1 hy.2.2.2.2.1 hcd⟩⟩, fun fs hl => c13.trans (X11.ireturnOut hexec hret rfl (Or.inr (Or.inl rfl)) (hb hbytes d55) hl)⟩
theorem pays {l : Launch} {R : Room} {p : Program} {e : Env} {below : List Frame} {s : State} {sargs : Array Value} {len W : Nat} (x t : Addr) (V : Cell) (cd : Int32) (n : Nat) (f : Nat → Int32) (y t' : Addr) (V' : Cell) (cd' : Int32) (k : Nat) (g : Nat → Int32) (z : Int32) (htab : tab.before sargs s = true) (hfr : 2 ≤ R.frames) (hlo : W + 28 ≤ R.locals) :
    Back l R p e below s sargs yN len W (fun A₁ a₁ => A₁.cells + 0 ≤ R.cells ∧ A₁.slots + 0 ≤ R.slots ∧ P x t V cd n f y t' V' cd' k g z a₁ A₁.U) (fun A₁ _ v₁ B₁ => Says01 (SameT n f k g) v₁ A₁.U B₁.U ∧ B₁.locs = A₁.locs ++ [] ∧ B₁.cells = A₁.cells + 0 ∧ B₁.slots = A₁.slots + 0) :=
  (law l x t V cd n f y t' V' cd' k g z).pays htab hfr (by omega)
end SEq
end StrChars
namespace StrChars.Road
open Jvm Sem ClassFile Op Lib Jvm.Stand Jvm.Free Jvm.Free.XT
open Jvm.Lib.Cold (StaticIs)
/-- the words of String.equals(Object) -/
abbrev wordsEq : List Jvm.Cond := [.code SEq.yN SEq.yB 3 (some .boolean), .initialized ST, .classLink ST 10 ST, .fieldLink ST 38 ST "COMPACT_STRINGS" "Z", .fieldLink ST 15 ST "coder" "B", .fieldLink ST 9 ST "value" "[B", .methodLink ST 541 LEq.yN, .static LEq.yN, .code LEq.yN LEq.yB 3 (some .boolean), .initialized "java/lang/StringLatin1"]
theorem tabEq_of {a : Array Value} {s : State} (h : ∀ w ∈ wordsEq, w.before a s = true) : SEq.tab.before a s = true := by
  have hl : LEq.tab.before a s = true := unparts (wk h (.code LEq.yN LEq.yB 3 (some .boolean))) (wks h (.initialized LEq.yN.cls :: LEq.site))
  have q := consq hl h
  exact unparts (wk q (.code SEq.yN SEq.yB 3 (some .boolean))) (wks q (.initialized SEq.yN.cls :: SEq.site))
theorem movedEq {Z s : State} {a0 args : Array Value} (hZ : Z.Warmed39 s.vm) (hw : ∀ d ∈ wordsEq, d.before a0 Z = true) : ∀ d ∈ wordsEq, d.before args s = true := fun d hd => by
  have t : ∀ d ∈ wordsEq, (d.onTables && d.keepsFace) = true := by decide +kernel
  exact RoadKit.mv hZ (hw d hd) (t d hd)
/-- the road's facts of a String, as the laws ask it -/
theorem txt_of {Z U : State} {a0 : Array Value} {kI : Nat} (wi : (Jvm.Cond.instantiable ST kI).before a0 Z = true) (al : Z.vm.Alike U.vm) {x t : Addr} {kb : ClassId} {cs : List Int32} {cd N2 : Int32} {vs : List Value} (E : RoadKit.Exa Z U.heap x ST) (V : RoadKit.Fld Z U.heap x ST "value" "[B" (.ref t)) (C : RoadKit.Fld Z U.heap x ST "coder" "B" (.int cd)) (K : RoadKit.Arv Z U.heap t kb .byte N2 vs (.int 0)) (hc : CodA cs cd N2 vs) (hb : ∀ c ∈ cs, ¬ c < 0 ∧ ¬ (65535 : Int32) < c) (l2 : cs.length ≤ 4000) :
    ∃ A, Txt x t A cd cs.length (fun j => cs.getD j 0) U := by
  obtain ⟨A, K1, K2, K3, K4, K5, K6⟩ := K
  have hcod := hc.cod (by omega) K3 K5
  obtain ⟨D, fV, fC, hB, F1, F2, g1, g2, -, -⟩ := strObj wi al E V C
  exact ⟨A, ⟨_, hB.2.2.1, D, hB.1, rfl, by cases q : D.vm <;> first | rfl | exact absurd q (hB.2.1.2 _)⟩, Has.of hB F1 g1, Has.of hB F2 g2, ⟨K1.1, State.isArrayOf_alike al K1.2.1, K1.2.2, by rcases hcod with ⟨-, q, -⟩ | ⟨-, q, -⟩ <;> omega⟩, hcod, fun j hj => by
    have e : cs.getD j 0 = cs[j] := by simp [List.getD_eq_getElem?_getD, hj]
    show ¬ cs.getD j 0 < 0 ∧ ¬ 65535 < cs.getD j 0
    rw [e]; exact hb _ (List.getElem_mem _)⟩
theorem same_list (cs ds : List Int32) : SameT cs.length (fun j => cs.getD j 0) ds.length (fun j => ds.getD j 0) ↔ cs = ds := by
  constructor
  · rintro ⟨e, q⟩
    refine List.ext_getElem e fun j h1 h2 => ?_
    have := q j h1
    simpa [List.getD_eq_getElem?_getD, h1, h2] using this
  · rintro rfl
    exact ⟨rfl, fun _ _ => rfl⟩
/-- **equals(Object) OF TWO SUCH STRINGS**: 1 just where the chars are the same -/
theorem eqW {p : Program} {l : Launch} {e : Env} {R : Room} {s : State} {args : Array Value} {below : List Frame} {len W : Nat} {Z : State} {a0 : Array Value} {h : Heap} (hZ : Z.Warmed39 s.vm) (hw : ∀ d ∈ wordsEq, d.before a0 Z = true) {kI : Nat} (wi : (Jvm.Cond.instantiable ST kI).before a0 Z = true)
    {x t : Addr} {kb : ClassId} {cs : List Int32} {cd N2 : Int32} {vs : List Value} (E : RoadKit.Exa Z h x ST) (V : RoadKit.Fld Z h x ST "value" "[B" (.ref t)) (C : RoadKit.Fld Z h x ST "coder" "B" (.int cd)) (K : RoadKit.Arv Z h t kb .byte N2 vs (.int 0)) (hc : CodA cs cd N2 vs) (hb : ∀ c ∈ cs, ¬ c < 0 ∧ ¬ (65535 : Int32) < c) (l2 : cs.length ≤ 4000)
    {y t' : Addr} {kb' : ClassId} {ds : List Int32} {cd' N2' : Int32} {vs' : List Value} (E' : RoadKit.Exa Z h y ST) (V' : RoadKit.Fld Z h y ST "value" "[B" (.ref t')) (C' : RoadKit.Fld Z h y ST "coder" "B" (.int cd')) (K' : RoadKit.Arv Z h t' kb' .byte N2' vs' (.int 0)) (hc' : CodA ds cd' N2' vs') (hb' : ∀ c ∈ ds, ¬ c < 0 ∧ ¬ (65535 : Int32) < c) (l2' : ds.length ≤ 4000)
    {z : Int32} (S : RoadKit.Sta Z h ST "COMPACT_STRINGS" "Z" (.int z)) (hz : ¬ z = 0) (hfr : 2 ≤ R.frames) (hlo : W + 28 ≤ R.locals) :
    Back l R p e below s args (⟨"java/lang/String", "equals", "(Ljava/lang/Object;)Z"⟩ : MethodName) len W (fun P a => a = #[.ref x, .ref y] ∧ P.U.heap = h ∧ P.cells + 0 ≤ R.cells ∧ P.slots + 0 ≤ R.slots)
      (fun P _ v B => ∃ L, (((v = some (.int 1) ∧ cs = ds) ∨ (v = some (.int 0) ∧ ¬ cs = ds)) ∧ L = [] ∧ B.U.heap = h) ∧ B.locs = P.locs ++ L ∧ B.cells = P.cells + 0 ∧ B.slots = P.slots + 0) := by
  intro m meth c P g ig mk a X hg hsize hdg hW hn hp'
  obtain ⟨rfl, rfl, r1, r2⟩ := hp'
  have al : Z.vm.Alike P.U.vm := hZ.alike.trans X.warmed.alike
  obtain ⟨A, hx⟩ := txt_of wi al E V C K hc hb l2
  obtain ⟨A', hy⟩ := txt_of wi al E' V' C' K' hc' hb' l2'
  obtain ⟨v, B, X', ⟨⟨w, hv, hh, hq⟩, hl, hk, hs⟩, st⟩ := SEq.pays x t A cd cs.length (fun j => cs.getD j 0) y t' A' cd' ds.length (fun j => ds.getD j 0) z (tabEq_of (movedEq hZ hw)) hfr hlo m meth c P g ig mk _ X hg hsize hdg hW hn ⟨r1, r2, rfl, hx, hy, sta_is al S, hz⟩
  refine ⟨v, B, X', ⟨[], ⟨?_, rfl, hh⟩, hl, hk, hs⟩, st⟩
  rcases hq with ⟨rfl, q⟩ | ⟨rfl, q⟩
  · exact Or.inl ⟨hv, (same_list cs ds).mp q⟩
  · exact Or.inr ⟨hv, fun e => q ((same_list cs ds).mpr e)⟩
end StrChars.Road
namespace StrChars.Road
open Jvm Sem ClassFile Op Lib Jvm.Stand Jvm.Free Jvm.Free.XT
open Jvm.Lib.Cold (StaticIs)
/-- what backV says of its String, as the contracts of this text ask it: cs's low bytes, coder 0 -/
theorem codOf {cs : List Int32} {n : Nat} (hn : cs.length = n) (hb : ∀ c ∈ cs, ¬ 255 < c) : CodA cs 0 (Int32.ofNat n) ((cs.map lo8).map Value.int) := Or.inl ⟨rfl, by rw [hn], by simp [List.map_map, Function.comp_def], hb⟩
end StrChars.Road
end Jvm.Pilot.@@N@@
namespace Jvm.Pilot.@@N@@
namespace GoKit
open Sem ClassFile Op Lib Jvm.Stand Jvm.Free Jvm.LawKit Jvm.RoadKit
section
variable {Z : State} {h h' : Heap} {a t : Nat} {cs ds : List Int32} {ws : List Addr} {x : Nat} {sl : Nat} {v : Value}
/-- the String at a, its byte[] at t, spells cs -/
def Str (Z : State) (h : Heap) (a t : Nat) (cs : List Int32) : Prop := ∃ (kb : ClassId) (cd N2 : Int32) (vs : List Value), Exa Z h a "java/lang/String" ∧ Fld Z h a "java/lang/String" "value" "[B" (.ref t) ∧ Fld Z h a "java/lang/String" "coder" "B" (.int cd) ∧ Arv Z h t kb .byte N2 vs (.int 0) ∧ StrChars.Road.CodA cs cd N2 vs ∧ (∀ c ∈ cs, ¬ c < 0 ∧ ¬ (65535 : Int32) < c) ∧ cs.length ≤ 4000
theorem Str.ext (S : Str Z h a t cs) (E : Ext h h') : Str Z h' a t cs := by
  obtain ⟨kb, cd, N2, vs, r1, r2, r3, r4, r⟩ := S
  exact ⟨kb, cd, N2, vs, r1.ext E, r2.ext E, r3.ext E, r4.ext E, r⟩
theorem Str.other (S : Str Z h a t cs) (W : Wr h h' x sl v) (q1 : a ≠ x) (q2 : t ≠ x) : Str Z h' a t cs := by
  obtain ⟨kb, cd, N2, vs, r1, r2, r3, r4, r⟩ := S
  exact ⟨kb, cd, N2, vs, r1.wr W, r2.other W (Or.inl q1), r3.other W (Or.inl q1), r4.other W q2, r⟩
theorem Str.keep (S : Str Z h a t cs) (K : Keep h h' ws) (q1 : a ∉ ws) (q2 : t ∉ ws) : Str Z h' a t cs := by
  obtain ⟨kb, cd, N2, vs, r1, r2, r3, r4, r⟩ := S
  exact ⟨kb, cd, N2, vs, r1.keep K, r2.keep K q1, r3.keep K q1, r4.keep K q2, r⟩
theorem Str.exa (S : Str Z h a t cs) : Exa Z h a "java/lang/String" := by obtain ⟨_, _, _, _, r, -⟩ := S; exact r
theorem Str.lt (S : Str Z h a t cs) : a < h.size ∧ t < h.size := by obtain ⟨_, _, _, _, r1, _, _, r4, -⟩ := S; exact ⟨r1.lt, r4.lt⟩
theorem Str.latin {kb : ClassId} {N2 : Int32} {vs : List Value} (E : Exa Z h a "java/lang/String") (V : Fld Z h a "java/lang/String" "value" "[B" (.ref t)) (C : Fld Z h a "java/lang/String" "coder" "B" (.int 0)) (A : Arv Z h t kb .byte N2 vs (.int 0)) (hN : N2 = Int32.ofNat cs.length) (hv : vs = cs.map fun c => Value.int (StrChars.lo8 c)) (hp : ∀ c ∈ cs, ¬ c < 0 ∧ ¬ (255 : Int32) < c) (hl : cs.length ≤ 4000) : Str Z h a t cs :=
  ⟨kb, 0, N2, vs, E, V, C, A, Or.inl ⟨rfl, hN, hv, fun c hc => (hp c hc).2⟩, fun c hc => ⟨(hp c hc).1, nle (hp c hc).2 (by decide)⟩, hl⟩
variable {p : Program} {l : Launch} {e : Env} {R : Room} {s : State} {args : Array Value} {below : List Frame} {len W : Nat} {a0 : Array Value}
theorem Str.bkNew (hZ : Z.Warmed39 s.vm) (hw : ∀ d ∈ StrChars.Road.words, d.before a0 Z = true) {kI : Nat} (wi : (Jvm.Cond.instantiable "java/lang/String" kI).before a0 Z = true)
    {x b : Nat} {kC : ClassId} {cs : List Int32} {d v0 c0 : Value} {z N : Int32} {n n0 : Nat} (hx0 : n0 ≤ x) (hh0 : n0 ≤ h.size) (E : Exa Z h x "java/lang/String") (V : Fld Z h x "java/lang/String" "value" "[B" v0) (C : Fld Z h x "java/lang/String" "coder" "B" c0) (K : Arv Z h b kC .char N (cs.map Value.int) d) (S : Sta Z h "java/lang/String" "COMPACT_STRINGS" "Z" (.int z)) (hz : ¬ z = 0)
    (hn : cs.length = n) (hN : N = Int32.ofNat n) (l0 : 0 < n) (l2 : n ≤ 4000) (hp : ∀ c ∈ cs, ¬ c < 0 ∧ ¬ (255 : Int32) < c) (hfr : 4 ≤ R.frames) (hlo : W + 65 ≤ R.locals) :
    BK l R p e below s args (⟨"java/lang/String", "<init>", "([C)V"⟩ : MethodName) len W #[.ref x, .ref b] h 1 n (fun v h' L => v = none ∧ Fr n0 L ∧ Keep h h' [x] ∧ ∃ t : Nat, h.size ≤ t ∧ Str Z h' x t cs) := by
  refine Back.mono (StrChars.Road.backV hZ hw wi (bs := cs.map (fun c => c.toInt8.toInt32)) hx0 hh0 E V C K S hz hn hN l0 l2 hp rfl hfr hlo) (fun P a hp => hp) (fun P a v B _ hq => ?_)
  obtain ⟨L, ⟨q1, q2, q3, q4, q5, t, kb, q6, q7, q8, q9, q10⟩, hr⟩ := hq
  exact ⟨L, ⟨q1, q2, q3, t, q7, Str.latin q4 q9 q5 q10 (by rw [hN, hn]) (by rw [List.map_map]; rfl) hp (by omega)⟩, hr⟩
theorem Str.bkEq (hZ : Z.Warmed39 s.vm) (hw : ∀ d ∈ StrChars.Road.wordsEq, d.before a0 Z = true) {kI : Nat} (wi : (Jvm.Cond.instantiable "java/lang/String" kI).before a0 Z = true) {z : Int32} {b u : Nat} (T : Str Z h a t cs) (T' : Str Z h b u ds) (S : Sta Z h "java/lang/String" "COMPACT_STRINGS" "Z" (.int z)) (hz : ¬ z = 0) (hfr : 2 ≤ R.frames) (hlo : W + 28 ≤ R.locals) :
    BK l R p e below s args (⟨"java/lang/String", "equals", "(Ljava/lang/Object;)Z"⟩ : MethodName) len W #[.ref a, .ref b] h 0 0 (fun v h' L => v = some (.int (if cs = ds then 1 else 0)) ∧ L = [] ∧ h' = h) := by
  obtain ⟨kb, cd, N2, vs, r1, r2, r3, r4, r5, r6, r7⟩ := T
  obtain ⟨kb', cd', N2', vs', t1, t2, t3, t4, t5, t6, t7⟩ := T'
  refine Back.mono (StrChars.Road.eqW hZ hw wi r1 r2 r3 r4 r5 r6 r7 t1 t2 t3 t4 t5 t6 t7 S hz hfr hlo) (fun P a hp => hp) (fun P a v B _ hq => ?_)
  obtain ⟨L, ⟨q1, q2, q3⟩, hr⟩ := hq
  refine ⟨L, ⟨?_, q2, q3⟩, hr⟩
  rcases q1 with ⟨q, e⟩ | ⟨q, e⟩
  · rw [if_pos e]; exact q
  · rw [if_neg e]; exact q
end
end GoKit
end Jvm.Pilot.@@N@@
namespace Jvm.Pilot.@@N@@
open Jvm Jvm.ClassFile Sem Op Lib Jvm.Free Jvm.Stand Jvm.LawKit Jvm.RoadKit Bundle Jvm.Pilot.@@N@@.Jvm.D
open GoKit
theorem pn_0 : plainName "com/example/inquiry_to_answer/inquirytoanswer/http/MediaRangeSpecificityForPinLaw" = true := by first | (simp [plainName, overriddenIn]; done) | decide +kernel
theorem pn_1 : plainName "java/lang/StringLatin1" = true := by first | (simp [plainName, overriddenIn]; done) | decide +kernel
theorem pn_2 : plainName "java/lang/String" = true := by first | (simp [plainName, overriddenIn]; done) | decide +kernel
theorem pn_3 : plainName "java/lang/Record" = true := by first | (simp [plainName, overriddenIn]; done) | decide +kernel
theorem pn_4 : plainName "com/example/inquiry_to_answer/inquirytoanswer/http/MediaRange" = true := by first | (simp [plainName, overriddenIn]; done) | decide +kernel
theorem pd_0 : parseMethodDescriptor "(I)C" = some ⟨[.int], some .char⟩ := by decide +kernel
theorem pd_1 : parseMethodDescriptor "(I)I" = some ⟨[.int], some .int⟩ := by decide +kernel
theorem pd_2 : parseMethodDescriptor "(C)Z" = some ⟨[.char], some .boolean⟩ := by decide +kernel
theorem pd_3 : parseMethodDescriptor "(C)[B" = some ⟨[.char], some (.array .byte)⟩ := by decide +kernel
theorem pd_4 : parseMethodDescriptor "([BB)V" = some ⟨[(.array .byte), .byte], none⟩ := by decide +kernel
theorem pd_5 : parseMethodDescriptor "([C)V" = some ⟨[(.array .char)], none⟩ := by decide +kernel
theorem pd_6 : parseMethodDescriptor "(C)Ljava/lang/String;" = some ⟨[.char], some (.object "java/lang/String")⟩ := by decide +kernel
theorem pd_7 : parseMethodDescriptor "()V" = some ⟨[], none⟩ := by decide +kernel
theorem pd_8 : parseMethodDescriptor "(Ljava/lang/Object;)Z" = some ⟨[(.object "java/lang/Object")], some .boolean⟩ := by decide +kernel
theorem pd_9 : parseMethodDescriptor "(I)Ljava/lang/String;" = some ⟨[.int], some (.object "java/lang/String")⟩ := by decide +kernel
theorem pd_10 : parseMethodDescriptor "(Ljava/lang/String;Ljava/lang/String;Ljava/lang/String;I)V" = some ⟨[(.object "java/lang/String"), (.object "java/lang/String"), (.object "java/lang/String"), .int], none⟩ := by decide +kernel
theorem pd_11 : parseMethodDescriptor "(Ljava/lang/String;Ljava/lang/String;)I" = some ⟨[(.object "java/lang/String"), (.object "java/lang/String")], some .int⟩ := by decide +kernel
theorem pd_12 : parseMethodDescriptor "(I)Z" = some ⟨[.int], some .boolean⟩ := by decide +kernel
theorem pd_13 : parseMethodDescriptor "(II)Z" = some ⟨[.int, .int], some .boolean⟩ := by decide +kernel
theorem d20_0 : decode prog_123_method_1_code 0 = .ok (.aload_n 0, 1) := by decide +kernel
theorem d20_1 : decode prog_123_method_1_code 1 = .ok (.invokespecial 1, 3) := by decide +kernel
theorem d20_4 : decode prog_123_method_1_code 4 = .ok (.aload_n 0, 1) := by decide +kernel
theorem d20_5 : decode prog_123_method_1_code 5 = .ok (.aload_n 1, 1) := by decide +kernel
theorem d20_6 : decode prog_123_method_1_code 6 = .ok (.putfield 7, 3) := by decide +kernel
theorem d20_9 : decode prog_123_method_1_code 9 = .ok (.aload_n 0, 1) := by decide +kernel
theorem d20_10 : decode prog_123_method_1_code 10 = .ok (.aload_n 2, 1) := by decide +kernel
theorem d20_11 : decode prog_123_method_1_code 11 = .ok (.putfield 13, 3) := by decide +kernel
theorem d20_14 : decode prog_123_method_1_code 14 = .ok (.aload_n 0, 1) := by decide +kernel
theorem d20_15 : decode prog_123_method_1_code 15 = .ok (.aload_n 3, 1) := by decide +kernel
theorem d20_16 : decode prog_123_method_1_code 16 = .ok (.putfield 16, 3) := by decide +kernel
theorem d20_19 : decode prog_123_method_1_code 19 = .ok (.aload_n 0, 1) := by decide +kernel
theorem d20_20 : decode prog_123_method_1_code 20 = .ok (.iload 4, 2) := by decide +kernel
theorem d20_22 : decode prog_123_method_1_code 22 = .ok (.putfield 19, 3) := by decide +kernel
theorem d20_25 : decode prog_123_method_1_code 25 = .ok (.return_, 1) := by decide +kernel
theorem d22_0 : decode prog_123_method_6_code 0 = .ok (.aload_n 0, 1) := by decide +kernel
theorem d22_1 : decode prog_123_method_6_code 1 = .ok (.getfield 16, 3) := by decide +kernel
theorem d22_4 : decode prog_123_method_6_code 4 = .ok (.ifnull 17, 3) := by decide +kernel
theorem d22_7 : decode prog_123_method_6_code 7 = .ok (.aload_n 0, 1) := by decide +kernel
theorem d22_8 : decode prog_123_method_6_code 8 = .ok (.getfield 16, 3) := by decide +kernel
theorem d22_11 : decode prog_123_method_6_code 11 = .ok (.ldc 161, 2) := by decide +kernel
theorem d22_13 : decode prog_123_method_6_code 13 = .ok (.invokevirtual 139, 3) := by decide +kernel
theorem d22_16 : decode prog_123_method_6_code 16 = .ok (.ifCond .ne 5, 3) := by decide +kernel
theorem d22_19 : decode prog_123_method_6_code 19 = .ok (.iconst (-1), 1) := by decide +kernel
theorem d22_20 : decode prog_123_method_6_code 20 = .ok (.ireturn, 1) := by decide +kernel
theorem d22_21 : decode prog_123_method_6_code 21 = .ok (.iconst (-1), 1) := by decide +kernel
theorem d22_22 : decode prog_123_method_6_code 22 = .ok (.istore_n 3, 1) := by decide +kernel
theorem d22_23 : decode prog_123_method_6_code 23 = .ok (.aload_n 0, 1) := by decide +kernel
theorem d22_24 : decode prog_123_method_6_code 24 = .ok (.getfield 7, 3) := by decide +kernel
theorem d22_27 : decode prog_123_method_6_code 27 = .ok (.aload_n 1, 1) := by decide +kernel
theorem d22_28 : decode prog_123_method_6_code 28 = .ok (.invokevirtual 139, 3) := by decide +kernel
theorem d22_31 : decode prog_123_method_6_code 31 = .ok (.ifCond .eq 19, 3) := by decide +kernel
theorem d22_34 : decode prog_123_method_6_code 34 = .ok (.aload_n 0, 1) := by decide +kernel
theorem d22_35 : decode prog_123_method_6_code 35 = .ok (.getfield 13, 3) := by decide +kernel
theorem d22_38 : decode prog_123_method_6_code 38 = .ok (.aload_n 2, 1) := by decide +kernel
theorem d22_39 : decode prog_123_method_6_code 39 = .ok (.invokevirtual 139, 3) := by decide +kernel
theorem d22_42 : decode prog_123_method_6_code 42 = .ok (.ifCond .eq 8, 3) := by decide +kernel
theorem d22_45 : decode prog_123_method_6_code 45 = .ok (.iconst 2, 1) := by decide +kernel
theorem d22_46 : decode prog_123_method_6_code 46 = .ok (.istore_n 3, 1) := by decide +kernel
theorem d22_47 : decode prog_123_method_6_code 47 = .ok (.goto 57, 3) := by decide +kernel
theorem d22_50 : decode prog_123_method_6_code 50 = .ok (.aload_n 0, 1) := by decide +kernel
theorem d22_51 : decode prog_123_method_6_code 51 = .ok (.getfield 7, 3) := by decide +kernel
theorem d22_54 : decode prog_123_method_6_code 54 = .ok (.aload_n 1, 1) := by decide +kernel
theorem d22_55 : decode prog_123_method_6_code 55 = .ok (.invokevirtual 139, 3) := by decide +kernel
theorem d22_58 : decode prog_123_method_6_code 58 = .ok (.ifCond .eq 20, 3) := by decide +kernel
theorem d22_61 : decode prog_123_method_6_code 61 = .ok (.aload_n 0, 1) := by decide +kernel
theorem d22_62 : decode prog_123_method_6_code 62 = .ok (.getfield 13, 3) := by decide +kernel
theorem d22_65 : decode prog_123_method_6_code 65 = .ok (.ldc 163, 2) := by decide +kernel
theorem d22_67 : decode prog_123_method_6_code 67 = .ok (.invokevirtual 139, 3) := by decide +kernel
theorem d22_70 : decode prog_123_method_6_code 70 = .ok (.ifCond .eq 8, 3) := by decide +kernel
theorem d22_73 : decode prog_123_method_6_code 73 = .ok (.iconst 1, 1) := by decide +kernel
theorem d22_74 : decode prog_123_method_6_code 74 = .ok (.istore_n 3, 1) := by decide +kernel
theorem d22_75 : decode prog_123_method_6_code 75 = .ok (.goto 29, 3) := by decide +kernel
theorem d22_78 : decode prog_123_method_6_code 78 = .ok (.aload_n 0, 1) := by decide +kernel
theorem d22_79 : decode prog_123_method_6_code 79 = .ok (.getfield 7, 3) := by decide +kernel
theorem d22_82 : decode prog_123_method_6_code 82 = .ok (.ldc 163, 2) := by decide +kernel
theorem d22_84 : decode prog_123_method_6_code 84 = .ok (.invokevirtual 139, 3) := by decide +kernel
theorem d22_87 : decode prog_123_method_6_code 87 = .ok (.ifCond .eq 17, 3) := by decide +kernel
theorem d22_90 : decode prog_123_method_6_code 90 = .ok (.aload_n 0, 1) := by decide +kernel
theorem d22_91 : decode prog_123_method_6_code 91 = .ok (.getfield 13, 3) := by decide +kernel
theorem d22_94 : decode prog_123_method_6_code 94 = .ok (.ldc 163, 2) := by decide +kernel
theorem d22_96 : decode prog_123_method_6_code 96 = .ok (.invokevirtual 139, 3) := by decide +kernel
theorem d22_99 : decode prog_123_method_6_code 99 = .ok (.ifCond .eq 5, 3) := by decide +kernel
theorem d22_102 : decode prog_123_method_6_code 102 = .ok (.iconst 0, 1) := by decide +kernel
theorem d22_103 : decode prog_123_method_6_code 103 = .ok (.istore_n 3, 1) := by decide +kernel
theorem d22_104 : decode prog_123_method_6_code 104 = .ok (.iload_n 3, 1) := by decide +kernel
theorem d22_105 : decode prog_123_method_6_code 105 = .ok (.ireturn, 1) := by decide +kernel
theorem d5_0 : decode method_2_code 0 = .ok (.iload_n 0, 1) := by decide +kernel
theorem d5_1 : decode method_2_code 1 = .ok (.iconst 3, 1) := by decide +kernel
theorem d5_2 : decode method_2_code 2 = .ok (.iand, 1) := by decide +kernel
theorem d5_3 : decode method_2_code 3 = .ok (.istore_n 1, 1) := by decide +kernel
theorem d5_4 : decode method_2_code 4 = .ok (.iload_n 1, 1) := by decide +kernel
theorem d5_5 : decode method_2_code 5 = .ok (.ifCond .ne 6, 3) := by decide +kernel
theorem d5_8 : decode method_2_code 8 = .ok (.bipush 42, 2) := by decide +kernel
theorem d5_10 : decode method_2_code 10 = .ok (.ireturn, 1) := by decide +kernel
theorem d5_11 : decode method_2_code 11 = .ok (.iload_n 1, 1) := by decide +kernel
theorem d5_12 : decode method_2_code 12 = .ok (.iconst 1, 1) := by decide +kernel
theorem d5_13 : decode method_2_code 13 = .ok (.if_icmp .ne 6, 3) := by decide +kernel
theorem d5_16 : decode method_2_code 16 = .ok (.bipush 97, 2) := by decide +kernel
theorem d5_18 : decode method_2_code 18 = .ok (.ireturn, 1) := by decide +kernel
theorem d5_19 : decode method_2_code 19 = .ok (.iload_n 1, 1) := by decide +kernel
theorem d5_20 : decode method_2_code 20 = .ok (.iconst 2, 1) := by decide +kernel
theorem d5_21 : decode method_2_code 21 = .ok (.if_icmp .ne 6, 3) := by decide +kernel
theorem d5_24 : decode method_2_code 24 = .ok (.bipush 98, 2) := by decide +kernel
theorem d5_26 : decode method_2_code 26 = .ok (.ireturn, 1) := by decide +kernel
theorem d5_27 : decode method_2_code 27 = .ok (.iload_n 0, 1) := by decide +kernel
theorem d5_28 : decode method_2_code 28 = .ok (.iconst 2, 1) := by decide +kernel
theorem d5_29 : decode method_2_code 29 = .ok (.iushr, 1) := by decide +kernel
theorem d5_30 : decode method_2_code 30 = .ok (.sipush 255, 3) := by decide +kernel
theorem d5_33 : decode method_2_code 33 = .ok (.iand, 1) := by decide +kernel
theorem d5_34 : decode method_2_code 34 = .ok (.i2c, 1) := by decide +kernel
theorem d5_35 : decode method_2_code 35 = .ok (.ireturn, 1) := by decide +kernel
theorem d19_0 : decode method_9_code 0 = .ok (.iload_n 0, 1) := by decide +kernel
theorem d19_1 : decode method_9_code 1 = .ok (.iconst 3, 1) := by decide +kernel
theorem d19_2 : decode method_9_code 2 = .ok (.iand, 1) := by decide +kernel
theorem d19_3 : decode method_9_code 3 = .ok (.istore_n 1, 1) := by decide +kernel
theorem d19_4 : decode method_9_code 4 = .ok (.iload_n 0, 1) := by decide +kernel
theorem d19_5 : decode method_9_code 5 = .ok (.iconst 2, 1) := by decide +kernel
theorem d19_6 : decode method_9_code 6 = .ok (.iushr, 1) := by decide +kernel
theorem d19_7 : decode method_9_code 7 = .ok (.sipush 255, 3) := by decide +kernel
theorem d19_10 : decode method_9_code 10 = .ok (.iand, 1) := by decide +kernel
theorem d19_11 : decode method_9_code 11 = .ok (.i2c, 1) := by decide +kernel
theorem d19_12 : decode method_9_code 12 = .ok (.istore_n 2, 1) := by decide +kernel
theorem d19_13 : decode method_9_code 13 = .ok (.iload_n 1, 1) := by decide +kernel
theorem d19_14 : decode method_9_code 14 = .ok (.ifCond .ne 5, 3) := by decide +kernel
theorem d19_17 : decode method_9_code 17 = .ok (.aconst_null, 1) := by decide +kernel
theorem d19_18 : decode method_9_code 18 = .ok (.areturn, 1) := by decide +kernel
theorem d19_19 : decode method_9_code 19 = .ok (.iload_n 1, 1) := by decide +kernel
theorem d19_20 : decode method_9_code 20 = .ok (.iconst 1, 1) := by decide +kernel
theorem d19_21 : decode method_9_code 21 = .ok (.if_icmp .ne 41, 3) := by decide +kernel
theorem d19_24 : decode method_9_code 24 = .ok (.iconst 5, 1) := by decide +kernel
theorem d19_25 : decode method_9_code 25 = .ok (.newarray .char, 2) := by decide +kernel
theorem d19_27 : decode method_9_code 27 = .ok (.astore_n 3, 1) := by decide +kernel
theorem d19_28 : decode method_9_code 28 = .ok (.aload_n 3, 1) := by decide +kernel
theorem d19_29 : decode method_9_code 29 = .ok (.iconst 0, 1) := by decide +kernel
theorem d19_30 : decode method_9_code 30 = .ok (.bipush 117, 2) := by decide +kernel
theorem d19_32 : decode method_9_code 32 = .ok (.castore, 1) := by decide +kernel
theorem d19_33 : decode method_9_code 33 = .ok (.aload_n 3, 1) := by decide +kernel
theorem d19_34 : decode method_9_code 34 = .ok (.iconst 1, 1) := by decide +kernel
theorem d19_35 : decode method_9_code 35 = .ok (.bipush 116, 2) := by decide +kernel
theorem d19_37 : decode method_9_code 37 = .ok (.castore, 1) := by decide +kernel
theorem d19_38 : decode method_9_code 38 = .ok (.aload_n 3, 1) := by decide +kernel
theorem d19_39 : decode method_9_code 39 = .ok (.iconst 2, 1) := by decide +kernel
theorem d19_40 : decode method_9_code 40 = .ok (.bipush 102, 2) := by decide +kernel
theorem d19_42 : decode method_9_code 42 = .ok (.castore, 1) := by decide +kernel
theorem d19_43 : decode method_9_code 43 = .ok (.aload_n 3, 1) := by decide +kernel
theorem d19_44 : decode method_9_code 44 = .ok (.iconst 3, 1) := by decide +kernel
theorem d19_45 : decode method_9_code 45 = .ok (.bipush 45, 2) := by decide +kernel
theorem d19_47 : decode method_9_code 47 = .ok (.castore, 1) := by decide +kernel
theorem d19_48 : decode method_9_code 48 = .ok (.aload_n 3, 1) := by decide +kernel
theorem d19_49 : decode method_9_code 49 = .ok (.iconst 4, 1) := by decide +kernel
theorem d19_50 : decode method_9_code 50 = .ok (.bipush 56, 2) := by decide +kernel
theorem d19_52 : decode method_9_code 52 = .ok (.castore, 1) := by decide +kernel
theorem d19_53 : decode method_9_code 53 = .ok (.new 17, 3) := by decide +kernel
theorem d19_56 : decode method_9_code 56 = .ok (.dup, 1) := by decide +kernel
theorem d19_57 : decode method_9_code 57 = .ok (.aload_n 3, 1) := by decide +kernel
theorem d19_58 : decode method_9_code 58 = .ok (.invokespecial 25, 3) := by decide +kernel
theorem d19_61 : decode method_9_code 61 = .ok (.areturn, 1) := by decide +kernel
theorem d19_62 : decode method_9_code 62 = .ok (.iload_n 1, 1) := by decide +kernel
theorem d19_63 : decode method_9_code 63 = .ok (.iconst 2, 1) := by decide +kernel
theorem d19_64 : decode method_9_code 64 = .ok (.if_icmp .ne 40, 3) := by decide +kernel
theorem d19_67 : decode method_9_code 67 = .ok (.iconst 5, 1) := by decide +kernel
theorem d19_68 : decode method_9_code 68 = .ok (.newarray .char, 2) := by decide +kernel
theorem d19_70 : decode method_9_code 70 = .ok (.astore_n 3, 1) := by decide +kernel
theorem d19_71 : decode method_9_code 71 = .ok (.aload_n 3, 1) := by decide +kernel
theorem d19_72 : decode method_9_code 72 = .ok (.iconst 0, 1) := by decide +kernel
theorem d19_73 : decode method_9_code 73 = .ok (.bipush 117, 2) := by decide +kernel
theorem d19_75 : decode method_9_code 75 = .ok (.castore, 1) := by decide +kernel
theorem d19_76 : decode method_9_code 76 = .ok (.aload_n 3, 1) := by decide +kernel
theorem d19_77 : decode method_9_code 77 = .ok (.iconst 1, 1) := by decide +kernel
theorem d19_78 : decode method_9_code 78 = .ok (.bipush 116, 2) := by decide +kernel
theorem d19_80 : decode method_9_code 80 = .ok (.castore, 1) := by decide +kernel
theorem d19_81 : decode method_9_code 81 = .ok (.aload_n 3, 1) := by decide +kernel
theorem d19_82 : decode method_9_code 82 = .ok (.iconst 2, 1) := by decide +kernel
theorem d19_83 : decode method_9_code 83 = .ok (.bipush 102, 2) := by decide +kernel
theorem d19_85 : decode method_9_code 85 = .ok (.castore, 1) := by decide +kernel
theorem d19_86 : decode method_9_code 86 = .ok (.aload_n 3, 1) := by decide +kernel
theorem d19_87 : decode method_9_code 87 = .ok (.iconst 3, 1) := by decide +kernel
theorem d19_88 : decode method_9_code 88 = .ok (.bipush 45, 2) := by decide +kernel
theorem d19_90 : decode method_9_code 90 = .ok (.castore, 1) := by decide +kernel
theorem d19_91 : decode method_9_code 91 = .ok (.aload_n 3, 1) := by decide +kernel
theorem d19_92 : decode method_9_code 92 = .ok (.iconst 4, 1) := by decide +kernel
theorem d19_93 : decode method_9_code 93 = .ok (.iload_n 2, 1) := by decide +kernel
theorem d19_94 : decode method_9_code 94 = .ok (.castore, 1) := by decide +kernel
theorem d19_95 : decode method_9_code 95 = .ok (.new 17, 3) := by decide +kernel
theorem d19_98 : decode method_9_code 98 = .ok (.dup, 1) := by decide +kernel
theorem d19_99 : decode method_9_code 99 = .ok (.aload_n 3, 1) := by decide +kernel
theorem d19_100 : decode method_9_code 100 = .ok (.invokespecial 25, 3) := by decide +kernel
theorem d19_103 : decode method_9_code 103 = .ok (.areturn, 1) := by decide +kernel
theorem d19_104 : decode method_9_code 104 = .ok (.iload_n 2, 1) := by decide +kernel
theorem d19_105 : decode method_9_code 105 = .ok (.invokestatic 16, 3) := by decide +kernel
theorem d19_108 : decode method_9_code 108 = .ok (.areturn, 1) := by decide +kernel
theorem d1_0 : decode method_10_code 0 = .ok (.iload_n 0, 1) := by decide +kernel
theorem d1_1 : decode method_10_code 1 = .ok (.iconst 3, 1) := by decide +kernel
theorem d1_2 : decode method_10_code 2 = .ok (.iand, 1) := by decide +kernel
theorem d1_3 : decode method_10_code 3 = .ok (.istore_n 1, 1) := by decide +kernel
theorem d1_4 : decode method_10_code 4 = .ok (.iload_n 0, 1) := by decide +kernel
theorem d1_5 : decode method_10_code 5 = .ok (.iconst 2, 1) := by decide +kernel
theorem d1_6 : decode method_10_code 6 = .ok (.iushr, 1) := by decide +kernel
theorem d1_7 : decode method_10_code 7 = .ok (.sipush 255, 3) := by decide +kernel
theorem d1_10 : decode method_10_code 10 = .ok (.iand, 1) := by decide +kernel
theorem d1_11 : decode method_10_code 11 = .ok (.i2c, 1) := by decide +kernel
theorem d1_12 : decode method_10_code 12 = .ok (.istore_n 2, 1) := by decide +kernel
theorem d1_13 : decode method_10_code 13 = .ok (.iload_n 1, 1) := by decide +kernel
theorem d1_14 : decode method_10_code 14 = .ok (.ifCond .eq 8, 3) := by decide +kernel
theorem d1_17 : decode method_10_code 17 = .ok (.iload_n 1, 1) := by decide +kernel
theorem d1_18 : decode method_10_code 18 = .ok (.iconst 1, 1) := by decide +kernel
theorem d1_19 : decode method_10_code 19 = .ok (.if_icmp .ne 5, 3) := by decide +kernel
theorem d1_22 : decode method_10_code 22 = .ok (.iconst 1, 1) := by decide +kernel
theorem d1_23 : decode method_10_code 23 = .ok (.ireturn, 1) := by decide +kernel
theorem d1_24 : decode method_10_code 24 = .ok (.iload_n 1, 1) := by decide +kernel
theorem d1_25 : decode method_10_code 25 = .ok (.iconst 2, 1) := by decide +kernel
theorem d1_26 : decode method_10_code 26 = .ok (.if_icmp .ne 15, 3) := by decide +kernel
theorem d1_29 : decode method_10_code 29 = .ok (.iload_n 2, 1) := by decide +kernel
theorem d1_30 : decode method_10_code 30 = .ok (.bipush 56, 2) := by decide +kernel
theorem d1_32 : decode method_10_code 32 = .ok (.if_icmp .ne 7, 3) := by decide +kernel
theorem d1_35 : decode method_10_code 35 = .ok (.iconst 1, 1) := by decide +kernel
theorem d1_36 : decode method_10_code 36 = .ok (.goto 4, 3) := by decide +kernel
theorem d1_39 : decode method_10_code 39 = .ok (.iconst 0, 1) := by decide +kernel
theorem d1_40 : decode method_10_code 40 = .ok (.ireturn, 1) := by decide +kernel
theorem d1_41 : decode method_10_code 41 = .ok (.iconst 0, 1) := by decide +kernel
theorem d1_42 : decode method_10_code 42 = .ok (.ireturn, 1) := by decide +kernel
theorem d4_0 : decode method_3_code 0 = .ok (.iload_n 0, 1) := by decide +kernel
theorem d4_1 : decode method_3_code 1 = .ok (.iconst 1, 1) := by decide +kernel
theorem d4_2 : decode method_3_code 2 = .ok (.iushr, 1) := by decide +kernel
theorem d4_3 : decode method_3_code 3 = .ok (.sipush 1023, 3) := by decide +kernel
theorem d4_6 : decode method_3_code 6 = .ok (.iand, 1) := by decide +kernel
theorem d4_7 : decode method_3_code 7 = .ok (.invokestatic 7, 3) := by decide +kernel
theorem d4_10 : decode method_3_code 10 = .ok (.ireturn, 1) := by decide +kernel
theorem d3_0 : decode method_5_code 0 = .ok (.iconst 1, 1) := by decide +kernel
theorem d3_1 : decode method_5_code 1 = .ok (.iload_n 0, 1) := by decide +kernel
theorem d3_2 : decode method_5_code 2 = .ok (.iconst 1, 1) := by decide +kernel
theorem d3_3 : decode method_5_code 3 = .ok (.iand, 1) := by decide +kernel
theorem d3_4 : decode method_5_code 4 = .ok (.iadd, 1) := by decide +kernel
theorem d3_5 : decode method_5_code 5 = .ok (.ireturn, 1) := by decide +kernel
theorem d2_0 : decode method_7_code 0 = .ok (.iload_n 0, 1) := by decide +kernel
theorem d2_1 : decode method_7_code 1 = .ok (.invokestatic 28, 3) := by decide +kernel
theorem d2_4 : decode method_7_code 4 = .ok (.iload_n 1, 1) := by decide +kernel
theorem d2_5 : decode method_7_code 5 = .ok (.invokestatic 28, 3) := by decide +kernel
theorem d2_8 : decode method_7_code 8 = .ok (.if_icmp .eq 5, 3) := by decide +kernel
theorem d2_11 : decode method_7_code 11 = .ok (.iconst 0, 1) := by decide +kernel
theorem d2_12 : decode method_7_code 12 = .ok (.ireturn, 1) := by decide +kernel
theorem d2_13 : decode method_7_code 13 = .ok (.iload_n 0, 1) := by decide +kernel
theorem d2_14 : decode method_7_code 14 = .ok (.invokestatic 13, 3) := by decide +kernel
theorem d2_17 : decode method_7_code 17 = .ok (.iload_n 1, 1) := by decide +kernel
theorem d2_18 : decode method_7_code 18 = .ok (.invokestatic 13, 3) := by decide +kernel
theorem d2_21 : decode method_7_code 21 = .ok (.if_icmp .eq 5, 3) := by decide +kernel
theorem d2_24 : decode method_7_code 24 = .ok (.iconst 0, 1) := by decide +kernel
theorem d2_25 : decode method_7_code 25 = .ok (.ireturn, 1) := by decide +kernel
theorem d2_26 : decode method_7_code 26 = .ok (.iload_n 0, 1) := by decide +kernel
theorem d2_27 : decode method_7_code 27 = .ok (.invokestatic 28, 3) := by decide +kernel
theorem d2_30 : decode method_7_code 30 = .ok (.iconst 1, 1) := by decide +kernel
theorem d2_31 : decode method_7_code 31 = .ok (.if_icmp .eq 14, 3) := by decide +kernel
theorem d2_34 : decode method_7_code 34 = .ok (.iload_n 0, 1) := by decide +kernel
theorem d2_35 : decode method_7_code 35 = .ok (.invokestatic 22, 3) := by decide +kernel
theorem d2_38 : decode method_7_code 38 = .ok (.iload_n 1, 1) := by decide +kernel
theorem d2_39 : decode method_7_code 39 = .ok (.invokestatic 22, 3) := by decide +kernel
theorem d2_42 : decode method_7_code 42 = .ok (.if_icmp .ne 7, 3) := by decide +kernel
theorem d2_45 : decode method_7_code 45 = .ok (.iconst 1, 1) := by decide +kernel
theorem d2_46 : decode method_7_code 46 = .ok (.goto 4, 3) := by decide +kernel
theorem d2_49 : decode method_7_code 49 = .ok (.iconst 0, 1) := by decide +kernel
theorem d2_50 : decode method_7_code 50 = .ok (.ireturn, 1) := by decide +kernel
theorem d13_0 : decode method_4_code 0 = .ok (.iload_n 0, 1) := by decide +kernel
theorem d13_1 : decode method_4_code 1 = .ok (.bipush 11, 2) := by decide +kernel
theorem d13_3 : decode method_4_code 3 = .ok (.iushr, 1) := by decide +kernel
theorem d13_4 : decode method_4_code 4 = .ok (.sipush 1023, 3) := by decide +kernel
theorem d13_7 : decode method_4_code 7 = .ok (.iand, 1) := by decide +kernel
theorem d13_8 : decode method_4_code 8 = .ok (.invokestatic 7, 3) := by decide +kernel
theorem d13_11 : decode method_4_code 11 = .ok (.ireturn, 1) := by decide +kernel
theorem d6_0 : decode method_8_code 0 = .ok (.iload_n 0, 1) := by decide +kernel
theorem d6_1 : decode method_8_code 1 = .ok (.invokestatic 28, 3) := by decide +kernel
theorem d6_4 : decode method_8_code 4 = .ok (.iconst 1, 1) := by decide +kernel
theorem d6_5 : decode method_8_code 5 = .ok (.if_icmp .ne 16, 3) := by decide +kernel
theorem d6_8 : decode method_8_code 8 = .ok (.iload_n 0, 1) := by decide +kernel
theorem d6_9 : decode method_8_code 9 = .ok (.invokestatic 13, 3) := by decide +kernel
theorem d6_12 : decode method_8_code 12 = .ok (.bipush 42, 2) := by decide +kernel
theorem d6_14 : decode method_8_code 14 = .ok (.if_icmp .ne 7, 3) := by decide +kernel
theorem d6_17 : decode method_8_code 17 = .ok (.iconst 1, 1) := by decide +kernel
theorem d6_18 : decode method_8_code 18 = .ok (.goto 4, 3) := by decide +kernel
theorem d6_21 : decode method_8_code 21 = .ok (.iconst 0, 1) := by decide +kernel
theorem d6_22 : decode method_8_code 22 = .ok (.ireturn, 1) := by decide +kernel
theorem d7_0 : decode method_6_code 0 = .ok (.iload_n 0, 1) := by decide +kernel
theorem d7_1 : decode method_6_code 1 = .ok (.iconst 1, 1) := by decide +kernel
theorem d7_2 : decode method_6_code 2 = .ok (.iand, 1) := by decide +kernel
theorem d7_3 : decode method_6_code 3 = .ok (.ifCond .ne 11, 3) := by decide +kernel
theorem d7_6 : decode method_6_code 6 = .ok (.iload_n 0, 1) := by decide +kernel
theorem d7_7 : decode method_6_code 7 = .ok (.invokestatic 13, 3) := by decide +kernel
theorem d7_10 : decode method_6_code 10 = .ok (.invokestatic 16, 3) := by decide +kernel
theorem d7_13 : decode method_6_code 13 = .ok (.areturn, 1) := by decide +kernel
theorem d7_14 : decode method_6_code 14 = .ok (.iconst 2, 1) := by decide +kernel
theorem d7_15 : decode method_6_code 15 = .ok (.newarray .char, 2) := by decide +kernel
theorem d7_17 : decode method_6_code 17 = .ok (.astore_n 1, 1) := by decide +kernel
theorem d7_18 : decode method_6_code 18 = .ok (.aload_n 1, 1) := by decide +kernel
theorem d7_19 : decode method_6_code 19 = .ok (.iconst 0, 1) := by decide +kernel
theorem d7_20 : decode method_6_code 20 = .ok (.iload_n 0, 1) := by decide +kernel
theorem d7_21 : decode method_6_code 21 = .ok (.invokestatic 13, 3) := by decide +kernel
theorem d7_24 : decode method_6_code 24 = .ok (.castore, 1) := by decide +kernel
theorem d7_25 : decode method_6_code 25 = .ok (.aload_n 1, 1) := by decide +kernel
theorem d7_26 : decode method_6_code 26 = .ok (.iconst 1, 1) := by decide +kernel
theorem d7_27 : decode method_6_code 27 = .ok (.iload_n 0, 1) := by decide +kernel
theorem d7_28 : decode method_6_code 28 = .ok (.invokestatic 22, 3) := by decide +kernel
theorem d7_31 : decode method_6_code 31 = .ok (.castore, 1) := by decide +kernel
theorem d7_32 : decode method_6_code 32 = .ok (.new 17, 3) := by decide +kernel
theorem d7_35 : decode method_6_code 35 = .ok (.dup, 1) := by decide +kernel
theorem d7_36 : decode method_6_code 36 = .ok (.aload_n 1, 1) := by decide +kernel
theorem d7_37 : decode method_6_code 37 = .ok (.invokespecial 25, 3) := by decide +kernel
theorem d7_40 : decode method_6_code 40 = .ok (.areturn, 1) := by decide +kernel
theorem d21_0 : decode jdk_30_method_1_code 0 = .ok (.aload_n 0, 1) := by decide +kernel
theorem d21_1 : decode jdk_30_method_1_code 1 = .ok (.invokespecial 1, 3) := by decide +kernel
theorem d21_4 : decode jdk_30_method_1_code 4 = .ok (.return_, 1) := by decide +kernel
theorem d11_0 : decode jdk_42_method_151_code 0 = .ok (.aload_n 0, 1) := by decide +kernel
theorem d11_1 : decode jdk_42_method_151_code 1 = .ok (.invokespecial 1, 3) := by decide +kernel
theorem d11_4 : decode jdk_42_method_151_code 4 = .ok (.aload_n 0, 1) := by decide +kernel
theorem d11_5 : decode jdk_42_method_151_code 5 = .ok (.aload_n 1, 1) := by decide +kernel
theorem d11_6 : decode jdk_42_method_151_code 6 = .ok (.putfield 9, 3) := by decide +kernel
theorem d11_9 : decode jdk_42_method_151_code 9 = .ok (.aload_n 0, 1) := by decide +kernel
theorem d11_10 : decode jdk_42_method_151_code 10 = .ok (.iload_n 2, 1) := by decide +kernel
theorem d11_11 : decode jdk_42_method_151_code 11 = .ok (.putfield 15, 3) := by decide +kernel
theorem d11_14 : decode jdk_42_method_151_code 14 = .ok (.return_, 1) := by decide +kernel
theorem d8_0 : decode jdk_42_method_139_code 0 = .ok (.getstatic 38, 3) := by decide +kernel
theorem d8_3 : decode jdk_42_method_139_code 3 = .ok (.ifCond .eq 23, 3) := by decide +kernel
theorem d8_6 : decode jdk_42_method_139_code 6 = .ok (.iload_n 0, 1) := by decide +kernel
theorem d8_7 : decode jdk_42_method_139_code 7 = .ok (.invokestatic 1015, 3) := by decide +kernel
theorem d8_10 : decode jdk_42_method_139_code 10 = .ok (.ifCond .eq 16, 3) := by decide +kernel
theorem d8_13 : decode jdk_42_method_139_code 13 = .ok (.new 10, 3) := by decide +kernel
theorem d8_16 : decode jdk_42_method_139_code 16 = .ok (.dup, 1) := by decide +kernel
theorem d8_17 : decode jdk_42_method_139_code 17 = .ok (.iload_n 0, 1) := by decide +kernel
theorem d8_18 : decode jdk_42_method_139_code 18 = .ok (.invokestatic 1018, 3) := by decide +kernel
theorem d8_21 : decode jdk_42_method_139_code 21 = .ok (.iconst 0, 1) := by decide +kernel
theorem d8_22 : decode jdk_42_method_139_code 22 = .ok (.invokespecial 209, 3) := by decide +kernel
theorem d8_25 : decode jdk_42_method_139_code 25 = .ok (.areturn, 1) := by decide +kernel
theorem d9_0 : decode jdk_43_method_3_code 0 = .ok (.iload_n 0, 1) := by decide +kernel
theorem d9_1 : decode jdk_43_method_3_code 1 = .ok (.sipush 255, 3) := by decide +kernel
theorem d9_4 : decode jdk_43_method_3_code 4 = .ok (.if_icmp .gt 7, 3) := by decide +kernel
theorem d9_7 : decode jdk_43_method_3_code 7 = .ok (.iconst 1, 1) := by decide +kernel
theorem d9_8 : decode jdk_43_method_3_code 8 = .ok (.goto 4, 3) := by decide +kernel
theorem d9_12 : decode jdk_43_method_3_code 12 = .ok (.ireturn, 1) := by decide +kernel
theorem d10_0 : decode jdk_43_method_46_code 0 = .ok (.iconst 1, 1) := by decide +kernel
theorem d10_1 : decode jdk_43_method_46_code 1 = .ok (.newarray .byte, 2) := by decide +kernel
theorem d10_3 : decode jdk_43_method_46_code 3 = .ok (.dup, 1) := by decide +kernel
theorem d10_4 : decode jdk_43_method_46_code 4 = .ok (.iconst 0, 1) := by decide +kernel
theorem d10_5 : decode jdk_43_method_46_code 5 = .ok (.iload_n 0, 1) := by decide +kernel
theorem d10_6 : decode jdk_43_method_46_code 6 = .ok (.i2b, 1) := by decide +kernel
theorem d10_7 : decode jdk_43_method_46_code 7 = .ok (.bastore, 1) := by decide +kernel
theorem d10_8 : decode jdk_43_method_46_code 8 = .ok (.areturn, 1) := by decide +kernel
theorem cA : (1 : Int32) + 0 = 1 := by decide
def chF (v : Int32) : Int32 := if v &&& 3 = 0 then 42 else if v &&& 3 = 1 then 97 else if v &&& 3 = 2 then 98 else XT.ushr v 2 &&& 255
theorem chF_rng (v : Int32) : ¬ chF v < 0 ∧ ¬ (255 : Int32) < chF v := by
  unfold chF
  split
  · decide
  split
  · decide
  split
  · decide
  exact mask_rng _ 255 (by decide)
theorem chF_nar (v : Int32) : nar .char (chF v) = chF v := nar_char_id (chF_rng v).1 (nle (chF_rng v).2 (by decide))
def fF (x : Int32) : Int32 := chF (XT.ushr x 1 &&& 1023)
def sF (x : Int32) : Int32 := chF (XT.ushr x 11 &&& 1023)
theorem fF_nar (x : Int32) : nar .char (fF x) = fF x := chF_nar _
theorem sF_nar (x : Int32) : nar .char (sF x) = sF x := chF_nar _
def tx (x : Int32) : List Int32 := if x &&& 1 = 0 then [fF x] else [fF x, sF x]
def cF (e : Int32) : Int32 := XT.ushr e 2 &&& 255
def u8 : List Int32 := [117, 116, 102, 45, 56]
def csT (e : Int32) : Option (List Int32) := if e &&& 3 = 0 then none else if e &&& 3 = 1 then some u8 else if e &&& 3 = 2 then some [117, 116, 102, 45, cF e] else some [cF e]
def csOk (e : Int32) : Prop := csT e = none ∨ csT e = some u8
instance (e : Int32) : Decidable (csOk e) := inferInstanceAs (Decidable (_ ∨ _))
def specF (ok : Prop) [Decidable ok] (t s qt qs : List Int32) : Int32 := if ¬ ok then -1 else if t = qt ∧ s = qs then 2 else if t = qt ∧ s = [42] then 1 else if t = [42] ∧ s = [42] then 0 else -1
section
variable {ok : Prop} [Decidable ok] {t s qt qs : List Int32}
theorem specF_n (h : ¬ ok) : specF ok t s qt qs = -1 := if_pos h
theorem specF_2 (h : ok) (h1 : t = qt) (h2 : s = qs) : specF ok t s qt qs = 2 := by rw [specF, if_neg (fun z => z h), if_pos ⟨h1, h2⟩]
theorem specF_1 (h : ok) (n1 : ¬ (t = qt ∧ s = qs)) (h1 : t = qt) (h2 : s = [42]) : specF ok t s qt qs = 1 := by rw [specF, if_neg (fun z => z h), if_neg n1, if_pos ⟨h1, h2⟩]
theorem specF_0 (h : ok) (n1 : ¬ (t = qt ∧ s = qs)) (n2 : ¬ (t = qt ∧ s = [42])) (h1 : t = [42]) (h2 : s = [42]) : specF ok t s qt qs = 0 := by rw [specF, if_neg (fun z => z h), if_neg n1, if_neg n2, if_pos ⟨h1, h2⟩]
theorem specF_m (h : ok) (n1 : ¬ (t = qt ∧ s = qs)) (n2 : ¬ (t = qt ∧ s = [42])) (n3 : ¬ (t = [42] ∧ s = [42])) : specF ok t s qt qs = -1 := by rw [specF, if_neg (fun z => z h), if_neg n1, if_neg n2, if_neg n3]
end
theorem one_bit (x : Int32) : (1 + (x &&& 1) = 1 ∧ x &&& 1 = 0) ∨ (1 + (x &&& 1) = 2 ∧ x &&& 1 = 1) := by
  rcases and_one x with q | q <;> rw [q]
  · exact Or.inl ⟨by decide, rfl⟩
  · exact Or.inr ⟨by decide, rfl⟩
theorem tx_same (x y : Int32) : tx x = tx y ↔ (1 + (x &&& 1) = 1 + (y &&& 1) ∧ fF x = fF y ∧ (1 + (x &&& 1) = 1 ∨ sF x = sF y)) := by
  rcases one_bit x with ⟨p1, p2⟩ | ⟨p1, p2⟩ <;> rcases one_bit y with ⟨q1, q2⟩ | ⟨q1, q2⟩ <;> rw [p1, q1] <;> simp [tx, p2, q2]
theorem same_n1 {x y : Int32} (h : ¬ 1 + (x &&& 1) = 1 + (y &&& 1)) : (if tx x = tx y then (1 : Int32) else 0) = 0 := if_neg fun z => h ((tx_same _ _).mp z).1
theorem same_n2 {x y : Int32} (h : ¬ fF x = fF y) : (if tx x = tx y then (1 : Int32) else 0) = 0 := if_neg fun z => h ((tx_same _ _).mp z).2.1
theorem same_n3 {x y : Int32} (h0 : ¬ 1 + (x &&& 1) = 1) (h : ¬ sF x = sF y) : (if tx x = tx y then (1 : Int32) else 0) = 0 := if_neg fun z => ((tx_same _ _).mp z).2.2.elim h0 h
theorem same_y {x y : Int32} (h : 1 + (x &&& 1) = 1 + (y &&& 1)) (h1 : fF x = fF y) (h2 : 1 + (x &&& 1) = 1 ∨ sF x = sF y) : (if tx x = tx y then (1 : Int32) else 0) = 1 := if_pos ((tx_same _ _).mpr ⟨h, h1, h2⟩)
theorem tx_star (x : Int32) : tx x = [42] ↔ (1 + (x &&& 1) = 1 ∧ fF x = 42) := by
  rcases one_bit x with ⟨p1, p2⟩ | ⟨p1, p2⟩ <;> rw [p1] <;> simp [tx, p2]
theorem star_n1 {x : Int32} (h : ¬ 1 + (x &&& 1) = 1) : (if tx x = [42] then (1 : Int32) else 0) = 0 := if_neg fun z => h ((tx_star _).mp z).1
theorem star_n2 {x : Int32} (h : ¬ fF x = 42) : (if tx x = [42] then (1 : Int32) else 0) = 0 := if_neg fun z => h ((tx_star _).mp z).2
theorem star_y {x : Int32} (h : 1 + (x &&& 1) = 1) (h2 : fF x = 42) : (if tx x = [42] then (1 : Int32) else 0) = 1 := if_pos ((tx_star _).mpr ⟨h, h2⟩)
theorem tx_rng (x : Int32) : ∀ c ∈ tx x, ¬ c < 0 ∧ ¬ (255 : Int32) < c := by
  unfold tx
  split <;> intro c hc <;> simp only [List.mem_cons, List.not_mem_nil, or_false] at hc
  · subst hc; exact chF_rng _
  · rcases hc with rfl | rfl <;> exact chF_rng _
theorem cF_rng (e : Int32) : ¬ cF e < 0 ∧ ¬ (255 : Int32) < cF e := mask_rng _ 255 (by decide)
theorem cF_nar (e : Int32) : nar .char (cF e) = cF e := nar_char_id (cF_rng e).1 (nle (cF_rng e).2 (by decide))
theorem lo8_lo8 (c : Int32) : nar .byte c.toInt8.toInt32 = StrChars.lo8 c := by
  show c.toInt8.toInt32.toInt8.toInt32 = c.toInt8.toInt32
  simp
set_option maxRecDepth 65536 in
set_option maxHeartbeats 40000000 in
theorem c_ch (l : Launch) (Z : State) (a0 : Array Value) (hw : ∀ d ∈ tables_1, d.before a0 Z = true) (p1 : Int32) (h0 : Heap) :
    Con l (⟨"com/example/inquiry_to_answer/inquirytoanswer/http/MediaRangeSpecificityForPinLaw", "ch", "(I)C"⟩ : MethodName) method_2_code 2 (some .char) [] ({ frames := 0, cells := 0, slots := 0, locals := 0 } : Room) Z #[(.int p1)] h0 [] (fun _ => True) (fun v h _ => v = some (.int (chF p1)) ∧ h = h0) false := by
  refine Con.intro pn_0 ?_
  intro p e s m below meth c K hV hsh
  have ef : entryFrame m #[(.int p1)] 2 = (mkF m 0 #[.val (.int p1), .unset] []) := (by first | (simp [entryFrame, mkF, argsToLocals, cat_ref, cat_int, cat_long, cat_null]; done) | rfl)
  rw [ef]
  refine GoKit.iloadN (pc := 0) K d5_0 rfl ?_
  refine GoKit.iconst (pc := 1) (x := (3 : Int32)) K d5_1 rfl ?_
  refine GoKit.iand (pc := 2) K d5_2 ?_
  refine GoKit.istoreN (pc := 3) (l' := #[.val (.int p1), .val (.int (p1 &&& (3 : Int32)))]) K d5_3 rfl ?_
  refine GoKit.iloadN (pc := 4) K d5_4 rfl ?_
  refine GoKit.if_ne (pc := 5) (pc' := 11) K d5_5 (by decide) (fun hc101 => ?_) (fun hc101 => ?_)
  · -- ¬ (p1 &&& (3 : Int32)) = (0 : Int32)
    refine GoKit.iloadN (pc := 11) K d5_11 rfl ?_
    refine GoKit.iconst (pc := 12) (x := (1 : Int32)) K d5_12 rfl ?_
    refine GoKit.icmp_ne (pc := 13) (pc' := 19) K d5_13 (by decide) (fun hc102 => ?_) (fun hc102 => ?_)
    · -- ¬ (p1 &&& (3 : Int32)) = (1 : Int32)
      refine GoKit.iloadN (pc := 19) K d5_19 rfl ?_
      refine GoKit.iconst (pc := 20) (x := (2 : Int32)) K d5_20 rfl ?_
      refine GoKit.icmp_ne (pc := 21) (pc' := 27) K d5_21 (by decide) (fun hc103 => ?_) (fun hc103 => ?_)
      · -- ¬ (p1 &&& (3 : Int32)) = (2 : Int32)
        refine GoKit.iloadN (pc := 27) K d5_27 rfl ?_
        refine GoKit.iconst (pc := 28) (x := (2 : Int32)) K d5_28 rfl ?_
        refine GoKit.iushr (pc := 29) K d5_29 ?_
        refine GoKit.sipush (pc := 30) (x := (255 : Int32)) K d5_30 rfl ?_
        refine GoKit.iand (pc := 33) K d5_33 ?_
        refine GoKit.i2c (pc := 34) K d5_34 ?_
        exact GoKit.retZ (pc := 35) K (by simp) (z' := (XT.ushr p1 (2 : Int32) &&& (255 : Int32))) (ch255 _) d5_35 (by simp) (by decide) (by decide) (fun _ _ => ⟨by simp [chF, hc101, hc102, hc103], rfl⟩)
      · -- (p1 &&& (3 : Int32)) = (2 : Int32)
        refine GoKit.bipush (pc := 24) (x := (98 : Int32)) K d5_24 rfl ?_
        exact GoKit.retZ (pc := 26) K (by simp) (z' := (98 : Int32)) (by decide) d5_26 (by simp) (by decide) (by decide) (fun _ _ => ⟨by simp [chF, hc101, hc102, hc103], rfl⟩)
    · -- (p1 &&& (3 : Int32)) = (1 : Int32)
      refine GoKit.bipush (pc := 16) (x := (97 : Int32)) K d5_16 rfl ?_
      exact GoKit.retZ (pc := 18) K (by simp) (z' := (97 : Int32)) (by decide) d5_18 (by simp) (by decide) (by decide) (fun _ _ => ⟨by simp [chF, hc101, hc102], rfl⟩)
  · -- (p1 &&& (3 : Int32)) = (0 : Int32)
    refine GoKit.bipush (pc := 8) (x := (42 : Int32)) K d5_8 rfl ?_
    exact GoKit.retZ (pc := 10) K (by simp) (z' := (42 : Int32)) (by decide) d5_10 (by simp) (by decide) (by decide) (fun _ _ => ⟨by simp [chF, hc101], rfl⟩)
set_option maxRecDepth 65536 in
set_option maxHeartbeats 40000000 in
theorem c_first (l : Launch) (Z : State) (a0 : Array Value) (hw : ∀ d ∈ tables_1, d.before a0 Z = true) (p1 : Int32) (h0 : Heap) :
    Con l (⟨"com/example/inquiry_to_answer/inquirytoanswer/http/MediaRangeSpecificityForPinLaw", "first", "(I)C"⟩ : MethodName) method_3_code 1 (some .char) [] ({ frames := 1, cells := 0, slots := 0, locals := 13 } : Room) Z #[(.int p1)] h0 [] (fun _ => True) (fun v h _ => v = some (.int (fF p1)) ∧ h = h0) false := by
  refine Con.intro pn_0 ?_
  intro p e s m below meth c K hV hsh
  have ef : entryFrame m #[(.int p1)] 1 = (mkF m 0 #[.val (.int p1)] []) := (by first | (simp [entryFrame, mkF, argsToLocals, cat_ref, cat_int, cat_long, cat_null]; done) | rfl)
  rw [ef]
  refine GoKit.iloadN (pc := 0) K d4_0 rfl ?_
  refine GoKit.iconst (pc := 1) (x := (1 : Int32)) K d4_1 rfl ?_
  refine GoKit.iushr (pc := 2) K d4_2 ?_
  refine GoKit.sipush (pc := 3) (x := (1023 : Int32)) K d4_3 rfl ?_
  refine GoKit.iand (pc := 6) K d4_6 ?_
  refine GoKit.callS (pc := 7) (a0 := a0) (argsL := [(.int ((XT.ushr p1 (1 : Int32)) &&& (1023 : Int32)))]) (rest := []) K (hw _ (List.mem_of_getElem? (i := 13) rfl)) (hw _ (List.mem_of_getElem? (i := 14) rfl)) (hw _ (List.mem_of_getElem? (i := 2) rfl)) (hw _ (List.mem_of_getElem? (i := 15) rfl)) (by decide) (fun hZ => Con.bk (a0 := a0) (c_ch l Z a0 hw ((XT.ushr p1 (1 : Int32)) &&& (1023 : Int32)) h0) hZ (hw _ (List.mem_of_getElem? (i := 15) rfl)) (hw _ (List.mem_of_getElem? (i := 2) rfl)) (by decide) (Nat.le_of_ble_eq_true rfl)) rfl rfl (lenOf pd_0 rfl) rfl d4_7 (by decide) (by decide) (fun _ _ _ q => ⟨Fw.sub q.2.1 (by omega) (fun x hx => nomatch hx), q.2.2.1⟩) ?_
  intro v101 h102 L104 q103
  obtain ⟨⟨vm105, rfl, e106⟩, -, -⟩ := q103
  replace e106 := e106.symm; subst e106
  show Go _ _ _ _ _ _ _ _ _ _ _ _ _ _ _ _ _ _ _ _ _ (mkF m 10 #[.val (.int p1)] [(.int (chF ((XT.ushr p1 (1 : Int32)) &&& (1023 : Int32))))])
  show Go _ _ _ _ _ _ _ _ _ _ _ _ _ _ _ _ _ _ _ _ _ (mkF m 10 #[.val (.int p1)] [(.int (fF p1))])
  exact GoKit.retZ (pc := 10) K (by simp) (z' := fF p1) (chF_nar _) d4_10 (by simp) (by decide) (by decide) (fun _ _ => ⟨rfl, rfl⟩)
set_option maxRecDepth 65536 in
set_option maxHeartbeats 40000000 in
theorem c_second (l : Launch) (Z : State) (a0 : Array Value) (hw : ∀ d ∈ tables_1, d.before a0 Z = true) (p1 : Int32) (h0 : Heap) :
    Con l (⟨"com/example/inquiry_to_answer/inquirytoanswer/http/MediaRangeSpecificityForPinLaw", "second", "(I)C"⟩ : MethodName) method_4_code 1 (some .char) [] ({ frames := 1, cells := 0, slots := 0, locals := 13 } : Room) Z #[(.int p1)] h0 [] (fun _ => True) (fun v h _ => v = some (.int (sF p1)) ∧ h = h0) false := by
  refine Con.intro pn_0 ?_
  intro p e s m below meth c K hV hsh
  have ef : entryFrame m #[(.int p1)] 1 = (mkF m 0 #[.val (.int p1)] []) := (by first | (simp [entryFrame, mkF, argsToLocals, cat_ref, cat_int, cat_long, cat_null]; done) | rfl)
  rw [ef]
  refine GoKit.iloadN (pc := 0) K d13_0 rfl ?_
  refine GoKit.bipush (pc := 1) (x := (11 : Int32)) K d13_1 rfl ?_
  refine GoKit.iushr (pc := 3) K d13_3 ?_
  refine GoKit.sipush (pc := 4) (x := (1023 : Int32)) K d13_4 rfl ?_
  refine GoKit.iand (pc := 7) K d13_7 ?_
  refine GoKit.callS (pc := 8) (a0 := a0) (argsL := [(.int ((XT.ushr p1 (11 : Int32)) &&& (1023 : Int32)))]) (rest := []) K (hw _ (List.mem_of_getElem? (i := 13) rfl)) (hw _ (List.mem_of_getElem? (i := 14) rfl)) (hw _ (List.mem_of_getElem? (i := 2) rfl)) (hw _ (List.mem_of_getElem? (i := 15) rfl)) (by decide) (fun hZ => Con.bk (a0 := a0) (c_ch l Z a0 hw ((XT.ushr p1 (11 : Int32)) &&& (1023 : Int32)) h0) hZ (hw _ (List.mem_of_getElem? (i := 15) rfl)) (hw _ (List.mem_of_getElem? (i := 2) rfl)) (by decide) (Nat.le_of_ble_eq_true rfl)) rfl rfl (lenOf pd_0 rfl) rfl d13_8 (by decide) (by decide) (fun _ _ _ q => ⟨Fw.sub q.2.1 (by omega) (fun x hx => nomatch hx), q.2.2.1⟩) ?_
  intro v101 h102 L104 q103
  obtain ⟨⟨vm105, rfl, e106⟩, -, -⟩ := q103
  replace e106 := e106.symm; subst e106
  show Go _ _ _ _ _ _ _ _ _ _ _ _ _ _ _ _ _ _ _ _ _ (mkF m 11 #[.val (.int p1)] [(.int (chF ((XT.ushr p1 (11 : Int32)) &&& (1023 : Int32))))])
  show Go _ _ _ _ _ _ _ _ _ _ _ _ _ _ _ _ _ _ _ _ _ (mkF m 11 #[.val (.int p1)] [(.int (sF p1))])
  exact GoKit.retZ (pc := 11) K (by simp) (z' := sF p1) (chF_nar _) d13_11 (by simp) (by decide) (by decide) (fun _ _ => ⟨rfl, rfl⟩)
set_option maxRecDepth 65536 in
set_option maxHeartbeats 40000000 in
theorem c_len (l : Launch) (Z : State) (a0 : Array Value) (hw : ∀ d ∈ tables_1, d.before a0 Z = true) (p1 : Int32) (h0 : Heap) :
    Con l (⟨"com/example/inquiry_to_answer/inquirytoanswer/http/MediaRangeSpecificityForPinLaw", "len", "(I)I"⟩ : MethodName) method_5_code 1 (some .int) [] ({ frames := 0, cells := 0, slots := 0, locals := 0 } : Room) Z #[(.int p1)] h0 [] (fun _ => True) (fun v h _ => v = some (.int (1 + (p1 &&& 1))) ∧ h = h0) false := by
  refine Con.intro pn_0 ?_
  intro p e s m below meth c K hV hsh
  have ef : entryFrame m #[(.int p1)] 1 = (mkF m 0 #[.val (.int p1)] []) := (by first | (simp [entryFrame, mkF, argsToLocals, cat_ref, cat_int, cat_long, cat_null]; done) | rfl)
  rw [ef]
  refine GoKit.iconst (pc := 0) (x := (1 : Int32)) K d3_0 rfl ?_
  refine GoKit.iloadN (pc := 1) K d3_1 rfl ?_
  refine GoKit.iconst (pc := 2) (x := (1 : Int32)) K d3_2 rfl ?_
  refine GoKit.iand (pc := 3) K d3_3 ?_
  refine GoKit.iadd (pc := 4) K d3_4 ?_
  exact GoKit.retI (pc := 5) K d3_5 (by simp) (by decide) (by decide) (fun _ _ => ⟨rfl, rfl⟩)
set_option maxRecDepth 65536 in
set_option maxHeartbeats 40000000 in
theorem c_same (l : Launch) (Z : State) (a0 : Array Value) (hw : ∀ d ∈ tables_1, d.before a0 Z = true) (p1 p2 : Int32) (h0 : Heap) :
    Con l (⟨"com/example/inquiry_to_answer/inquirytoanswer/http/MediaRangeSpecificityForPinLaw", "same", "(II)Z"⟩ : MethodName) method_7_code 2 (some .boolean) [] ({ frames := 2, cells := 0, slots := 0, locals := 26 } : Room) Z #[(.int p1), (.int p2)] h0 [] (fun _ => True) (fun v h _ => v = some (.int (if tx p1 = tx p2 then 1 else 0)) ∧ h = h0) false := by
  refine Con.intro pn_0 ?_
  intro p e s m below meth c K hV hsh
  have ef : entryFrame m #[(.int p1), (.int p2)] 2 = (mkF m 0 #[.val (.int p1), .val (.int p2)] []) := (by first | (simp [entryFrame, mkF, argsToLocals, cat_ref, cat_int, cat_long, cat_null]; done) | rfl)
  rw [ef]
  refine GoKit.iloadN (pc := 0) K d2_0 rfl ?_
  refine GoKit.callS (pc := 1) (a0 := a0) (argsL := [(.int p1)]) (rest := []) K (hw _ (List.mem_of_getElem? (i := 7) rfl)) (hw _ (List.mem_of_getElem? (i := 8) rfl)) (hw _ (List.mem_of_getElem? (i := 2) rfl)) (hw _ (List.mem_of_getElem? (i := 9) rfl)) (by decide) (fun hZ => Con.bk (a0 := a0) (c_len l Z a0 hw p1 h0) hZ (hw _ (List.mem_of_getElem? (i := 9) rfl)) (hw _ (List.mem_of_getElem? (i := 2) rfl)) (by decide) (Nat.le_of_ble_eq_true rfl)) rfl rfl (lenOf pd_1 rfl) rfl d2_1 (by decide) (by decide) (fun _ _ _ q => ⟨Fw.sub q.2.1 (by omega) (fun x hx => nomatch hx), q.2.2.1⟩) ?_
  intro v101 h102 L104 q103
  obtain ⟨⟨vm105, rfl, e106⟩, -, -⟩ := q103
  replace e106 := e106.symm; subst e106
  show Go _ _ _ _ _ _ _ _ _ _ _ _ _ _ _ _ _ _ _ _ _ (mkF m 4 #[.val (.int p1), .val (.int p2)] [(.int (1 + (p1 &&& 1)))])
  refine GoKit.iloadN (pc := 4) K d2_4 rfl ?_
  refine GoKit.callS (pc := 5) (a0 := a0) (argsL := [(.int p2)]) (rest := [(.int (1 + (p1 &&& 1)))]) K (hw _ (List.mem_of_getElem? (i := 7) rfl)) (hw _ (List.mem_of_getElem? (i := 8) rfl)) (hw _ (List.mem_of_getElem? (i := 2) rfl)) (hw _ (List.mem_of_getElem? (i := 9) rfl)) (by decide) (fun hZ => Con.bk (a0 := a0) (c_len l Z a0 hw p2 h0) hZ (hw _ (List.mem_of_getElem? (i := 9) rfl)) (hw _ (List.mem_of_getElem? (i := 2) rfl)) (by decide) (Nat.le_of_ble_eq_true rfl)) rfl rfl (lenOf pd_1 rfl) rfl d2_5 (by decide) (by decide) (fun _ _ _ q => ⟨Fw.sub q.2.1 (by omega) (fun x hx => nomatch hx), q.2.2.1⟩) ?_
  intro v107 h108 L110 q109
  obtain ⟨⟨vm111, rfl, e112⟩, -, -⟩ := q109
  replace e112 := e112.symm; subst e112
  show Go _ _ _ _ _ _ _ _ _ _ _ _ _ _ _ _ _ _ _ _ _ (mkF m 8 #[.val (.int p1), .val (.int p2)] [(.int (1 + (p2 &&& 1))), (.int (1 + (p1 &&& 1)))])
  refine GoKit.icmp_eq (pc := 8) (pc' := 13) K d2_8 (by decide) (fun hc113 => ?_) (fun hc113 => ?_)
  · -- (1 + (p1 &&& 1)) = (1 + (p2 &&& 1))
    refine GoKit.iloadN (pc := 13) K d2_13 rfl ?_
    refine GoKit.callS (pc := 14) (a0 := a0) (argsL := [(.int p1)]) (rest := []) K (hw _ (List.mem_of_getElem? (i := 10) rfl)) (hw _ (List.mem_of_getElem? (i := 11) rfl)) (hw _ (List.mem_of_getElem? (i := 2) rfl)) (hw _ (List.mem_of_getElem? (i := 12) rfl)) (by decide) (fun hZ => Con.bk (a0 := a0) (c_first l Z a0 hw p1 h0) hZ (hw _ (List.mem_of_getElem? (i := 12) rfl)) (hw _ (List.mem_of_getElem? (i := 2) rfl)) (by decide) (Nat.le_of_ble_eq_true rfl)) rfl rfl (lenOf pd_0 rfl) rfl d2_14 (by decide) (by decide) (fun _ _ _ q => ⟨Fw.sub q.2.1 (by omega) (fun x hx => nomatch hx), q.2.2.1⟩) ?_
    intro v114 h115 L117 q116
    obtain ⟨⟨vm118, rfl, e119⟩, -, -⟩ := q116
    replace e119 := e119.symm; subst e119
    show Go _ _ _ _ _ _ _ _ _ _ _ _ _ _ _ _ _ _ _ _ _ (mkF m 17 #[.val (.int p1), .val (.int p2)] [(.int (fF p1))])
    refine GoKit.iloadN (pc := 17) K d2_17 rfl ?_
    refine GoKit.callS (pc := 18) (a0 := a0) (argsL := [(.int p2)]) (rest := [(.int (fF p1))]) K (hw _ (List.mem_of_getElem? (i := 10) rfl)) (hw _ (List.mem_of_getElem? (i := 11) rfl)) (hw _ (List.mem_of_getElem? (i := 2) rfl)) (hw _ (List.mem_of_getElem? (i := 12) rfl)) (by decide) (fun hZ => Con.bk (a0 := a0) (c_first l Z a0 hw p2 h0) hZ (hw _ (List.mem_of_getElem? (i := 12) rfl)) (hw _ (List.mem_of_getElem? (i := 2) rfl)) (by decide) (Nat.le_of_ble_eq_true rfl)) rfl rfl (lenOf pd_0 rfl) rfl d2_18 (by decide) (by decide) (fun _ _ _ q => ⟨Fw.sub q.2.1 (by omega) (fun x hx => nomatch hx), q.2.2.1⟩) ?_
    intro v120 h121 L123 q122
    obtain ⟨⟨vm124, rfl, e125⟩, -, -⟩ := q122
    replace e125 := e125.symm; subst e125
    show Go _ _ _ _ _ _ _ _ _ _ _ _ _ _ _ _ _ _ _ _ _ (mkF m 21 #[.val (.int p1), .val (.int p2)] [(.int (fF p2)), (.int (fF p1))])
    refine GoKit.icmp_eq (pc := 21) (pc' := 26) K d2_21 (by decide) (fun hc126 => ?_) (fun hc126 => ?_)
    · -- (fF p1) = (fF p2)
      refine GoKit.iloadN (pc := 26) K d2_26 rfl ?_
      refine GoKit.callS (pc := 27) (a0 := a0) (argsL := [(.int p1)]) (rest := []) K (hw _ (List.mem_of_getElem? (i := 7) rfl)) (hw _ (List.mem_of_getElem? (i := 8) rfl)) (hw _ (List.mem_of_getElem? (i := 2) rfl)) (hw _ (List.mem_of_getElem? (i := 9) rfl)) (by decide) (fun hZ => Con.bk (a0 := a0) (c_len l Z a0 hw p1 h0) hZ (hw _ (List.mem_of_getElem? (i := 9) rfl)) (hw _ (List.mem_of_getElem? (i := 2) rfl)) (by decide) (Nat.le_of_ble_eq_true rfl)) rfl rfl (lenOf pd_1 rfl) rfl d2_27 (by decide) (by decide) (fun _ _ _ q => ⟨Fw.sub q.2.1 (by omega) (fun x hx => nomatch hx), q.2.2.1⟩) ?_
      intro v127 h128 L130 q129
      obtain ⟨⟨vm131, rfl, e132⟩, -, -⟩ := q129
      replace e132 := e132.symm; subst e132
      show Go _ _ _ _ _ _ _ _ _ _ _ _ _ _ _ _ _ _ _ _ _ (mkF m 30 #[.val (.int p1), .val (.int p2)] [(.int (1 + (p1 &&& 1)))])
      refine GoKit.iconst (pc := 30) (x := (1 : Int32)) K d2_30 rfl ?_
      refine GoKit.icmp_eq (pc := 31) (pc' := 45) K d2_31 (by decide) (fun hc133 => ?_) (fun hc133 => ?_)
      · -- (1 + (p1 &&& 1)) = (1 : Int32)
        refine GoKit.iconst (pc := 45) (x := (1 : Int32)) K d2_45 rfl ?_
        refine GoKit.goto (pc := 46) (pc' := 50) K d2_46 (by decide) ?_
        exact GoKit.retZ (pc := 50) K (by simp) (z' := (1 : Int32)) (by decide) d2_50 (by simp) (by decide) (by decide) (fun _ _ => ⟨by rw [same_y hc113 hc126 (Or.inl hc133)], rfl⟩)
      · -- ¬ (1 + (p1 &&& 1)) = (1 : Int32)
        refine GoKit.iloadN (pc := 34) K d2_34 rfl ?_
        refine GoKit.callS (pc := 35) (a0 := a0) (argsL := [(.int p1)]) (rest := []) K (hw _ (List.mem_of_getElem? (i := 52) rfl)) (hw _ (List.mem_of_getElem? (i := 53) rfl)) (hw _ (List.mem_of_getElem? (i := 2) rfl)) (hw _ (List.mem_of_getElem? (i := 54) rfl)) (by decide) (fun hZ => Con.bk (a0 := a0) (c_second l Z a0 hw p1 h0) hZ (hw _ (List.mem_of_getElem? (i := 54) rfl)) (hw _ (List.mem_of_getElem? (i := 2) rfl)) (by decide) (Nat.le_of_ble_eq_true rfl)) rfl rfl (lenOf pd_0 rfl) rfl d2_35 (by decide) (by decide) (fun _ _ _ q => ⟨Fw.sub q.2.1 (by omega) (fun x hx => nomatch hx), q.2.2.1⟩) ?_
        intro v134 h135 L137 q136
        obtain ⟨⟨vm138, rfl, e139⟩, -, -⟩ := q136
        replace e139 := e139.symm; subst e139
        show Go _ _ _ _ _ _ _ _ _ _ _ _ _ _ _ _ _ _ _ _ _ (mkF m 38 #[.val (.int p1), .val (.int p2)] [(.int (sF p1))])
        refine GoKit.iloadN (pc := 38) K d2_38 rfl ?_
        refine GoKit.callS (pc := 39) (a0 := a0) (argsL := [(.int p2)]) (rest := [(.int (sF p1))]) K (hw _ (List.mem_of_getElem? (i := 52) rfl)) (hw _ (List.mem_of_getElem? (i := 53) rfl)) (hw _ (List.mem_of_getElem? (i := 2) rfl)) (hw _ (List.mem_of_getElem? (i := 54) rfl)) (by decide) (fun hZ => Con.bk (a0 := a0) (c_second l Z a0 hw p2 h0) hZ (hw _ (List.mem_of_getElem? (i := 54) rfl)) (hw _ (List.mem_of_getElem? (i := 2) rfl)) (by decide) (Nat.le_of_ble_eq_true rfl)) rfl rfl (lenOf pd_0 rfl) rfl d2_39 (by decide) (by decide) (fun _ _ _ q => ⟨Fw.sub q.2.1 (by omega) (fun x hx => nomatch hx), q.2.2.1⟩) ?_
        intro v140 h141 L143 q142
        obtain ⟨⟨vm144, rfl, e145⟩, -, -⟩ := q142
        replace e145 := e145.symm; subst e145
        show Go _ _ _ _ _ _ _ _ _ _ _ _ _ _ _ _ _ _ _ _ _ (mkF m 42 #[.val (.int p1), .val (.int p2)] [(.int (sF p2)), (.int (sF p1))])
        refine GoKit.icmp_ne (pc := 42) (pc' := 49) K d2_42 (by decide) (fun hc146 => ?_) (fun hc146 => ?_)
        · -- ¬ (sF p1) = (sF p2)
          refine GoKit.iconst (pc := 49) (x := (0 : Int32)) K d2_49 rfl ?_
          exact GoKit.retZ (pc := 50) K (by simp) (z' := (0 : Int32)) (by decide) d2_50 (by simp) (by decide) (by decide) (fun _ _ => ⟨by rw [same_n3 hc133 hc146], rfl⟩)
        · -- (sF p1) = (sF p2)
          refine GoKit.iconst (pc := 45) (x := (1 : Int32)) K d2_45 rfl ?_
          refine GoKit.goto (pc := 46) (pc' := 50) K d2_46 (by decide) ?_
          exact GoKit.retZ (pc := 50) K (by simp) (z' := (1 : Int32)) (by decide) d2_50 (by simp) (by decide) (by decide) (fun _ _ => ⟨by rw [same_y hc113 hc126 (Or.inr hc146)], rfl⟩)
    · -- ¬ (fF p1) = (fF p2)
      refine GoKit.iconst (pc := 24) (x := (0 : Int32)) K d2_24 rfl ?_
      exact GoKit.retZ (pc := 25) K (by simp) (z' := (0 : Int32)) (by decide) d2_25 (by simp) (by decide) (by decide) (fun _ _ => ⟨by rw [same_n2 hc126], rfl⟩)
  · -- ¬ (1 + (p1 &&& 1)) = (1 + (p2 &&& 1))
    refine GoKit.iconst (pc := 11) (x := (0 : Int32)) K d2_11 rfl ?_
    exact GoKit.retZ (pc := 12) K (by simp) (z' := (0 : Int32)) (by decide) d2_12 (by simp) (by decide) (by decide) (fun _ _ => ⟨by rw [same_n1 hc113], rfl⟩)
set_option maxRecDepth 65536 in
set_option maxHeartbeats 40000000 in
theorem c_star (l : Launch) (Z : State) (a0 : Array Value) (hw : ∀ d ∈ tables_1, d.before a0 Z = true) (p1 : Int32) (h0 : Heap) :
    Con l (⟨"com/example/inquiry_to_answer/inquirytoanswer/http/MediaRangeSpecificityForPinLaw", "star", "(I)Z"⟩ : MethodName) method_8_code 1 (some .boolean) [] ({ frames := 2, cells := 0, slots := 0, locals := 26 } : Room) Z #[(.int p1)] h0 [] (fun _ => True) (fun v h _ => v = some (.int (if tx p1 = [42] then 1 else 0)) ∧ h = h0) false := by
  refine Con.intro pn_0 ?_
  intro p e s m below meth c K hV hsh
  have ef : entryFrame m #[(.int p1)] 1 = (mkF m 0 #[.val (.int p1)] []) := (by first | (simp [entryFrame, mkF, argsToLocals, cat_ref, cat_int, cat_long, cat_null]; done) | rfl)
  rw [ef]
  refine GoKit.iloadN (pc := 0) K d6_0 rfl ?_
  refine GoKit.callS (pc := 1) (a0 := a0) (argsL := [(.int p1)]) (rest := []) K (hw _ (List.mem_of_getElem? (i := 7) rfl)) (hw _ (List.mem_of_getElem? (i := 8) rfl)) (hw _ (List.mem_of_getElem? (i := 2) rfl)) (hw _ (List.mem_of_getElem? (i := 9) rfl)) (by decide) (fun hZ => Con.bk (a0 := a0) (c_len l Z a0 hw p1 h0) hZ (hw _ (List.mem_of_getElem? (i := 9) rfl)) (hw _ (List.mem_of_getElem? (i := 2) rfl)) (by decide) (Nat.le_of_ble_eq_true rfl)) rfl rfl (lenOf pd_1 rfl) rfl d6_1 (by decide) (by decide) (fun _ _ _ q => ⟨Fw.sub q.2.1 (by omega) (fun x hx => nomatch hx), q.2.2.1⟩) ?_
  intro v101 h102 L104 q103
  obtain ⟨⟨vm105, rfl, e106⟩, -, -⟩ := q103
  replace e106 := e106.symm; subst e106
  show Go _ _ _ _ _ _ _ _ _ _ _ _ _ _ _ _ _ _ _ _ _ (mkF m 4 #[.val (.int p1)] [(.int (1 + (p1 &&& 1)))])
  refine GoKit.iconst (pc := 4) (x := (1 : Int32)) K d6_4 rfl ?_
  refine GoKit.icmp_ne (pc := 5) (pc' := 21) K d6_5 (by decide) (fun hc107 => ?_) (fun hc107 => ?_)
  · -- ¬ (1 + (p1 &&& 1)) = (1 : Int32)
    refine GoKit.iconst (pc := 21) (x := (0 : Int32)) K d6_21 rfl ?_
    exact GoKit.retZ (pc := 22) K (by simp) (z' := (0 : Int32)) (by decide) d6_22 (by simp) (by decide) (by decide) (fun _ _ => ⟨by rw [star_n1 hc107], rfl⟩)
  · -- (1 + (p1 &&& 1)) = (1 : Int32)
    refine GoKit.iloadN (pc := 8) K d6_8 rfl ?_
    refine GoKit.callS (pc := 9) (a0 := a0) (argsL := [(.int p1)]) (rest := []) K (hw _ (List.mem_of_getElem? (i := 10) rfl)) (hw _ (List.mem_of_getElem? (i := 11) rfl)) (hw _ (List.mem_of_getElem? (i := 2) rfl)) (hw _ (List.mem_of_getElem? (i := 12) rfl)) (by decide) (fun hZ => Con.bk (a0 := a0) (c_first l Z a0 hw p1 h0) hZ (hw _ (List.mem_of_getElem? (i := 12) rfl)) (hw _ (List.mem_of_getElem? (i := 2) rfl)) (by decide) (Nat.le_of_ble_eq_true rfl)) rfl rfl (lenOf pd_0 rfl) rfl d6_9 (by decide) (by decide) (fun _ _ _ q => ⟨Fw.sub q.2.1 (by omega) (fun x hx => nomatch hx), q.2.2.1⟩) ?_
    intro v108 h109 L111 q110
    obtain ⟨⟨vm112, rfl, e113⟩, -, -⟩ := q110
    replace e113 := e113.symm; subst e113
    show Go _ _ _ _ _ _ _ _ _ _ _ _ _ _ _ _ _ _ _ _ _ (mkF m 12 #[.val (.int p1)] [(.int (fF p1))])
    refine GoKit.bipush (pc := 12) (x := (42 : Int32)) K d6_12 rfl ?_
    refine GoKit.icmp_ne (pc := 14) (pc' := 21) K d6_14 (by decide) (fun hc114 => ?_) (fun hc114 => ?_)
    · -- ¬ (fF p1) = (42 : Int32)
      refine GoKit.iconst (pc := 21) (x := (0 : Int32)) K d6_21 rfl ?_
      exact GoKit.retZ (pc := 22) K (by simp) (z' := (0 : Int32)) (by decide) d6_22 (by simp) (by decide) (by decide) (fun _ _ => ⟨by rw [star_n2 hc114], rfl⟩)
    · -- (fF p1) = (42 : Int32)
      refine GoKit.iconst (pc := 17) (x := (1 : Int32)) K d6_17 rfl ?_
      refine GoKit.goto (pc := 18) (pc' := 22) K d6_18 (by decide) ?_
      exact GoKit.retZ (pc := 22) K (by simp) (z' := (1 : Int32)) (by decide) d6_22 (by simp) (by decide) (by decide) (fun _ _ => ⟨by rw [star_y hc107 hc114], rfl⟩)
set_option maxRecDepth 65536 in
set_option maxHeartbeats 40000000 in
theorem c_csok (l : Launch) (Z : State) (a0 : Array Value) (hw : ∀ d ∈ tables_1, d.before a0 Z = true) (p1 : Int32) (h0 : Heap) :
    Con l (⟨"com/example/inquiry_to_answer/inquirytoanswer/http/MediaRangeSpecificityForPinLaw", "charsetOk", "(I)Z"⟩ : MethodName) method_10_code 3 (some .boolean) [] ({ frames := 0, cells := 0, slots := 0, locals := 0 } : Room) Z #[(.int p1)] h0 [] (fun _ => True) (fun v h _ => v = some (.int (if csOk p1 then 1 else 0)) ∧ h = h0) false := by
  refine Con.intro pn_0 ?_
  intro p e s m below meth c K hV hsh
  have ef : entryFrame m #[(.int p1)] 3 = (mkF m 0 #[.val (.int p1), .unset, .unset] []) := (by first | (simp [entryFrame, mkF, argsToLocals, cat_ref, cat_int, cat_long, cat_null]; done) | rfl)
  rw [ef]
  refine GoKit.iloadN (pc := 0) K d1_0 rfl ?_
  refine GoKit.iconst (pc := 1) (x := (3 : Int32)) K d1_1 rfl ?_
  refine GoKit.iand (pc := 2) K d1_2 ?_
  refine GoKit.istoreN (pc := 3) (l' := #[.val (.int p1), .val (.int (p1 &&& (3 : Int32))), .unset]) K d1_3 rfl ?_
  refine GoKit.iloadN (pc := 4) K d1_4 rfl ?_
  refine GoKit.iconst (pc := 5) (x := (2 : Int32)) K d1_5 rfl ?_
  refine GoKit.iushr (pc := 6) K d1_6 ?_
  refine GoKit.sipush (pc := 7) (x := (255 : Int32)) K d1_7 rfl ?_
  refine GoKit.iand (pc := 10) K d1_10 ?_
  refine GoKit.i2c (pc := 11) K d1_11 ?_
  rw [i2c_mask]
  show Go _ _ _ _ _ _ _ _ _ _ _ _ _ _ _ _ _ _ _ _ _ (mkF m 12 #[.val (.int p1), .val (.int (p1 &&& (3 : Int32))), .unset] [(.int (cF p1))])
  refine GoKit.istoreN (pc := 12) (l' := #[.val (.int p1), .val (.int (p1 &&& (3 : Int32))), .val (.int (cF p1))]) K d1_12 rfl ?_
  refine GoKit.iloadN (pc := 13) K d1_13 rfl ?_
  refine GoKit.if_eq (pc := 14) (pc' := 22) K d1_14 (by decide) (fun hc101 => ?_) (fun hc101 => ?_)
  · -- (p1 &&& (3 : Int32)) = (0 : Int32)
    refine GoKit.iconst (pc := 22) (x := (1 : Int32)) K d1_22 rfl ?_
    exact GoKit.retZ (pc := 23) K (by simp) (z' := (1 : Int32)) (by decide) d1_23 (by simp) (by decide) (by decide) (fun _ _ => ⟨by simp [csOk, csT, u8, hc101], rfl⟩)
  · -- ¬ (p1 &&& (3 : Int32)) = (0 : Int32)
    refine GoKit.iloadN (pc := 17) K d1_17 rfl ?_
    refine GoKit.iconst (pc := 18) (x := (1 : Int32)) K d1_18 rfl ?_
    refine GoKit.icmp_ne (pc := 19) (pc' := 24) K d1_19 (by decide) (fun hc102 => ?_) (fun hc102 => ?_)
    · -- ¬ (p1 &&& (3 : Int32)) = (1 : Int32)
      refine GoKit.iloadN (pc := 24) K d1_24 rfl ?_
      refine GoKit.iconst (pc := 25) (x := (2 : Int32)) K d1_25 rfl ?_
      refine GoKit.icmp_ne (pc := 26) (pc' := 41) K d1_26 (by decide) (fun hc103 => ?_) (fun hc103 => ?_)
      · -- ¬ (p1 &&& (3 : Int32)) = (2 : Int32)
        refine GoKit.iconst (pc := 41) (x := (0 : Int32)) K d1_41 rfl ?_
        exact GoKit.retZ (pc := 42) K (by simp) (z' := (0 : Int32)) (by decide) d1_42 (by simp) (by decide) (by decide) (fun _ _ => ⟨by simp [csOk, csT, u8, hc101, hc102, hc103], rfl⟩)
      · -- (p1 &&& (3 : Int32)) = (2 : Int32)
        refine GoKit.iloadN (pc := 29) K d1_29 rfl ?_
        refine GoKit.bipush (pc := 30) (x := (56 : Int32)) K d1_30 rfl ?_
        refine GoKit.icmp_ne (pc := 32) (pc' := 39) K d1_32 (by decide) (fun hc104 => ?_) (fun hc104 => ?_)
        · -- ¬ (cF p1) = (56 : Int32)
          refine GoKit.iconst (pc := 39) (x := (0 : Int32)) K d1_39 rfl ?_
          exact GoKit.retZ (pc := 40) K (by simp) (z' := (0 : Int32)) (by decide) d1_40 (by simp) (by decide) (by decide) (fun _ _ => ⟨by simp [csOk, csT, u8, hc101, hc102, hc103, hc104], rfl⟩)
        · -- (cF p1) = (56 : Int32)
          refine GoKit.iconst (pc := 35) (x := (1 : Int32)) K d1_35 rfl ?_
          refine GoKit.goto (pc := 36) (pc' := 40) K d1_36 (by decide) ?_
          exact GoKit.retZ (pc := 40) K (by simp) (z' := (1 : Int32)) (by decide) d1_40 (by simp) (by decide) (by decide) (fun _ _ => ⟨by simp [csOk, csT, u8, hc101, hc102, hc103, hc104], rfl⟩)
    · -- (p1 &&& (3 : Int32)) = (1 : Int32)
      refine GoKit.iconst (pc := 22) (x := (1 : Int32)) K d1_22 rfl ?_
      exact GoKit.retZ (pc := 23) K (by simp) (z' := (1 : Int32)) (by decide) d1_23 (by simp) (by decide) (by decide) (fun _ _ => ⟨by simp [csOk, csT, u8, hc101, hc102], rfl⟩)
set_option maxRecDepth 65536 in
set_option maxHeartbeats 40000000 in
theorem c_can (l : Launch) (Z : State) (a0 : Array Value) (hw : ∀ d ∈ tables_1, d.before a0 Z = true) (p1 : Int32) (h0 : Heap) (hb1 : ¬ (255 : Int32) < p1) :
    Con l (⟨"java/lang/StringLatin1", "canEncode", "(C)Z"⟩ : MethodName) jdk_43_method_3_code 1 (some .boolean) [] ({ frames := 0, cells := 0, slots := 0, locals := 0 } : Room) Z #[(.int p1)] h0 [] (fun _ => True) (fun v h _ => v = some (.int 1) ∧ h = h0) false := by
  refine Con.intro pn_1 ?_
  intro p e s m below meth c K hV hsh
  have ef : entryFrame m #[(.int p1)] 1 = (mkF m 0 #[.val (.int p1)] []) := (by first | (simp [entryFrame, mkF, argsToLocals, cat_ref, cat_int, cat_long, cat_null]; done) | rfl)
  rw [ef]
  refine GoKit.iloadN (pc := 0) K d9_0 rfl ?_
  refine GoKit.sipush (pc := 1) (x := (255 : Int32)) K d9_1 rfl ?_
  refine GoKit.icmp_gt_n (pc := 4) K d9_4  hb1 ?_
  refine GoKit.iconst (pc := 7) (x := (1 : Int32)) K d9_7 rfl ?_
  refine GoKit.goto (pc := 8) (pc' := 12) K d9_8 (by decide) ?_
  exact GoKit.retZ (pc := 12) K (by simp) (z' := (1 : Int32)) (by decide) d9_12 (by simp) (by decide) (by decide) (fun _ _ => ⟨rfl, rfl⟩)
set_option maxRecDepth 65536 in
set_option maxHeartbeats 40000000 in
theorem c_tob (l : Launch) (Z : State) (a0 : Array Value) (hw : ∀ d ∈ tables_1, d.before a0 Z = true) (p1 : Int32) (h0 : Heap) :
    Con l (⟨"java/lang/StringLatin1", "toBytes", "(C)[B"⟩ : MethodName) jdk_43_method_46_code 1 (some (.array .byte)) [] ({ frames := 0, cells := 1, slots := 1, locals := 0 } : Room) Z #[(.int p1)] h0 [] (fun _ => True) (fun v h _ => ∃ (a : Nat) (k : ClassId), v = some (.ref a) ∧ h0.size ≤ a ∧ Arv Z h a k .byte 1 [.int (StrChars.lo8 p1)] (.int 0)) false := by
  refine Con.intro pn_1 ?_
  intro p e s m below meth c K hV hsh
  have ef : entryFrame m #[(.int p1)] 1 = (mkF m 0 #[.val (.int p1)] []) := (by first | (simp [entryFrame, mkF, argsToLocals, cat_ref, cat_int, cat_long, cat_null]; done) | rfl)
  rw [ef]
  refine GoKit.iconst (pc := 0) (x := (1 : Int32)) K d10_0 rfl ?_
  refine GoKit.newP (pc := 1) (a0 := a0) (cap := 1) K (hw _ (List.mem_of_getElem? (i := 39) rfl)) d10_1 (by decide) (by decide) (by decide) (by decide) (by decide) ?_
  intro h101 b102 kc103 eq104 E105 A106
  have sz108 : h0.size ≤ h101.size := E105.1
  have lt109 : b102 < h101.size := A106.lt
  have V107 : Arv Z h101 b102 kc103 .byte (1 : Int32) [.int 0] (.int 0) := A106.pad (pad_rep [] _ 1)
  refine GoKit.dup (pc := 3) K d10_3 rfl ?_
  refine GoKit.iconst (pc := 4) (x := (0 : Int32)) K d10_4 rfl ?_
  refine GoKit.iloadN (pc := 5) K d10_5 rfl ?_
  refine GoKit.i2b (pc := 6) K d10_6 ?_
  refine GoKit.bastore (pc := 7) (i := 0) K V107 (by decide) rfl (Nat.le_of_ble_eq_true rfl) (Or.inl (by omega)) d10_7 ?_
  intro h110 W111 V112
  have sz113 : h101.size ≤ h110.size := Nat.le_of_eq W111.size.symm
  have V114 : Arv Z h110 b102 kc103 .byte (1 : Int32) [(.int (nar .byte (p1).toInt8.toInt32))] (.int 0) := V112
  rw [lo8_lo8] at V114
  exact GoKit.retA (pc := 8) K rfl rfl d10_8 (by simp) (by decide) (by decide) (fun _ _ => ⟨b102, _, rfl, by omega, V114⟩)
set_option maxRecDepth 65536 in
set_option maxHeartbeats 40000000 in
theorem c_strb (l : Launch) (Z : State) (a0 : Array Value) (hw : ∀ d ∈ tables_1, d.before a0 Z = true) (a1 a2 : Nat) (h0 : Heap) (E1 : Exa Z h0 a1 "java/lang/String") (F1 : Fld Z h0 a1 "java/lang/String" "value" "[B" .null) (F2 : Fld Z h0 a1 "java/lang/String" "coder" "B" (.int 0)) :
    Con l (⟨"java/lang/String", "<init>", "([BB)V"⟩ : MethodName) jdk_42_method_151_code 3 none [] ({ frames := 1, cells := 0, slots := 0, locals := 12 } : Room) Z #[(.ref a1), (.ref a2), (.int (0 : Int32))] h0 [a1] (fun _ => True) (fun v h _ => v = none ∧ Fld Z h a1 "java/lang/String" "value" "[B" (.ref a2) ∧ Fld Z h a1 "java/lang/String" "coder" "B" (.int 0)) false := by
  refine Con.intro pn_2 ?_
  intro p e s m below meth c K hV hsh
  have ef : entryFrame m #[(.ref a1), (.ref a2), (.int (0 : Int32))] 3 = (mkF m 0 #[.val (.ref a1), .val (.ref a2), .val (.int (0 : Int32))] []) := (by first | (simp [entryFrame, mkF, argsToLocals, cat_ref, cat_int, cat_long, cat_null]; done) | rfl)
  rw [ef]
  refine GoKit.aloadN (pc := 0) K d11_0 rfl rfl ?_
  refine GoKit.initO (pc := 1) (a0 := a0) K (hw _ (List.mem_of_getElem? (i := 44) rfl)) (hw _ (List.mem_of_getElem? (i := 45) rfl)) (hw _ (List.mem_of_getElem? (i := 46) rfl)) rfl d11_1 (by decide) (Nat.le_of_ble_eq_true rfl) ?_
  refine Go.allow a1 ?_
  refine GoKit.aloadN (pc := 4) K d11_4 rfl rfl ?_
  refine GoKit.aloadN (pc := 5) K d11_5 rfl rfl ?_
  refine GoKit.putF (pc := 6) (a0 := a0) (ty := (.array .byte)) K (hw _ (List.mem_of_getElem? (i := 47) rfl)) Via.refl F1 E1 (Or.inr ⟨(hw _ (List.mem_of_getElem? (i := 48) rfl)), rfl, rfl⟩) (hw _ (List.mem_of_getElem? (i := 35) rfl)) (by decide +kernel) rfl rfl (Or.inr (by simp)) d11_6 ?_
  intro h101 W102 F103
  have sz104 : h0.size ≤ h101.size := Nat.le_of_eq W102.size.symm
  refine GoKit.aloadN (pc := 9) K d11_9 rfl rfl ?_
  refine GoKit.iloadN (pc := 10) K d11_10 rfl ?_
  have f105 := (F2.other W102 (Or.inr (slot_ne (a0 := a0) (t := .byte) (t' := (.array .byte)) (Or.inr (hw _ (List.mem_of_getElem? (i := 50) rfl))) (Or.inr (hw _ (List.mem_of_getElem? (i := 48) rfl))) (by decide) (by decide +kernel) (by decide +kernel))))
  have f106 := (E1.wr W102)
  refine GoKit.putF (pc := 11) (a0 := a0) (ty := .byte) K (hw _ (List.mem_of_getElem? (i := 49) rfl)) Via.refl f105 f106 (Or.inr ⟨(hw _ (List.mem_of_getElem? (i := 50) rfl)), rfl, rfl⟩) (hw _ (List.mem_of_getElem? (i := 35) rfl)) (by decide +kernel) rfl (by decide) (Or.inr (by simp)) d11_11 ?_
  intro h107 W108 F109
  have sz110 : h101.size ≤ h107.size := Nat.le_of_eq W108.size.symm
  have f111 := (F103.other W108 (Or.inr (slot_ne (a0 := a0) (t := (.array .byte)) (t' := .byte) (Or.inr (hw _ (List.mem_of_getElem? (i := 48) rfl))) (Or.inr (hw _ (List.mem_of_getElem? (i := 50) rfl))) (by decide) (by decide +kernel) (by decide +kernel))))
  exact GoKit.retV (pc := 14) K d11_14 (by simp) (by decide) (by decide) (fun _ _ => ⟨rfl, f111, F109⟩)
set_option maxRecDepth 65536 in
set_option maxHeartbeats 40000000 in
theorem c_vof (l : Launch) (Z : State) (a0 : Array Value) (hw : ∀ d ∈ tables_1, d.before a0 Z = true) (p1 : Int32) (hb1 : ¬ p1 < 0 ∧ ¬ (255 : Int32) < p1) (h0 : Heap) (n0 : Nat) (O0 : Old Z n0 h0) (z0 : Int32) (S0 : Sta Z Z.heap "java/lang/String" "COMPACT_STRINGS" "Z" (.int z0)) (hz0 : ¬ z0 = 0) :
    Con l (⟨"java/lang/String", "valueOf", "(C)Ljava/lang/String;"⟩ : MethodName) jdk_42_method_139_code 1 (some (.object "java/lang/String")) [] ({ frames := 2, cells := 2, slots := 5, locals := 29 } : Room) Z #[(.int p1)] h0 [] (fun _ => True) (fun v h _ => ∃ a t : Nat, v = some (.ref a) ∧ h0.size ≤ a ∧ h0.size ≤ t ∧ Str Z h a t [p1]) false := by
  refine Con.intro pn_2 ?_
  intro p e s m below meth c K hV hsh
  have ef : entryFrame m #[(.int p1)] 1 = (mkF m 0 #[.val (.int p1)] []) := (by first | (simp [entryFrame, mkF, argsToLocals, cat_ref, cat_int, cat_long, cat_null]; done) | rfl)
  rw [ef]
  have hn0 : n0 ≤ h0.size := by rw [← O0.1]; exact O0.2.1
  refine GoKit.getS (pc := 0) (a0 := a0) K (hw _ (List.mem_of_getElem? (i := 29) rfl)) Via.refl (S0.ext O0.2) d8_0 ?_
  refine GoKit.if_eq_n (pc := 3) K d8_3  hz0 ?_
  refine GoKit.iloadN (pc := 6) K d8_6 rfl ?_
  refine GoKit.callS (pc := 7) (a0 := a0) (argsL := [(.int p1)]) (rest := []) K (hw _ (List.mem_of_getElem? (i := 30) rfl)) (hw _ (List.mem_of_getElem? (i := 31) rfl)) (hw _ (List.mem_of_getElem? (i := 32) rfl)) (hw _ (List.mem_of_getElem? (i := 33) rfl)) (by decide) (fun hZ => Con.bk (a0 := a0) (c_can l Z a0 hw p1 h0 hb1.2) hZ (hw _ (List.mem_of_getElem? (i := 33) rfl)) (hw _ (List.mem_of_getElem? (i := 32) rfl)) (by decide) (Nat.le_of_ble_eq_true rfl)) rfl rfl (lenOf pd_2 rfl) rfl d8_7 (by decide) (by decide) (fun _ _ _ q => ⟨Fw.sub q.2.1 (by omega) (fun x hx => nomatch hx), q.2.2.1⟩) ?_
  intro v101 h102 L104 q103
  obtain ⟨⟨vm105, rfl, e106⟩, -, -⟩ := q103
  replace e106 := e106.symm; subst e106
  show Go _ _ _ _ _ _ _ _ _ _ _ _ _ _ _ _ _ _ _ _ _ (mkF m 10 #[.val (.int p1)] [(.int (1 : Int32))])
  refine GoKit.if_eq_n (pc := 10) K d8_10  (by decide) ?_
  refine GoKit.newO (pc := 13) (a0 := a0) K (hw _ (List.mem_of_getElem? (i := 34) rfl)) (hw _ (List.mem_of_getElem? (i := 35) rfl)) (hw _ (List.mem_of_getElem? (i := 27) rfl)) d8_13 (by decide) (by decide) ?_
  intro h107 b108 eq109 E110 A111 D112
  have sz113 : h0.size ≤ h107.size := E110.1
  have lt114 : b108 < h107.size := A111.lt
  have F115 : Fld Z h107 b108 "java/lang/String" "value" "[B" .null := D112 (Or.inr (hw _ (List.mem_of_getElem? (i := 48) rfl))) (ty := (.array .byte)) (by decide +kernel)
  have F116 : Fld Z h107 b108 "java/lang/String" "coder" "B" (.int (0 : Int32)) := D112 (Or.inr (hw _ (List.mem_of_getElem? (i := 50) rfl))) (ty := .byte) (by decide +kernel)
  refine GoKit.dup (pc := 16) K d8_16 rfl ?_
  refine GoKit.iloadN (pc := 17) K d8_17 rfl ?_
  refine GoKit.callS (pc := 18) (a0 := a0) (argsL := [(.int p1)]) (rest := [(.ref b108), (.ref b108)]) K (hw _ (List.mem_of_getElem? (i := 36) rfl)) (hw _ (List.mem_of_getElem? (i := 37) rfl)) (hw _ (List.mem_of_getElem? (i := 32) rfl)) (hw _ (List.mem_of_getElem? (i := 38) rfl)) (by decide) (fun hZ => Con.bk (a0 := a0) (c_tob l Z a0 hw p1 h107) hZ (hw _ (List.mem_of_getElem? (i := 38) rfl)) (hw _ (List.mem_of_getElem? (i := 32) rfl)) (by decide) (Nat.le_of_ble_eq_true rfl)) rfl rfl (lenOf pd_3 rfl) rfl d8_18 (by decide) (by decide) (fun _ _ _ q => ⟨Fw.sub q.2.1 (by omega) (fun x hx => nomatch hx), q.2.2.1⟩) ?_
  intro v117 h118 L120 q119
  obtain ⟨⟨vm121, t122, k123, rfl, lt124, A125⟩, -, K126⟩ := q119
  have sz127 : h107.size ≤ h118.size := K126.1
  have lt128 := A125.lt
  show Go _ _ _ _ _ _ _ _ _ _ _ _ _ _ _ _ _ _ _ _ _ (mkF m 21 #[.val (.int p1)] [(.ref t122), (.ref b108), (.ref b108)])
  refine GoKit.iconst (pc := 21) (x := (0 : Int32)) K d8_21 rfl ?_
  have f129 := (A111.keep K126)
  have f130 := (F115.keep K126 nin0)
  have f131 := (F116.keep K126 nin0)
  refine GoKit.callI (pc := 22) (a0 := a0) (argsL := [(.ref t122), (.int (0 : Int32))]) (rest := [(.ref b108)]) K rfl (hw _ (List.mem_of_getElem? (i := 40) rfl)) (hw _ (List.mem_of_getElem? (i := 41) rfl)) (hw _ (List.mem_of_getElem? (i := 43) rfl)) (by decide) (fun hZ => Con.bk (a0 := a0) (c_strb l Z a0 hw b108 t122 h118 f129 f130 f131) hZ (hw _ (List.mem_of_getElem? (i := 43) rfl)) (hw _ (List.mem_of_getElem? (i := 27) rfl)) (by decide) (Nat.le_of_ble_eq_true rfl)) rfl rfl (lenOf pd_4 rfl) rfl d8_22 (by decide) (by decide) (fun _ _ _ q => ⟨Fw.sub q.2.1 (by omega) (allS (Or.inl (by omega)) all0), q.2.2.1⟩) ?_
  intro v132 h133 L135 q134
  obtain ⟨⟨vm136, rfl, F137, F138⟩, -, K139⟩ := q134
  have sz140 : h118.size ≤ h133.size := K139.1
  show Go _ _ _ _ _ _ _ _ _ _ _ _ _ _ _ _ _ _ _ _ _ (mkF m 25 #[.val (.int p1)] [(.ref b108)])
  have f141 := (f129.keep K139)
  have f142 := (A125.keep K139 (ninS (ane (by omega)) nin0))
  exact GoKit.retA (pc := 25) K rfl rfl d8_25 (by simp) (by decide) (by decide) (fun _ _ => ⟨b108, t122, rfl, by omega, by omega, Str.latin f141 F137 F138 f142 rfl rfl (by intro c hc; cases List.mem_singleton.mp hc; exact hb1) (Nat.le_of_ble_eq_true rfl)⟩)
set_option maxRecDepth 65536 in
set_option maxHeartbeats 40000000 in
theorem c_str (l : Launch) (Z : State) (a0 : Array Value) (hw : ∀ d ∈ tables_1, d.before a0 Z = true) (p1 : Int32) (h0 : Heap) (n0 : Nat) (O0 : Old Z n0 h0) (z0 : Int32) (S0 : Sta Z Z.heap "java/lang/String" "COMPACT_STRINGS" "Z" (.int z0)) (hz0 : ¬ z0 = 0) :
    Con l (⟨"com/example/inquiry_to_answer/inquirytoanswer/http/MediaRangeSpecificityForPinLaw", "str", "(I)Ljava/lang/String;"⟩ : MethodName) method_6_code 2 (some (.object "java/lang/String")) [] ({ frames := 4, cells := 3, slots := 8, locals := 66 } : Room) Z #[(.int p1)] h0 [] (fun _ => True) (fun v h _ => ∃ a t : Nat, v = some (.ref a) ∧ h0.size ≤ a ∧ h0.size ≤ t ∧ Str Z h a t (tx p1)) false := by
  refine Con.intro pn_0 ?_
  intro p e s m below meth c K hV hsh
  have ef : entryFrame m #[(.int p1)] 2 = (mkF m 0 #[.val (.int p1), .unset] []) := (by first | (simp [entryFrame, mkF, argsToLocals, cat_ref, cat_int, cat_long, cat_null]; done) | rfl)
  rw [ef]
  have hn0 : n0 ≤ h0.size := by rw [← O0.1]; exact O0.2.1
  refine GoKit.iloadN (pc := 0) K d7_0 rfl ?_
  refine GoKit.iconst (pc := 1) (x := (1 : Int32)) K d7_1 rfl ?_
  refine GoKit.iand (pc := 2) K d7_2 ?_
  refine GoKit.if_ne (pc := 3) (pc' := 14) K d7_3 (by decide) (fun hc101 => ?_) (fun hc101 => ?_)
  · -- ¬ (p1 &&& (1 : Int32)) = (0 : Int32)
    refine GoKit.iconst (pc := 14) (x := (2 : Int32)) K d7_14 rfl ?_
    refine GoKit.newP (pc := 15) (a0 := a0) (cap := 2) K (hw _ (List.mem_of_getElem? (i := 51) rfl)) d7_15 (by decide) (by decide) (by decide) (by decide) (by decide) ?_
    intro h102 b103 kc104 eq105 E106 A107
    have sz109 : h0.size ≤ h102.size := E106.1
    have lt110 : b103 < h102.size := A107.lt
    have V108 : Arv Z h102 b103 kc104 .char (2 : Int32) [.int 0, .int 0] (.int 0) := A107.pad (pad_rep [] _ 2)
    refine GoKit.astoreN (pc := 17) (l' := #[.val (.int p1), .val (.ref b103)]) K d7_17 rfl rfl ?_
    refine GoKit.aloadN (pc := 18) K d7_18 rfl rfl ?_
    refine GoKit.iconst (pc := 19) (x := (0 : Int32)) K d7_19 rfl ?_
    refine GoKit.iloadN (pc := 20) K d7_20 rfl ?_
    refine GoKit.callS (pc := 21) (a0 := a0) (argsL := [(.int p1)]) (rest := [(.int (0 : Int32)), (.ref b103)]) K (hw _ (List.mem_of_getElem? (i := 10) rfl)) (hw _ (List.mem_of_getElem? (i := 11) rfl)) (hw _ (List.mem_of_getElem? (i := 2) rfl)) (hw _ (List.mem_of_getElem? (i := 12) rfl)) (by decide) (fun hZ => Con.bk (a0 := a0) (c_first l Z a0 hw p1 h102) hZ (hw _ (List.mem_of_getElem? (i := 12) rfl)) (hw _ (List.mem_of_getElem? (i := 2) rfl)) (by decide) (Nat.le_of_ble_eq_true rfl)) rfl rfl (lenOf pd_0 rfl) rfl d7_21 (by decide) (by decide) (fun _ _ _ q => ⟨Fw.sub q.2.1 (by omega) (fun x hx => nomatch hx), q.2.2.1⟩) ?_
    intro v111 h112 L114 q113
    obtain ⟨⟨vm115, rfl, e116⟩, -, -⟩ := q113
    replace e116 := e116.symm; subst e116
    show Go _ _ _ _ _ _ _ _ _ _ _ _ _ _ _ _ _ _ _ _ _ (mkF m 24 #[.val (.int p1), .val (.ref b103)] [(.int (fF p1)), (.int (0 : Int32)), (.ref b103)])
    refine GoKit.castore (pc := 24) (i := 0) K V108 (by decide) rfl (Nat.le_of_ble_eq_true rfl) (Or.inl (by omega)) d7_24 ?_
    intro h117 W118 V119
    have sz120 : h102.size ≤ h117.size := Nat.le_of_eq W118.size.symm
    have V121 : Arv Z h117 b103 kc104 .char (2 : Int32) [(.int (nar .char (fF p1))), .int 0] (.int 0) := V119
    have V122 : Arv Z h117 b103 kc104 .char (2 : Int32) [(.int (fF p1)), .int 0] (.int 0) := by have q := V121; rw [fF_nar] at q; exact q
    refine GoKit.aloadN (pc := 25) K d7_25 rfl rfl ?_
    refine GoKit.iconst (pc := 26) (x := (1 : Int32)) K d7_26 rfl ?_
    refine GoKit.iloadN (pc := 27) K d7_27 rfl ?_
    refine GoKit.callS (pc := 28) (a0 := a0) (argsL := [(.int p1)]) (rest := [(.int (1 : Int32)), (.ref b103)]) K (hw _ (List.mem_of_getElem? (i := 52) rfl)) (hw _ (List.mem_of_getElem? (i := 53) rfl)) (hw _ (List.mem_of_getElem? (i := 2) rfl)) (hw _ (List.mem_of_getElem? (i := 54) rfl)) (by decide) (fun hZ => Con.bk (a0 := a0) (c_second l Z a0 hw p1 h117) hZ (hw _ (List.mem_of_getElem? (i := 54) rfl)) (hw _ (List.mem_of_getElem? (i := 2) rfl)) (by decide) (Nat.le_of_ble_eq_true rfl)) rfl rfl (lenOf pd_0 rfl) rfl d7_28 (by decide) (by decide) (fun _ _ _ q => ⟨Fw.sub q.2.1 (by omega) (fun x hx => nomatch hx), q.2.2.1⟩) ?_
    intro v123 h124 L126 q125
    obtain ⟨⟨vm127, rfl, e128⟩, -, -⟩ := q125
    replace e128 := e128.symm; subst e128
    show Go _ _ _ _ _ _ _ _ _ _ _ _ _ _ _ _ _ _ _ _ _ (mkF m 31 #[.val (.int p1), .val (.ref b103)] [(.int (sF p1)), (.int (1 : Int32)), (.ref b103)])
    refine GoKit.castore (pc := 31) (i := 1) K V122 (by decide) rfl (Nat.le_of_ble_eq_true rfl) (Or.inl (by omega)) d7_31 ?_
    intro h129 W130 V131
    have sz132 : h117.size ≤ h129.size := Nat.le_of_eq W130.size.symm
    have V133 : Arv Z h129 b103 kc104 .char (2 : Int32) [(.int (fF p1)), (.int (nar .char (sF p1)))] (.int 0) := V131
    have V134 : Arv Z h129 b103 kc104 .char (2 : Int32) [(.int (fF p1)), (.int (sF p1))] (.int 0) := by have q := V133; rw [sF_nar] at q; exact q
    refine GoKit.newO (pc := 32) (a0 := a0) K (hw _ (List.mem_of_getElem? (i := 55) rfl)) (hw _ (List.mem_of_getElem? (i := 35) rfl)) (hw _ (List.mem_of_getElem? (i := 27) rfl)) d7_32 (by decide) (by decide) ?_
    intro h135 b136 eq137 E138 A139 D140
    have sz141 : h129.size ≤ h135.size := E138.1
    have lt142 : b136 < h135.size := A139.lt
    have F143 : Fld Z h135 b136 "java/lang/String" "value" "[B" .null := D140 (Or.inr (hw _ (List.mem_of_getElem? (i := 48) rfl))) (ty := (.array .byte)) (by decide +kernel)
    have F144 : Fld Z h135 b136 "java/lang/String" "coder" "B" (.int (0 : Int32)) := D140 (Or.inr (hw _ (List.mem_of_getElem? (i := 50) rfl))) (ty := .byte) (by decide +kernel)
    refine GoKit.dup (pc := 35) K d7_35 rfl ?_
    refine GoKit.aloadN (pc := 36) K d7_36 rfl rfl ?_
    have f145 := (V134.ext E138)
    have f146 := ((((O0.ext E106).wr W118 (by omega)).wr W130 (by omega)).ext E138)
    refine GoKit.callI (pc := 37) (a0 := a0) (argsL := [(.ref b103)]) (rest := [(.ref b136)]) K rfl (hw _ (List.mem_of_getElem? (i := 56) rfl)) (hw _ (List.mem_of_getElem? (i := 57) rfl)) (hw _ (List.mem_of_getElem? (i := 58) rfl)) (by decide) (fun hZ => Str.bkNew hZ (kI := 4) (fun d hd => hw d ((by decide +kernel : ∀ d ∈ StrChars.Road.words, d ∈ tables_1) d hd)) (hw _ (List.mem_of_getElem? (i := 35) rfl)) (cs := ([(fF p1), (sF p1)] : List Int32)) (n := 2) (n0 := h0.size) (by omega) (by omega) A139 F143 F144 f145 (S0.ext f146.2) hz0 rfl rfl (by decide) (by decide) (by intro c hc; simp only [List.mem_cons, List.not_mem_nil, or_false] at hc; rcases hc with rfl | rfl <;> exact chF_rng _) (by decide) (Nat.le_of_ble_eq_true rfl)) rfl rfl (lenOf pd_5 rfl) rfl d7_37 (by decide) (by decide) (fun _ _ _ q => ⟨Fw.of_fr q.2.1, q.2.2.1.1⟩) ?_
    intro v147 h148 L150 q149
    obtain ⟨rfl, -, K151, t152, lt154, T153⟩ := q149
    have sz156 : h135.size ≤ h148.size := K151.1
    have lx155 := T153.lt
    have lx155_1 := lx155.1; have lx155_2 := lx155.2
    show Go _ _ _ _ _ _ _ _ _ _ _ _ _ _ _ _ _ _ _ _ _ (mkF m 40 #[.val (.int p1), .val (.ref b103)] [(.ref b136)])
    have hT : Str Z h148 b136 t152 (tx p1) := by rw [tx, if_neg hc101]; exact T153
    exact GoKit.retA (pc := 40) K rfl rfl d7_40 (by simp) (by decide) (by decide) (fun _ _ => ⟨b136, t152, rfl, by omega, by omega, hT⟩)
  · -- (p1 &&& (1 : Int32)) = (0 : Int32)
    refine GoKit.iloadN (pc := 6) K d7_6 rfl ?_
    refine GoKit.callS (pc := 7) (a0 := a0) (argsL := [(.int p1)]) (rest := []) K (hw _ (List.mem_of_getElem? (i := 10) rfl)) (hw _ (List.mem_of_getElem? (i := 11) rfl)) (hw _ (List.mem_of_getElem? (i := 2) rfl)) (hw _ (List.mem_of_getElem? (i := 12) rfl)) (by decide) (fun hZ => Con.bk (a0 := a0) (c_first l Z a0 hw p1 h0) hZ (hw _ (List.mem_of_getElem? (i := 12) rfl)) (hw _ (List.mem_of_getElem? (i := 2) rfl)) (by decide) (Nat.le_of_ble_eq_true rfl)) rfl rfl (lenOf pd_0 rfl) rfl d7_7 (by decide) (by decide) (fun _ _ _ q => ⟨Fw.sub q.2.1 (by omega) (fun x hx => nomatch hx), q.2.2.1⟩) ?_
    intro v157 h158 L160 q159
    obtain ⟨⟨vm161, rfl, e162⟩, -, -⟩ := q159
    replace e162 := e162.symm; subst e162
    show Go _ _ _ _ _ _ _ _ _ _ _ _ _ _ _ _ _ _ _ _ _ (mkF m 10 #[.val (.int p1), .unset] [(.int (fF p1))])
    refine GoKit.callS (pc := 10) (a0 := a0) (argsL := [(.int (fF p1))]) (rest := []) K (hw _ (List.mem_of_getElem? (i := 25) rfl)) (hw _ (List.mem_of_getElem? (i := 26) rfl)) (hw _ (List.mem_of_getElem? (i := 27) rfl)) (hw _ (List.mem_of_getElem? (i := 28) rfl)) (by decide) (fun hZ => Con.bk (a0 := a0) (c_vof l Z a0 hw (fF p1) (chF_rng _) h0 n0 O0 z0 S0 hz0) hZ (hw _ (List.mem_of_getElem? (i := 28) rfl)) (hw _ (List.mem_of_getElem? (i := 27) rfl)) (by decide) (Nat.le_of_ble_eq_true rfl)) rfl rfl (lenOf pd_6 rfl) rfl d7_10 (by decide) (by decide) (fun _ _ _ q => ⟨Fw.sub q.2.1 (by omega) (fun x hx => nomatch hx), q.2.2.1⟩) ?_
    intro v163 h164 L166 q165
    obtain ⟨⟨vm167, a168, t169, rfl, lt170, lt171, T172⟩, -, K173⟩ := q165
    have sz175 : h0.size ≤ h164.size := K173.1
    have lx174_1 := T172.lt.1; have lx174_2 := T172.lt.2
    show Go _ _ _ _ _ _ _ _ _ _ _ _ _ _ _ _ _ _ _ _ _ (mkF m 13 #[.val (.int p1), .unset] [(.ref a168)])
    have hT : Str Z h164 a168 t169 (tx p1) := by rw [tx, if_pos hc101]; exact T172
    exact GoKit.retA (pc := 13) K rfl rfl d7_13 (by simp) (by decide) (by decide) (fun _ _ => ⟨a168, t169, rfl, by omega, by omega, hT⟩)
set_option maxRecDepth 65536 in
set_option maxHeartbeats 40000000 in
theorem c_cs (l : Launch) (Z : State) (a0 : Array Value) (hw : ∀ d ∈ tables_1, d.before a0 Z = true) (p1 : Int32) (h0 : Heap) (n0 : Nat) (O0 : Old Z n0 h0) (z0 : Int32) (S0 : Sta Z Z.heap "java/lang/String" "COMPACT_STRINGS" "Z" (.int z0)) (hz0 : ¬ z0 = 0) :
    Con l (⟨"com/example/inquiry_to_answer/inquirytoanswer/http/MediaRangeSpecificityForPinLaw", "charset", "(I)Ljava/lang/String;"⟩ : MethodName) method_9_code 4 (some (.object "java/lang/String")) [] ({ frames := 4, cells := 3, slots := 14, locals := 66 } : Room) Z #[(.int p1)] h0 [] (fun _ => True) (fun v h _ => (csT p1 = none ∧ v = some .null) ∨ ∃ (a t : Nat) (cs : List Int32), csT p1 = some cs ∧ v = some (.ref a) ∧ h0.size ≤ a ∧ h0.size ≤ t ∧ Str Z h a t cs) false := by
  refine Con.intro pn_0 ?_
  intro p e s m below meth c K hV hsh
  have ef : entryFrame m #[(.int p1)] 4 = (mkF m 0 #[.val (.int p1), .unset, .unset, .unset] []) := (by first | (simp [entryFrame, mkF, argsToLocals, cat_ref, cat_int, cat_long, cat_null]; done) | rfl)
  rw [ef]
  have hn0 : n0 ≤ h0.size := by rw [← O0.1]; exact O0.2.1
  refine GoKit.iloadN (pc := 0) K d19_0 rfl ?_
  refine GoKit.iconst (pc := 1) (x := (3 : Int32)) K d19_1 rfl ?_
  refine GoKit.iand (pc := 2) K d19_2 ?_
  refine GoKit.istoreN (pc := 3) (l' := #[.val (.int p1), .val (.int (p1 &&& (3 : Int32))), .unset, .unset]) K d19_3 rfl ?_
  refine GoKit.iloadN (pc := 4) K d19_4 rfl ?_
  refine GoKit.iconst (pc := 5) (x := (2 : Int32)) K d19_5 rfl ?_
  refine GoKit.iushr (pc := 6) K d19_6 ?_
  refine GoKit.sipush (pc := 7) (x := (255 : Int32)) K d19_7 rfl ?_
  refine GoKit.iand (pc := 10) K d19_10 ?_
  refine GoKit.i2c (pc := 11) K d19_11 ?_
  rw [i2c_mask]
  show Go _ _ _ _ _ _ _ _ _ _ _ _ _ _ _ _ _ _ _ _ _ (mkF m 12 #[.val (.int p1), .val (.int (p1 &&& (3 : Int32))), .unset, .unset] [(.int (cF p1))])
  refine GoKit.istoreN (pc := 12) (l' := #[.val (.int p1), .val (.int (p1 &&& (3 : Int32))), .val (.int (cF p1)), .unset]) K d19_12 rfl ?_
  refine GoKit.iloadN (pc := 13) K d19_13 rfl ?_
  refine GoKit.if_ne (pc := 14) (pc' := 19) K d19_14 (by decide) (fun hc101 => ?_) (fun hc101 => ?_)
  · -- ¬ (p1 &&& (3 : Int32)) = (0 : Int32)
    refine GoKit.iloadN (pc := 19) K d19_19 rfl ?_
    refine GoKit.iconst (pc := 20) (x := (1 : Int32)) K d19_20 rfl ?_
    refine GoKit.icmp_ne (pc := 21) (pc' := 62) K d19_21 (by decide) (fun hc102 => ?_) (fun hc102 => ?_)
    · -- ¬ (p1 &&& (3 : Int32)) = (1 : Int32)
      refine GoKit.iloadN (pc := 62) K d19_62 rfl ?_
      refine GoKit.iconst (pc := 63) (x := (2 : Int32)) K d19_63 rfl ?_
      refine GoKit.icmp_ne (pc := 64) (pc' := 104) K d19_64 (by decide) (fun hc103 => ?_) (fun hc103 => ?_)
      · -- ¬ (p1 &&& (3 : Int32)) = (2 : Int32)
        refine GoKit.iloadN (pc := 104) K d19_104 rfl ?_
        refine GoKit.callS (pc := 105) (a0 := a0) (argsL := [(.int (cF p1))]) (rest := []) K (hw _ (List.mem_of_getElem? (i := 25) rfl)) (hw _ (List.mem_of_getElem? (i := 26) rfl)) (hw _ (List.mem_of_getElem? (i := 27) rfl)) (hw _ (List.mem_of_getElem? (i := 28) rfl)) (by decide) (fun hZ => Con.bk (a0 := a0) (c_vof l Z a0 hw (cF p1) (cF_rng _) h0 n0 O0 z0 S0 hz0) hZ (hw _ (List.mem_of_getElem? (i := 28) rfl)) (hw _ (List.mem_of_getElem? (i := 27) rfl)) (by decide) (Nat.le_of_ble_eq_true rfl)) rfl rfl (lenOf pd_6 rfl) rfl d19_105 (by decide) (by decide) (fun _ _ _ q => ⟨Fw.sub q.2.1 (by omega) (fun x hx => nomatch hx), q.2.2.1⟩) ?_
        intro v104 h105 L107 q106
        obtain ⟨⟨vm108, a109, t110, rfl, lt111, lt112, T113⟩, -, K114⟩ := q106
        have sz116 : h0.size ≤ h105.size := K114.1
        have lx115_1 := T113.lt.1; have lx115_2 := T113.lt.2
        show Go _ _ _ _ _ _ _ _ _ _ _ _ _ _ _ _ _ _ _ _ _ (mkF m 108 #[.val (.int p1), .val (.int (p1 &&& (3 : Int32))), .val (.int (cF p1)), .unset] [(.ref a109)])
        exact GoKit.retA (pc := 108) K rfl rfl d19_108 (by simp) (by decide) (by decide) (fun _ _ => Or.inr ⟨a109, t110, ([(cF p1)] : List Int32), by simp [csT, u8, hc101, hc102, hc103], rfl, by omega, by omega, T113⟩)
      · -- (p1 &&& (3 : Int32)) = (2 : Int32)
        refine GoKit.iconst (pc := 67) (x := (5 : Int32)) K d19_67 rfl ?_
        refine GoKit.newP (pc := 68) (a0 := a0) (cap := 5) K (hw _ (List.mem_of_getElem? (i := 51) rfl)) d19_68 (by decide) (by decide) (by decide) (by decide) (by decide) ?_
        intro h117 b118 kc119 eq120 E121 A122
        have sz124 : h0.size ≤ h117.size := E121.1
        have lt125 : b118 < h117.size := A122.lt
        have V123 : Arv Z h117 b118 kc119 .char (5 : Int32) [.int 0, .int 0, .int 0, .int 0, .int 0] (.int 0) := A122.pad (pad_rep [] _ 5)
        refine GoKit.astoreN (pc := 70) (l' := #[.val (.int p1), .val (.int (p1 &&& (3 : Int32))), .val (.int (cF p1)), .val (.ref b118)]) K d19_70 rfl rfl ?_
        refine GoKit.aloadN (pc := 71) K d19_71 rfl rfl ?_
        refine GoKit.iconst (pc := 72) (x := (0 : Int32)) K d19_72 rfl ?_
        refine GoKit.bipush (pc := 73) (x := (117 : Int32)) K d19_73 rfl ?_
        refine GoKit.castore (pc := 75) (i := 0) K V123 (by decide) rfl (Nat.le_of_ble_eq_true rfl) (Or.inl (by omega)) d19_75 ?_
        intro h126 W127 V128
        have sz129 : h117.size ≤ h126.size := Nat.le_of_eq W127.size.symm
        have V130 : Arv Z h126 b118 kc119 .char (5 : Int32) [(.int (nar .char (117 : Int32))), .int 0, .int 0, .int 0, .int 0] (.int 0) := V128
        have V131 : Arv Z h126 b118 kc119 .char (5 : Int32) [(.int 117), .int 0, .int 0, .int 0, .int 0] (.int 0) := by have q := V130; rw [(by decide : nar .char (117 : Int32) = 117)] at q; exact q
        refine GoKit.aloadN (pc := 76) K d19_76 rfl rfl ?_
        refine GoKit.iconst (pc := 77) (x := (1 : Int32)) K d19_77 rfl ?_
        refine GoKit.bipush (pc := 78) (x := (116 : Int32)) K d19_78 rfl ?_
        refine GoKit.castore (pc := 80) (i := 1) K V131 (by decide) rfl (Nat.le_of_ble_eq_true rfl) (Or.inl (by omega)) d19_80 ?_
        intro h132 W133 V134
        have sz135 : h126.size ≤ h132.size := Nat.le_of_eq W133.size.symm
        have V136 : Arv Z h132 b118 kc119 .char (5 : Int32) [(.int 117), (.int (nar .char (116 : Int32))), .int 0, .int 0, .int 0] (.int 0) := V134
        have V137 : Arv Z h132 b118 kc119 .char (5 : Int32) [(.int 117), (.int 116), .int 0, .int 0, .int 0] (.int 0) := by have q := V136; rw [(by decide : nar .char (116 : Int32) = 116)] at q; exact q
        refine GoKit.aloadN (pc := 81) K d19_81 rfl rfl ?_
        refine GoKit.iconst (pc := 82) (x := (2 : Int32)) K d19_82 rfl ?_
        refine GoKit.bipush (pc := 83) (x := (102 : Int32)) K d19_83 rfl ?_
        refine GoKit.castore (pc := 85) (i := 2) K V137 (by decide) rfl (Nat.le_of_ble_eq_true rfl) (Or.inl (by omega)) d19_85 ?_
        intro h138 W139 V140
        have sz141 : h132.size ≤ h138.size := Nat.le_of_eq W139.size.symm
        have V142 : Arv Z h138 b118 kc119 .char (5 : Int32) [(.int 117), (.int 116), (.int (nar .char (102 : Int32))), .int 0, .int 0] (.int 0) := V140
        have V143 : Arv Z h138 b118 kc119 .char (5 : Int32) [(.int 117), (.int 116), (.int 102), .int 0, .int 0] (.int 0) := by have q := V142; rw [(by decide : nar .char (102 : Int32) = 102)] at q; exact q
        refine GoKit.aloadN (pc := 86) K d19_86 rfl rfl ?_
        refine GoKit.iconst (pc := 87) (x := (3 : Int32)) K d19_87 rfl ?_
        refine GoKit.bipush (pc := 88) (x := (45 : Int32)) K d19_88 rfl ?_
        refine GoKit.castore (pc := 90) (i := 3) K V143 (by decide) rfl (Nat.le_of_ble_eq_true rfl) (Or.inl (by omega)) d19_90 ?_
        intro h144 W145 V146
        have sz147 : h138.size ≤ h144.size := Nat.le_of_eq W145.size.symm
        have V148 : Arv Z h144 b118 kc119 .char (5 : Int32) [(.int 117), (.int 116), (.int 102), (.int (nar .char (45 : Int32))), .int 0] (.int 0) := V146
        have V149 : Arv Z h144 b118 kc119 .char (5 : Int32) [(.int 117), (.int 116), (.int 102), (.int 45), .int 0] (.int 0) := by have q := V148; rw [(by decide : nar .char (45 : Int32) = 45)] at q; exact q
        refine GoKit.aloadN (pc := 91) K d19_91 rfl rfl ?_
        refine GoKit.iconst (pc := 92) (x := (4 : Int32)) K d19_92 rfl ?_
        refine GoKit.iloadN (pc := 93) K d19_93 rfl ?_
        refine GoKit.castore (pc := 94) (i := 4) K V149 (by decide) rfl (Nat.le_of_ble_eq_true rfl) (Or.inl (by omega)) d19_94 ?_
        intro h150 W151 V152
        have sz153 : h144.size ≤ h150.size := Nat.le_of_eq W151.size.symm
        have V154 : Arv Z h150 b118 kc119 .char (5 : Int32) [(.int 117), (.int 116), (.int 102), (.int 45), (.int (nar .char (cF p1)))] (.int 0) := V152
        have V155 : Arv Z h150 b118 kc119 .char (5 : Int32) [(.int 117), (.int 116), (.int 102), (.int 45), (.int (cF p1))] (.int 0) := by have q := V154; rw [cF_nar] at q; exact q
        refine GoKit.newO (pc := 95) (a0 := a0) K (hw _ (List.mem_of_getElem? (i := 55) rfl)) (hw _ (List.mem_of_getElem? (i := 35) rfl)) (hw _ (List.mem_of_getElem? (i := 27) rfl)) d19_95 (by decide) (by decide) ?_
        intro h156 b157 eq158 E159 A160 D161
        have sz162 : h150.size ≤ h156.size := E159.1
        have lt163 : b157 < h156.size := A160.lt
        have F164 : Fld Z h156 b157 "java/lang/String" "value" "[B" .null := D161 (Or.inr (hw _ (List.mem_of_getElem? (i := 48) rfl))) (ty := (.array .byte)) (by decide +kernel)
        have F165 : Fld Z h156 b157 "java/lang/String" "coder" "B" (.int (0 : Int32)) := D161 (Or.inr (hw _ (List.mem_of_getElem? (i := 50) rfl))) (ty := .byte) (by decide +kernel)
        refine GoKit.dup (pc := 98) K d19_98 rfl ?_
        refine GoKit.aloadN (pc := 99) K d19_99 rfl rfl ?_
        have f166 := (V155.ext E159)
        have f167 := (((((((O0.ext E121).wr W127 (by omega)).wr W133 (by omega)).wr W139 (by omega)).wr W145 (by omega)).wr W151 (by omega)).ext E159)
        refine GoKit.callI (pc := 100) (a0 := a0) (argsL := [(.ref b118)]) (rest := [(.ref b157)]) K rfl (hw _ (List.mem_of_getElem? (i := 56) rfl)) (hw _ (List.mem_of_getElem? (i := 57) rfl)) (hw _ (List.mem_of_getElem? (i := 58) rfl)) (by decide) (fun hZ => Str.bkNew hZ (kI := 4) (fun d hd => hw d ((by decide +kernel : ∀ d ∈ StrChars.Road.words, d ∈ tables_1) d hd)) (hw _ (List.mem_of_getElem? (i := 35) rfl)) (cs := ([117, 116, 102, 45, (cF p1)] : List Int32)) (n := 5) (n0 := h0.size) (by omega) (by omega) A160 F164 F165 f166 (S0.ext f167.2) hz0 rfl rfl (by decide) (by decide) (by intro c hc; simp only [List.mem_cons, List.not_mem_nil, or_false] at hc; rcases hc with rfl | rfl | rfl | rfl | rfl <;> first | decide | exact cF_rng _) (by decide) (Nat.le_of_ble_eq_true rfl)) rfl rfl (lenOf pd_5 rfl) rfl d19_100 (by decide) (by decide) (fun _ _ _ q => ⟨Fw.of_fr q.2.1, q.2.2.1.1⟩) ?_
        intro v168 h169 L171 q170
        obtain ⟨rfl, -, K172, t173, lt175, T174⟩ := q170
        have sz177 : h156.size ≤ h169.size := K172.1
        have lx176 := T174.lt
        have lx176_1 := lx176.1; have lx176_2 := lx176.2
        show Go _ _ _ _ _ _ _ _ _ _ _ _ _ _ _ _ _ _ _ _ _ (mkF m 103 #[.val (.int p1), .val (.int (p1 &&& (3 : Int32))), .val (.int (cF p1)), .val (.ref b118)] [(.ref b157)])
        exact GoKit.retA (pc := 103) K rfl rfl d19_103 (by simp) (by decide) (by decide) (fun _ _ => Or.inr ⟨b157, t173, ([117, 116, 102, 45, (cF p1)] : List Int32), by simp [csT, u8, hc101, hc102, hc103], rfl, by omega, by omega, T174⟩)
    · -- (p1 &&& (3 : Int32)) = (1 : Int32)
      refine GoKit.iconst (pc := 24) (x := (5 : Int32)) K d19_24 rfl ?_
      refine GoKit.newP (pc := 25) (a0 := a0) (cap := 5) K (hw _ (List.mem_of_getElem? (i := 51) rfl)) d19_25 (by decide) (by decide) (by decide) (by decide) (by decide) ?_
      intro h178 b179 kc180 eq181 E182 A183
      have sz185 : h0.size ≤ h178.size := E182.1
      have lt186 : b179 < h178.size := A183.lt
      have V184 : Arv Z h178 b179 kc180 .char (5 : Int32) [.int 0, .int 0, .int 0, .int 0, .int 0] (.int 0) := A183.pad (pad_rep [] _ 5)
      refine GoKit.astoreN (pc := 27) (l' := #[.val (.int p1), .val (.int (p1 &&& (3 : Int32))), .val (.int (cF p1)), .val (.ref b179)]) K d19_27 rfl rfl ?_
      refine GoKit.aloadN (pc := 28) K d19_28 rfl rfl ?_
      refine GoKit.iconst (pc := 29) (x := (0 : Int32)) K d19_29 rfl ?_
      refine GoKit.bipush (pc := 30) (x := (117 : Int32)) K d19_30 rfl ?_
      refine GoKit.castore (pc := 32) (i := 0) K V184 (by decide) rfl (Nat.le_of_ble_eq_true rfl) (Or.inl (by omega)) d19_32 ?_
      intro h187 W188 V189
      have sz190 : h178.size ≤ h187.size := Nat.le_of_eq W188.size.symm
      have V191 : Arv Z h187 b179 kc180 .char (5 : Int32) [(.int (nar .char (117 : Int32))), .int 0, .int 0, .int 0, .int 0] (.int 0) := V189
      have V192 : Arv Z h187 b179 kc180 .char (5 : Int32) [(.int 117), .int 0, .int 0, .int 0, .int 0] (.int 0) := by have q := V191; rw [(by decide : nar .char (117 : Int32) = 117)] at q; exact q
      refine GoKit.aloadN (pc := 33) K d19_33 rfl rfl ?_
      refine GoKit.iconst (pc := 34) (x := (1 : Int32)) K d19_34 rfl ?_
      refine GoKit.bipush (pc := 35) (x := (116 : Int32)) K d19_35 rfl ?_
      refine GoKit.castore (pc := 37) (i := 1) K V192 (by decide) rfl (Nat.le_of_ble_eq_true rfl) (Or.inl (by omega)) d19_37 ?_
      intro h193 W194 V195
      have sz196 : h187.size ≤ h193.size := Nat.le_of_eq W194.size.symm
      have V197 : Arv Z h193 b179 kc180 .char (5 : Int32) [(.int 117), (.int (nar .char (116 : Int32))), .int 0, .int 0, .int 0] (.int 0) := V195
      have V198 : Arv Z h193 b179 kc180 .char (5 : Int32) [(.int 117), (.int 116), .int 0, .int 0, .int 0] (.int 0) := by have q := V197; rw [(by decide : nar .char (116 : Int32) = 116)] at q; exact q
      refine GoKit.aloadN (pc := 38) K d19_38 rfl rfl ?_
      refine GoKit.iconst (pc := 39) (x := (2 : Int32)) K d19_39 rfl ?_
      refine GoKit.bipush (pc := 40) (x := (102 : Int32)) K d19_40 rfl ?_
      refine GoKit.castore (pc := 42) (i := 2) K V198 (by decide) rfl (Nat.le_of_ble_eq_true rfl) (Or.inl (by omega)) d19_42 ?_
      intro h199 W200 V201
      have sz202 : h193.size ≤ h199.size := Nat.le_of_eq W200.size.symm
      have V203 : Arv Z h199 b179 kc180 .char (5 : Int32) [(.int 117), (.int 116), (.int (nar .char (102 : Int32))), .int 0, .int 0] (.int 0) := V201
      have V204 : Arv Z h199 b179 kc180 .char (5 : Int32) [(.int 117), (.int 116), (.int 102), .int 0, .int 0] (.int 0) := by have q := V203; rw [(by decide : nar .char (102 : Int32) = 102)] at q; exact q
      refine GoKit.aloadN (pc := 43) K d19_43 rfl rfl ?_
      refine GoKit.iconst (pc := 44) (x := (3 : Int32)) K d19_44 rfl ?_
      refine GoKit.bipush (pc := 45) (x := (45 : Int32)) K d19_45 rfl ?_
      refine GoKit.castore (pc := 47) (i := 3) K V204 (by decide) rfl (Nat.le_of_ble_eq_true rfl) (Or.inl (by omega)) d19_47 ?_
      intro h205 W206 V207
      have sz208 : h199.size ≤ h205.size := Nat.le_of_eq W206.size.symm
      have V209 : Arv Z h205 b179 kc180 .char (5 : Int32) [(.int 117), (.int 116), (.int 102), (.int (nar .char (45 : Int32))), .int 0] (.int 0) := V207
      have V210 : Arv Z h205 b179 kc180 .char (5 : Int32) [(.int 117), (.int 116), (.int 102), (.int 45), .int 0] (.int 0) := by have q := V209; rw [(by decide : nar .char (45 : Int32) = 45)] at q; exact q
      refine GoKit.aloadN (pc := 48) K d19_48 rfl rfl ?_
      refine GoKit.iconst (pc := 49) (x := (4 : Int32)) K d19_49 rfl ?_
      refine GoKit.bipush (pc := 50) (x := (56 : Int32)) K d19_50 rfl ?_
      refine GoKit.castore (pc := 52) (i := 4) K V210 (by decide) rfl (Nat.le_of_ble_eq_true rfl) (Or.inl (by omega)) d19_52 ?_
      intro h211 W212 V213
      have sz214 : h205.size ≤ h211.size := Nat.le_of_eq W212.size.symm
      have V215 : Arv Z h211 b179 kc180 .char (5 : Int32) [(.int 117), (.int 116), (.int 102), (.int 45), (.int (nar .char (56 : Int32)))] (.int 0) := V213
      have V216 : Arv Z h211 b179 kc180 .char (5 : Int32) [(.int 117), (.int 116), (.int 102), (.int 45), (.int 56)] (.int 0) := by have q := V215; rw [(by decide : nar .char (56 : Int32) = 56)] at q; exact q
      refine GoKit.newO (pc := 53) (a0 := a0) K (hw _ (List.mem_of_getElem? (i := 55) rfl)) (hw _ (List.mem_of_getElem? (i := 35) rfl)) (hw _ (List.mem_of_getElem? (i := 27) rfl)) d19_53 (by decide) (by decide) ?_
      intro h217 b218 eq219 E220 A221 D222
      have sz223 : h211.size ≤ h217.size := E220.1
      have lt224 : b218 < h217.size := A221.lt
      have F225 : Fld Z h217 b218 "java/lang/String" "value" "[B" .null := D222 (Or.inr (hw _ (List.mem_of_getElem? (i := 48) rfl))) (ty := (.array .byte)) (by decide +kernel)
      have F226 : Fld Z h217 b218 "java/lang/String" "coder" "B" (.int (0 : Int32)) := D222 (Or.inr (hw _ (List.mem_of_getElem? (i := 50) rfl))) (ty := .byte) (by decide +kernel)
      refine GoKit.dup (pc := 56) K d19_56 rfl ?_
      refine GoKit.aloadN (pc := 57) K d19_57 rfl rfl ?_
      have f227 := (V216.ext E220)
      have f228 := (((((((O0.ext E182).wr W188 (by omega)).wr W194 (by omega)).wr W200 (by omega)).wr W206 (by omega)).wr W212 (by omega)).ext E220)
      refine GoKit.callI (pc := 58) (a0 := a0) (argsL := [(.ref b179)]) (rest := [(.ref b218)]) K rfl (hw _ (List.mem_of_getElem? (i := 56) rfl)) (hw _ (List.mem_of_getElem? (i := 57) rfl)) (hw _ (List.mem_of_getElem? (i := 58) rfl)) (by decide) (fun hZ => Str.bkNew hZ (kI := 4) (fun d hd => hw d ((by decide +kernel : ∀ d ∈ StrChars.Road.words, d ∈ tables_1) d hd)) (hw _ (List.mem_of_getElem? (i := 35) rfl)) (cs := ([117, 116, 102, 45, 56] : List Int32)) (n := 5) (n0 := h0.size) (by omega) (by omega) A221 F225 F226 f227 (S0.ext f228.2) hz0 rfl rfl (by decide) (by decide) (by intro c hc; simp only [List.mem_cons, List.not_mem_nil, or_false] at hc; rcases hc with rfl | rfl | rfl | rfl | rfl <;> first | decide | exact cF_rng _) (by decide) (Nat.le_of_ble_eq_true rfl)) rfl rfl (lenOf pd_5 rfl) rfl d19_58 (by decide) (by decide) (fun _ _ _ q => ⟨Fw.of_fr q.2.1, q.2.2.1.1⟩) ?_
      intro v229 h230 L232 q231
      obtain ⟨rfl, -, K233, t234, lt236, T235⟩ := q231
      have sz238 : h217.size ≤ h230.size := K233.1
      have lx237 := T235.lt
      have lx237_1 := lx237.1; have lx237_2 := lx237.2
      show Go _ _ _ _ _ _ _ _ _ _ _ _ _ _ _ _ _ _ _ _ _ (mkF m 61 #[.val (.int p1), .val (.int (p1 &&& (3 : Int32))), .val (.int (cF p1)), .val (.ref b179)] [(.ref b218)])
      exact GoKit.retA (pc := 61) K rfl rfl d19_61 (by simp) (by decide) (by decide) (fun _ _ => Or.inr ⟨b218, t234, ([117, 116, 102, 45, 56] : List Int32), by simp [csT, u8, hc101, hc102], rfl, by omega, by omega, T235⟩)
  · -- (p1 &&& (3 : Int32)) = (0 : Int32)
    refine GoKit.aconstNull (pc := 17) K d19_17 ?_
    exact GoKit.retA (pc := 18) K rfl rfl d19_18 (by simp) (by decide) (by decide) (fun _ _ => Or.inl ⟨by simp [csT, hc101], rfl⟩)
set_option maxRecDepth 65536 in
set_option maxHeartbeats 40000000 in
theorem c_rec (l : Launch) (Z : State) (a0 : Array Value) (hw : ∀ d ∈ tables_1, d.before a0 Z = true) (a1 : Nat) (h0 : Heap) :
    Con l (⟨"java/lang/Record", "<init>", "()V"⟩ : MethodName) jdk_30_method_1_code 1 none [] ({ frames := 1, cells := 0, slots := 0, locals := 12 } : Room) Z #[(.ref a1)] h0 [] (fun _ => True) (fun v h _ => v = none ∧ h = h0) false := by
  refine Con.intro pn_3 ?_
  intro p e s m below meth c K hV hsh
  have ef : entryFrame m #[(.ref a1)] 1 = (mkF m 0 #[.val (.ref a1)] []) := (by first | (simp [entryFrame, mkF, argsToLocals, cat_ref, cat_int, cat_long, cat_null]; done) | rfl)
  rw [ef]
  refine GoKit.aloadN (pc := 0) K d21_0 rfl rfl ?_
  refine GoKit.initO (pc := 1) (a0 := a0) K (hw _ (List.mem_of_getElem? (i := 83) rfl)) (hw _ (List.mem_of_getElem? (i := 45) rfl)) (hw _ (List.mem_of_getElem? (i := 46) rfl)) rfl d21_1 (by decide) (Nat.le_of_ble_eq_true rfl) ?_
  exact GoKit.retV (pc := 4) K d21_4 (by simp) (by decide) (by decide) (fun _ _ => ⟨rfl, rfl⟩)
set_option maxRecDepth 65536 in
set_option maxHeartbeats 40000000 in
theorem c_mr (l : Launch) (Z : State) (a0 : Array Value) (hw : ∀ d ∈ tables_1, d.before a0 Z = true) (a1 a2 a3 : Nat) (x4 : Value) (r4 : x4.isRef = true) (p5 : Int32) (h0 : Heap) (E1 : Exa Z h0 a1 "com/example/inquiry_to_answer/inquirytoanswer/http/MediaRange") (F1 : Fld Z h0 a1 "com/example/inquiry_to_answer/inquirytoanswer/http/MediaRange" "type" "Ljava/lang/String;" .null) (F2 : Fld Z h0 a1 "com/example/inquiry_to_answer/inquirytoanswer/http/MediaRange" "subtype" "Ljava/lang/String;" .null) (F3 : Fld Z h0 a1 "com/example/inquiry_to_answer/inquirytoanswer/http/MediaRange" "charset" "Ljava/lang/String;" .null) (F4 : Fld Z h0 a1 "com/example/inquiry_to_answer/inquirytoanswer/http/MediaRange" "quality" "I" (.int 0)) :
    Con l (⟨"com/example/inquiry_to_answer/inquirytoanswer/http/MediaRange", "<init>", "(Ljava/lang/String;Ljava/lang/String;Ljava/lang/String;I)V"⟩ : MethodName) prog_123_method_1_code 5 none [] ({ frames := 2, cells := 0, slots := 0, locals := 24 } : Room) Z #[(.ref a1), (.ref a2), (.ref a3), x4, (.int p5)] h0 [a1] (fun _ => True) (fun v h _ => v = none ∧ Fld Z h a1 "com/example/inquiry_to_answer/inquirytoanswer/http/MediaRange" "type" "Ljava/lang/String;" (.ref a2) ∧ Fld Z h a1 "com/example/inquiry_to_answer/inquirytoanswer/http/MediaRange" "subtype" "Ljava/lang/String;" (.ref a3) ∧ Fld Z h a1 "com/example/inquiry_to_answer/inquirytoanswer/http/MediaRange" "charset" "Ljava/lang/String;" x4) false := by
  refine Con.intro pn_4 ?_
  intro p e s m below meth c K hV hsh
  have ef : entryFrame m #[(.ref a1), (.ref a2), (.ref a3), x4, (.int p5)] 5 = (mkF m 0 #[.val (.ref a1), .val (.ref a2), .val (.ref a3), .val x4, .val (.int p5)] []) := (by first | (simp [entryFrame, mkF, argsToLocals, cat_ref, cat_int, cat_long, cat_null, (cat_isRef r4)]; done) | rfl)
  rw [ef]
  refine GoKit.aloadN (pc := 0) K d20_0 rfl rfl ?_
  refine GoKit.callI (pc := 1) (a0 := a0) (argsL := []) (rest := []) K rfl (hw _ (List.mem_of_getElem? (i := 78) rfl)) (hw _ (List.mem_of_getElem? (i := 79) rfl)) (hw _ (List.mem_of_getElem? (i := 82) rfl)) (by decide) (fun hZ => Con.bk (a0 := a0) (c_rec l Z a0 hw a1 h0) hZ (hw _ (List.mem_of_getElem? (i := 82) rfl)) (hw _ (List.mem_of_getElem? (i := 81) rfl)) (by decide) (Nat.le_of_ble_eq_true rfl)) rfl rfl (lenOf pd_7 rfl) rfl d20_1 (by decide) (by decide) (fun _ _ _ q => ⟨Fw.sub q.2.1 (by omega) (fun x hx => nomatch hx), q.2.2.1⟩) ?_
  intro v101 h102 L104 q103
  obtain ⟨⟨vm105, rfl, e106⟩, -, -⟩ := q103
  replace e106 := e106.symm; subst e106
  show Go _ _ _ _ _ _ _ _ _ _ _ _ _ _ _ _ _ _ _ _ _ (mkF m 4 #[.val (.ref a1), .val (.ref a2), .val (.ref a3), .val x4, .val (.int p5)] [])
  refine Go.allow a1 ?_
  refine GoKit.aloadN (pc := 4) K d20_4 rfl rfl ?_
  refine GoKit.aloadN (pc := 5) K d20_5 rfl rfl ?_
  refine GoKit.putF (pc := 6) (a0 := a0) (ty := (.object "java/lang/String")) K (hw _ (List.mem_of_getElem? (i := 84) rfl)) Via.refl F1 E1 (Or.inr ⟨(hw _ (List.mem_of_getElem? (i := 85) rfl)), rfl, rfl⟩) (hw _ (List.mem_of_getElem? (i := 20) rfl)) (by decide +kernel) rfl rfl (Or.inr (by simp)) d20_6 ?_
  intro h107 W108 F109
  have sz110 : h0.size ≤ h107.size := Nat.le_of_eq W108.size.symm
  refine GoKit.aloadN (pc := 9) K d20_9 rfl rfl ?_
  refine GoKit.aloadN (pc := 10) K d20_10 rfl rfl ?_
  have f111 := (F2.other W108 (Or.inr (slot_ne (a0 := a0) (t := (.object "java/lang/String")) (t' := (.object "java/lang/String")) (Or.inr (hw _ (List.mem_of_getElem? (i := 87) rfl))) (Or.inr (hw _ (List.mem_of_getElem? (i := 85) rfl))) (by decide) (by decide +kernel) (by decide +kernel))))
  have f112 := (E1.wr W108)
  refine GoKit.putF (pc := 11) (a0 := a0) (ty := (.object "java/lang/String")) K (hw _ (List.mem_of_getElem? (i := 86) rfl)) Via.refl f111 f112 (Or.inr ⟨(hw _ (List.mem_of_getElem? (i := 87) rfl)), rfl, rfl⟩) (hw _ (List.mem_of_getElem? (i := 20) rfl)) (by decide +kernel) rfl rfl (Or.inr (by simp)) d20_11 ?_
  intro h113 W114 F115
  have sz116 : h107.size ≤ h113.size := Nat.le_of_eq W114.size.symm
  refine GoKit.aloadN (pc := 14) K d20_14 rfl rfl ?_
  refine GoKit.aloadN (pc := 15) K d20_15 rfl r4 ?_
  have f117 := ((F3.other W108 (Or.inr (slot_ne (a0 := a0) (t := (.object "java/lang/String")) (t' := (.object "java/lang/String")) (Or.inr (hw _ (List.mem_of_getElem? (i := 89) rfl))) (Or.inr (hw _ (List.mem_of_getElem? (i := 85) rfl))) (by decide) (by decide +kernel) (by decide +kernel)))).other W114 (Or.inr (slot_ne (a0 := a0) (t := (.object "java/lang/String")) (t' := (.object "java/lang/String")) (Or.inr (hw _ (List.mem_of_getElem? (i := 89) rfl))) (Or.inr (hw _ (List.mem_of_getElem? (i := 87) rfl))) (by decide) (by decide +kernel) (by decide +kernel))))
  have f118 := (f112.wr W114)
  refine GoKit.putF (pc := 16) (a0 := a0) (ty := (.object "java/lang/String")) K (hw _ (List.mem_of_getElem? (i := 88) rfl)) Via.refl f117 f118 (Or.inr ⟨(hw _ (List.mem_of_getElem? (i := 89) rfl)), rfl, rfl⟩) (hw _ (List.mem_of_getElem? (i := 20) rfl)) (by decide +kernel) (GoKit.narrow_ref rfl) (fits_isRef rfl r4) (Or.inr (by simp)) d20_16 ?_
  intro h119 W120 F121
  have sz122 : h113.size ≤ h119.size := Nat.le_of_eq W120.size.symm
  refine GoKit.aloadN (pc := 19) K d20_19 rfl rfl ?_
  refine GoKit.iload (pc := 20) K d20_20 rfl ?_
  have f123 := (((F4.other W108 (Or.inr (slot_ne (a0 := a0) (t := .int) (t' := (.object "java/lang/String")) (Or.inr (hw _ (List.mem_of_getElem? (i := 91) rfl))) (Or.inr (hw _ (List.mem_of_getElem? (i := 85) rfl))) (by decide) (by decide +kernel) (by decide +kernel)))).other W114 (Or.inr (slot_ne (a0 := a0) (t := .int) (t' := (.object "java/lang/String")) (Or.inr (hw _ (List.mem_of_getElem? (i := 91) rfl))) (Or.inr (hw _ (List.mem_of_getElem? (i := 87) rfl))) (by decide) (by decide +kernel) (by decide +kernel)))).other W120 (Or.inr (slot_ne (a0 := a0) (t := .int) (t' := (.object "java/lang/String")) (Or.inr (hw _ (List.mem_of_getElem? (i := 91) rfl))) (Or.inr (hw _ (List.mem_of_getElem? (i := 89) rfl))) (by decide) (by decide +kernel) (by decide +kernel))))
  have f124 := (f118.wr W120)
  refine GoKit.putF (pc := 22) (a0 := a0) (ty := .int) K (hw _ (List.mem_of_getElem? (i := 90) rfl)) Via.refl f123 f124 (Or.inr ⟨(hw _ (List.mem_of_getElem? (i := 91) rfl)), rfl, rfl⟩) (hw _ (List.mem_of_getElem? (i := 20) rfl)) (by decide +kernel) rfl rfl (Or.inr (by simp)) d20_22 ?_
  intro h125 W126 F127
  have sz128 : h119.size ≤ h125.size := Nat.le_of_eq W126.size.symm
  have f129 := (((F109.other W114 (Or.inr (slot_ne (a0 := a0) (t := (.object "java/lang/String")) (t' := (.object "java/lang/String")) (Or.inr (hw _ (List.mem_of_getElem? (i := 85) rfl))) (Or.inr (hw _ (List.mem_of_getElem? (i := 87) rfl))) (by decide) (by decide +kernel) (by decide +kernel)))).other W120 (Or.inr (slot_ne (a0 := a0) (t := (.object "java/lang/String")) (t' := (.object "java/lang/String")) (Or.inr (hw _ (List.mem_of_getElem? (i := 85) rfl))) (Or.inr (hw _ (List.mem_of_getElem? (i := 89) rfl))) (by decide) (by decide +kernel) (by decide +kernel)))).other W126 (Or.inr (slot_ne (a0 := a0) (t := (.object "java/lang/String")) (t' := .int) (Or.inr (hw _ (List.mem_of_getElem? (i := 85) rfl))) (Or.inr (hw _ (List.mem_of_getElem? (i := 91) rfl))) (by decide) (by decide +kernel) (by decide +kernel))))
  have f130 := ((F115.other W120 (Or.inr (slot_ne (a0 := a0) (t := (.object "java/lang/String")) (t' := (.object "java/lang/String")) (Or.inr (hw _ (List.mem_of_getElem? (i := 87) rfl))) (Or.inr (hw _ (List.mem_of_getElem? (i := 89) rfl))) (by decide) (by decide +kernel) (by decide +kernel)))).other W126 (Or.inr (slot_ne (a0 := a0) (t := (.object "java/lang/String")) (t' := .int) (Or.inr (hw _ (List.mem_of_getElem? (i := 87) rfl))) (Or.inr (hw _ (List.mem_of_getElem? (i := 91) rfl))) (by decide) (by decide +kernel) (by decide +kernel))))
  have f131 := (F121.other W126 (Or.inr (slot_ne (a0 := a0) (t := (.object "java/lang/String")) (t' := .int) (Or.inr (hw _ (List.mem_of_getElem? (i := 89) rfl))) (Or.inr (hw _ (List.mem_of_getElem? (i := 91) rfl))) (by decide) (by decide +kernel) (by decide +kernel))))
  exact GoKit.retV (pc := 25) K d20_25 (by simp) (by decide) (by decide) (fun _ _ => ⟨rfl, f129, f130, f131⟩)
set_option maxRecDepth 65536 in
set_option maxHeartbeats 40000000 in
theorem c_spN (l : Launch) (Z : State) (a0 : Array Value) (hw : ∀ d ∈ tables_1, d.before a0 Z = true) (a1 a2 a3 a5 a6 t2 t3 t5 t6 : Nat) (c2 c3 c5 c6 : List Int32) (h0 : Heap) (n0 : Nat) (O0 : Old Z n0 h0) (z0 : Int32) (S0 : Sta Z Z.heap "java/lang/String" "COMPACT_STRINGS" "Z" (.int z0)) (hz0 : ¬ z0 = 0) (hH : ∀ o i, (o, i) ∈ consts_1 → Jvm.Lit.constHeld Z o i) (hcw : Jvm.Lit.compactW.before a0 Z = true) (hSA : ∀ a ∈ Bundle.stringAtoms, a.before a0 Z = true) (E1 : Exa Z h0 a1 "com/example/inquiry_to_answer/inquirytoanswer/http/MediaRange") (F1 : Fld Z h0 a1 "com/example/inquiry_to_answer/inquirytoanswer/http/MediaRange" "type" "Ljava/lang/String;" (.ref a2)) (F2 : Fld Z h0 a1 "com/example/inquiry_to_answer/inquirytoanswer/http/MediaRange" "subtype" "Ljava/lang/String;" (.ref a3)) (F3 : Fld Z h0 a1 "com/example/inquiry_to_answer/inquirytoanswer/http/MediaRange" "charset" "Ljava/lang/String;" .null) (T2 : Str Z h0 a2 t2 c2) (T3 : Str Z h0 a3 t3 c3) (T5 : Str Z h0 a5 t5 c5) (T6 : Str Z h0 a6 t6 c6) :
    Con l (⟨"com/example/inquiry_to_answer/inquirytoanswer/http/MediaRange", "specificityFor", "(Ljava/lang/String;Ljava/lang/String;)I"⟩ : MethodName) prog_123_method_6_code 4 (some .int) [] ({ frames := 2, cells := 4, slots := 32, locals := 42 } : Room) Z #[(.ref a1), (.ref a5), (.ref a6)] h0 [] (fun vm => IB Z vm []) (fun v _ _ => v = some (.int (specF (True) c2 c3 c5 c6))) true := by
  refine Con.intro pn_4 ?_
  intro p e s m below meth c K hV hsh
  have ef : entryFrame m #[(.ref a1), (.ref a5), (.ref a6)] 4 = (mkF m 0 #[.val (.ref a1), .val (.ref a5), .val (.ref a6), .unset] []) := (by first | (simp [entryFrame, mkF, argsToLocals, cat_ref, cat_int, cat_long, cat_null]; done) | rfl)
  rw [ef]
  have hn0 : n0 ≤ h0.size := by rw [← O0.1]; exact O0.2.1
  refine GoKit.aloadN (pc := 0) K d22_0 rfl rfl ?_
  refine GoKit.getF (pc := 1) (host := "") (a0 := a0) K (Or.inl (hw _ (List.mem_of_getElem? (i := 88) rfl))) Via.refl F3 d22_1 ?_
  refine GoKit.ifnull_y (pc := 4) (pc' := 21) K d22_4 (by decide) ?_
  refine GoKit.iconst (pc := 21) (x := (-1 : Int32)) K d22_21 rfl ?_
  refine GoKit.istoreN (pc := 22) (l' := #[.val (.ref a1), .val (.ref a5), .val (.ref a6), .val (.int (-1 : Int32))]) K d22_22 rfl ?_
  refine GoKit.aloadN (pc := 23) K d22_23 rfl rfl ?_
  refine GoKit.getF (pc := 24) (host := "") (a0 := a0) K (Or.inl (hw _ (List.mem_of_getElem? (i := 84) rfl))) Via.refl F1 d22_24 ?_
  refine GoKit.aloadN (pc := 27) K d22_27 rfl rfl ?_
  refine GoKit.callV (pc := 28) (a0 := a0) (argsL := [(.ref a5)]) (rest := []) K (hw _ (List.mem_of_getElem? (i := 97) rfl)) (hw _ (List.mem_of_getElem? (i := 98) rfl)) (Or.inr (hw _ (List.mem_of_getElem? (i := 100) rfl))) (hw _ (List.mem_of_getElem? (i := 100) rfl)) (hw _ (List.mem_of_getElem? (i := 99) rfl)) (by decide) T2.exa (fun hZ => Str.bkEq hZ (kI := 4) (fun d hd => hw d ((by decide +kernel : ∀ d ∈ StrChars.Road.wordsEq, d ∈ tables_1) d hd)) (hw _ (List.mem_of_getElem? (i := 35) rfl)) T2 T5 (S0.ext O0.2) hz0 (by decide) (Nat.le_of_ble_eq_true rfl)) rfl rfl (lenOf pd_8 rfl) rfl d22_28 (by decide) (by decide) (fun _ _ _ q => by obtain ⟨-, rfl, rfl⟩ := q; exact ⟨fun _ z => (nomatch z), Nat.le_refl _⟩) ?_
  intro v101 h102 L104 q103
  obtain ⟨rfl, -, e105⟩ := q103
  replace e105 := e105.symm; subst e105
  show Go _ _ _ _ _ _ _ _ _ _ _ _ _ _ _ _ _ _ _ _ _ (mkF m 31 #[.val (.ref a1), .val (.ref a5), .val (.ref a6), .val (.int (-1 : Int32))] [(.int (if c2 = c5 then 1 else 0))])
  by_cases hE106 : c2 = c5
  · -- c2 = c5
    rw [if_pos hE106]
    refine GoKit.if_eq_n (pc := 31) K d22_31  (by decide) ?_
    refine GoKit.aloadN (pc := 34) K d22_34 rfl rfl ?_
    refine GoKit.getF (pc := 35) (host := "") (a0 := a0) K (Or.inl (hw _ (List.mem_of_getElem? (i := 86) rfl))) Via.refl F2 d22_35 ?_
    refine GoKit.aloadN (pc := 38) K d22_38 rfl rfl ?_
    refine GoKit.callV (pc := 39) (a0 := a0) (argsL := [(.ref a6)]) (rest := []) K (hw _ (List.mem_of_getElem? (i := 97) rfl)) (hw _ (List.mem_of_getElem? (i := 98) rfl)) (Or.inr (hw _ (List.mem_of_getElem? (i := 100) rfl))) (hw _ (List.mem_of_getElem? (i := 100) rfl)) (hw _ (List.mem_of_getElem? (i := 99) rfl)) (by decide) T3.exa (fun hZ => Str.bkEq hZ (kI := 4) (fun d hd => hw d ((by decide +kernel : ∀ d ∈ StrChars.Road.wordsEq, d ∈ tables_1) d hd)) (hw _ (List.mem_of_getElem? (i := 35) rfl)) T3 T6 (S0.ext O0.2) hz0 (by decide) (Nat.le_of_ble_eq_true rfl)) rfl rfl (lenOf pd_8 rfl) rfl d22_39 (by decide) (by decide) (fun _ _ _ q => by obtain ⟨-, rfl, rfl⟩ := q; exact ⟨fun _ z => (nomatch z), Nat.le_refl _⟩) ?_
    intro v107 h108 L110 q109
    obtain ⟨rfl, -, e111⟩ := q109
    replace e111 := e111.symm; subst e111
    show Go _ _ _ _ _ _ _ _ _ _ _ _ _ _ _ _ _ _ _ _ _ (mkF m 42 #[.val (.ref a1), .val (.ref a5), .val (.ref a6), .val (.int (-1 : Int32))] [(.int (if c3 = c6 then 1 else 0))])
    by_cases hE112 : c3 = c6
    · -- c3 = c6
      rw [if_pos hE112]
      refine GoKit.if_eq_n (pc := 42) K d22_42  (by decide) ?_
      refine GoKit.iconst (pc := 45) (x := (2 : Int32)) K d22_45 rfl ?_
      refine GoKit.istoreN (pc := 46) (l' := #[.val (.ref a1), .val (.ref a5), .val (.ref a6), .val (.int (2 : Int32))]) K d22_46 rfl ?_
      refine GoKit.goto (pc := 47) (pc' := 104) K d22_47 (by decide) ?_
      refine GoKit.iloadN (pc := 104) K d22_104 rfl ?_
      exact GoKit.retI (pc := 105) K d22_105 (by simp) (by decide) (by decide) (fun _ _ => by rw [specF_2 (ok := True) trivial hE106 hE112])
    · -- not c3 = c6
      rw [if_neg hE112]
      refine GoKit.if_eq_y (pc := 42) (pc' := 50) K d22_42 (by decide)  (by decide) ?_
      refine GoKit.aloadN (pc := 50) K d22_50 rfl rfl ?_
      refine GoKit.getF (pc := 51) (host := "") (a0 := a0) K (Or.inl (hw _ (List.mem_of_getElem? (i := 84) rfl))) Via.refl F1 d22_51 ?_
      refine GoKit.aloadN (pc := 54) K d22_54 rfl rfl ?_
      refine GoKit.callV (pc := 55) (a0 := a0) (argsL := [(.ref a5)]) (rest := []) K (hw _ (List.mem_of_getElem? (i := 97) rfl)) (hw _ (List.mem_of_getElem? (i := 98) rfl)) (Or.inr (hw _ (List.mem_of_getElem? (i := 100) rfl))) (hw _ (List.mem_of_getElem? (i := 100) rfl)) (hw _ (List.mem_of_getElem? (i := 99) rfl)) (by decide) T2.exa (fun hZ => Str.bkEq hZ (kI := 4) (fun d hd => hw d ((by decide +kernel : ∀ d ∈ StrChars.Road.wordsEq, d ∈ tables_1) d hd)) (hw _ (List.mem_of_getElem? (i := 35) rfl)) T2 T5 (S0.ext O0.2) hz0 (by decide) (Nat.le_of_ble_eq_true rfl)) rfl rfl (lenOf pd_8 rfl) rfl d22_55 (by decide) (by decide) (fun _ _ _ q => by obtain ⟨-, rfl, rfl⟩ := q; exact ⟨fun _ z => (nomatch z), Nat.le_refl _⟩) ?_
      intro v113 h114 L116 q115
      obtain ⟨rfl, -, e117⟩ := q115
      replace e117 := e117.symm; subst e117
      show Go _ _ _ _ _ _ _ _ _ _ _ _ _ _ _ _ _ _ _ _ _ (mkF m 58 #[.val (.ref a1), .val (.ref a5), .val (.ref a6), .val (.int (-1 : Int32))] [(.int (if c2 = c5 then 1 else 0))])
      rw [if_pos hE106]
      refine GoKit.if_eq_n (pc := 58) K d22_58  (by decide) ?_
      refine GoKit.aloadN (pc := 61) K d22_61 rfl rfl ?_
      refine GoKit.getF (pc := 62) (host := "") (a0 := a0) K (Or.inl (hw _ (List.mem_of_getElem? (i := 86) rfl))) Via.refl F2 d22_62 ?_
      refine GoKit.ldcT (pc := 65) (a0 := a0) (n := 4) (z := (1 : Int32)) (vs := ([42] : List Int32).map (fun c => Value.int (StrChars.lo8 c))) K rfl hsh rfl O0 rfl (hw _ (List.mem_of_getElem? (i := 105) rfl)) hSA hV (by decide) (hH _ _ (by simp [consts_1])) hcw ⟨by decide, by decide⟩ (by decide) (by decide) d22_65 (by decide) (by decide) (by decide) (by decide) ?_
      intro h118 vm119 a120 t121 kb122 E123 e124 e125 e126 e127 I128 L129
      have sz132 : h0.size ≤ h118.size := E123.1
      have T130 : Str Z h118 a120 t121 [42] := Str.latin e124 e126 e125 e127 rfl rfl (by decide) (by decide)
      have lx131_1 := T130.lt.1; have lx131_2 := T130.lt.2
      have f133 := (T3.ext E123)
      have f134 := (O0.ext E123)
      refine GoKit.callV (pc := 67) (a0 := a0) (argsL := [(.ref a120)]) (rest := []) K (hw _ (List.mem_of_getElem? (i := 97) rfl)) (hw _ (List.mem_of_getElem? (i := 98) rfl)) (Or.inr (hw _ (List.mem_of_getElem? (i := 100) rfl))) (hw _ (List.mem_of_getElem? (i := 100) rfl)) (hw _ (List.mem_of_getElem? (i := 99) rfl)) (by decide) f133.exa (fun hZ => Str.bkEq hZ (kI := 4) (fun d hd => hw d ((by decide +kernel : ∀ d ∈ StrChars.Road.wordsEq, d ∈ tables_1) d hd)) (hw _ (List.mem_of_getElem? (i := 35) rfl)) f133 T130 (S0.ext f134.2) hz0 (by decide) (Nat.le_of_ble_eq_true rfl)) rfl rfl (lenOf pd_8 rfl) rfl d22_67 (by decide) (by decide) (fun _ _ _ q => by obtain ⟨-, rfl, rfl⟩ := q; exact ⟨fun _ z => (nomatch z), Nat.le_refl _⟩) ?_
      intro v135 h136 L138 q137
      obtain ⟨rfl, -, e139⟩ := q137
      replace e139 := e139.symm; subst e139
      show Go _ _ _ _ _ _ _ _ _ _ _ _ _ _ _ _ _ _ _ _ _ (mkF m 70 #[.val (.ref a1), .val (.ref a5), .val (.ref a6), .val (.int (-1 : Int32))] [(.int (if c3 = ([42] : List Int32) then 1 else 0))])
      by_cases hE140 : c3 = ([42] : List Int32)
      · -- c3 = ([42] : List Int32)
        rw [if_pos hE140]
        refine GoKit.if_eq_n (pc := 70) K d22_70  (by decide) ?_
        refine GoKit.iconst (pc := 73) (x := (1 : Int32)) K d22_73 rfl ?_
        refine GoKit.istoreN (pc := 74) (l' := #[.val (.ref a1), .val (.ref a5), .val (.ref a6), .val (.int (1 : Int32))]) K d22_74 rfl ?_
        refine GoKit.goto (pc := 75) (pc' := 104) K d22_75 (by decide) ?_
        refine GoKit.iloadN (pc := 104) K d22_104 rfl ?_
        exact GoKit.retI (pc := 105) K d22_105 (by simp) (by decide) (by decide) (fun _ _ => by rw [specF_1 (ok := True) trivial (fun q => hE112 q.2) hE106 hE140])
      · -- not c3 = ([42] : List Int32)
        rw [if_neg hE140]
        refine GoKit.if_eq_y (pc := 70) (pc' := 78) K d22_70 (by decide)  (by decide) ?_
        refine GoKit.aloadN (pc := 78) K d22_78 rfl rfl ?_
        have f141 := (F1.ext E123)
        refine GoKit.getF (pc := 79) (host := "") (a0 := a0) K (Or.inl (hw _ (List.mem_of_getElem? (i := 84) rfl))) Via.refl f141 d22_79 ?_
        refine GoKit.ldcA (pc := 82) (a0 := a0) K (hw _ (List.mem_of_getElem? (i := 105) rfl)) L129 d22_82 ?_
        have f142 := (T2.ext E123)
        refine GoKit.callV (pc := 84) (a0 := a0) (argsL := [(.ref a120)]) (rest := []) K (hw _ (List.mem_of_getElem? (i := 97) rfl)) (hw _ (List.mem_of_getElem? (i := 98) rfl)) (Or.inr (hw _ (List.mem_of_getElem? (i := 100) rfl))) (hw _ (List.mem_of_getElem? (i := 100) rfl)) (hw _ (List.mem_of_getElem? (i := 99) rfl)) (by decide) f142.exa (fun hZ => Str.bkEq hZ (kI := 4) (fun d hd => hw d ((by decide +kernel : ∀ d ∈ StrChars.Road.wordsEq, d ∈ tables_1) d hd)) (hw _ (List.mem_of_getElem? (i := 35) rfl)) f142 T130 (S0.ext f134.2) hz0 (by decide) (Nat.le_of_ble_eq_true rfl)) rfl rfl (lenOf pd_8 rfl) rfl d22_84 (by decide) (by decide) (fun _ _ _ q => by obtain ⟨-, rfl, rfl⟩ := q; exact ⟨fun _ z => (nomatch z), Nat.le_refl _⟩) ?_
        intro v143 h144 L146 q145
        obtain ⟨rfl, -, e147⟩ := q145
        replace e147 := e147.symm; subst e147
        show Go _ _ _ _ _ _ _ _ _ _ _ _ _ _ _ _ _ _ _ _ _ (mkF m 87 #[.val (.ref a1), .val (.ref a5), .val (.ref a6), .val (.int (-1 : Int32))] [(.int (if c2 = ([42] : List Int32) then 1 else 0))])
        by_cases hE148 : c2 = ([42] : List Int32)
        · -- c2 = ([42] : List Int32)
          rw [if_pos hE148]
          refine GoKit.if_eq_n (pc := 87) K d22_87  (by decide) ?_
          refine GoKit.aloadN (pc := 90) K d22_90 rfl rfl ?_
          have f149 := (F2.ext E123)
          refine GoKit.getF (pc := 91) (host := "") (a0 := a0) K (Or.inl (hw _ (List.mem_of_getElem? (i := 86) rfl))) Via.refl f149 d22_91 ?_
          refine GoKit.ldcA (pc := 94) (a0 := a0) K (hw _ (List.mem_of_getElem? (i := 105) rfl)) L129 d22_94 ?_
          refine GoKit.callV (pc := 96) (a0 := a0) (argsL := [(.ref a120)]) (rest := []) K (hw _ (List.mem_of_getElem? (i := 97) rfl)) (hw _ (List.mem_of_getElem? (i := 98) rfl)) (Or.inr (hw _ (List.mem_of_getElem? (i := 100) rfl))) (hw _ (List.mem_of_getElem? (i := 100) rfl)) (hw _ (List.mem_of_getElem? (i := 99) rfl)) (by decide) f133.exa (fun hZ => Str.bkEq hZ (kI := 4) (fun d hd => hw d ((by decide +kernel : ∀ d ∈ StrChars.Road.wordsEq, d ∈ tables_1) d hd)) (hw _ (List.mem_of_getElem? (i := 35) rfl)) f133 T130 (S0.ext f134.2) hz0 (by decide) (Nat.le_of_ble_eq_true rfl)) rfl rfl (lenOf pd_8 rfl) rfl d22_96 (by decide) (by decide) (fun _ _ _ q => by obtain ⟨-, rfl, rfl⟩ := q; exact ⟨fun _ z => (nomatch z), Nat.le_refl _⟩) ?_
          intro v150 h151 L153 q152
          obtain ⟨rfl, -, e154⟩ := q152
          replace e154 := e154.symm; subst e154
          show Go _ _ _ _ _ _ _ _ _ _ _ _ _ _ _ _ _ _ _ _ _ (mkF m 99 #[.val (.ref a1), .val (.ref a5), .val (.ref a6), .val (.int (-1 : Int32))] [(.int (if c3 = ([42] : List Int32) then 1 else 0))])
          rw [if_neg hE140]
          refine GoKit.if_eq_y (pc := 99) (pc' := 104) K d22_99 (by decide)  (by decide) ?_
          refine GoKit.iloadN (pc := 104) K d22_104 rfl ?_
          exact GoKit.retI (pc := 105) K d22_105 (by simp) (by decide) (by decide) (fun _ _ => by rw [specF_m (ok := True) trivial (fun q => hE112 q.2) (fun q => hE140 q.2) (fun q => hE140 q.2)])
        · -- not c2 = ([42] : List Int32)
          rw [if_neg hE148]
          refine GoKit.if_eq_y (pc := 87) (pc' := 104) K d22_87 (by decide)  (by decide) ?_
          refine GoKit.iloadN (pc := 104) K d22_104 rfl ?_
          exact GoKit.retI (pc := 105) K d22_105 (by simp) (by decide) (by decide) (fun _ _ => by rw [specF_m (ok := True) trivial (fun q => hE112 q.2) (fun q => hE140 q.2) (fun q => hE148 q.1)])
  · -- not c2 = c5
    rw [if_neg hE106]
    refine GoKit.if_eq_y (pc := 31) (pc' := 50) K d22_31 (by decide)  (by decide) ?_
    refine GoKit.aloadN (pc := 50) K d22_50 rfl rfl ?_
    refine GoKit.getF (pc := 51) (host := "") (a0 := a0) K (Or.inl (hw _ (List.mem_of_getElem? (i := 84) rfl))) Via.refl F1 d22_51 ?_
    refine GoKit.aloadN (pc := 54) K d22_54 rfl rfl ?_
    refine GoKit.callV (pc := 55) (a0 := a0) (argsL := [(.ref a5)]) (rest := []) K (hw _ (List.mem_of_getElem? (i := 97) rfl)) (hw _ (List.mem_of_getElem? (i := 98) rfl)) (Or.inr (hw _ (List.mem_of_getElem? (i := 100) rfl))) (hw _ (List.mem_of_getElem? (i := 100) rfl)) (hw _ (List.mem_of_getElem? (i := 99) rfl)) (by decide) T2.exa (fun hZ => Str.bkEq hZ (kI := 4) (fun d hd => hw d ((by decide +kernel : ∀ d ∈ StrChars.Road.wordsEq, d ∈ tables_1) d hd)) (hw _ (List.mem_of_getElem? (i := 35) rfl)) T2 T5 (S0.ext O0.2) hz0 (by decide) (Nat.le_of_ble_eq_true rfl)) rfl rfl (lenOf pd_8 rfl) rfl d22_55 (by decide) (by decide) (fun _ _ _ q => by obtain ⟨-, rfl, rfl⟩ := q; exact ⟨fun _ z => (nomatch z), Nat.le_refl _⟩) ?_
    intro v155 h156 L158 q157
    obtain ⟨rfl, -, e159⟩ := q157
    replace e159 := e159.symm; subst e159
    show Go _ _ _ _ _ _ _ _ _ _ _ _ _ _ _ _ _ _ _ _ _ (mkF m 58 #[.val (.ref a1), .val (.ref a5), .val (.ref a6), .val (.int (-1 : Int32))] [(.int (if c2 = c5 then 1 else 0))])
    rw [if_neg hE106]
    refine GoKit.if_eq_y (pc := 58) (pc' := 78) K d22_58 (by decide)  (by decide) ?_
    refine GoKit.aloadN (pc := 78) K d22_78 rfl rfl ?_
    refine GoKit.getF (pc := 79) (host := "") (a0 := a0) K (Or.inl (hw _ (List.mem_of_getElem? (i := 84) rfl))) Via.refl F1 d22_79 ?_
    refine GoKit.ldcT (pc := 82) (a0 := a0) (n := 4) (z := (1 : Int32)) (vs := ([42] : List Int32).map (fun c => Value.int (StrChars.lo8 c))) K rfl hsh rfl O0 rfl (hw _ (List.mem_of_getElem? (i := 105) rfl)) hSA hV (by decide) (hH _ _ (by simp [consts_1])) hcw ⟨by decide, by decide⟩ (by decide) (by decide) d22_82 (by decide) (by decide) (by decide) (by decide) ?_
    intro h160 vm161 a162 t163 kb164 E165 e166 e167 e168 e169 I170 L171
    have sz174 : h0.size ≤ h160.size := E165.1
    have T172 : Str Z h160 a162 t163 [42] := Str.latin e166 e168 e167 e169 rfl rfl (by decide) (by decide)
    have lx173_1 := T172.lt.1; have lx173_2 := T172.lt.2
    have f175 := (T2.ext E165)
    have f176 := (O0.ext E165)
    refine GoKit.callV (pc := 84) (a0 := a0) (argsL := [(.ref a162)]) (rest := []) K (hw _ (List.mem_of_getElem? (i := 97) rfl)) (hw _ (List.mem_of_getElem? (i := 98) rfl)) (Or.inr (hw _ (List.mem_of_getElem? (i := 100) rfl))) (hw _ (List.mem_of_getElem? (i := 100) rfl)) (hw _ (List.mem_of_getElem? (i := 99) rfl)) (by decide) f175.exa (fun hZ => Str.bkEq hZ (kI := 4) (fun d hd => hw d ((by decide +kernel : ∀ d ∈ StrChars.Road.wordsEq, d ∈ tables_1) d hd)) (hw _ (List.mem_of_getElem? (i := 35) rfl)) f175 T172 (S0.ext f176.2) hz0 (by decide) (Nat.le_of_ble_eq_true rfl)) rfl rfl (lenOf pd_8 rfl) rfl d22_84 (by decide) (by decide) (fun _ _ _ q => by obtain ⟨-, rfl, rfl⟩ := q; exact ⟨fun _ z => (nomatch z), Nat.le_refl _⟩) ?_
    intro v177 h178 L180 q179
    obtain ⟨rfl, -, e181⟩ := q179
    replace e181 := e181.symm; subst e181
    show Go _ _ _ _ _ _ _ _ _ _ _ _ _ _ _ _ _ _ _ _ _ (mkF m 87 #[.val (.ref a1), .val (.ref a5), .val (.ref a6), .val (.int (-1 : Int32))] [(.int (if c2 = ([42] : List Int32) then 1 else 0))])
    by_cases hE182 : c2 = ([42] : List Int32)
    · -- c2 = ([42] : List Int32)
      rw [if_pos hE182]
      refine GoKit.if_eq_n (pc := 87) K d22_87  (by decide) ?_
      refine GoKit.aloadN (pc := 90) K d22_90 rfl rfl ?_
      have f183 := (F2.ext E165)
      refine GoKit.getF (pc := 91) (host := "") (a0 := a0) K (Or.inl (hw _ (List.mem_of_getElem? (i := 86) rfl))) Via.refl f183 d22_91 ?_
      refine GoKit.ldcA (pc := 94) (a0 := a0) K (hw _ (List.mem_of_getElem? (i := 105) rfl)) L171 d22_94 ?_
      have f184 := (T3.ext E165)
      refine GoKit.callV (pc := 96) (a0 := a0) (argsL := [(.ref a162)]) (rest := []) K (hw _ (List.mem_of_getElem? (i := 97) rfl)) (hw _ (List.mem_of_getElem? (i := 98) rfl)) (Or.inr (hw _ (List.mem_of_getElem? (i := 100) rfl))) (hw _ (List.mem_of_getElem? (i := 100) rfl)) (hw _ (List.mem_of_getElem? (i := 99) rfl)) (by decide) f184.exa (fun hZ => Str.bkEq hZ (kI := 4) (fun d hd => hw d ((by decide +kernel : ∀ d ∈ StrChars.Road.wordsEq, d ∈ tables_1) d hd)) (hw _ (List.mem_of_getElem? (i := 35) rfl)) f184 T172 (S0.ext f176.2) hz0 (by decide) (Nat.le_of_ble_eq_true rfl)) rfl rfl (lenOf pd_8 rfl) rfl d22_96 (by decide) (by decide) (fun _ _ _ q => by obtain ⟨-, rfl, rfl⟩ := q; exact ⟨fun _ z => (nomatch z), Nat.le_refl _⟩) ?_
      intro v185 h186 L188 q187
      obtain ⟨rfl, -, e189⟩ := q187
      replace e189 := e189.symm; subst e189
      show Go _ _ _ _ _ _ _ _ _ _ _ _ _ _ _ _ _ _ _ _ _ (mkF m 99 #[.val (.ref a1), .val (.ref a5), .val (.ref a6), .val (.int (-1 : Int32))] [(.int (if c3 = ([42] : List Int32) then 1 else 0))])
      by_cases hE190 : c3 = ([42] : List Int32)
      · -- c3 = ([42] : List Int32)
        rw [if_pos hE190]
        refine GoKit.if_eq_n (pc := 99) K d22_99  (by decide) ?_
        refine GoKit.iconst (pc := 102) (x := (0 : Int32)) K d22_102 rfl ?_
        refine GoKit.istoreN (pc := 103) (l' := #[.val (.ref a1), .val (.ref a5), .val (.ref a6), .val (.int (0 : Int32))]) K d22_103 rfl ?_
        refine GoKit.iloadN (pc := 104) K d22_104 rfl ?_
        exact GoKit.retI (pc := 105) K d22_105 (by simp) (by decide) (by decide) (fun _ _ => by rw [specF_0 (ok := True) trivial (fun q => hE106 q.1) (fun q => hE106 q.1) hE182 hE190])
      · -- not c3 = ([42] : List Int32)
        rw [if_neg hE190]
        refine GoKit.if_eq_y (pc := 99) (pc' := 104) K d22_99 (by decide)  (by decide) ?_
        refine GoKit.iloadN (pc := 104) K d22_104 rfl ?_
        exact GoKit.retI (pc := 105) K d22_105 (by simp) (by decide) (by decide) (fun _ _ => by rw [specF_m (ok := True) trivial (fun q => hE106 q.1) (fun q => hE106 q.1) (fun q => hE190 q.2)])
    · -- not c2 = ([42] : List Int32)
      rw [if_neg hE182]
      refine GoKit.if_eq_y (pc := 87) (pc' := 104) K d22_87 (by decide)  (by decide) ?_
      refine GoKit.iloadN (pc := 104) K d22_104 rfl ?_
      exact GoKit.retI (pc := 105) K d22_105 (by simp) (by decide) (by decide) (fun _ _ => by rw [specF_m (ok := True) trivial (fun q => hE106 q.1) (fun q => hE106 q.1) (fun q => hE182 q.1)])
set_option maxRecDepth 65536 in
set_option maxHeartbeats 40000000 in
theorem c_spS (l : Launch) (Z : State) (a0 : Array Value) (hw : ∀ d ∈ tables_1, d.before a0 Z = true) (a1 a2 a3 a5 a6 t2 t3 t5 t6 : Nat) (c2 c3 c5 c6 : List Int32) (a4 t4 : Nat) (c4 : List Int32) (h0 : Heap) (n0 : Nat) (O0 : Old Z n0 h0) (z0 : Int32) (S0 : Sta Z Z.heap "java/lang/String" "COMPACT_STRINGS" "Z" (.int z0)) (hz0 : ¬ z0 = 0) (hH : ∀ o i, (o, i) ∈ consts_1 → Jvm.Lit.constHeld Z o i) (hcw : Jvm.Lit.compactW.before a0 Z = true) (hSA : ∀ a ∈ Bundle.stringAtoms, a.before a0 Z = true) (E1 : Exa Z h0 a1 "com/example/inquiry_to_answer/inquirytoanswer/http/MediaRange") (F1 : Fld Z h0 a1 "com/example/inquiry_to_answer/inquirytoanswer/http/MediaRange" "type" "Ljava/lang/String;" (.ref a2)) (F2 : Fld Z h0 a1 "com/example/inquiry_to_answer/inquirytoanswer/http/MediaRange" "subtype" "Ljava/lang/String;" (.ref a3)) (F3 : Fld Z h0 a1 "com/example/inquiry_to_answer/inquirytoanswer/http/MediaRange" "charset" "Ljava/lang/String;" (.ref a4)) (T2 : Str Z h0 a2 t2 c2) (T3 : Str Z h0 a3 t3 c3) (T5 : Str Z h0 a5 t5 c5) (T6 : Str Z h0 a6 t6 c6) (T4 : Str Z h0 a4 t4 c4) :
    Con l (⟨"com/example/inquiry_to_answer/inquirytoanswer/http/MediaRange", "specificityFor", "(Ljava/lang/String;Ljava/lang/String;)I"⟩ : MethodName) prog_123_method_6_code 4 (some .int) [] ({ frames := 2, cells := 4, slots := 32, locals := 42 } : Room) Z #[(.ref a1), (.ref a5), (.ref a6)] h0 [] (fun vm => IB Z vm []) (fun v _ _ => v = some (.int (specF (c4 = u8) c2 c3 c5 c6))) true := by
  refine Con.intro pn_4 ?_
  intro p e s m below meth c K hV hsh
  have ef : entryFrame m #[(.ref a1), (.ref a5), (.ref a6)] 4 = (mkF m 0 #[.val (.ref a1), .val (.ref a5), .val (.ref a6), .unset] []) := (by first | (simp [entryFrame, mkF, argsToLocals, cat_ref, cat_int, cat_long, cat_null]; done) | rfl)
  rw [ef]
  have hn0 : n0 ≤ h0.size := by rw [← O0.1]; exact O0.2.1
  refine GoKit.aloadN (pc := 0) K d22_0 rfl rfl ?_
  refine GoKit.getF (pc := 1) (host := "") (a0 := a0) K (Or.inl (hw _ (List.mem_of_getElem? (i := 88) rfl))) Via.refl F3 d22_1 ?_
  refine GoKit.ifnull_n (pc := 4) K d22_4 ?_
  refine GoKit.aloadN (pc := 7) K d22_7 rfl rfl ?_
  refine GoKit.getF (pc := 8) (host := "") (a0 := a0) K (Or.inl (hw _ (List.mem_of_getElem? (i := 88) rfl))) Via.refl F3 d22_8 ?_
  refine GoKit.ldcT (pc := 11) (a0 := a0) (n := 20) (z := (5 : Int32)) (vs := ([117, 116, 102, 45, 56] : List Int32).map (fun c => Value.int (StrChars.lo8 c))) K rfl hsh rfl O0 rfl (hw _ (List.mem_of_getElem? (i := 108) rfl)) hSA hV (by decide) (hH _ _ (by simp [consts_1])) hcw ⟨by decide, by decide⟩ (by decide) (by decide) d22_11 (by decide) (by decide) (by decide) (by decide) ?_
  intro h101 vm102 a103 t104 kb105 E106 e107 e108 e109 e110 I111 L112
  have sz115 : h0.size ≤ h101.size := E106.1
  have T113 : Str Z h101 a103 t104 [117, 116, 102, 45, 56] := Str.latin e107 e109 e108 e110 rfl rfl (by decide) (by decide)
  have lx114_1 := T113.lt.1; have lx114_2 := T113.lt.2
  have f116 := (T4.ext E106)
  have f117 := (O0.ext E106)
  refine GoKit.callV (pc := 13) (a0 := a0) (argsL := [(.ref a103)]) (rest := []) K (hw _ (List.mem_of_getElem? (i := 97) rfl)) (hw _ (List.mem_of_getElem? (i := 98) rfl)) (Or.inr (hw _ (List.mem_of_getElem? (i := 100) rfl))) (hw _ (List.mem_of_getElem? (i := 100) rfl)) (hw _ (List.mem_of_getElem? (i := 99) rfl)) (by decide) f116.exa (fun hZ => Str.bkEq hZ (kI := 4) (fun d hd => hw d ((by decide +kernel : ∀ d ∈ StrChars.Road.wordsEq, d ∈ tables_1) d hd)) (hw _ (List.mem_of_getElem? (i := 35) rfl)) f116 T113 (S0.ext f117.2) hz0 (by decide) (Nat.le_of_ble_eq_true rfl)) rfl rfl (lenOf pd_8 rfl) rfl d22_13 (by decide) (by decide) (fun _ _ _ q => by obtain ⟨-, rfl, rfl⟩ := q; exact ⟨fun _ z => (nomatch z), Nat.le_refl _⟩) ?_
  intro v118 h119 L121 q120
  obtain ⟨rfl, -, e122⟩ := q120
  replace e122 := e122.symm; subst e122
  show Go _ _ _ _ _ _ _ _ _ _ _ _ _ _ _ _ _ _ _ _ _ (mkF m 16 #[.val (.ref a1), .val (.ref a5), .val (.ref a6), .unset] [(.int (if c4 = ([117, 116, 102, 45, 56] : List Int32) then 1 else 0))])
  by_cases hE123 : c4 = ([117, 116, 102, 45, 56] : List Int32)
  · -- c4 = ([117, 116, 102, 45, 56] : List Int32)
    rw [if_pos hE123]
    refine GoKit.if_ne_y (pc := 16) (pc' := 21) K d22_16 (by decide)  (by decide) ?_
    refine GoKit.iconst (pc := 21) (x := (-1 : Int32)) K d22_21 rfl ?_
    refine GoKit.istoreN (pc := 22) (l' := #[.val (.ref a1), .val (.ref a5), .val (.ref a6), .val (.int (-1 : Int32))]) K d22_22 rfl ?_
    refine GoKit.aloadN (pc := 23) K d22_23 rfl rfl ?_
    have f124 := (F1.ext E106)
    refine GoKit.getF (pc := 24) (host := "") (a0 := a0) K (Or.inl (hw _ (List.mem_of_getElem? (i := 84) rfl))) Via.refl f124 d22_24 ?_
    refine GoKit.aloadN (pc := 27) K d22_27 rfl rfl ?_
    have f125 := (T2.ext E106)
    have f126 := (T5.ext E106)
    refine GoKit.callV (pc := 28) (a0 := a0) (argsL := [(.ref a5)]) (rest := []) K (hw _ (List.mem_of_getElem? (i := 97) rfl)) (hw _ (List.mem_of_getElem? (i := 98) rfl)) (Or.inr (hw _ (List.mem_of_getElem? (i := 100) rfl))) (hw _ (List.mem_of_getElem? (i := 100) rfl)) (hw _ (List.mem_of_getElem? (i := 99) rfl)) (by decide) f125.exa (fun hZ => Str.bkEq hZ (kI := 4) (fun d hd => hw d ((by decide +kernel : ∀ d ∈ StrChars.Road.wordsEq, d ∈ tables_1) d hd)) (hw _ (List.mem_of_getElem? (i := 35) rfl)) f125 f126 (S0.ext f117.2) hz0 (by decide) (Nat.le_of_ble_eq_true rfl)) rfl rfl (lenOf pd_8 rfl) rfl d22_28 (by decide) (by decide) (fun _ _ _ q => by obtain ⟨-, rfl, rfl⟩ := q; exact ⟨fun _ z => (nomatch z), Nat.le_refl _⟩) ?_
    intro v127 h128 L130 q129
    obtain ⟨rfl, -, e131⟩ := q129
    replace e131 := e131.symm; subst e131
    show Go _ _ _ _ _ _ _ _ _ _ _ _ _ _ _ _ _ _ _ _ _ (mkF m 31 #[.val (.ref a1), .val (.ref a5), .val (.ref a6), .val (.int (-1 : Int32))] [(.int (if c2 = c5 then 1 else 0))])
    by_cases hE132 : c2 = c5
    · -- c2 = c5
      rw [if_pos hE132]
      refine GoKit.if_eq_n (pc := 31) K d22_31  (by decide) ?_
      refine GoKit.aloadN (pc := 34) K d22_34 rfl rfl ?_
      have f133 := (F2.ext E106)
      refine GoKit.getF (pc := 35) (host := "") (a0 := a0) K (Or.inl (hw _ (List.mem_of_getElem? (i := 86) rfl))) Via.refl f133 d22_35 ?_
      refine GoKit.aloadN (pc := 38) K d22_38 rfl rfl ?_
      have f134 := (T3.ext E106)
      have f135 := (T6.ext E106)
      refine GoKit.callV (pc := 39) (a0 := a0) (argsL := [(.ref a6)]) (rest := []) K (hw _ (List.mem_of_getElem? (i := 97) rfl)) (hw _ (List.mem_of_getElem? (i := 98) rfl)) (Or.inr (hw _ (List.mem_of_getElem? (i := 100) rfl))) (hw _ (List.mem_of_getElem? (i := 100) rfl)) (hw _ (List.mem_of_getElem? (i := 99) rfl)) (by decide) f134.exa (fun hZ => Str.bkEq hZ (kI := 4) (fun d hd => hw d ((by decide +kernel : ∀ d ∈ StrChars.Road.wordsEq, d ∈ tables_1) d hd)) (hw _ (List.mem_of_getElem? (i := 35) rfl)) f134 f135 (S0.ext f117.2) hz0 (by decide) (Nat.le_of_ble_eq_true rfl)) rfl rfl (lenOf pd_8 rfl) rfl d22_39 (by decide) (by decide) (fun _ _ _ q => by obtain ⟨-, rfl, rfl⟩ := q; exact ⟨fun _ z => (nomatch z), Nat.le_refl _⟩) ?_
      intro v136 h137 L139 q138
      obtain ⟨rfl, -, e140⟩ := q138
      replace e140 := e140.symm; subst e140
      show Go _ _ _ _ _ _ _ _ _ _ _ _ _ _ _ _ _ _ _ _ _ (mkF m 42 #[.val (.ref a1), .val (.ref a5), .val (.ref a6), .val (.int (-1 : Int32))] [(.int (if c3 = c6 then 1 else 0))])
      by_cases hE141 : c3 = c6
      · -- c3 = c6
        rw [if_pos hE141]
        refine GoKit.if_eq_n (pc := 42) K d22_42  (by decide) ?_
        refine GoKit.iconst (pc := 45) (x := (2 : Int32)) K d22_45 rfl ?_
        refine GoKit.istoreN (pc := 46) (l' := #[.val (.ref a1), .val (.ref a5), .val (.ref a6), .val (.int (2 : Int32))]) K d22_46 rfl ?_
        refine GoKit.goto (pc := 47) (pc' := 104) K d22_47 (by decide) ?_
        refine GoKit.iloadN (pc := 104) K d22_104 rfl ?_
        exact GoKit.retI (pc := 105) K d22_105 (by simp) (by decide) (by decide) (fun _ _ => by rw [specF_2 (ok := c4 = u8) hE123 hE132 hE141])
      · -- not c3 = c6
        rw [if_neg hE141]
        refine GoKit.if_eq_y (pc := 42) (pc' := 50) K d22_42 (by decide)  (by decide) ?_
        refine GoKit.aloadN (pc := 50) K d22_50 rfl rfl ?_
        refine GoKit.getF (pc := 51) (host := "") (a0 := a0) K (Or.inl (hw _ (List.mem_of_getElem? (i := 84) rfl))) Via.refl f124 d22_51 ?_
        refine GoKit.aloadN (pc := 54) K d22_54 rfl rfl ?_
        refine GoKit.callV (pc := 55) (a0 := a0) (argsL := [(.ref a5)]) (rest := []) K (hw _ (List.mem_of_getElem? (i := 97) rfl)) (hw _ (List.mem_of_getElem? (i := 98) rfl)) (Or.inr (hw _ (List.mem_of_getElem? (i := 100) rfl))) (hw _ (List.mem_of_getElem? (i := 100) rfl)) (hw _ (List.mem_of_getElem? (i := 99) rfl)) (by decide) f125.exa (fun hZ => Str.bkEq hZ (kI := 4) (fun d hd => hw d ((by decide +kernel : ∀ d ∈ StrChars.Road.wordsEq, d ∈ tables_1) d hd)) (hw _ (List.mem_of_getElem? (i := 35) rfl)) f125 f126 (S0.ext f117.2) hz0 (by decide) (Nat.le_of_ble_eq_true rfl)) rfl rfl (lenOf pd_8 rfl) rfl d22_55 (by decide) (by decide) (fun _ _ _ q => by obtain ⟨-, rfl, rfl⟩ := q; exact ⟨fun _ z => (nomatch z), Nat.le_refl _⟩) ?_
        intro v142 h143 L145 q144
        obtain ⟨rfl, -, e146⟩ := q144
        replace e146 := e146.symm; subst e146
        show Go _ _ _ _ _ _ _ _ _ _ _ _ _ _ _ _ _ _ _ _ _ (mkF m 58 #[.val (.ref a1), .val (.ref a5), .val (.ref a6), .val (.int (-1 : Int32))] [(.int (if c2 = c5 then 1 else 0))])
        rw [if_pos hE132]
        refine GoKit.if_eq_n (pc := 58) K d22_58  (by decide) ?_
        refine GoKit.aloadN (pc := 61) K d22_61 rfl rfl ?_
        refine GoKit.getF (pc := 62) (host := "") (a0 := a0) K (Or.inl (hw _ (List.mem_of_getElem? (i := 86) rfl))) Via.refl f133 d22_62 ?_
        refine GoKit.ldcT (pc := 65) (a0 := a0) (n := 4) (z := (1 : Int32)) (vs := ([42] : List Int32).map (fun c => Value.int (StrChars.lo8 c))) K rfl hsh rfl O0 rfl (hw _ (List.mem_of_getElem? (i := 105) rfl)) hSA I111 (by decide) (hH _ _ (by simp [consts_1])) hcw ⟨by decide, by decide⟩ (by decide) (by decide) d22_65 (by decide) (by decide) (by decide) (by decide) ?_
        intro h147 vm148 a149 t150 kb151 E152 e153 e154 e155 e156 I157 L158
        have sz161 : h101.size ≤ h147.size := E152.1
        have T159 : Str Z h147 a149 t150 [42] := Str.latin e153 e155 e154 e156 rfl rfl (by decide) (by decide)
        have lx160_1 := T159.lt.1; have lx160_2 := T159.lt.2
        have f162 := (f134.ext E152)
        have f163 := (f117.ext E152)
        refine GoKit.callV (pc := 67) (a0 := a0) (argsL := [(.ref a149)]) (rest := []) K (hw _ (List.mem_of_getElem? (i := 97) rfl)) (hw _ (List.mem_of_getElem? (i := 98) rfl)) (Or.inr (hw _ (List.mem_of_getElem? (i := 100) rfl))) (hw _ (List.mem_of_getElem? (i := 100) rfl)) (hw _ (List.mem_of_getElem? (i := 99) rfl)) (by decide) f162.exa (fun hZ => Str.bkEq hZ (kI := 4) (fun d hd => hw d ((by decide +kernel : ∀ d ∈ StrChars.Road.wordsEq, d ∈ tables_1) d hd)) (hw _ (List.mem_of_getElem? (i := 35) rfl)) f162 T159 (S0.ext f163.2) hz0 (by decide) (Nat.le_of_ble_eq_true rfl)) rfl rfl (lenOf pd_8 rfl) rfl d22_67 (by decide) (by decide) (fun _ _ _ q => by obtain ⟨-, rfl, rfl⟩ := q; exact ⟨fun _ z => (nomatch z), Nat.le_refl _⟩) ?_
        intro v164 h165 L167 q166
        obtain ⟨rfl, -, e168⟩ := q166
        replace e168 := e168.symm; subst e168
        show Go _ _ _ _ _ _ _ _ _ _ _ _ _ _ _ _ _ _ _ _ _ (mkF m 70 #[.val (.ref a1), .val (.ref a5), .val (.ref a6), .val (.int (-1 : Int32))] [(.int (if c3 = ([42] : List Int32) then 1 else 0))])
        by_cases hE169 : c3 = ([42] : List Int32)
        · -- c3 = ([42] : List Int32)
          rw [if_pos hE169]
          refine GoKit.if_eq_n (pc := 70) K d22_70  (by decide) ?_
          refine GoKit.iconst (pc := 73) (x := (1 : Int32)) K d22_73 rfl ?_
          refine GoKit.istoreN (pc := 74) (l' := #[.val (.ref a1), .val (.ref a5), .val (.ref a6), .val (.int (1 : Int32))]) K d22_74 rfl ?_
          refine GoKit.goto (pc := 75) (pc' := 104) K d22_75 (by decide) ?_
          refine GoKit.iloadN (pc := 104) K d22_104 rfl ?_
          exact GoKit.retI (pc := 105) K d22_105 (by simp) (by decide) (by decide) (fun _ _ => by rw [specF_1 (ok := c4 = u8) hE123 (fun q => hE141 q.2) hE132 hE169])
        · -- not c3 = ([42] : List Int32)
          rw [if_neg hE169]
          refine GoKit.if_eq_y (pc := 70) (pc' := 78) K d22_70 (by decide)  (by decide) ?_
          refine GoKit.aloadN (pc := 78) K d22_78 rfl rfl ?_
          have f170 := (f124.ext E152)
          refine GoKit.getF (pc := 79) (host := "") (a0 := a0) K (Or.inl (hw _ (List.mem_of_getElem? (i := 84) rfl))) Via.refl f170 d22_79 ?_
          refine GoKit.ldcA (pc := 82) (a0 := a0) K (hw _ (List.mem_of_getElem? (i := 105) rfl)) L158 d22_82 ?_
          have f171 := (f125.ext E152)
          refine GoKit.callV (pc := 84) (a0 := a0) (argsL := [(.ref a149)]) (rest := []) K (hw _ (List.mem_of_getElem? (i := 97) rfl)) (hw _ (List.mem_of_getElem? (i := 98) rfl)) (Or.inr (hw _ (List.mem_of_getElem? (i := 100) rfl))) (hw _ (List.mem_of_getElem? (i := 100) rfl)) (hw _ (List.mem_of_getElem? (i := 99) rfl)) (by decide) f171.exa (fun hZ => Str.bkEq hZ (kI := 4) (fun d hd => hw d ((by decide +kernel : ∀ d ∈ StrChars.Road.wordsEq, d ∈ tables_1) d hd)) (hw _ (List.mem_of_getElem? (i := 35) rfl)) f171 T159 (S0.ext f163.2) hz0 (by decide) (Nat.le_of_ble_eq_true rfl)) rfl rfl (lenOf pd_8 rfl) rfl d22_84 (by decide) (by decide) (fun _ _ _ q => by obtain ⟨-, rfl, rfl⟩ := q; exact ⟨fun _ z => (nomatch z), Nat.le_refl _⟩) ?_
          intro v172 h173 L175 q174
          obtain ⟨rfl, -, e176⟩ := q174
          replace e176 := e176.symm; subst e176
          show Go _ _ _ _ _ _ _ _ _ _ _ _ _ _ _ _ _ _ _ _ _ (mkF m 87 #[.val (.ref a1), .val (.ref a5), .val (.ref a6), .val (.int (-1 : Int32))] [(.int (if c2 = ([42] : List Int32) then 1 else 0))])
          by_cases hE177 : c2 = ([42] : List Int32)
          · -- c2 = ([42] : List Int32)
            rw [if_pos hE177]
            refine GoKit.if_eq_n (pc := 87) K d22_87  (by decide) ?_
            refine GoKit.aloadN (pc := 90) K d22_90 rfl rfl ?_
            have f178 := (f133.ext E152)
            refine GoKit.getF (pc := 91) (host := "") (a0 := a0) K (Or.inl (hw _ (List.mem_of_getElem? (i := 86) rfl))) Via.refl f178 d22_91 ?_
            refine GoKit.ldcA (pc := 94) (a0 := a0) K (hw _ (List.mem_of_getElem? (i := 105) rfl)) L158 d22_94 ?_
            refine GoKit.callV (pc := 96) (a0 := a0) (argsL := [(.ref a149)]) (rest := []) K (hw _ (List.mem_of_getElem? (i := 97) rfl)) (hw _ (List.mem_of_getElem? (i := 98) rfl)) (Or.inr (hw _ (List.mem_of_getElem? (i := 100) rfl))) (hw _ (List.mem_of_getElem? (i := 100) rfl)) (hw _ (List.mem_of_getElem? (i := 99) rfl)) (by decide) f162.exa (fun hZ => Str.bkEq hZ (kI := 4) (fun d hd => hw d ((by decide +kernel : ∀ d ∈ StrChars.Road.wordsEq, d ∈ tables_1) d hd)) (hw _ (List.mem_of_getElem? (i := 35) rfl)) f162 T159 (S0.ext f163.2) hz0 (by decide) (Nat.le_of_ble_eq_true rfl)) rfl rfl (lenOf pd_8 rfl) rfl d22_96 (by decide) (by decide) (fun _ _ _ q => by obtain ⟨-, rfl, rfl⟩ := q; exact ⟨fun _ z => (nomatch z), Nat.le_refl _⟩) ?_
            intro v179 h180 L182 q181
            obtain ⟨rfl, -, e183⟩ := q181
            replace e183 := e183.symm; subst e183
            show Go _ _ _ _ _ _ _ _ _ _ _ _ _ _ _ _ _ _ _ _ _ (mkF m 99 #[.val (.ref a1), .val (.ref a5), .val (.ref a6), .val (.int (-1 : Int32))] [(.int (if c3 = ([42] : List Int32) then 1 else 0))])
            rw [if_neg hE169]
            refine GoKit.if_eq_y (pc := 99) (pc' := 104) K d22_99 (by decide)  (by decide) ?_
            refine GoKit.iloadN (pc := 104) K d22_104 rfl ?_
            exact GoKit.retI (pc := 105) K d22_105 (by simp) (by decide) (by decide) (fun _ _ => by rw [specF_m (ok := c4 = u8) hE123 (fun q => hE141 q.2) (fun q => hE169 q.2) (fun q => hE169 q.2)])
          · -- not c2 = ([42] : List Int32)
            rw [if_neg hE177]
            refine GoKit.if_eq_y (pc := 87) (pc' := 104) K d22_87 (by decide)  (by decide) ?_
            refine GoKit.iloadN (pc := 104) K d22_104 rfl ?_
            exact GoKit.retI (pc := 105) K d22_105 (by simp) (by decide) (by decide) (fun _ _ => by rw [specF_m (ok := c4 = u8) hE123 (fun q => hE141 q.2) (fun q => hE169 q.2) (fun q => hE177 q.1)])
    · -- not c2 = c5
      rw [if_neg hE132]
      refine GoKit.if_eq_y (pc := 31) (pc' := 50) K d22_31 (by decide)  (by decide) ?_
      refine GoKit.aloadN (pc := 50) K d22_50 rfl rfl ?_
      refine GoKit.getF (pc := 51) (host := "") (a0 := a0) K (Or.inl (hw _ (List.mem_of_getElem? (i := 84) rfl))) Via.refl f124 d22_51 ?_
      refine GoKit.aloadN (pc := 54) K d22_54 rfl rfl ?_
      refine GoKit.callV (pc := 55) (a0 := a0) (argsL := [(.ref a5)]) (rest := []) K (hw _ (List.mem_of_getElem? (i := 97) rfl)) (hw _ (List.mem_of_getElem? (i := 98) rfl)) (Or.inr (hw _ (List.mem_of_getElem? (i := 100) rfl))) (hw _ (List.mem_of_getElem? (i := 100) rfl)) (hw _ (List.mem_of_getElem? (i := 99) rfl)) (by decide) f125.exa (fun hZ => Str.bkEq hZ (kI := 4) (fun d hd => hw d ((by decide +kernel : ∀ d ∈ StrChars.Road.wordsEq, d ∈ tables_1) d hd)) (hw _ (List.mem_of_getElem? (i := 35) rfl)) f125 f126 (S0.ext f117.2) hz0 (by decide) (Nat.le_of_ble_eq_true rfl)) rfl rfl (lenOf pd_8 rfl) rfl d22_55 (by decide) (by decide) (fun _ _ _ q => by obtain ⟨-, rfl, rfl⟩ := q; exact ⟨fun _ z => (nomatch z), Nat.le_refl _⟩) ?_
      intro v184 h185 L187 q186
      obtain ⟨rfl, -, e188⟩ := q186
      replace e188 := e188.symm; subst e188
      show Go _ _ _ _ _ _ _ _ _ _ _ _ _ _ _ _ _ _ _ _ _ (mkF m 58 #[.val (.ref a1), .val (.ref a5), .val (.ref a6), .val (.int (-1 : Int32))] [(.int (if c2 = c5 then 1 else 0))])
      rw [if_neg hE132]
      refine GoKit.if_eq_y (pc := 58) (pc' := 78) K d22_58 (by decide)  (by decide) ?_
      refine GoKit.aloadN (pc := 78) K d22_78 rfl rfl ?_
      refine GoKit.getF (pc := 79) (host := "") (a0 := a0) K (Or.inl (hw _ (List.mem_of_getElem? (i := 84) rfl))) Via.refl f124 d22_79 ?_
      refine GoKit.ldcT (pc := 82) (a0 := a0) (n := 4) (z := (1 : Int32)) (vs := ([42] : List Int32).map (fun c => Value.int (StrChars.lo8 c))) K rfl hsh rfl O0 rfl (hw _ (List.mem_of_getElem? (i := 105) rfl)) hSA I111 (by decide) (hH _ _ (by simp [consts_1])) hcw ⟨by decide, by decide⟩ (by decide) (by decide) d22_82 (by decide) (by decide) (by decide) (by decide) ?_
      intro h189 vm190 a191 t192 kb193 E194 e195 e196 e197 e198 I199 L200
      have sz203 : h101.size ≤ h189.size := E194.1
      have T201 : Str Z h189 a191 t192 [42] := Str.latin e195 e197 e196 e198 rfl rfl (by decide) (by decide)
      have lx202_1 := T201.lt.1; have lx202_2 := T201.lt.2
      have f204 := (f125.ext E194)
      have f205 := (f117.ext E194)
      refine GoKit.callV (pc := 84) (a0 := a0) (argsL := [(.ref a191)]) (rest := []) K (hw _ (List.mem_of_getElem? (i := 97) rfl)) (hw _ (List.mem_of_getElem? (i := 98) rfl)) (Or.inr (hw _ (List.mem_of_getElem? (i := 100) rfl))) (hw _ (List.mem_of_getElem? (i := 100) rfl)) (hw _ (List.mem_of_getElem? (i := 99) rfl)) (by decide) f204.exa (fun hZ => Str.bkEq hZ (kI := 4) (fun d hd => hw d ((by decide +kernel : ∀ d ∈ StrChars.Road.wordsEq, d ∈ tables_1) d hd)) (hw _ (List.mem_of_getElem? (i := 35) rfl)) f204 T201 (S0.ext f205.2) hz0 (by decide) (Nat.le_of_ble_eq_true rfl)) rfl rfl (lenOf pd_8 rfl) rfl d22_84 (by decide) (by decide) (fun _ _ _ q => by obtain ⟨-, rfl, rfl⟩ := q; exact ⟨fun _ z => (nomatch z), Nat.le_refl _⟩) ?_
      intro v206 h207 L209 q208
      obtain ⟨rfl, -, e210⟩ := q208
      replace e210 := e210.symm; subst e210
      show Go _ _ _ _ _ _ _ _ _ _ _ _ _ _ _ _ _ _ _ _ _ (mkF m 87 #[.val (.ref a1), .val (.ref a5), .val (.ref a6), .val (.int (-1 : Int32))] [(.int (if c2 = ([42] : List Int32) then 1 else 0))])
      by_cases hE211 : c2 = ([42] : List Int32)
      · -- c2 = ([42] : List Int32)
        rw [if_pos hE211]
        refine GoKit.if_eq_n (pc := 87) K d22_87  (by decide) ?_
        refine GoKit.aloadN (pc := 90) K d22_90 rfl rfl ?_
        have f212 := ((F2.ext E106).ext E194)
        refine GoKit.getF (pc := 91) (host := "") (a0 := a0) K (Or.inl (hw _ (List.mem_of_getElem? (i := 86) rfl))) Via.refl f212 d22_91 ?_
        refine GoKit.ldcA (pc := 94) (a0 := a0) K (hw _ (List.mem_of_getElem? (i := 105) rfl)) L200 d22_94 ?_
        have f213 := ((T3.ext E106).ext E194)
        refine GoKit.callV (pc := 96) (a0 := a0) (argsL := [(.ref a191)]) (rest := []) K (hw _ (List.mem_of_getElem? (i := 97) rfl)) (hw _ (List.mem_of_getElem? (i := 98) rfl)) (Or.inr (hw _ (List.mem_of_getElem? (i := 100) rfl))) (hw _ (List.mem_of_getElem? (i := 100) rfl)) (hw _ (List.mem_of_getElem? (i := 99) rfl)) (by decide) f213.exa (fun hZ => Str.bkEq hZ (kI := 4) (fun d hd => hw d ((by decide +kernel : ∀ d ∈ StrChars.Road.wordsEq, d ∈ tables_1) d hd)) (hw _ (List.mem_of_getElem? (i := 35) rfl)) f213 T201 (S0.ext f205.2) hz0 (by decide) (Nat.le_of_ble_eq_true rfl)) rfl rfl (lenOf pd_8 rfl) rfl d22_96 (by decide) (by decide) (fun _ _ _ q => by obtain ⟨-, rfl, rfl⟩ := q; exact ⟨fun _ z => (nomatch z), Nat.le_refl _⟩) ?_
        intro v214 h215 L217 q216
        obtain ⟨rfl, -, e218⟩ := q216
        replace e218 := e218.symm; subst e218
        show Go _ _ _ _ _ _ _ _ _ _ _ _ _ _ _ _ _ _ _ _ _ (mkF m 99 #[.val (.ref a1), .val (.ref a5), .val (.ref a6), .val (.int (-1 : Int32))] [(.int (if c3 = ([42] : List Int32) then 1 else 0))])
        by_cases hE219 : c3 = ([42] : List Int32)
        · -- c3 = ([42] : List Int32)
          rw [if_pos hE219]
          refine GoKit.if_eq_n (pc := 99) K d22_99  (by decide) ?_
          refine GoKit.iconst (pc := 102) (x := (0 : Int32)) K d22_102 rfl ?_
          refine GoKit.istoreN (pc := 103) (l' := #[.val (.ref a1), .val (.ref a5), .val (.ref a6), .val (.int (0 : Int32))]) K d22_103 rfl ?_
          refine GoKit.iloadN (pc := 104) K d22_104 rfl ?_
          exact GoKit.retI (pc := 105) K d22_105 (by simp) (by decide) (by decide) (fun _ _ => by rw [specF_0 (ok := c4 = u8) hE123 (fun q => hE132 q.1) (fun q => hE132 q.1) hE211 hE219])
        · -- not c3 = ([42] : List Int32)
          rw [if_neg hE219]
          refine GoKit.if_eq_y (pc := 99) (pc' := 104) K d22_99 (by decide)  (by decide) ?_
          refine GoKit.iloadN (pc := 104) K d22_104 rfl ?_
          exact GoKit.retI (pc := 105) K d22_105 (by simp) (by decide) (by decide) (fun _ _ => by rw [specF_m (ok := c4 = u8) hE123 (fun q => hE132 q.1) (fun q => hE132 q.1) (fun q => hE219 q.2)])
      · -- not c2 = ([42] : List Int32)
        rw [if_neg hE211]
        refine GoKit.if_eq_y (pc := 87) (pc' := 104) K d22_87 (by decide)  (by decide) ?_
        refine GoKit.iloadN (pc := 104) K d22_104 rfl ?_
        exact GoKit.retI (pc := 105) K d22_105 (by simp) (by decide) (by decide) (fun _ _ => by rw [specF_m (ok := c4 = u8) hE123 (fun q => hE132 q.1) (fun q => hE132 q.1) (fun q => hE211 q.1)])
  · -- not c4 = ([117, 116, 102, 45, 56] : List Int32)
    rw [if_neg hE123]
    refine GoKit.if_ne_n (pc := 16) K d22_16  (by decide) ?_
    refine GoKit.iconst (pc := 19) (x := (-1 : Int32)) K d22_19 rfl ?_
    exact GoKit.retI (pc := 20) K d22_20 (by simp) (by decide) (by decide) (fun _ _ => by rw [specF_n (ok := c4 = u8) hE123])
set_option maxRecDepth 65536 in
set_option maxHeartbeats 40000000 in
theorem c_law (l : Launch) (Z : State) (a0 : Array Value) (hw : ∀ d ∈ tables_1, d.before a0 Z = true) (p1 p2 p3 p4 p5 p6 : Int32) (h0 : Heap) (n0 : Nat) (O0 : Old Z n0 h0) (z0 : Int32) (S0 : Sta Z Z.heap "java/lang/String" "COMPACT_STRINGS" "Z" (.int z0)) (hz0 : ¬ z0 = 0) (hH : ∀ o i, (o, i) ∈ consts_1 → Jvm.Lit.constHeld Z o i) (hcw : Jvm.Lit.compactW.before a0 Z = true) (hSA : ∀ a ∈ Bundle.stringAtoms, a.before a0 Z = true) :
    Con l x code maxLocals ret tables_1 room_1 Z #[(.int p1), (.int p2), (.int p3), (.int p4), (.int p5), (.int p6)] h0 [] (fun vm => IB Z vm []) (fun v _ _ => v = some (.int 1)) true := by
  refine Con.intro pn_0 ?_
  intro p e s m below meth c K hV hsh
  have K : Kit p m meth c code 8 (some .boolean) "law" := K
  have ef : entryFrame m #[(.int p1), (.int p2), (.int p3), (.int p4), (.int p5), (.int p6)] maxLocals = (mkF m 0 #[.val (.int p1), .val (.int p2), .val (.int p3), .val (.int p4), .val (.int p5), .val (.int p6), .unset, .unset] []) := (by first | (simp [entryFrame, mkF, argsToLocals, cat_ref, cat_int, cat_long, cat_null, maxLocals]; done) | rfl)
  rw [ef]
  have hn0 : n0 ≤ h0.size := by rw [← O0.1]; exact O0.2.1
  have J : ∀ ex : Int32, ex = specF (csOk p5) (tx p1) (tx p2) (tx p3) (tx p4) → Go p l e room_1 s m #[(.int p1), (.int p2), (.int p3), (.int p4), (.int p5), (.int p6)] below meth c Z h0.size [] [] "com/example/inquiry_to_answer/inquirytoanswer/http/MediaRangeSpecificityForPinLaw" (fun v _ _ => v = some (.int 1)) true s.vm h0 0 0 (mkF m 80 #[.val (.int p1), .val (.int p2), .val (.int p3), .val (.int p4), .val (.int p5), .val (.int p6), .val (.int ex), .unset] []) := by
    intro ex hex
    refine GoKit.newO (pc := 80) (a0 := a0) K (hw _ (List.mem_of_getElem? (i := 19) rfl)) (hw _ (List.mem_of_getElem? (i := 20) rfl)) (hw _ (List.mem_of_getElem? (i := 21) rfl)) at_80 (by decide) (by decide) ?_
    intro h101 b102 eq103 E104 A105 D106
    have sz107 : h0.size ≤ h101.size := E104.1
    have lt108 : b102 < h101.size := A105.lt
    have F109 : Fld Z h101 b102 "com/example/inquiry_to_answer/inquirytoanswer/http/MediaRange" "type" "Ljava/lang/String;" .null := D106 (Or.inr (hw _ (List.mem_of_getElem? (i := 85) rfl))) (ty := (.object "java/lang/String")) (by decide +kernel)
    have F110 : Fld Z h101 b102 "com/example/inquiry_to_answer/inquirytoanswer/http/MediaRange" "subtype" "Ljava/lang/String;" .null := D106 (Or.inr (hw _ (List.mem_of_getElem? (i := 87) rfl))) (ty := (.object "java/lang/String")) (by decide +kernel)
    have F111 : Fld Z h101 b102 "com/example/inquiry_to_answer/inquirytoanswer/http/MediaRange" "charset" "Ljava/lang/String;" .null := D106 (Or.inr (hw _ (List.mem_of_getElem? (i := 89) rfl))) (ty := (.object "java/lang/String")) (by decide +kernel)
    have F112 : Fld Z h101 b102 "com/example/inquiry_to_answer/inquirytoanswer/http/MediaRange" "quality" "I" (.int (0 : Int32)) := D106 (Or.inr (hw _ (List.mem_of_getElem? (i := 91) rfl))) (ty := .int) (by decide +kernel)
    refine GoKit.dup (pc := 83) K at_83 rfl ?_
    refine GoKit.iloadN (pc := 84) K at_84 rfl ?_
    have f113 := (O0.ext E104)
    refine GoKit.callS (pc := 85) (a0 := a0) (argsL := [(.int p1)]) (rest := [(.ref b102), (.ref b102)]) K (hw _ (List.mem_of_getElem? (i := 22) rfl)) (hw _ (List.mem_of_getElem? (i := 23) rfl)) (hw _ (List.mem_of_getElem? (i := 2) rfl)) (hw _ (List.mem_of_getElem? (i := 24) rfl)) (by decide) (fun hZ => Con.bk (a0 := a0) (c_str l Z a0 hw p1 h101 n0 f113 z0 S0 hz0) hZ (hw _ (List.mem_of_getElem? (i := 24) rfl)) (hw _ (List.mem_of_getElem? (i := 2) rfl)) (by decide) (Nat.le_of_ble_eq_true rfl)) rfl rfl (lenOf pd_9 rfl) rfl at_85 (by decide) (by decide) (fun _ _ _ q => ⟨Fw.sub q.2.1 (by omega) (fun x hx => nomatch hx), q.2.2.1⟩) ?_
    intro v114 h115 L117 q116
    obtain ⟨⟨vm118, a119, t120, rfl, lt121, lt122, T123⟩, -, K124⟩ := q116
    have sz126 : h101.size ≤ h115.size := K124.1
    have lx125_1 := T123.lt.1; have lx125_2 := T123.lt.2
    show Go _ _ _ _ _ _ _ _ _ _ _ _ _ _ _ _ _ _ _ _ _ (mkF m 88 #[.val (.int p1), .val (.int p2), .val (.int p3), .val (.int p4), .val (.int p5), .val (.int p6), .val (.int ex), .unset] [(.ref a119), (.ref b102), (.ref b102)])
    refine GoKit.iloadN (pc := 88) K at_88 rfl ?_
    have f127 := (f113.keep K124 all0)
    refine GoKit.callS (pc := 89) (a0 := a0) (argsL := [(.int p2)]) (rest := [(.ref a119), (.ref b102), (.ref b102)]) K (hw _ (List.mem_of_getElem? (i := 22) rfl)) (hw _ (List.mem_of_getElem? (i := 23) rfl)) (hw _ (List.mem_of_getElem? (i := 2) rfl)) (hw _ (List.mem_of_getElem? (i := 24) rfl)) (by decide) (fun hZ => Con.bk (a0 := a0) (c_str l Z a0 hw p2 h115 n0 f127 z0 S0 hz0) hZ (hw _ (List.mem_of_getElem? (i := 24) rfl)) (hw _ (List.mem_of_getElem? (i := 2) rfl)) (by decide) (Nat.le_of_ble_eq_true rfl)) rfl rfl (lenOf pd_9 rfl) rfl at_89 (by decide) (by decide) (fun _ _ _ q => ⟨Fw.sub q.2.1 (by omega) (fun x hx => nomatch hx), q.2.2.1⟩) ?_
    intro v128 h129 L131 q130
    obtain ⟨⟨vm132, a133, t134, rfl, lt135, lt136, T137⟩, -, K138⟩ := q130
    have sz140 : h115.size ≤ h129.size := K138.1
    have lx139_1 := T137.lt.1; have lx139_2 := T137.lt.2
    show Go _ _ _ _ _ _ _ _ _ _ _ _ _ _ _ _ _ _ _ _ _ (mkF m 92 #[.val (.int p1), .val (.int p2), .val (.int p3), .val (.int p4), .val (.int p5), .val (.int p6), .val (.int ex), .unset] [(.ref a133), (.ref a119), (.ref b102), (.ref b102)])
    refine GoKit.iload (pc := 92) K at_92 rfl ?_
    have f141 := (f127.keep K138 all0)
    refine GoKit.callS (pc := 94) (a0 := a0) (argsL := [(.int p5)]) (rest := [(.ref a133), (.ref a119), (.ref b102), (.ref b102)]) K (hw _ (List.mem_of_getElem? (i := 72) rfl)) (hw _ (List.mem_of_getElem? (i := 73) rfl)) (hw _ (List.mem_of_getElem? (i := 2) rfl)) (hw _ (List.mem_of_getElem? (i := 74) rfl)) (by decide) (fun hZ => Con.bk (a0 := a0) (c_cs l Z a0 hw p5 h129 n0 f141 z0 S0 hz0) hZ (hw _ (List.mem_of_getElem? (i := 74) rfl)) (hw _ (List.mem_of_getElem? (i := 2) rfl)) (by decide) (Nat.le_of_ble_eq_true rfl)) rfl rfl (lenOf pd_9 rfl) rfl at_94 (by decide) (by decide) (fun _ _ _ q => ⟨Fw.sub q.2.1 (by omega) (fun x hx => nomatch hx), q.2.2.1⟩) ?_
    intro v142 h143 L145 q144
    obtain ⟨⟨vm146, q147⟩, -, K148⟩ := q144
    have sz149 : h129.size ≤ h143.size := K148.1
    rcases q147 with ⟨hct153, rfl⟩ | ⟨a150, t151, ct152, hct153, rfl, lt154, lt155, T156⟩
    ·
      show Go _ _ _ _ _ _ _ _ _ _ _ _ _ _ _ _ _ _ _ _ _ (mkF m 97 #[.val (.int p1), .val (.int p2), .val (.int p3), .val (.int p4), .val (.int p5), .val (.int p6), .val (.int ex), .unset] [.null, (.ref a133), (.ref a119), (.ref b102), (.ref b102)])
      refine GoKit.iload (pc := 97) K at_97 rfl ?_
      have f158 := (((A105.keep K124).keep K138).keep K148)
      have f159 := (((F109.keep K124 nin0).keep K138 nin0).keep K148 nin0)
      have f160 := (((F110.keep K124 nin0).keep K138 nin0).keep K148 nin0)
      have f161 := (((F111.keep K124 nin0).keep K138 nin0).keep K148 nin0)
      have f162 := (((F112.keep K124 nin0).keep K138 nin0).keep K148 nin0)
      refine GoKit.callI (pc := 99) (a0 := a0) (argsL := [(.ref a119), (.ref a133), .null, (.int p6)]) (rest := [(.ref b102)]) K rfl (hw _ (List.mem_of_getElem? (i := 75) rfl)) (hw _ (List.mem_of_getElem? (i := 76) rfl)) (hw _ (List.mem_of_getElem? (i := 77) rfl)) (by decide) (fun hZ => Con.bk (a0 := a0) (c_mr l Z a0 hw b102 a119 a133 .null rfl p6 h143 f158 f159 f160 f161 f162) hZ (hw _ (List.mem_of_getElem? (i := 77) rfl)) (hw _ (List.mem_of_getElem? (i := 21) rfl)) (by decide) (Nat.le_of_ble_eq_true rfl)) rfl rfl (lenOf pd_10 rfl) rfl at_99 (by decide) (by decide) (fun _ _ _ q => ⟨Fw.sub q.2.1 (by omega) (allS (Or.inl (by omega)) all0), q.2.2.1⟩) ?_
      intro v163 h164 L166 q165
      obtain ⟨⟨vm167, rfl, F168, F169, F170⟩, -, K171⟩ := q165
      have sz172 : h143.size ≤ h164.size := K171.1
      show Go _ _ _ _ _ _ _ _ _ _ _ _ _ _ _ _ _ _ _ _ _ (mkF m 102 #[.val (.int p1), .val (.int p2), .val (.int p3), .val (.int p4), .val (.int p5), .val (.int p6), .val (.int ex), .unset] [(.ref b102)])
      refine GoKit.astore (pc := 102) (l' := #[.val (.int p1), .val (.int p2), .val (.int p3), .val (.int p4), .val (.int p5), .val (.int p6), .val (.int ex), .val (.ref b102)]) K at_102 rfl rfl ?_
      refine GoKit.aload (pc := 104) K at_104 rfl rfl ?_
      refine GoKit.iloadN (pc := 106) K at_106 rfl ?_
      have f173 := ((f141.keep K148 all0).keep K171 (allS (by omega) all0))
      refine GoKit.callS (pc := 107) (a0 := a0) (argsL := [(.int p3)]) (rest := [(.ref b102)]) K (hw _ (List.mem_of_getElem? (i := 22) rfl)) (hw _ (List.mem_of_getElem? (i := 23) rfl)) (hw _ (List.mem_of_getElem? (i := 2) rfl)) (hw _ (List.mem_of_getElem? (i := 24) rfl)) (by decide) (fun hZ => Con.bk (a0 := a0) (c_str l Z a0 hw p3 h164 n0 f173 z0 S0 hz0) hZ (hw _ (List.mem_of_getElem? (i := 24) rfl)) (hw _ (List.mem_of_getElem? (i := 2) rfl)) (by decide) (Nat.le_of_ble_eq_true rfl)) rfl rfl (lenOf pd_9 rfl) rfl at_107 (by decide) (by decide) (fun _ _ _ q => ⟨Fw.sub q.2.1 (by omega) (fun x hx => nomatch hx), q.2.2.1⟩) ?_
      intro v174 h175 L177 q176
      obtain ⟨⟨vm178, a179, t180, rfl, lt181, lt182, T183⟩, -, K184⟩ := q176
      have sz186 : h164.size ≤ h175.size := K184.1
      have lx185_1 := T183.lt.1; have lx185_2 := T183.lt.2
      show Go _ _ _ _ _ _ _ _ _ _ _ _ _ _ _ _ _ _ _ _ _ (mkF m 110 #[.val (.int p1), .val (.int p2), .val (.int p3), .val (.int p4), .val (.int p5), .val (.int p6), .val (.int ex), .val (.ref b102)] [(.ref a179), (.ref b102)])
      refine GoKit.iloadN (pc := 110) K at_110 rfl ?_
      have f187 := (f173.keep K184 all0)
      refine GoKit.callS (pc := 111) (a0 := a0) (argsL := [(.int p4)]) (rest := [(.ref a179), (.ref b102)]) K (hw _ (List.mem_of_getElem? (i := 22) rfl)) (hw _ (List.mem_of_getElem? (i := 23) rfl)) (hw _ (List.mem_of_getElem? (i := 2) rfl)) (hw _ (List.mem_of_getElem? (i := 24) rfl)) (by decide) (fun hZ => Con.bk (a0 := a0) (c_str l Z a0 hw p4 h175 n0 f187 z0 S0 hz0) hZ (hw _ (List.mem_of_getElem? (i := 24) rfl)) (hw _ (List.mem_of_getElem? (i := 2) rfl)) (by decide) (Nat.le_of_ble_eq_true rfl)) rfl rfl (lenOf pd_9 rfl) rfl at_111 (by decide) (by decide) (fun _ _ _ q => ⟨Fw.sub q.2.1 (by omega) (fun x hx => nomatch hx), q.2.2.1⟩) ?_
      intro v188 h189 L191 q190
      obtain ⟨⟨vm192, a193, t194, rfl, lt195, lt196, T197⟩, -, K198⟩ := q190
      have sz200 : h175.size ≤ h189.size := K198.1
      have lx199_1 := T197.lt.1; have lx199_2 := T197.lt.2
      show Go _ _ _ _ _ _ _ _ _ _ _ _ _ _ _ _ _ _ _ _ _ (mkF m 114 #[.val (.int p1), .val (.int p2), .val (.int p3), .val (.int p4), .val (.int p5), .val (.int p6), .val (.int ex), .val (.ref b102)] [(.ref a193), (.ref a179), (.ref b102)])
      have f201 := (((f158.keep K171).keep K184).keep K198)
      have f202 := ((F168.keep K184 nin0).keep K198 nin0)
      have f203 := ((F169.keep K184 nin0).keep K198 nin0)
      have f204 := ((F170.keep K184 nin0).keep K198 nin0)
      have f205 := (((((T123.keep K138 nin0 nin0).keep K148 nin0 nin0).keep K171 (ninS (ane (by omega)) nin0) (ninS (ane (by omega)) nin0)).keep K184 nin0 nin0).keep K198 nin0 nin0)
      have f206 := ((((T137.keep K148 nin0 nin0).keep K171 (ninS (ane (by omega)) nin0) (ninS (ane (by omega)) nin0)).keep K184 nin0 nin0).keep K198 nin0 nin0)
      have f207 := (T183.keep K198 nin0 nin0)
      have f208 := (f187.keep K198 all0)
      refine GoKit.callVS (pc := 114) (a0 := a0) (argsL := [(.ref a179), (.ref a193)]) (rest := []) K (hw _ (List.mem_of_getElem? (i := 92) rfl)) (hw _ (List.mem_of_getElem? (i := 93) rfl)) (Or.inr (hw _ (List.mem_of_getElem? (i := 95) rfl))) (hw _ (List.mem_of_getElem? (i := 95) rfl)) (hw _ (List.mem_of_getElem? (i := 94) rfl)) (by decide) f201 rfl (fun _ hW => ib_warm hV hW) (fun hZ => Con.bks (a0 := a0) (c_spN l Z a0 hw b102 a119 a133 a179 a193 t120 t134 t180 t194 (tx p1) (tx p2) (tx p3) (tx p4) h189 n0 f208 z0 S0 hz0 hH hcw hSA f201 f202 f203 f204 f205 f206 f207 T197) hZ (hw _ (List.mem_of_getElem? (i := 96) rfl)) (hw _ (List.mem_of_getElem? (i := 21) rfl)) (by decide) (Nat.le_of_ble_eq_true rfl)) rfl rfl (lenOf pd_11 rfl) rfl at_114 (by decide) (by decide) (fun _ _ _ _ q => Fw.sub q.2.1 (by omega) (fun x hx => nomatch hx)) ?_
      intro v209 h210 vm213 L212 q211 gr214 wm215
      obtain ⟨rfl, -, K216⟩ := q211
      have sz217 : h189.size ≤ h210.size := K216.1
      show Go _ _ _ _ _ _ _ _ _ _ _ _ _ _ _ _ _ _ _ _ _ (mkF m 117 #[.val (.int p1), .val (.int p2), .val (.int p3), .val (.int p4), .val (.int p5), .val (.int p6), .val (.int ex), .val (.ref b102)] [(.int (specF True (tx p1) (tx p2) (tx p3) (tx p4)))])
      have hsp : specF True (tx p1) (tx p2) (tx p3) (tx p4) = ex := by rw [hex]; simp only [specF]; congr 1; simp [csOk, hct153]
      refine GoKit.iload (pc := 117) K at_117 rfl ?_
      refine GoKit.icmp_ne_n (pc := 119) K at_119  hsp ?_
      refine GoKit.iconst (pc := 122) (x := (1 : Int32)) K at_122 rfl ?_
      refine GoKit.goto (pc := 123) (pc' := 127) K at_123 (by decide) ?_
      exact GoKit.retZ (pc := 127) K (by simp) (z' := (1 : Int32)) (by decide) at_127 (by simp) (by decide) (by decide) (fun _ _ => rfl)
    ·
      have lx157_1 := T156.lt.1; have lx157_2 := T156.lt.2
      show Go _ _ _ _ _ _ _ _ _ _ _ _ _ _ _ _ _ _ _ _ _ (mkF m 97 #[.val (.int p1), .val (.int p2), .val (.int p3), .val (.int p4), .val (.int p5), .val (.int p6), .val (.int ex), .unset] [(.ref a150), (.ref a133), (.ref a119), (.ref b102), (.ref b102)])
      refine GoKit.iload (pc := 97) K at_97 rfl ?_
      have f218 := (((A105.keep K124).keep K138).keep K148)
      have f219 := (((F109.keep K124 nin0).keep K138 nin0).keep K148 nin0)
      have f220 := (((F110.keep K124 nin0).keep K138 nin0).keep K148 nin0)
      have f221 := (((F111.keep K124 nin0).keep K138 nin0).keep K148 nin0)
      have f222 := (((F112.keep K124 nin0).keep K138 nin0).keep K148 nin0)
      refine GoKit.callI (pc := 99) (a0 := a0) (argsL := [(.ref a119), (.ref a133), (.ref a150), (.int p6)]) (rest := [(.ref b102)]) K rfl (hw _ (List.mem_of_getElem? (i := 75) rfl)) (hw _ (List.mem_of_getElem? (i := 76) rfl)) (hw _ (List.mem_of_getElem? (i := 77) rfl)) (by decide) (fun hZ => Con.bk (a0 := a0) (c_mr l Z a0 hw b102 a119 a133 (.ref a150) rfl p6 h143 f218 f219 f220 f221 f222) hZ (hw _ (List.mem_of_getElem? (i := 77) rfl)) (hw _ (List.mem_of_getElem? (i := 21) rfl)) (by decide) (Nat.le_of_ble_eq_true rfl)) rfl rfl (lenOf pd_10 rfl) rfl at_99 (by decide) (by decide) (fun _ _ _ q => ⟨Fw.sub q.2.1 (by omega) (allS (Or.inl (by omega)) all0), q.2.2.1⟩) ?_
      intro v223 h224 L226 q225
      obtain ⟨⟨vm227, rfl, F228, F229, F230⟩, -, K231⟩ := q225
      have sz232 : h143.size ≤ h224.size := K231.1
      show Go _ _ _ _ _ _ _ _ _ _ _ _ _ _ _ _ _ _ _ _ _ (mkF m 102 #[.val (.int p1), .val (.int p2), .val (.int p3), .val (.int p4), .val (.int p5), .val (.int p6), .val (.int ex), .unset] [(.ref b102)])
      refine GoKit.astore (pc := 102) (l' := #[.val (.int p1), .val (.int p2), .val (.int p3), .val (.int p4), .val (.int p5), .val (.int p6), .val (.int ex), .val (.ref b102)]) K at_102 rfl rfl ?_
      refine GoKit.aload (pc := 104) K at_104 rfl rfl ?_
      refine GoKit.iloadN (pc := 106) K at_106 rfl ?_
      have f233 := ((f141.keep K148 all0).keep K231 (allS (by omega) all0))
      refine GoKit.callS (pc := 107) (a0 := a0) (argsL := [(.int p3)]) (rest := [(.ref b102)]) K (hw _ (List.mem_of_getElem? (i := 22) rfl)) (hw _ (List.mem_of_getElem? (i := 23) rfl)) (hw _ (List.mem_of_getElem? (i := 2) rfl)) (hw _ (List.mem_of_getElem? (i := 24) rfl)) (by decide) (fun hZ => Con.bk (a0 := a0) (c_str l Z a0 hw p3 h224 n0 f233 z0 S0 hz0) hZ (hw _ (List.mem_of_getElem? (i := 24) rfl)) (hw _ (List.mem_of_getElem? (i := 2) rfl)) (by decide) (Nat.le_of_ble_eq_true rfl)) rfl rfl (lenOf pd_9 rfl) rfl at_107 (by decide) (by decide) (fun _ _ _ q => ⟨Fw.sub q.2.1 (by omega) (fun x hx => nomatch hx), q.2.2.1⟩) ?_
      intro v234 h235 L237 q236
      obtain ⟨⟨vm238, a239, t240, rfl, lt241, lt242, T243⟩, -, K244⟩ := q236
      have sz246 : h224.size ≤ h235.size := K244.1
      have lx245_1 := T243.lt.1; have lx245_2 := T243.lt.2
      show Go _ _ _ _ _ _ _ _ _ _ _ _ _ _ _ _ _ _ _ _ _ (mkF m 110 #[.val (.int p1), .val (.int p2), .val (.int p3), .val (.int p4), .val (.int p5), .val (.int p6), .val (.int ex), .val (.ref b102)] [(.ref a239), (.ref b102)])
      refine GoKit.iloadN (pc := 110) K at_110 rfl ?_
      have f247 := (f233.keep K244 all0)
      refine GoKit.callS (pc := 111) (a0 := a0) (argsL := [(.int p4)]) (rest := [(.ref a239), (.ref b102)]) K (hw _ (List.mem_of_getElem? (i := 22) rfl)) (hw _ (List.mem_of_getElem? (i := 23) rfl)) (hw _ (List.mem_of_getElem? (i := 2) rfl)) (hw _ (List.mem_of_getElem? (i := 24) rfl)) (by decide) (fun hZ => Con.bk (a0 := a0) (c_str l Z a0 hw p4 h235 n0 f247 z0 S0 hz0) hZ (hw _ (List.mem_of_getElem? (i := 24) rfl)) (hw _ (List.mem_of_getElem? (i := 2) rfl)) (by decide) (Nat.le_of_ble_eq_true rfl)) rfl rfl (lenOf pd_9 rfl) rfl at_111 (by decide) (by decide) (fun _ _ _ q => ⟨Fw.sub q.2.1 (by omega) (fun x hx => nomatch hx), q.2.2.1⟩) ?_
      intro v248 h249 L251 q250
      obtain ⟨⟨vm252, a253, t254, rfl, lt255, lt256, T257⟩, -, K258⟩ := q250
      have sz260 : h235.size ≤ h249.size := K258.1
      have lx259_1 := T257.lt.1; have lx259_2 := T257.lt.2
      show Go _ _ _ _ _ _ _ _ _ _ _ _ _ _ _ _ _ _ _ _ _ (mkF m 114 #[.val (.int p1), .val (.int p2), .val (.int p3), .val (.int p4), .val (.int p5), .val (.int p6), .val (.int ex), .val (.ref b102)] [(.ref a253), (.ref a239), (.ref b102)])
      have f261 := (((f218.keep K231).keep K244).keep K258)
      have f262 := ((F228.keep K244 nin0).keep K258 nin0)
      have f263 := ((F229.keep K244 nin0).keep K258 nin0)
      have f264 := ((F230.keep K244 nin0).keep K258 nin0)
      have f265 := (((((T123.keep K138 nin0 nin0).keep K148 nin0 nin0).keep K231 (ninS (ane (by omega)) nin0) (ninS (ane (by omega)) nin0)).keep K244 nin0 nin0).keep K258 nin0 nin0)
      have f266 := ((((T137.keep K148 nin0 nin0).keep K231 (ninS (ane (by omega)) nin0) (ninS (ane (by omega)) nin0)).keep K244 nin0 nin0).keep K258 nin0 nin0)
      have f267 := (T243.keep K258 nin0 nin0)
      have f268 := (f247.keep K258 all0)
      have f269 := (((T156.keep K231 (ninS (ane (by omega)) nin0) (ninS (ane (by omega)) nin0)).keep K244 nin0 nin0).keep K258 nin0 nin0)
      refine GoKit.callVS (pc := 114) (a0 := a0) (argsL := [(.ref a239), (.ref a253)]) (rest := []) K (hw _ (List.mem_of_getElem? (i := 92) rfl)) (hw _ (List.mem_of_getElem? (i := 93) rfl)) (Or.inr (hw _ (List.mem_of_getElem? (i := 95) rfl))) (hw _ (List.mem_of_getElem? (i := 95) rfl)) (hw _ (List.mem_of_getElem? (i := 94) rfl)) (by decide) f261 rfl (fun _ hW => ib_warm hV hW) (fun hZ => Con.bks (a0 := a0) (c_spS l Z a0 hw b102 a119 a133 a239 a253 t120 t134 t240 t254 (tx p1) (tx p2) (tx p3) (tx p4) a150 t151 ct152 h249 n0 f268 z0 S0 hz0 hH hcw hSA f261 f262 f263 f264 f265 f266 f267 T257 f269) hZ (hw _ (List.mem_of_getElem? (i := 96) rfl)) (hw _ (List.mem_of_getElem? (i := 21) rfl)) (by decide) (Nat.le_of_ble_eq_true rfl)) rfl rfl (lenOf pd_11 rfl) rfl at_114 (by decide) (by decide) (fun _ _ _ _ q => Fw.sub q.2.1 (by omega) (fun x hx => nomatch hx)) ?_
      intro v270 h271 vm274 L273 q272 gr275 wm276
      obtain ⟨rfl, -, K277⟩ := q272
      have sz278 : h249.size ≤ h271.size := K277.1
      show Go _ _ _ _ _ _ _ _ _ _ _ _ _ _ _ _ _ _ _ _ _ (mkF m 117 #[.val (.int p1), .val (.int p2), .val (.int p3), .val (.int p4), .val (.int p5), .val (.int p6), .val (.int ex), .val (.ref b102)] [(.int (specF (ct152 = u8) (tx p1) (tx p2) (tx p3) (tx p4)))])
      have hsp : specF (ct152 = u8) (tx p1) (tx p2) (tx p3) (tx p4) = ex := by rw [hex]; simp only [specF]; congr 1; simp [csOk, hct153]
      refine GoKit.iload (pc := 117) K at_117 rfl ?_
      refine GoKit.icmp_ne_n (pc := 119) K at_119  hsp ?_
      refine GoKit.iconst (pc := 122) (x := (1 : Int32)) K at_122 rfl ?_
      refine GoKit.goto (pc := 123) (pc' := 127) K at_123 (by decide) ?_
      exact GoKit.retZ (pc := 127) K (by simp) (z' := (1 : Int32)) (by decide) at_127 (by simp) (by decide) (by decide) (fun _ _ => rfl)
  refine GoKit.iload (pc := 0) K at_0 rfl ?_
  refine GoKit.callS (pc := 2) (a0 := a0) (argsL := [(.int p5)]) (rest := []) K (hw _ (List.mem_of_getElem? (i := 0) rfl)) (hw _ (List.mem_of_getElem? (i := 1) rfl)) (hw _ (List.mem_of_getElem? (i := 2) rfl)) (hw _ (List.mem_of_getElem? (i := 3) rfl)) (by decide) (fun hZ => Con.bk (a0 := a0) (c_csok l Z a0 hw p5 h0) hZ (hw _ (List.mem_of_getElem? (i := 3) rfl)) (hw _ (List.mem_of_getElem? (i := 2) rfl)) (by decide) (Nat.le_of_ble_eq_true rfl)) rfl rfl (lenOf pd_12 rfl) rfl at_2 (by decide) (by decide) (fun _ _ _ q => ⟨Fw.sub q.2.1 (by omega) (fun x hx => nomatch hx), q.2.2.1⟩) ?_
  intro v279 h280 L282 q281
  obtain ⟨⟨vm283, rfl, e284⟩, -, -⟩ := q281
  replace e284 := e284.symm; subst e284
  show Go _ _ _ _ _ _ _ _ _ _ _ _ _ _ _ _ _ _ _ _ _ (mkF m 5 #[.val (.int p1), .val (.int p2), .val (.int p3), .val (.int p4), .val (.int p5), .val (.int p6), .unset, .unset] [(.int (if csOk p5 then 1 else 0))])
  by_cases hE285 : csOk p5
  · -- csOk p5
    rw [if_pos hE285]
    refine GoKit.if_ne_y (pc := 5) (pc' := 14) K at_5 (by decide)  (by decide) ?_
    refine GoKit.iloadN (pc := 14) K at_14 rfl ?_
    refine GoKit.iloadN (pc := 15) K at_15 rfl ?_
    refine GoKit.callS (pc := 16) (a0 := a0) (argsL := [(.int p1), (.int p3)]) (rest := []) K (hw _ (List.mem_of_getElem? (i := 4) rfl)) (hw _ (List.mem_of_getElem? (i := 5) rfl)) (hw _ (List.mem_of_getElem? (i := 2) rfl)) (hw _ (List.mem_of_getElem? (i := 6) rfl)) (by decide) (fun hZ => Con.bk (a0 := a0) (c_same l Z a0 hw p1 p3 h0) hZ (hw _ (List.mem_of_getElem? (i := 6) rfl)) (hw _ (List.mem_of_getElem? (i := 2) rfl)) (by decide) (Nat.le_of_ble_eq_true rfl)) rfl rfl (lenOf pd_13 rfl) rfl at_16 (by decide) (by decide) (fun _ _ _ q => ⟨Fw.sub q.2.1 (by omega) (fun x hx => nomatch hx), q.2.2.1⟩) ?_
    intro v286 h287 L289 q288
    obtain ⟨⟨vm290, rfl, e291⟩, -, -⟩ := q288
    replace e291 := e291.symm; subst e291
    show Go _ _ _ _ _ _ _ _ _ _ _ _ _ _ _ _ _ _ _ _ _ (mkF m 19 #[.val (.int p1), .val (.int p2), .val (.int p3), .val (.int p4), .val (.int p5), .val (.int p6), .unset, .unset] [(.int (if tx p1 = tx p3 then 1 else 0))])
    by_cases hE292 : tx p1 = tx p3
    · -- tx p1 = tx p3
      rw [if_pos hE292]
      refine GoKit.if_eq_n (pc := 19) K at_19  (by decide) ?_
      refine GoKit.iloadN (pc := 22) K at_22 rfl ?_
      refine GoKit.iloadN (pc := 23) K at_23 rfl ?_
      refine GoKit.callS (pc := 24) (a0 := a0) (argsL := [(.int p2), (.int p4)]) (rest := []) K (hw _ (List.mem_of_getElem? (i := 4) rfl)) (hw _ (List.mem_of_getElem? (i := 5) rfl)) (hw _ (List.mem_of_getElem? (i := 2) rfl)) (hw _ (List.mem_of_getElem? (i := 6) rfl)) (by decide) (fun hZ => Con.bk (a0 := a0) (c_same l Z a0 hw p2 p4 h0) hZ (hw _ (List.mem_of_getElem? (i := 6) rfl)) (hw _ (List.mem_of_getElem? (i := 2) rfl)) (by decide) (Nat.le_of_ble_eq_true rfl)) rfl rfl (lenOf pd_13 rfl) rfl at_24 (by decide) (by decide) (fun _ _ _ q => ⟨Fw.sub q.2.1 (by omega) (fun x hx => nomatch hx), q.2.2.1⟩) ?_
      intro v293 h294 L296 q295
      obtain ⟨⟨vm297, rfl, e298⟩, -, -⟩ := q295
      replace e298 := e298.symm; subst e298
      show Go _ _ _ _ _ _ _ _ _ _ _ _ _ _ _ _ _ _ _ _ _ (mkF m 27 #[.val (.int p1), .val (.int p2), .val (.int p3), .val (.int p4), .val (.int p5), .val (.int p6), .unset, .unset] [(.int (if tx p2 = tx p4 then 1 else 0))])
      by_cases hE299 : tx p2 = tx p4
      · -- tx p2 = tx p4
        rw [if_pos hE299]
        refine GoKit.if_eq_n (pc := 27) K at_27  (by decide) ?_
        refine GoKit.iconst (pc := 30) (x := (2 : Int32)) K at_30 rfl ?_
        refine GoKit.istore (pc := 31) (l' := #[.val (.int p1), .val (.int p2), .val (.int p3), .val (.int p4), .val (.int p5), .val (.int p6), .val (.int (2 : Int32)), .unset]) K at_31 rfl ?_
        refine GoKit.goto (pc := 33) (pc' := 80) K at_33 (by decide) ?_
        exact J _ (specF_2 hE285 hE292 hE299).symm
      · -- not tx p2 = tx p4
        rw [if_neg hE299]
        refine GoKit.if_eq_y (pc := 27) (pc' := 36) K at_27 (by decide)  (by decide) ?_
        refine GoKit.iloadN (pc := 36) K at_36 rfl ?_
        refine GoKit.iloadN (pc := 37) K at_37 rfl ?_
        refine GoKit.callS (pc := 38) (a0 := a0) (argsL := [(.int p1), (.int p3)]) (rest := []) K (hw _ (List.mem_of_getElem? (i := 4) rfl)) (hw _ (List.mem_of_getElem? (i := 5) rfl)) (hw _ (List.mem_of_getElem? (i := 2) rfl)) (hw _ (List.mem_of_getElem? (i := 6) rfl)) (by decide) (fun hZ => Con.bk (a0 := a0) (c_same l Z a0 hw p1 p3 h0) hZ (hw _ (List.mem_of_getElem? (i := 6) rfl)) (hw _ (List.mem_of_getElem? (i := 2) rfl)) (by decide) (Nat.le_of_ble_eq_true rfl)) rfl rfl (lenOf pd_13 rfl) rfl at_38 (by decide) (by decide) (fun _ _ _ q => ⟨Fw.sub q.2.1 (by omega) (fun x hx => nomatch hx), q.2.2.1⟩) ?_
        intro v300 h301 L303 q302
        obtain ⟨⟨vm304, rfl, e305⟩, -, -⟩ := q302
        replace e305 := e305.symm; subst e305
        show Go _ _ _ _ _ _ _ _ _ _ _ _ _ _ _ _ _ _ _ _ _ (mkF m 41 #[.val (.int p1), .val (.int p2), .val (.int p3), .val (.int p4), .val (.int p5), .val (.int p6), .unset, .unset] [(.int (if tx p1 = tx p3 then 1 else 0))])
        rw [if_pos hE292]
        refine GoKit.if_eq_n (pc := 41) K at_41  (by decide) ?_
        refine GoKit.iloadN (pc := 44) K at_44 rfl ?_
        refine GoKit.callS (pc := 45) (a0 := a0) (argsL := [(.int p2)]) (rest := []) K (hw _ (List.mem_of_getElem? (i := 16) rfl)) (hw _ (List.mem_of_getElem? (i := 17) rfl)) (hw _ (List.mem_of_getElem? (i := 2) rfl)) (hw _ (List.mem_of_getElem? (i := 18) rfl)) (by decide) (fun hZ => Con.bk (a0 := a0) (c_star l Z a0 hw p2 h0) hZ (hw _ (List.mem_of_getElem? (i := 18) rfl)) (hw _ (List.mem_of_getElem? (i := 2) rfl)) (by decide) (Nat.le_of_ble_eq_true rfl)) rfl rfl (lenOf pd_12 rfl) rfl at_45 (by decide) (by decide) (fun _ _ _ q => ⟨Fw.sub q.2.1 (by omega) (fun x hx => nomatch hx), q.2.2.1⟩) ?_
        intro v306 h307 L309 q308
        obtain ⟨⟨vm310, rfl, e311⟩, -, -⟩ := q308
        replace e311 := e311.symm; subst e311
        show Go _ _ _ _ _ _ _ _ _ _ _ _ _ _ _ _ _ _ _ _ _ (mkF m 48 #[.val (.int p1), .val (.int p2), .val (.int p3), .val (.int p4), .val (.int p5), .val (.int p6), .unset, .unset] [(.int (if tx p2 = [42] then 1 else 0))])
        by_cases hE312 : tx p2 = [42]
        · -- tx p2 = [42]
          rw [if_pos hE312]
          refine GoKit.if_eq_n (pc := 48) K at_48  (by decide) ?_
          refine GoKit.iconst (pc := 51) (x := (1 : Int32)) K at_51 rfl ?_
          refine GoKit.istore (pc := 52) (l' := #[.val (.int p1), .val (.int p2), .val (.int p3), .val (.int p4), .val (.int p5), .val (.int p6), .val (.int (1 : Int32)), .unset]) K at_52 rfl ?_
          refine GoKit.goto (pc := 54) (pc' := 80) K at_54 (by decide) ?_
          exact J _ (specF_1 hE285 (fun q => hE299 q.2) hE292 hE312).symm
        · -- not tx p2 = [42]
          rw [if_neg hE312]
          refine GoKit.if_eq_y (pc := 48) (pc' := 57) K at_48 (by decide)  (by decide) ?_
          refine GoKit.iloadN (pc := 57) K at_57 rfl ?_
          refine GoKit.callS (pc := 58) (a0 := a0) (argsL := [(.int p1)]) (rest := []) K (hw _ (List.mem_of_getElem? (i := 16) rfl)) (hw _ (List.mem_of_getElem? (i := 17) rfl)) (hw _ (List.mem_of_getElem? (i := 2) rfl)) (hw _ (List.mem_of_getElem? (i := 18) rfl)) (by decide) (fun hZ => Con.bk (a0 := a0) (c_star l Z a0 hw p1 h0) hZ (hw _ (List.mem_of_getElem? (i := 18) rfl)) (hw _ (List.mem_of_getElem? (i := 2) rfl)) (by decide) (Nat.le_of_ble_eq_true rfl)) rfl rfl (lenOf pd_12 rfl) rfl at_58 (by decide) (by decide) (fun _ _ _ q => ⟨Fw.sub q.2.1 (by omega) (fun x hx => nomatch hx), q.2.2.1⟩) ?_
          intro v313 h314 L316 q315
          obtain ⟨⟨vm317, rfl, e318⟩, -, -⟩ := q315
          replace e318 := e318.symm; subst e318
          show Go _ _ _ _ _ _ _ _ _ _ _ _ _ _ _ _ _ _ _ _ _ (mkF m 61 #[.val (.int p1), .val (.int p2), .val (.int p3), .val (.int p4), .val (.int p5), .val (.int p6), .unset, .unset] [(.int (if tx p1 = [42] then 1 else 0))])
          by_cases hE319 : tx p1 = [42]
          · -- tx p1 = [42]
            rw [if_pos hE319]
            refine GoKit.if_eq_n (pc := 61) K at_61  (by decide) ?_
            refine GoKit.iloadN (pc := 64) K at_64 rfl ?_
            refine GoKit.callS (pc := 65) (a0 := a0) (argsL := [(.int p2)]) (rest := []) K (hw _ (List.mem_of_getElem? (i := 16) rfl)) (hw _ (List.mem_of_getElem? (i := 17) rfl)) (hw _ (List.mem_of_getElem? (i := 2) rfl)) (hw _ (List.mem_of_getElem? (i := 18) rfl)) (by decide) (fun hZ => Con.bk (a0 := a0) (c_star l Z a0 hw p2 h0) hZ (hw _ (List.mem_of_getElem? (i := 18) rfl)) (hw _ (List.mem_of_getElem? (i := 2) rfl)) (by decide) (Nat.le_of_ble_eq_true rfl)) rfl rfl (lenOf pd_12 rfl) rfl at_65 (by decide) (by decide) (fun _ _ _ q => ⟨Fw.sub q.2.1 (by omega) (fun x hx => nomatch hx), q.2.2.1⟩) ?_
            intro v320 h321 L323 q322
            obtain ⟨⟨vm324, rfl, e325⟩, -, -⟩ := q322
            replace e325 := e325.symm; subst e325
            show Go _ _ _ _ _ _ _ _ _ _ _ _ _ _ _ _ _ _ _ _ _ (mkF m 68 #[.val (.int p1), .val (.int p2), .val (.int p3), .val (.int p4), .val (.int p5), .val (.int p6), .unset, .unset] [(.int (if tx p2 = [42] then 1 else 0))])
            rw [if_neg hE312]
            refine GoKit.if_eq_y (pc := 68) (pc' := 77) K at_68 (by decide)  (by decide) ?_
            refine GoKit.iconst (pc := 77) (x := (-1 : Int32)) K at_77 rfl ?_
            refine GoKit.istore (pc := 78) (l' := #[.val (.int p1), .val (.int p2), .val (.int p3), .val (.int p4), .val (.int p5), .val (.int p6), .val (.int (-1 : Int32)), .unset]) K at_78 rfl ?_
            exact J _ (specF_m hE285 (fun q => hE299 q.2) (fun q => hE312 q.2) (fun q => hE312 q.2)).symm
          · -- not tx p1 = [42]
            rw [if_neg hE319]
            refine GoKit.if_eq_y (pc := 61) (pc' := 77) K at_61 (by decide)  (by decide) ?_
            refine GoKit.iconst (pc := 77) (x := (-1 : Int32)) K at_77 rfl ?_
            refine GoKit.istore (pc := 78) (l' := #[.val (.int p1), .val (.int p2), .val (.int p3), .val (.int p4), .val (.int p5), .val (.int p6), .val (.int (-1 : Int32)), .unset]) K at_78 rfl ?_
            exact J _ (specF_m hE285 (fun q => hE299 q.2) (fun q => hE312 q.2) (fun q => hE319 q.1)).symm
    · -- not tx p1 = tx p3
      rw [if_neg hE292]
      refine GoKit.if_eq_y (pc := 19) (pc' := 36) K at_19 (by decide)  (by decide) ?_
      refine GoKit.iloadN (pc := 36) K at_36 rfl ?_
      refine GoKit.iloadN (pc := 37) K at_37 rfl ?_
      refine GoKit.callS (pc := 38) (a0 := a0) (argsL := [(.int p1), (.int p3)]) (rest := []) K (hw _ (List.mem_of_getElem? (i := 4) rfl)) (hw _ (List.mem_of_getElem? (i := 5) rfl)) (hw _ (List.mem_of_getElem? (i := 2) rfl)) (hw _ (List.mem_of_getElem? (i := 6) rfl)) (by decide) (fun hZ => Con.bk (a0 := a0) (c_same l Z a0 hw p1 p3 h0) hZ (hw _ (List.mem_of_getElem? (i := 6) rfl)) (hw _ (List.mem_of_getElem? (i := 2) rfl)) (by decide) (Nat.le_of_ble_eq_true rfl)) rfl rfl (lenOf pd_13 rfl) rfl at_38 (by decide) (by decide) (fun _ _ _ q => ⟨Fw.sub q.2.1 (by omega) (fun x hx => nomatch hx), q.2.2.1⟩) ?_
      intro v326 h327 L329 q328
      obtain ⟨⟨vm330, rfl, e331⟩, -, -⟩ := q328
      replace e331 := e331.symm; subst e331
      show Go _ _ _ _ _ _ _ _ _ _ _ _ _ _ _ _ _ _ _ _ _ (mkF m 41 #[.val (.int p1), .val (.int p2), .val (.int p3), .val (.int p4), .val (.int p5), .val (.int p6), .unset, .unset] [(.int (if tx p1 = tx p3 then 1 else 0))])
      rw [if_neg hE292]
      refine GoKit.if_eq_y (pc := 41) (pc' := 57) K at_41 (by decide)  (by decide) ?_
      refine GoKit.iloadN (pc := 57) K at_57 rfl ?_
      refine GoKit.callS (pc := 58) (a0 := a0) (argsL := [(.int p1)]) (rest := []) K (hw _ (List.mem_of_getElem? (i := 16) rfl)) (hw _ (List.mem_of_getElem? (i := 17) rfl)) (hw _ (List.mem_of_getElem? (i := 2) rfl)) (hw _ (List.mem_of_getElem? (i := 18) rfl)) (by decide) (fun hZ => Con.bk (a0 := a0) (c_star l Z a0 hw p1 h0) hZ (hw _ (List.mem_of_getElem? (i := 18) rfl)) (hw _ (List.mem_of_getElem? (i := 2) rfl)) (by decide) (Nat.le_of_ble_eq_true rfl)) rfl rfl (lenOf pd_12 rfl) rfl at_58 (by decide) (by decide) (fun _ _ _ q => ⟨Fw.sub q.2.1 (by omega) (fun x hx => nomatch hx), q.2.2.1⟩) ?_
      intro v332 h333 L335 q334
      obtain ⟨⟨vm336, rfl, e337⟩, -, -⟩ := q334
      replace e337 := e337.symm; subst e337
      show Go _ _ _ _ _ _ _ _ _ _ _ _ _ _ _ _ _ _ _ _ _ (mkF m 61 #[.val (.int p1), .val (.int p2), .val (.int p3), .val (.int p4), .val (.int p5), .val (.int p6), .unset, .unset] [(.int (if tx p1 = [42] then 1 else 0))])
      by_cases hE338 : tx p1 = [42]
      · -- tx p1 = [42]
        rw [if_pos hE338]
        refine GoKit.if_eq_n (pc := 61) K at_61  (by decide) ?_
        refine GoKit.iloadN (pc := 64) K at_64 rfl ?_
        refine GoKit.callS (pc := 65) (a0 := a0) (argsL := [(.int p2)]) (rest := []) K (hw _ (List.mem_of_getElem? (i := 16) rfl)) (hw _ (List.mem_of_getElem? (i := 17) rfl)) (hw _ (List.mem_of_getElem? (i := 2) rfl)) (hw _ (List.mem_of_getElem? (i := 18) rfl)) (by decide) (fun hZ => Con.bk (a0 := a0) (c_star l Z a0 hw p2 h0) hZ (hw _ (List.mem_of_getElem? (i := 18) rfl)) (hw _ (List.mem_of_getElem? (i := 2) rfl)) (by decide) (Nat.le_of_ble_eq_true rfl)) rfl rfl (lenOf pd_12 rfl) rfl at_65 (by decide) (by decide) (fun _ _ _ q => ⟨Fw.sub q.2.1 (by omega) (fun x hx => nomatch hx), q.2.2.1⟩) ?_
        intro v339 h340 L342 q341
        obtain ⟨⟨vm343, rfl, e344⟩, -, -⟩ := q341
        replace e344 := e344.symm; subst e344
        show Go _ _ _ _ _ _ _ _ _ _ _ _ _ _ _ _ _ _ _ _ _ (mkF m 68 #[.val (.int p1), .val (.int p2), .val (.int p3), .val (.int p4), .val (.int p5), .val (.int p6), .unset, .unset] [(.int (if tx p2 = [42] then 1 else 0))])
        by_cases hE345 : tx p2 = [42]
        · -- tx p2 = [42]
          rw [if_pos hE345]
          refine GoKit.if_eq_n (pc := 68) K at_68  (by decide) ?_
          refine GoKit.iconst (pc := 71) (x := (0 : Int32)) K at_71 rfl ?_
          refine GoKit.istore (pc := 72) (l' := #[.val (.int p1), .val (.int p2), .val (.int p3), .val (.int p4), .val (.int p5), .val (.int p6), .val (.int (0 : Int32)), .unset]) K at_72 rfl ?_
          refine GoKit.goto (pc := 74) (pc' := 80) K at_74 (by decide) ?_
          exact J _ (specF_0 hE285 (fun q => hE292 q.1) (fun q => hE292 q.1) hE338 hE345).symm
        · -- not tx p2 = [42]
          rw [if_neg hE345]
          refine GoKit.if_eq_y (pc := 68) (pc' := 77) K at_68 (by decide)  (by decide) ?_
          refine GoKit.iconst (pc := 77) (x := (-1 : Int32)) K at_77 rfl ?_
          refine GoKit.istore (pc := 78) (l' := #[.val (.int p1), .val (.int p2), .val (.int p3), .val (.int p4), .val (.int p5), .val (.int p6), .val (.int (-1 : Int32)), .unset]) K at_78 rfl ?_
          exact J _ (specF_m hE285 (fun q => hE292 q.1) (fun q => hE292 q.1) (fun q => hE345 q.2)).symm
      · -- not tx p1 = [42]
        rw [if_neg hE338]
        refine GoKit.if_eq_y (pc := 61) (pc' := 77) K at_61 (by decide)  (by decide) ?_
        refine GoKit.iconst (pc := 77) (x := (-1 : Int32)) K at_77 rfl ?_
        refine GoKit.istore (pc := 78) (l' := #[.val (.int p1), .val (.int p2), .val (.int p3), .val (.int p4), .val (.int p5), .val (.int p6), .val (.int (-1 : Int32)), .unset]) K at_78 rfl ?_
        exact J _ (specF_m hE285 (fun q => hE292 q.1) (fun q => hE292 q.1) (fun q => hE338 q.1)).symm
  · -- not csOk p5
    rw [if_neg hE285]
    refine GoKit.if_ne_n (pc := 5) K at_5  (by decide) ?_
    refine GoKit.iconst (pc := 8) (x := (-1 : Int32)) K at_8 rfl ?_
    refine GoKit.istore (pc := 9) (l' := #[.val (.int p1), .val (.int p2), .val (.int p3), .val (.int p4), .val (.int p5), .val (.int p6), .val (.int (-1 : Int32)), .unset]) K at_9 rfl ?_
    refine GoKit.goto (pc := 11) (pc' := 80) K at_11 (by decide) ?_
    exact J _ (specF_n hE285).symm
set_option maxRecDepth 65536 in
set_option maxHeartbeats 40000000 in
theorem comes_1 {Post : Tables → Env → Array Value → State → Outcome → State → Prop} (hpost : ∀ tb e args s v u, (limb_1_1.after args s (.returned v) u = true ∧ limb_1_2.after args s (.returned v) u = true ∧ True) → ReturnedEndW s (.returned v) u (Jvm.fieldLocs frame_1_writes args s ++ Jvm.arrayLocs frame_1_arrays args s ++ Jvm.staticLocs frame_1_statics s) 48 2240 → Post tb e args s (.returned v) u) :
    ArmFor flags0 classFile x code maxLocals ret World_1 tables_1 room_1 Calls_1 rest_1 Pre_1 Post := by
  intro l hfl _ _ p e ha hc hk s m args below hf hA hF happ hP
  obtain ⟨hcalls, hrest, hpre⟩ := hP
  obtain ⟨-, -, -, hnamed, -, -, -, hat⟩ := (Spec.applies_iff hf).mp happ
  obtain ⟨hg, hn⟩ := and_e (Cond.before_iff.mp (show (Jvm.Cond.and given_1 narrow_1).before args s = true from hpre))
  obtain ⟨g0, r0⟩ := and_e hg
  obtain ⟨g1, r1⟩ := and_e r0
  obtain ⟨g2, r2⟩ := and_e r1
  obtain ⟨g3, r3⟩ := and_e r2
  obtain ⟨g4, r4⟩ := and_e r3
  obtain ⟨g5, r5⟩ := and_e r4
  obtain ⟨w0, w1, w2, w3, w4, w5, rfl⟩ : ∃ w0 w1 w2 w3 w4 w5 : Value, args = #[w0, w1, w2, w3, w4, w5] := by
    have hs : args.size = 6 := by simpa [Cond.value, given_1] using g0
    obtain ⟨L⟩ := args
    match L, hs with
    | [w0, w1, w2, w3, w4, w5], _ => exact ⟨w0, w1, w2, w3, w4, w5, rfl⟩
  have hw := fun d (hd : d ∈ tables_1) => atoms_spec (ws := Jvm.Cond.code x code maxLocals ret :: tables_1) hat d (List.mem_cons_of_mem _ hd)
  have hfit : Fit s := fun {y c} hc i hi => by
    obtain ⟨ha, rfl⟩ := Array.getElem?_eq_some_iff.mp hc
    have q := List.all_eq_true.mp ((Array.all_eq_true_iff_forall_mem.mp hF) _ (Array.getElem_mem ha)) i (List.mem_range.mpr hi)
    simpa [Array.getElem?_eq_getElem hi] using q
  obtain ⟨hsets, hown0⟩ := atoms_of _ (rest_1_c_eq ▸ (show rest_1_c.before _ s = true from hrest))
  obtain ⟨i0, ei0⟩ := is_v g1
  obtain rfl : w0 = (.int i0) := Option.some.inj ei0
  obtain ⟨i1, ei1⟩ := is_v g2
  obtain rfl : w1 = (.int i1) := Option.some.inj ei1
  obtain ⟨i2, ei2⟩ := is_v g3
  obtain rfl : w2 = (.int i2) := Option.some.inj ei2
  obtain ⟨i3, ei3⟩ := is_v g4
  obtain rfl : w3 = (.int i3) := Option.some.inj ei3
  obtain ⟨i4, ei4⟩ := is_v g5
  obtain rfl : w4 = (.int i4) := Option.some.inj ei4
  obtain ⟨i5, ei5⟩ := is_v r5
  obtain rfl : w5 = (.int i5) := Option.some.inj ei5
  obtain ⟨z0, ez0⟩ := is_v (Cond.before_iff.mp (hsets _ (List.mem_of_getElem? (i := 1) rfl)))
  have S0 : Sta s s.heap "java/lang/String" "COMPACT_STRINGS" "Z" (.int z0) := Sta.start ez0 (Or.inl (hsets _ (List.mem_of_getElem? (i := 0) rfl)))
  have hz0 : ¬ z0 = 0 := gotF (Cond.eq_ints ez0 (Term.int_eval (0))) (not_v (Cond.before_iff.mp (hsets _ (List.mem_of_getElem? (i := 2) rfl))))
  have hcw := hsets _ (List.mem_of_getElem? (i := 2) rfl)
  have hH : ∀ o i, (o, i) ∈ consts_1 → Jvm.Lit.constHeld s o i := fun o i q => hcalls.1 (o, i) q
  have hSA : ∀ a ∈ Bundle.stringAtoms, a.before _ s = true := fun d hd => hw d ((by decide +kernel : ∀ d ∈ Bundle.stringAtoms, d ∈ tables_1) d hd)
  obtain ⟨n, o, h1, h2, h3, _, L, rfl, ⟨rfl, N⟩, hq⟩ := c_law l s _ hw i0 i1 i2 i3 i4 i5 s.heap s.heap.size (Old.start s) z0 S0 hz0 hH hcw hSA p e ha hc hk s m _ below hf ((Spec.applies_iff_loose hf).mp happ).1 ⟨rfl, State.Warmed39.refl s, rfl, IB.start⟩ trivial
  have N2 : ∀ y ∈ L, s.heap.size ≤ y.base := fun y hy => (N y hy).elim id (fun z => nomatch z)
  rcases hq with ⟨-, hq⟩ | hq
  · refine ⟨n, _, h1, h2, h3, hpost _ _ _ _ _ _ ⟨Cond.after_iff.mpr rfl, Cond.after_iff.mpr (eq_i res_at (Term.int_eval (1)) rfl), trivial⟩ ⟨hq.1, hq.2.1, hq.2.2.1, (hq.2.2.2.sift fun y hy => Or.inr (N2 y hy)).mono (by decide) (by decide)⟩⟩
  · exact nomatch hq.1
theorem main_1_1 : Claimed_1_1 := comes_1 fun _ _ _ _ _ _ h hF => ⟨h.1, hF⟩
theorem main_1_2 : Claimed_1_2 := comes_1 fun _ _ _ _ _ _ h hF => ⟨h.2.1, hF⟩
end Jvm.Pilot.@@N@@
namespace Jvm.Pilot.@@N@@
open Jvm Jvm.ClassFile Sem Op Lib Jvm.Free Jvm.Stand Jvm.Pilot.@@N@@.Jvm.D
/-! MADE BY PROGRAM (witnessworld.py) out of the Statement's table words and the real class files: 21 classes; the members and pool entries that the words name. The judged class is class 1, her method 10. -/
namespace start1
open Jvm.ClassFile
def u (s : String) : CpInfo := .utf8 (stringToUtf16 s)
/-- a pool by its gaps: so many unusable entries, then the entry; so many at the end -/
def gap : Nat → List CpInfo → List CpInfo
  | 0, r => r
  | n + 1, r => .unusable :: gap n r
def poolList (es : List (Nat × CpInfo)) (last : Nat) : List CpInfo := es.foldr (fun e r => gap e.1 (e.2 :: r)) (gap last [])
def pool (es : List (Nat × CpInfo)) (last : Nat) : Array CpInfo := ⟨poolList es last⟩
def fileOf (pool : Array CpInfo) (this : Nat) (attrs : Array Attribute := #[]) (ms : Array MethodInfo := #[]) (fl : Nat := 33) (sup : Nat := 0) (ifs : Array Nat := #[]) (fds : Array FieldInfo := #[]) : ClassFile where
  minorVersion := 0
  majorVersion := 65
  constantPool := pool
  accessFlags := fl
  thisClass := this
  superClass := sup
  interfaces := ifs
  fields := fds
  methods := ms
  attributes := attrs
def plain (name : String) (sup : Option ClassId) : Class where
  name := name
  kind := .ordinary
  loader := none
  accessFlags := 33
  super := sup
  interfaces := #[]
  cf := none
  fields := #[]
  methods := #[]
  instanceTypes := #[]
  staticTypes := #[]
  resolved := #[]
  callSites := []
  init := .initialized
  statics := none
  mirror := none

def pool0 : Array CpInfo := pool [(5, u "<init>"), (0, u "()V"), (1, .class_ 10), (1, u "java/lang/Object")] 113

def k0c0 : Code := { maxStack := 0, maxLocals := 1, code := object_method_1_code, exceptionTable := #[], attributes := #[] }
def k0m0 : Method := { name := "<init>", desc := "()V", sig := { parameters := [], returnType := none }, accessFlags := 1, code := some k0c0 }
/-- java/lang/Object -/
def k0 : Class := { plain "java/lang/Object" none with
  accessFlags := 33
  interfaces := #[]
  cf := some (fileOf pool0 8 #[] #[{ accessFlags := 1, nameIndex := 5, descriptorIndex := 6, attributes := #[] }] 33 0 #[] #[])
  fields := #[]
  methods := #[k0m0]
  instanceTypes := #[]
  staticTypes := #[]
  resolved := Array.replicate 124 none
  statics := none }

def pool1 : Array CpInfo := pool [(2, .class_ 4), (1, u "java/lang/Object"), (0, u "<init>"), (0, u "()V"), (0, .methodref 8 9), (0, .class_ 10), (0, .nameAndType 11 12), (0, u "com/example/inquiry_to_answer/inquirytoanswer/http/MediaRangeSpecificityForPinLaw"), (0, u "ch"), (0, u "(I)C"), (0, .methodref 8 14), (0, .nameAndType 15 12), (0, u "first"), (0, .methodref 17 18), (0, .class_ 19), (0, .nameAndType 20 21), (0, u "java/lang/String"), (0, u "valueOf"), (0, u "(C)Ljava/lang/String;"), (0, .methodref 8 23), (0, .nameAndType 24 12), (0, u "second"), (0, .methodref 17 26), (0, .nameAndType 5 27), (0, u "([C)V"), (0, .methodref 8 29), (0, .nameAndType 30 31), (0, u "len"), (0, u "(I)I"), (0, .methodref 8 33), (0, .nameAndType 34 35), (0, u "charsetOk"), (0, u "(I)Z"), (0, .methodref 8 37), (0, .nameAndType 38 39), (0, u "same"), (0, u "(II)Z"), (0, .methodref 8 41), (0, .nameAndType 42 35), (0, u "star"), (0, .class_ 44), (0, u "com/example/inquiry_to_answer/inquirytoanswer/http/MediaRange"), (0, .methodref 8 46), (0, .nameAndType 47 48), (0, u "str"), (0, u "(I)Ljava/lang/String;"), (0, .methodref 8 50), (0, .nameAndType 51 48), (0, u "charset"), (0, .methodref 43 53), (0, .nameAndType 5 54), (0, u "(Ljava/lang/String;Ljava/lang/String;Ljava/lang/String;I)V"), (0, .methodref 43 56), (0, .nameAndType 57 58), (0, u "specificityFor"), (0, u "(Ljava/lang/String;Ljava/lang/String;)I"), (3, u "law"), (0, u "(IIIIII)Z")] 2

def k1m0 : Method := { name := "<init>", desc := "()V", sig := { parameters := [], returnType := none }, accessFlags := 1, code := none }
def k1c1 : Code := { maxStack := 2, maxLocals := 2, code := method_2_code, exceptionTable := #[], attributes := #[] }
def k1m1 : Method := { name := "ch", desc := "(I)C", sig := { parameters := [.int], returnType := some .char }, accessFlags := 10, code := some k1c1 }
def k1c2 : Code := { maxStack := 2, maxLocals := 1, code := method_3_code, exceptionTable := #[], attributes := #[] }
def k1m2 : Method := { name := "first", desc := "(I)C", sig := { parameters := [.int], returnType := some .char }, accessFlags := 10, code := some k1c2 }
def k1c3 : Code := { maxStack := 2, maxLocals := 1, code := method_4_code, exceptionTable := #[], attributes := #[] }
def k1m3 : Method := { name := "second", desc := "(I)C", sig := { parameters := [.int], returnType := some .char }, accessFlags := 10, code := some k1c3 }
def k1c4 : Code := { maxStack := 3, maxLocals := 1, code := method_5_code, exceptionTable := #[], attributes := #[] }
def k1m4 : Method := { name := "len", desc := "(I)I", sig := { parameters := [.int], returnType := some .int }, accessFlags := 10, code := some k1c4 }
def k1c5 : Code := { maxStack := 3, maxLocals := 2, code := method_6_code, exceptionTable := #[], attributes := #[] }
def k1m5 : Method := { name := "str", desc := "(I)Ljava/lang/String;", sig := { parameters := [.int], returnType := some (.object "java/lang/String") }, accessFlags := 10, code := some k1c5 }
def k1c6 : Code := { maxStack := 2, maxLocals := 2, code := method_7_code, exceptionTable := #[], attributes := #[] }
def k1m6 : Method := { name := "same", desc := "(II)Z", sig := { parameters := [.int, .int], returnType := some .boolean }, accessFlags := 10, code := some k1c6 }
def k1c7 : Code := { maxStack := 2, maxLocals := 1, code := method_8_code, exceptionTable := #[], attributes := #[] }
def k1m7 : Method := { name := "star", desc := "(I)Z", sig := { parameters := [.int], returnType := some .boolean }, accessFlags := 10, code := some k1c7 }
def k1c8 : Code := { maxStack := 3, maxLocals := 4, code := method_9_code, exceptionTable := #[], attributes := #[] }
def k1m8 : Method := { name := "charset", desc := "(I)Ljava/lang/String;", sig := { parameters := [.int], returnType := some (.object "java/lang/String") }, accessFlags := 10, code := some k1c8 }
def k1c9 : Code := { maxStack := 2, maxLocals := 3, code := method_10_code, exceptionTable := #[], attributes := #[] }
def k1m9 : Method := { name := "charsetOk", desc := "(I)Z", sig := { parameters := [.int], returnType := some .boolean }, accessFlags := 10, code := some k1c9 }
def k1c10 : Code := { maxStack := 6, maxLocals := 8, code := code, exceptionTable := #[], attributes := #[] }
def k1m10 : Method := { name := "law", desc := "(IIIIII)Z", sig := { parameters := [.int, .int, .int, .int, .int, .int], returnType := some .boolean }, accessFlags := 9, code := some k1c10 }
/-- com/example/inquiry_to_answer/inquirytoanswer/http/MediaRangeSpecificityForPinLaw -/
def k1 : Class := { plain "com/example/inquiry_to_answer/inquirytoanswer/http/MediaRangeSpecificityForPinLaw" (some 0) with
  accessFlags := 49
  interfaces := #[]
  cf := some (fileOf pool1 8 #[] #[{ accessFlags := 1, nameIndex := 5, descriptorIndex := 6, attributes := #[] }, { accessFlags := 10, nameIndex := 11, descriptorIndex := 12, attributes := #[] }, { accessFlags := 10, nameIndex := 15, descriptorIndex := 12, attributes := #[] }, { accessFlags := 10, nameIndex := 24, descriptorIndex := 12, attributes := #[] }, { accessFlags := 10, nameIndex := 30, descriptorIndex := 31, attributes := #[] }, { accessFlags := 10, nameIndex := 47, descriptorIndex := 48, attributes := #[] }, { accessFlags := 10, nameIndex := 38, descriptorIndex := 39, attributes := #[] }, { accessFlags := 10, nameIndex := 42, descriptorIndex := 35, attributes := #[] }, { accessFlags := 10, nameIndex := 51, descriptorIndex := 48, attributes := #[] }, { accessFlags := 10, nameIndex := 34, descriptorIndex := 35, attributes := #[] }, { accessFlags := 9, nameIndex := 62, descriptorIndex := 63, attributes := #[] }] 49 2 #[] #[])
  fields := #[]
  methods := #[k1m0, k1m1, k1m2, k1m3, k1m4, k1m5, k1m6, k1m7, k1m8, k1m9, k1m10]
  instanceTypes := #[]
  staticTypes := #[]
  resolved := Array.replicate 66 none
  statics := none }

def pool2 : Array CpInfo := pool [(1, .methodref 2 3), (0, .class_ 4), (0, .nameAndType 5 6), (0, u "java/lang/Object"), (0, u "<init>"), (0, u "()V"), (0, .class_ 8), (0, u "java/lang/Record")] 13

def k2c0 : Code := { maxStack := 1, maxLocals := 1, code := jdk_30_method_1_code, exceptionTable := #[], attributes := #[] }
def k2m0 : Method := { name := "<init>", desc := "()V", sig := { parameters := [], returnType := none }, accessFlags := 4, code := some k2c0 }
/-- java/lang/Record -/
def k2 : Class := { plain "java/lang/Record" (some 0) with
  accessFlags := 1057
  interfaces := #[]
  cf := some (fileOf pool2 7 #[] #[{ accessFlags := 4, nameIndex := 5, descriptorIndex := 6, attributes := #[] }] 1057 2 #[] #[])
  fields := #[]
  methods := #[k2m0]
  instanceTypes := #[]
  staticTypes := #[]
  resolved := Array.replicate 22 none
  statics := none }

def pool3 : Array CpInfo := pool [(1, .methodref 2 3), (0, .class_ 4), (0, .nameAndType 5 6), (0, u "java/lang/Record"), (0, u "<init>"), (0, u "()V"), (0, .fieldref 8 9), (0, .class_ 10), (0, .nameAndType 11 12), (0, u "com/example/inquiry_to_answer/inquirytoanswer/http/MediaRange"), (0, u "type"), (0, u "Ljava/lang/String;"), (0, .fieldref 8 14), (0, .nameAndType 15 12), (0, u "subtype"), (0, .fieldref 8 17), (0, .nameAndType 18 12), (0, u "charset"), (0, .fieldref 8 20), (0, .nameAndType 21 22), (0, u "quality"), (0, u "I"), (19, .class_ 43), (0, u "java/lang/String"), (10, u "specificityFor"), (0, u "(Ljava/lang/String;Ljava/lang/String;)I"), (20, u "(Ljava/lang/Object;)Z"), (15, u "TOKEN"), (0, u "Ljava/util/regex/Pattern;"), (45, .methodref 42 140), (0, .nameAndType 141 76), (0, u "equals"), (2, u "QUALITY"), (15, u "(Ljava/lang/String;Ljava/lang/String;Ljava/lang/String;I)V"), (0, .string 162), (0, u "utf-8"), (0, .string 164), (0, u "*"), (37, u "FULL_QUALITY")] 40

def k3c0 : Code := { maxStack := 2, maxLocals := 5, code := prog_123_method_1_code, exceptionTable := #[], attributes := #[] }
def k3m0 : Method := { name := "<init>", desc := "(Ljava/lang/String;Ljava/lang/String;Ljava/lang/String;I)V", sig := { parameters := [(.object "java/lang/String"), (.object "java/lang/String"), (.object "java/lang/String"), .int], returnType := none }, accessFlags := 0, code := some k3c0 }
def k3c1 : Code := { maxStack := 2, maxLocals := 4, code := prog_123_method_6_code, exceptionTable := #[], attributes := #[] }
def k3m1 : Method := { name := "specificityFor", desc := "(Ljava/lang/String;Ljava/lang/String;)I", sig := { parameters := [(.object "java/lang/String"), (.object "java/lang/String")], returnType := some .int }, accessFlags := 0, code := some k3c1 }
/-- com/example/inquiry_to_answer/inquirytoanswer/http/MediaRange -/
def k3 : Class := { plain "com/example/inquiry_to_answer/inquirytoanswer/http/MediaRange" (some 2) with
  accessFlags := 48
  interfaces := #[]
  cf := some (fileOf pool3 8 #[] #[{ accessFlags := 0, nameIndex := 5, descriptorIndex := 160, attributes := #[] }, { accessFlags := 0, nameIndex := 54, descriptorIndex := 55, attributes := #[] }] 48 2 #[] #[{ accessFlags := 18, nameIndex := 11, descriptorIndex := 12, attributes := #[] }, { accessFlags := 18, nameIndex := 15, descriptorIndex := 12, attributes := #[] }, { accessFlags := 18, nameIndex := 18, descriptorIndex := 12, attributes := #[] }, { accessFlags := 18, nameIndex := 21, descriptorIndex := 22, attributes := #[] }, { accessFlags := 24, nameIndex := 202, descriptorIndex := 22, attributes := #[] }, { accessFlags := 26, nameIndex := 92, descriptorIndex := 93, attributes := #[] }, { accessFlags := 26, nameIndex := 144, descriptorIndex := 93, attributes := #[] }])
  fields := #[{ name := "type", type := (.object "java/lang/String"), accessFlags := 18, slot := 0, constantValue := 0 }, { name := "subtype", type := (.object "java/lang/String"), accessFlags := 18, slot := 1, constantValue := 0 }, { name := "charset", type := (.object "java/lang/String"), accessFlags := 18, slot := 2, constantValue := 0 }, { name := "quality", type := .int, accessFlags := 18, slot := 3, constantValue := 0 }, { name := "FULL_QUALITY", type := .int, accessFlags := 24, slot := 0, constantValue := 0 }, { name := "TOKEN", type := (.object "java/util/regex/Pattern"), accessFlags := 26, slot := 1, constantValue := 0 }, { name := "QUALITY", type := (.object "java/util/regex/Pattern"), accessFlags := 26, slot := 2, constantValue := 0 }]
  methods := #[k3m0, k3m1]
  instanceTypes := #[(.object "java/lang/String"), (.object "java/lang/String"), (.object "java/lang/String"), .int]
  staticTypes := #[.int, (.object "java/util/regex/Pattern"), (.object "java/util/regex/Pattern")]
  resolved := Array.replicate 243 none
  statics := none }

def pool4 : Array CpInfo := pool [(1, .class_ 2), (0, u "java/io/Serializable"), (0, .class_ 4), (0, u "java/lang/Object")] 2

/-- java/io/Serializable -/
def k4 : Class := { plain "java/io/Serializable" (some 0) with
  accessFlags := 1537
  interfaces := #[]
  cf := some (fileOf pool4 1 #[] #[] 1537 3 #[] #[])
  fields := #[]
  methods := #[]
  instanceTypes := #[]
  staticTypes := #[]
  resolved := Array.replicate 7 none
  statics := none }

def pool5 : Array CpInfo := pool [(1, .class_ 2), (0, u "java/lang/Comparable"), (0, .class_ 4), (0, u "java/lang/Object")] 7

/-- java/lang/Comparable -/
def k5 : Class := { plain "java/lang/Comparable" (some 0) with
  accessFlags := 1537
  interfaces := #[]
  cf := some (fileOf pool5 1 #[] #[] 1537 3 #[] #[])
  fields := #[]
  methods := #[]
  instanceTypes := #[]
  staticTypes := #[]
  resolved := Array.replicate 12 none
  statics := none }

def pool6 : Array CpInfo := pool [(2, .class_ 4), (1, u "java/lang/CharSequence"), (42, .class_ 48), (0, u "java/lang/CharSequence$1CodePointIterator"), (10, .class_ 60), (0, u "java/lang/CharSequence$1CharIterator"), (5, .class_ 67), (0, u "java/lang/Object")] 63

/-- java/lang/CharSequence -/
def k6 : Class := { plain "java/lang/CharSequence" (some 0) with
  accessFlags := 1537
  interfaces := #[]
  cf := some (fileOf pool6 2 #[.nestMembers #[47, 59]] #[] 1537 66 #[] #[])
  fields := #[]
  methods := #[]
  instanceTypes := #[]
  staticTypes := #[]
  resolved := Array.replicate 131 none
  statics := none }

def pool7 : Array CpInfo := pool [(1, .class_ 2), (0, u "java/lang/constant/Constable"), (0, .class_ 4), (0, u "java/lang/Object")] 6

/-- java/lang/constant/Constable -/
def k7 : Class := { plain "java/lang/constant/Constable" (some 0) with
  accessFlags := 1537
  interfaces := #[]
  cf := some (fileOf pool7 1 #[] #[] 1537 3 #[] #[])
  fields := #[]
  methods := #[]
  instanceTypes := #[]
  staticTypes := #[]
  resolved := Array.replicate 11 none
  statics := none }

def pool8 : Array CpInfo := pool [(1, .class_ 2), (0, u "java/lang/constant/ConstantDesc"), (0, .class_ 4), (0, u "java/lang/Object")] 32

/-- java/lang/constant/ConstantDesc -/
def k8 : Class := { plain "java/lang/constant/ConstantDesc" (some 0) with
  accessFlags := 1537
  interfaces := #[]
  cf := some (fileOf pool8 1 #[] #[] 1537 3 #[] #[])
  fields := #[]
  methods := #[]
  instanceTypes := #[]
  staticTypes := #[]
  resolved := Array.replicate 37 none
  statics := none }

def pool9 : Array CpInfo := pool [(1, .methodref 2 3), (0, .class_ 4), (0, .nameAndType 5 6), (0, u "java/lang/Object"), (0, u "<init>"), (0, u "()V"), (2, .fieldref 10 11), (0, .class_ 12), (0, .nameAndType 13 14), (0, u "java/lang/String"), (0, u "value"), (0, u "[B"), (0, .fieldref 10 16), (0, .nameAndType 17 18), (0, u "coder"), (0, u "B"), (2, u "hash"), (0, u "I"), (2, u "hashIsZero"), (0, u "Z"), (0, .methodref 10 28), (0, .nameAndType 5 29), (0, u "([CIILjava/lang/Void;)V"), (8, .fieldref 10 39), (0, .nameAndType 40 26), (0, u "COMPACT_STRINGS"), (1, .class_ 44), (1, u "java/lang/StringUTF16"), (0, u "compress"), (1, .methodref 42 48), (0, .nameAndType 49 50), (0, u "coderFromArrayLen"), (0, u "([BI)B"), (2, u "toBytes"), (53, .class_ 109), (1, u "java/lang/StringLatin1"), (67, .methodref 42 178), (0, .nameAndType 45 179), (0, u "([CII)[B"), (29, .methodref 10 210), (0, .nameAndType 5 211), (0, u "([BB)V"), (157, u "(C)Z"), (171, .methodref 107 542), (0, .nameAndType 543 544), (0, u "equals"), (0, u "([B[B)Z"), (28, u "(Ljava/lang/Object;)Z"), (1, .class_ 576), (0, u "java/lang/CharSequence"), (22, u "CASE_INSENSITIVE_ORDER"), (0, u "Ljava/util/Comparator;"), (181, u "valueOf"), (0, u "(C)Ljava/lang/String;"), (226, u "([C)V"), (4, .methodref 107 1016), (0, .nameAndType 1017 369), (0, u "canEncode"), (0, .methodref 107 1019), (0, .nameAndType 53 1020), (0, u "(C)[B"), (80, u "serialPersistentFields"), (0, u "[Ljava/io/ObjectStreamField;"), (0, .class_ 1104), (0, u "java/lang/String$CaseInsensitiveComparator"), (1, .class_ 1107), (0, u "java/io/Serializable"), (0, .class_ 1109), (0, u "java/lang/Comparable"), (0, .class_ 1111), (0, u "java/lang/constant/Constable"), (0, .class_ 1113), (0, u "java/lang/constant/ConstantDesc"), (2, u "serialVersionUID"), (0, u "J"), (3, u "REPL"), (0, u "C"), (2, u "LATIN1"), (1, u "UTF16")] 323

def k9m0 : Method := { name := "<init>", desc := "()V", sig := { parameters := [], returnType := none }, accessFlags := 1, code := none }
def k9c1 : Code := { maxStack := 5, maxLocals := 2, code := jdk_42_method_3_code, exceptionTable := #[], attributes := #[] }
def k9m1 : Method := { name := "<init>", desc := "([C)V", sig := { parameters := [(.array .char)], returnType := none }, accessFlags := 1, code := some k9c1 }
def k9c2 : Code := { maxStack := 2, maxLocals := 3, code := jdk_42_method_66_code, exceptionTable := #[], attributes := #[] }
def k9m2 : Method := { name := "equals", desc := "(Ljava/lang/Object;)Z", sig := { parameters := [(.object "java/lang/Object")], returnType := some .boolean }, accessFlags := 1, code := some k9c2 }
def k9c3 : Code := { maxStack := 4, maxLocals := 1, code := jdk_42_method_139_code, exceptionTable := #[], attributes := #[] }
def k9m3 : Method := { name := "valueOf", desc := "(C)Ljava/lang/String;", sig := { parameters := [.char], returnType := some (.object "java/lang/String") }, accessFlags := 9, code := some k9c3 }
def k9c4 : Code := { maxStack := 4, maxLocals := 6, code := jdk_42_method_149_code, exceptionTable := #[], attributes := #[] }
def k9m4 : Method := { name := "<init>", desc := "([CIILjava/lang/Void;)V", sig := { parameters := [(.array .char), .int, .int, (.object "java/lang/Void")], returnType := none }, accessFlags := 2, code := some k9c4 }
def k9c5 : Code := { maxStack := 2, maxLocals := 3, code := jdk_42_method_151_code, exceptionTable := #[], attributes := #[] }
def k9m5 : Method := { name := "<init>", desc := "([BB)V", sig := { parameters := [(.array .byte), .byte], returnType := none }, accessFlags := 0, code := some k9c5 }
/-- java/lang/String -/
def k9 : Class := { plain "java/lang/String" (some 0) with
  accessFlags := 49
  interfaces := #[4, 5, 6, 7, 8]
  cf := some (fileOf pool9 10 #[.nestMembers #[1103]] #[{ accessFlags := 1, nameIndex := 5, descriptorIndex := 6, attributes := #[] }, { accessFlags := 1, nameIndex := 5, descriptorIndex := 1010, attributes := #[] }, { accessFlags := 1, nameIndex := 543, descriptorIndex := 573, attributes := #[] }, { accessFlags := 9, nameIndex := 782, descriptorIndex := 783, attributes := #[] }, { accessFlags := 2, nameIndex := 5, descriptorIndex := 29, attributes := #[] }, { accessFlags := 0, nameIndex := 5, descriptorIndex := 211, attributes := #[] }] 49 2 #[1106, 1108, 575, 1110, 1112] #[{ accessFlags := 18, nameIndex := 13, descriptorIndex := 14, attributes := #[] }, { accessFlags := 18, nameIndex := 17, descriptorIndex := 18, attributes := #[] }, { accessFlags := 2, nameIndex := 21, descriptorIndex := 22, attributes := #[] }, { accessFlags := 2, nameIndex := 25, descriptorIndex := 26, attributes := #[] }, { accessFlags := 26, nameIndex := 1116, descriptorIndex := 1117, attributes := #[] }, { accessFlags := 24, nameIndex := 40, descriptorIndex := 26, attributes := #[] }, { accessFlags := 26, nameIndex := 1101, descriptorIndex := 1102, attributes := #[] }, { accessFlags := 26, nameIndex := 1121, descriptorIndex := 1122, attributes := #[] }, { accessFlags := 25, nameIndex := 599, descriptorIndex := 600, attributes := #[] }, { accessFlags := 24, nameIndex := 1125, descriptorIndex := 18, attributes := #[] }, { accessFlags := 24, nameIndex := 1127, descriptorIndex := 18, attributes := #[] }])
  fields := #[{ name := "value", type := (.array .byte), accessFlags := 18, slot := 0, constantValue := 0 }, { name := "coder", type := .byte, accessFlags := 18, slot := 1, constantValue := 0 }, { name := "hash", type := .int, accessFlags := 2, slot := 2, constantValue := 0 }, { name := "hashIsZero", type := .boolean, accessFlags := 2, slot := 3, constantValue := 0 }, { name := "serialVersionUID", type := .long, accessFlags := 26, slot := 0, constantValue := 0 }, { name := "COMPACT_STRINGS", type := .boolean, accessFlags := 24, slot := 1, constantValue := 0 }, { name := "serialPersistentFields", type := (.array (.object "java/io/ObjectStreamField")), accessFlags := 26, slot := 2, constantValue := 0 }, { name := "REPL", type := .char, accessFlags := 26, slot := 3, constantValue := 0 }, { name := "CASE_INSENSITIVE_ORDER", type := (.object "java/util/Comparator"), accessFlags := 25, slot := 4, constantValue := 0 }, { name := "LATIN1", type := .byte, accessFlags := 24, slot := 5, constantValue := 0 }, { name := "UTF16", type := .byte, accessFlags := 24, slot := 6, constantValue := 0 }]
  methods := #[k9m0, k9m1, k9m2, k9m3, k9m4, k9m5]
  instanceTypes := #[(.array .byte), .byte, .int, .boolean]
  staticTypes := #[.long, .boolean, (.array (.object "java/io/ObjectStreamField")), .char, (.object "java/util/Comparator"), .byte, .byte]
  resolved := Array.replicate 1451 none
  statics := some 0 }

def pool10 : Array CpInfo := pool [(4, .class_ 6), (1, u "java/lang/Object"), (0, u "<init>"), (0, u "()V"), (5, .class_ 16), (1, u "java/lang/StringLatin1"), (73, u "canEncode"), (14, u "(C)Z"), (15, u "$assertionsDisabled"), (0, u "Z"), (98, .class_ 223), (1, u "java/lang/StringLatin1$LinesSpliterator"), (57, u "equals"), (0, u "([B[B)Z"), (97, u "toBytes"), (1, u "(C)[B"), (7, .class_ 391), (0, u "java/lang/StringLatin1$CharsSpliterator")] 3

def k10m0 : Method := { name := "<init>", desc := "()V", sig := { parameters := [], returnType := none }, accessFlags := 0, code := none }
def k10c1 : Code := { maxStack := 2, maxLocals := 1, code := jdk_43_method_3_code, exceptionTable := #[], attributes := #[] }
def k10m1 : Method := { name := "canEncode", desc := "(C)Z", sig := { parameters := [.char], returnType := some .boolean }, accessFlags := 9, code := some k10c1 }
def k10c2 : Code := { maxStack := 3, maxLocals := 3, code := jdk_43_method_13_code, exceptionTable := #[], attributes := #[] }
def k10m2 : Method := { name := "equals", desc := "([B[B)Z", sig := { parameters := [(.array .byte), (.array .byte)], returnType := some .boolean }, accessFlags := 9, code := some k10c2 }
def k10c3 : Code := { maxStack := 4, maxLocals := 1, code := jdk_43_method_46_code, exceptionTable := #[], attributes := #[] }
def k10m3 : Method := { name := "toBytes", desc := "(C)[B", sig := { parameters := [.char], returnType := some (.array .byte) }, accessFlags := 9, code := some k10c3 }
/-- java/lang/StringLatin1 -/
def k10 : Class := { plain "java/lang/StringLatin1" (some 0) with
  accessFlags := 48
  interfaces := #[]
  cf := some (fileOf pool10 14 #[.nestMembers #[390, 221]] #[{ accessFlags := 0, nameIndex := 7, descriptorIndex := 8, attributes := #[] }, { accessFlags := 9, nameIndex := 90, descriptorIndex := 105, attributes := #[] }, { accessFlags := 9, nameIndex := 281, descriptorIndex := 282, attributes := #[] }, { accessFlags := 9, nameIndex := 380, descriptorIndex := 382, attributes := #[] }] 48 4 #[] #[{ accessFlags := 4120, nameIndex := 121, descriptorIndex := 122, attributes := #[] }])
  fields := #[{ name := "$assertionsDisabled", type := .boolean, accessFlags := 4120, slot := 0, constantValue := 0 }]
  methods := #[k10m0, k10m1, k10m2, k10m3]
  instanceTypes := #[]
  staticTypes := #[.boolean]
  resolved := Array.replicate 395 none
  statics := none }

def pool11 : Array CpInfo := pool [(6, .class_ 8), (1, u "java/lang/Object"), (0, u "<init>"), (0, u "()V"), (1, .class_ 14), (1, u "java/lang/StringUTF16"), (31, u "$assertionsDisabled"), (0, u "Z"), (13, u "HI_BYTE_SHIFT"), (0, u "I"), (2, u "LO_BYTE_SHIFT"), (49, .methodref 12 116), (0, .nameAndType 117 118), (0, u "compress"), (0, u "([CI[BII)I"), (3, u "([CII)[B"), (138, u "coderFromArrayLen"), (0, u "([BI)B"), (106, .class_ 371), (1, u "java/lang/StringUTF16$LinesSpliterator"), (58, u "MAX_LENGTH"), (196, .class_ 628), (0, u "java/lang/StringUTF16$CodePointsSpliterator"), (0, .class_ 630), (0, u "java/lang/StringUTF16$CharsSpliterator")] 4

def k11m0 : Method := { name := "<init>", desc := "()V", sig := { parameters := [], returnType := none }, accessFlags := 0, code := none }
def k11c1 : Code := { maxStack := 2, maxLocals := 2, code := jdk_52_method_15_code, exceptionTable := #[], attributes := #[] }
def k11m1 : Method := { name := "coderFromArrayLen", desc := "([BI)B", sig := { parameters := [(.array .byte), .int], returnType := some .byte }, accessFlags := 8, code := some k11c1 }
def k11c2 : Code := { maxStack := 5, maxLocals := 6, code := jdk_52_method_16_code, exceptionTable := #[], attributes := #[] }
def k11m2 : Method := { name := "compress", desc := "([CII)[B", sig := { parameters := [(.array .char), .int, .int], returnType := some (.array .byte) }, accessFlags := 9, code := some k11c2 }
def k11c3 : Code := { maxStack := 3, maxLocals := 7, code := jdk_52_method_21_code, exceptionTable := #[], attributes := #[] }
def k11m3 : Method := { name := "compress", desc := "([CI[BII)I", sig := { parameters := [(.array .char), .int, (.array .byte), .int, .int], returnType := some .int }, accessFlags := 9, code := some k11c3 }
/-- java/lang/StringUTF16 -/
def k11 : Class := { plain "java/lang/StringUTF16" (some 0) with
  accessFlags := 48
  interfaces := #[]
  cf := some (fileOf pool11 12 #[.nestMembers #[627, 629, 369]] #[{ accessFlags := 0, nameIndex := 9, descriptorIndex := 10, attributes := #[] }, { accessFlags := 8, nameIndex := 261, descriptorIndex := 262, attributes := #[] }, { accessFlags := 9, nameIndex := 117, descriptorIndex := 122, attributes := #[] }, { accessFlags := 9, nameIndex := 117, descriptorIndex := 118, attributes := #[] }] 48 6 #[] #[{ accessFlags := 26, nameIndex := 61, descriptorIndex := 62, attributes := #[] }, { accessFlags := 26, nameIndex := 65, descriptorIndex := 62, attributes := #[] }, { accessFlags := 24, nameIndex := 430, descriptorIndex := 62, attributes := #[] }, { accessFlags := 4120, nameIndex := 46, descriptorIndex := 47, attributes := #[] }])
  fields := #[{ name := "HI_BYTE_SHIFT", type := .int, accessFlags := 26, slot := 0, constantValue := 0 }, { name := "LO_BYTE_SHIFT", type := .int, accessFlags := 26, slot := 1, constantValue := 0 }, { name := "MAX_LENGTH", type := .int, accessFlags := 24, slot := 2, constantValue := 0 }, { name := "$assertionsDisabled", type := .boolean, accessFlags := 4120, slot := 3, constantValue := 0 }]
  methods := #[k11m0, k11m1, k11m2, k11m3]
  instanceTypes := #[]
  staticTypes := #[.int, .int, .int, .boolean]
  resolved := Array.replicate 635 none
  statics := none }

def pool12 : Array CpInfo := pool [(2, .class_ 4), (1, u "java/lang/Object"), (0, u "<init>"), (0, u "()V"), (17, .class_ 26), (1, u "jdk/internal/util/Preconditions"), (28, .class_ 56), (0, u "jdk/internal/util/Preconditions$4"), (57, .class_ 115), (0, u "jdk/internal/util/Preconditions$1"), (7, u "SIOOBE_FORMATTER"), (0, u "Ljava/util/function/BiFunction;"), (0, .class_ 126), (0, u "jdk/internal/util/Preconditions$2"), (3, u "AIOOBE_FORMATTER"), (0, .class_ 132), (0, u "jdk/internal/util/Preconditions$3"), (3, u "IOOBE_FORMATTER")] 57

def k12m0 : Method := { name := "<init>", desc := "()V", sig := { parameters := [], returnType := none }, accessFlags := 1, code := none }
/-- jdk/internal/util/Preconditions -/
def k12 : Class := { plain "jdk/internal/util/Preconditions" (some 0) with
  accessFlags := 33
  interfaces := #[]
  cf := some (fileOf pool12 24 #[.nestMembers #[55, 131, 125, 114]] #[{ accessFlags := 1, nameIndex := 5, descriptorIndex := 6, attributes := #[] }] 33 2 #[] #[{ accessFlags := 25, nameIndex := 123, descriptorIndex := 124, attributes := #[] }, { accessFlags := 25, nameIndex := 130, descriptorIndex := 124, attributes := #[] }, { accessFlags := 25, nameIndex := 136, descriptorIndex := 124, attributes := #[] }])
  fields := #[{ name := "SIOOBE_FORMATTER", type := (.object "java/util/function/BiFunction"), accessFlags := 25, slot := 0, constantValue := 0 }, { name := "AIOOBE_FORMATTER", type := (.object "java/util/function/BiFunction"), accessFlags := 25, slot := 1, constantValue := 0 }, { name := "IOOBE_FORMATTER", type := (.object "java/util/function/BiFunction"), accessFlags := 25, slot := 2, constantValue := 0 }]
  methods := #[k12m0]
  instanceTypes := #[]
  staticTypes := #[(.object "java/util/function/BiFunction"), (.object "java/util/function/BiFunction"), (.object "java/util/function/BiFunction")]
  resolved := Array.replicate 194 none
  statics := some 1 }

def pool13 : Array CpInfo := pool [(9, u "<init>"), (6, .class_ 18), (1, u "java/lang/Object"), (0, u "()V"), (1, .class_ 23), (1, u "jdk/internal/util/ArraysSupport"), (0, u "LOG2_ARRAY_LONG_INDEX_SCALE"), (0, u "I"), (2, u "U"), (0, u "Ljdk/internal/misc/Unsafe;"), (8, u "BIG_ENDIAN"), (0, u "Z"), (8, u "LOG2_BYTE_BIT_SIZE"), (4, u "LOG2_ARRAY_INT_INDEX_SCALE"), (54, u "JLA"), (0, u "Ljdk/internal/access/JavaLangAccess;"), (11, u "LOG2_ARRAY_BOOLEAN_INDEX_SCALE"), (9, u "LOG2_ARRAY_BYTE_INDEX_SCALE"), (5, u "LOG2_ARRAY_CHAR_INDEX_SCALE"), (5, u "LOG2_ARRAY_SHORT_INDEX_SCALE"), (18, u "LOG2_ARRAY_FLOAT_INDEX_SCALE"), (24, u "LOG2_ARRAY_DOUBLE_INDEX_SCALE"), (89, u "T_BOOLEAN"), (2, u "T_CHAR"), (1, u "T_FLOAT"), (1, u "T_DOUBLE"), (1, u "T_BYTE"), (1, u "T_SHORT"), (1, u "T_INT"), (1, u "T_LONG"), (1, u "SOFT_MAX_ARRAY_LENGTH")] 83

def k13m0 : Method := { name := "<init>", desc := "()V", sig := { parameters := [], returnType := none }, accessFlags := 2, code := none }
/-- jdk/internal/util/ArraysSupport -/
def k13 : Class := { plain "jdk/internal/util/ArraysSupport" (some 0) with
  accessFlags := 33
  interfaces := #[]
  cf := some (fileOf pool13 21 #[] #[{ accessFlags := 2, nameIndex := 9, descriptorIndex := 19, attributes := #[] }] 33 16 #[] #[{ accessFlags := 24, nameIndex := 28, descriptorIndex := 29, attributes := #[] }, { accessFlags := 26, nameIndex := 38, descriptorIndex := 39, attributes := #[] }, { accessFlags := 25, nameIndex := 121, descriptorIndex := 25, attributes := #[] }, { accessFlags := 25, nameIndex := 131, descriptorIndex := 25, attributes := #[] }, { accessFlags := 25, nameIndex := 137, descriptorIndex := 25, attributes := #[] }, { accessFlags := 25, nameIndex := 143, descriptorIndex := 25, attributes := #[] }, { accessFlags := 25, nameIndex := 53, descriptorIndex := 25, attributes := #[] }, { accessFlags := 25, nameIndex := 24, descriptorIndex := 25, attributes := #[] }, { accessFlags := 25, nameIndex := 162, descriptorIndex := 25, attributes := #[] }, { accessFlags := 25, nameIndex := 187, descriptorIndex := 25, attributes := #[] }, { accessFlags := 26, nameIndex := 48, descriptorIndex := 25, attributes := #[] }, { accessFlags := 25, nameIndex := 277, descriptorIndex := 25, attributes := #[] }, { accessFlags := 25, nameIndex := 280, descriptorIndex := 25, attributes := #[] }, { accessFlags := 25, nameIndex := 282, descriptorIndex := 25, attributes := #[] }, { accessFlags := 25, nameIndex := 284, descriptorIndex := 25, attributes := #[] }, { accessFlags := 25, nameIndex := 286, descriptorIndex := 25, attributes := #[] }, { accessFlags := 25, nameIndex := 288, descriptorIndex := 25, attributes := #[] }, { accessFlags := 25, nameIndex := 290, descriptorIndex := 25, attributes := #[] }, { accessFlags := 25, nameIndex := 292, descriptorIndex := 25, attributes := #[] }, { accessFlags := 26, nameIndex := 108, descriptorIndex := 109, attributes := #[] }, { accessFlags := 25, nameIndex := 294, descriptorIndex := 25, attributes := #[] }])
  fields := #[{ name := "U", type := (.object "jdk/internal/misc/Unsafe"), accessFlags := 24, slot := 0, constantValue := 0 }, { name := "BIG_ENDIAN", type := .boolean, accessFlags := 26, slot := 1, constantValue := 0 }, { name := "LOG2_ARRAY_BOOLEAN_INDEX_SCALE", type := .int, accessFlags := 25, slot := 2, constantValue := 0 }, { name := "LOG2_ARRAY_BYTE_INDEX_SCALE", type := .int, accessFlags := 25, slot := 3, constantValue := 0 }, { name := "LOG2_ARRAY_CHAR_INDEX_SCALE", type := .int, accessFlags := 25, slot := 4, constantValue := 0 }, { name := "LOG2_ARRAY_SHORT_INDEX_SCALE", type := .int, accessFlags := 25, slot := 5, constantValue := 0 }, { name := "LOG2_ARRAY_INT_INDEX_SCALE", type := .int, accessFlags := 25, slot := 6, constantValue := 0 }, { name := "LOG2_ARRAY_LONG_INDEX_SCALE", type := .int, accessFlags := 25, slot := 7, constantValue := 0 }, { name := "LOG2_ARRAY_FLOAT_INDEX_SCALE", type := .int, accessFlags := 25, slot := 8, constantValue := 0 }, { name := "LOG2_ARRAY_DOUBLE_INDEX_SCALE", type := .int, accessFlags := 25, slot := 9, constantValue := 0 }, { name := "LOG2_BYTE_BIT_SIZE", type := .int, accessFlags := 26, slot := 10, constantValue := 0 }, { name := "T_BOOLEAN", type := .int, accessFlags := 25, slot := 11, constantValue := 0 }, { name := "T_CHAR", type := .int, accessFlags := 25, slot := 12, constantValue := 0 }, { name := "T_FLOAT", type := .int, accessFlags := 25, slot := 13, constantValue := 0 }, { name := "T_DOUBLE", type := .int, accessFlags := 25, slot := 14, constantValue := 0 }, { name := "T_BYTE", type := .int, accessFlags := 25, slot := 15, constantValue := 0 }, { name := "T_SHORT", type := .int, accessFlags := 25, slot := 16, constantValue := 0 }, { name := "T_INT", type := .int, accessFlags := 25, slot := 17, constantValue := 0 }, { name := "T_LONG", type := .int, accessFlags := 25, slot := 18, constantValue := 0 }, { name := "JLA", type := (.object "jdk/internal/access/JavaLangAccess"), accessFlags := 26, slot := 19, constantValue := 0 }, { name := "SOFT_MAX_ARRAY_LENGTH", type := .int, accessFlags := 25, slot := 20, constantValue := 0 }]
  methods := #[k13m0]
  instanceTypes := #[]
  staticTypes := #[(.object "jdk/internal/misc/Unsafe"), .boolean, .int, .int, .int, .int, .int, .int, .int, .int, .int, .int, .int, .int, .int, .int, .int, .int, .int, (.object "jdk/internal/access/JavaLangAccess"), .int]
  resolved := Array.replicate 378 none
  statics := none }

def pool14 : Array CpInfo := pool [(1, u "java/lang/Cloneable"), (0, .class_ 1), (0, u "java/lang/Object"), (0, .class_ 3)] 3

/-- java/lang/Cloneable -/
def k14 : Class := { plain "java/lang/Cloneable" (some 0) with
  accessFlags := 1537
  interfaces := #[]
  cf := some (fileOf pool14 2 #[] #[] 1537 4 #[] #[])
  fields := #[]
  methods := #[]
  instanceTypes := #[]
  staticTypes := #[]
  resolved := Array.replicate 8 none
  statics := none }

/-- the primitive byte -/
def k15 : Class := { plain "byte" none with kind := .primitive 'B', accessFlags := 0x411 }
/-- [B -/
def k16 : Class := { plain "[B" (some 0) with kind := .array 15 .byte, interfaces := #[14, 4], accessFlags := 1041 }

/-- the primitive char -/
def k17 : Class := { plain "char" none with kind := .primitive 'C', accessFlags := 0x411 }
/-- [C -/
def k18 : Class := { plain "[C" (some 0) with kind := .array 17 .char, interfaces := #[14, 4], accessFlags := 1041 }

/-- the primitive int -/
def k19 : Class := { plain "int" none with kind := .primitive 'I', accessFlags := 0x411 }
/-- [I -/
def k20 : Class := { plain "[I" (some 0) with kind := .array 19 .int, interfaces := #[14, 4], accessFlags := 1041 }

def heap : Heap := #[{ cls := 9, slots := #[.long 0, .int 1, .null, .int 0, .null, .int 0, .int 0], vm := .statics 9 },
  { cls := 12, slots := #[.null, .null, .null], vm := .statics 12 }]
def classes : Array Class := #[k0, k1, k2, k3, k4, k5, k6, k7, k8, k9, k10, k11, k12, k13, k14, k15, k16, k17, k18, k19, k20]
def interned : List (Array UInt16 × Addr) := []
def slotsUsed : Nat := 10
def theMethod : MethodId := ⟨1, 10⟩
def args0 : Array Value := #[.int 5, .int 7, .int 6, .int 4, .int 1, .int 9]
def aboutOver (below : List Frame) : State where
  vm := { classes := classes, interned := interned.toArray }
  heap := heap
  slotsUsed := slotsUsed
  threads := #[{ frames := .invoking theMethod args0 :: below }]
def below0 : List Frame := [.native { method := ⟨0, 0⟩, args := #[] }]
def about1 : State := aboutOver below0
def p0 : Program := .bare "" "" ""
def e0 : Env := launch0.env 0 0 0
theorem w_frames : about1.frames = Frame.invoking theMethod args0 :: below0 := rfl
set_option maxRecDepth 65536 in
theorem w_args : argsFit about1.vm theMethod args0 = true := by decide +kernel
set_option maxRecDepth 65536 in
theorem w_heap : heapFits about1 = true := by decide +kernel
set_option maxRecDepth 65536 in
theorem w_runnable : about1.curStatus? = some .runnable := by decide +kernel
set_option maxRecDepth 65536 in
theorem w_alone : about1.alone = true := by decide +kernel
set_option maxRecDepth 65536 in
theorem w_named : about1.methodNamed? x = some theMethod := by decide +kernel
set_option maxRecDepth 65536 in
theorem w_hears : about1.hears theMethod below0 = true := by decide +kernel
set_option maxRecDepth 65536 in
theorem w_ripe : about1.ripe theMethod args0 below0 = true := by decide +kernel
theorem w_running : about1.status = .running := rfl
set_option maxRecDepth 65536 in
theorem w_room : about1.hasRoom e0.platform room_1 = true :=
  launch0.hasRoom_least _ room_1 (by decide +kernel) (by decide +kernel) (by decide +kernel) (by decide +kernel) (by decide +kernel) (by decide +kernel)
theorem allAtoms_all (ts : List Jvm.Cond) (a : Array Jvm.Value) (st : Jvm.State) : (allAtoms ts).before a st = ts.all (fun c => c.before a st) := by
  induction ts with
  | nil => rfl
  | cons c t ih =>
    show (Jvm.Cond.and c (allAtoms t)).before a st = _
    rw [Jvm.Cond.before_and, ih, List.all_cons]
def words1 : List Jvm.Cond := Jvm.Cond.code x code maxLocals ret :: tables_1
/-- a 'code' word, met by the world's own term for the bytes: nothing is compared byte by byte -/
theorem code_word {y : MethodName} {bytes : ByteArray} {mx : Nat} {rt : Option FieldType} {a : Array Value} {s : State} {m : MethodId} {meth : Method} {c : Code} (h1 : s.methodNamed? y = some m) (h2 : s.vm.method? m = some meth) (h3 : meth.code = some c) (h4 : c.code = bytes)
    (h5 : (c.maxLocals == mx && c.exceptionTable.isEmpty && decide (c.maxStack ≤ mostOperands) && decide (meth.sig.returnType = rt) && !meth.locks && decide (parseMethodDescriptor y.desc = some meth.sig)) = true) : (Jvm.Cond.code y bytes mx rt).before a s = true := by
  simp only [Bool.and_eq_true, beq_iff_eq, Bool.not_eq_true', decide_eq_true_eq] at h5
  obtain ⟨⟨⟨⟨⟨g1, g2⟩, g3⟩, g4⟩, g5⟩, g6⟩ := h5
  simp [Cond.before, Cond.holds, Cond.value, h1, h2, h3, h4, g1, g2, g3, g4, g5, g6]
def isCode : Jvm.Cond → Bool
  | .code _ _ _ _ => true
  | _ => false
theorem all_split {L : List Jvm.Cond} {P : Jvm.Cond → Bool} (h1 : L.all (fun c => isCode c || P c) = true) (h2 : ∀ c ∈ L.filter isCode, P c = true) : L.all P = true := by
  refine List.all_eq_true.mpr fun c hc => ?_
  have h := List.all_eq_true.mp h1 c hc
  rcases Bool.eq_false_or_eq_true (isCode c) with hi | hi
  · exact h2 c (List.mem_filter.mpr ⟨hc, hi⟩)
  · simpa [hi] using h
set_option maxRecDepth 65536 in
theorem w_c0 : (Jvm.Cond.code x code maxLocals ret).before args0 about1 = true := code_word (m := ⟨1, 10⟩) (meth := k1m10) (c := k1c10) (by decide +kernel) rfl rfl rfl (by decide +kernel)
set_option maxRecDepth 65536 in
theorem w_c1 : (Jvm.Cond.code ({ cls := "com/example/inquiry_to_answer/inquirytoanswer/http/MediaRangeSpecificityForPinLaw", name := "charsetOk", desc := "(I)Z" } : Jvm.MethodName) method_10_code (3 : Nat) (Option.some Jvm.ClassFile.FieldType.boolean)).before args0 about1 = true := code_word (m := ⟨1, 9⟩) (meth := k1m9) (c := k1c9) (by decide +kernel) rfl rfl rfl (by decide +kernel)
set_option maxRecDepth 65536 in
theorem w_c2 : (Jvm.Cond.code ({ cls := "com/example/inquiry_to_answer/inquirytoanswer/http/MediaRangeSpecificityForPinLaw", name := "same", desc := "(II)Z" } : Jvm.MethodName) method_7_code (2 : Nat) (Option.some Jvm.ClassFile.FieldType.boolean)).before args0 about1 = true := code_word (m := ⟨1, 6⟩) (meth := k1m6) (c := k1c6) (by decide +kernel) rfl rfl rfl (by decide +kernel)
set_option maxRecDepth 65536 in
theorem w_c3 : (Jvm.Cond.code ({ cls := "com/example/inquiry_to_answer/inquirytoanswer/http/MediaRangeSpecificityForPinLaw", name := "len", desc := "(I)I" } : Jvm.MethodName) method_5_code (1 : Nat) (Option.some Jvm.ClassFile.FieldType.int)).before args0 about1 = true := code_word (m := ⟨1, 4⟩) (meth := k1m4) (c := k1c4) (by decide +kernel) rfl rfl rfl (by decide +kernel)
set_option maxRecDepth 65536 in
theorem w_c4 : (Jvm.Cond.code ({ cls := "com/example/inquiry_to_answer/inquirytoanswer/http/MediaRangeSpecificityForPinLaw", name := "first", desc := "(I)C" } : Jvm.MethodName) method_3_code (1 : Nat) (Option.some Jvm.ClassFile.FieldType.char)).before args0 about1 = true := code_word (m := ⟨1, 2⟩) (meth := k1m2) (c := k1c2) (by decide +kernel) rfl rfl rfl (by decide +kernel)
set_option maxRecDepth 65536 in
theorem w_c5 : (Jvm.Cond.code ({ cls := "com/example/inquiry_to_answer/inquirytoanswer/http/MediaRangeSpecificityForPinLaw", name := "ch", desc := "(I)C" } : Jvm.MethodName) method_2_code (2 : Nat) (Option.some Jvm.ClassFile.FieldType.char)).before args0 about1 = true := code_word (m := ⟨1, 1⟩) (meth := k1m1) (c := k1c1) (by decide +kernel) rfl rfl rfl (by decide +kernel)
set_option maxRecDepth 65536 in
theorem w_c6 : (Jvm.Cond.code ({ cls := "com/example/inquiry_to_answer/inquirytoanswer/http/MediaRangeSpecificityForPinLaw", name := "star", desc := "(I)Z" } : Jvm.MethodName) method_8_code (1 : Nat) (Option.some Jvm.ClassFile.FieldType.boolean)).before args0 about1 = true := code_word (m := ⟨1, 7⟩) (meth := k1m7) (c := k1c7) (by decide +kernel) rfl rfl rfl (by decide +kernel)
set_option maxRecDepth 65536 in
theorem w_c7 : (Jvm.Cond.code ({ cls := "com/example/inquiry_to_answer/inquirytoanswer/http/MediaRangeSpecificityForPinLaw", name := "str", desc := "(I)Ljava/lang/String;" } : Jvm.MethodName) method_6_code (2 : Nat) (Option.some (Jvm.ClassFile.FieldType.object "java/lang/String"))).before args0 about1 = true := code_word (m := ⟨1, 5⟩) (meth := k1m5) (c := k1c5) (by decide +kernel) rfl rfl rfl (by decide +kernel)
set_option maxRecDepth 65536 in
theorem w_c8 : (Jvm.Cond.code ({ cls := "java/lang/String", name := "valueOf", desc := "(C)Ljava/lang/String;" } : Jvm.MethodName) jdk_42_method_139_code (1 : Nat) (Option.some (Jvm.ClassFile.FieldType.object "java/lang/String"))).before args0 about1 = true := code_word (m := ⟨9, 3⟩) (meth := k9m3) (c := k9c3) (by decide +kernel) rfl rfl rfl (by decide +kernel)
set_option maxRecDepth 65536 in
theorem w_c9 : (Jvm.Cond.code ({ cls := "java/lang/StringLatin1", name := "canEncode", desc := "(C)Z" } : Jvm.MethodName) jdk_43_method_3_code (1 : Nat) (Option.some Jvm.ClassFile.FieldType.boolean)).before args0 about1 = true := code_word (m := ⟨10, 1⟩) (meth := k10m1) (c := k10c1) (by decide +kernel) rfl rfl rfl (by decide +kernel)
set_option maxRecDepth 65536 in
theorem w_c10 : (Jvm.Cond.code ({ cls := "java/lang/StringLatin1", name := "toBytes", desc := "(C)[B" } : Jvm.MethodName) jdk_43_method_46_code (1 : Nat) (Option.some (Jvm.ClassFile.FieldType.array Jvm.ClassFile.FieldType.byte))).before args0 about1 = true := code_word (m := ⟨10, 3⟩) (meth := k10m3) (c := k10c3) (by decide +kernel) rfl rfl rfl (by decide +kernel)
set_option maxRecDepth 65536 in
theorem w_c11 : (Jvm.Cond.code ({ cls := "java/lang/String", name := "<init>", desc := "([BB)V" } : Jvm.MethodName) jdk_42_method_151_code (3 : Nat) (Option.none : Option Jvm.ClassFile.FieldType)).before args0 about1 = true := code_word (m := ⟨9, 5⟩) (meth := k9m5) (c := k9c5) (by decide +kernel) rfl rfl rfl (by decide +kernel)
set_option maxRecDepth 65536 in
theorem w_c12 : (Jvm.Cond.code ({ cls := "java/lang/Object", name := "<init>", desc := "()V" } : Jvm.MethodName) object_method_1_code (1 : Nat) (Option.none : Option Jvm.ClassFile.FieldType)).before args0 about1 = true := code_word (m := ⟨0, 0⟩) (meth := k0m0) (c := k0c0) (by decide +kernel) rfl rfl rfl (by decide +kernel)
set_option maxRecDepth 65536 in
theorem w_c13 : (Jvm.Cond.code ({ cls := "com/example/inquiry_to_answer/inquirytoanswer/http/MediaRangeSpecificityForPinLaw", name := "second", desc := "(I)C" } : Jvm.MethodName) method_4_code (1 : Nat) (Option.some Jvm.ClassFile.FieldType.char)).before args0 about1 = true := code_word (m := ⟨1, 3⟩) (meth := k1m3) (c := k1c3) (by decide +kernel) rfl rfl rfl (by decide +kernel)
set_option maxRecDepth 65536 in
theorem w_c14 : (Jvm.Cond.code ({ cls := "java/lang/String", name := "<init>", desc := "([C)V" } : Jvm.MethodName) jdk_42_method_3_code (2 : Nat) (Option.none : Option Jvm.ClassFile.FieldType)).before args0 about1 = true := code_word (m := ⟨9, 1⟩) (meth := k9m1) (c := k9c1) (by decide +kernel) rfl rfl rfl (by decide +kernel)
set_option maxRecDepth 65536 in
theorem w_c15 : (Jvm.Cond.code ({ cls := "java/lang/String", name := "<init>", desc := "([CIILjava/lang/Void;)V" } : Jvm.MethodName) jdk_42_method_149_code (6 : Nat) (Option.none : Option Jvm.ClassFile.FieldType)).before args0 about1 = true := code_word (m := ⟨9, 4⟩) (meth := k9m4) (c := k9c4) (by decide +kernel) rfl rfl rfl (by decide +kernel)
set_option maxRecDepth 65536 in
theorem w_c16 : (Jvm.Cond.code ({ cls := "java/lang/StringUTF16", name := "compress", desc := "([CII)[B" } : Jvm.MethodName) jdk_52_method_16_code (6 : Nat) (Option.some (Jvm.ClassFile.FieldType.array Jvm.ClassFile.FieldType.byte))).before args0 about1 = true := code_word (m := ⟨11, 2⟩) (meth := k11m2) (c := k11c2) (by decide +kernel) rfl rfl rfl (by decide +kernel)
set_option maxRecDepth 65536 in
theorem w_c17 : (Jvm.Cond.code ({ cls := "java/lang/StringUTF16", name := "compress", desc := "([CI[BII)I" } : Jvm.MethodName) jdk_52_method_21_code (7 : Nat) (Option.some Jvm.ClassFile.FieldType.int)).before args0 about1 = true := code_word (m := ⟨11, 3⟩) (meth := k11m3) (c := k11c3) (by decide +kernel) rfl rfl rfl (by decide +kernel)
set_option maxRecDepth 65536 in
theorem w_c18 : (Jvm.Cond.code ({ cls := "java/lang/StringUTF16", name := "coderFromArrayLen", desc := "([BI)B" } : Jvm.MethodName) jdk_52_method_15_code (2 : Nat) (Option.some Jvm.ClassFile.FieldType.byte)).before args0 about1 = true := code_word (m := ⟨11, 1⟩) (meth := k11m1) (c := k11c1) (by decide +kernel) rfl rfl rfl (by decide +kernel)
set_option maxRecDepth 65536 in
theorem w_c19 : (Jvm.Cond.code ({ cls := "com/example/inquiry_to_answer/inquirytoanswer/http/MediaRangeSpecificityForPinLaw", name := "charset", desc := "(I)Ljava/lang/String;" } : Jvm.MethodName) method_9_code (4 : Nat) (Option.some (Jvm.ClassFile.FieldType.object "java/lang/String"))).before args0 about1 = true := code_word (m := ⟨1, 8⟩) (meth := k1m8) (c := k1c8) (by decide +kernel) rfl rfl rfl (by decide +kernel)
set_option maxRecDepth 65536 in
theorem w_c20 : (Jvm.Cond.code ({ cls := "com/example/inquiry_to_answer/inquirytoanswer/http/MediaRange", name := "<init>", desc := "(Ljava/lang/String;Ljava/lang/String;Ljava/lang/String;I)V" } : Jvm.MethodName) prog_123_method_1_code (5 : Nat) (Option.none : Option Jvm.ClassFile.FieldType)).before args0 about1 = true := code_word (m := ⟨3, 0⟩) (meth := k3m0) (c := k3c0) (by decide +kernel) rfl rfl rfl (by decide +kernel)
set_option maxRecDepth 65536 in
theorem w_c21 : (Jvm.Cond.code ({ cls := "java/lang/Record", name := "<init>", desc := "()V" } : Jvm.MethodName) jdk_30_method_1_code (1 : Nat) (Option.none : Option Jvm.ClassFile.FieldType)).before args0 about1 = true := code_word (m := ⟨2, 0⟩) (meth := k2m0) (c := k2c0) (by decide +kernel) rfl rfl rfl (by decide +kernel)
set_option maxRecDepth 65536 in
theorem w_c22 : (Jvm.Cond.code ({ cls := "com/example/inquiry_to_answer/inquirytoanswer/http/MediaRange", name := "specificityFor", desc := "(Ljava/lang/String;Ljava/lang/String;)I" } : Jvm.MethodName) prog_123_method_6_code (4 : Nat) (Option.some Jvm.ClassFile.FieldType.int)).before args0 about1 = true := code_word (m := ⟨3, 1⟩) (meth := k3m1) (c := k3c1) (by decide +kernel) rfl rfl rfl (by decide +kernel)
set_option maxRecDepth 65536 in
theorem w_c23 : (Jvm.Cond.code ({ cls := "java/lang/String", name := "equals", desc := "(Ljava/lang/Object;)Z" } : Jvm.MethodName) jdk_42_method_66_code (3 : Nat) (Option.some Jvm.ClassFile.FieldType.boolean)).before args0 about1 = true := code_word (m := ⟨9, 2⟩) (meth := k9m2) (c := k9c2) (by decide +kernel) rfl rfl rfl (by decide +kernel)
set_option maxRecDepth 65536 in
theorem w_c24 : (Jvm.Cond.code ({ cls := "java/lang/StringLatin1", name := "equals", desc := "([B[B)Z" } : Jvm.MethodName) jdk_43_method_13_code (3 : Nat) (Option.some Jvm.ClassFile.FieldType.boolean)).before args0 about1 = true := code_word (m := ⟨10, 2⟩) (meth := k10m2) (c := k10c2) (by decide +kernel) rfl rfl rfl (by decide +kernel)
def codes1 : List Jvm.Cond := [Jvm.Cond.code x code maxLocals ret, Jvm.Cond.code ({ cls := "com/example/inquiry_to_answer/inquirytoanswer/http/MediaRangeSpecificityForPinLaw", name := "charsetOk", desc := "(I)Z" } : Jvm.MethodName) method_10_code (3 : Nat) (Option.some Jvm.ClassFile.FieldType.boolean), Jvm.Cond.code ({ cls := "com/example/inquiry_to_answer/inquirytoanswer/http/MediaRangeSpecificityForPinLaw", name := "same", desc := "(II)Z" } : Jvm.MethodName) method_7_code (2 : Nat) (Option.some Jvm.ClassFile.FieldType.boolean), Jvm.Cond.code ({ cls := "com/example/inquiry_to_answer/inquirytoanswer/http/MediaRangeSpecificityForPinLaw", name := "len", desc := "(I)I" } : Jvm.MethodName) method_5_code (1 : Nat) (Option.some Jvm.ClassFile.FieldType.int), Jvm.Cond.code ({ cls := "com/example/inquiry_to_answer/inquirytoanswer/http/MediaRangeSpecificityForPinLaw", name := "first", desc := "(I)C" } : Jvm.MethodName) method_3_code (1 : Nat) (Option.some Jvm.ClassFile.FieldType.char), Jvm.Cond.code ({ cls := "com/example/inquiry_to_answer/inquirytoanswer/http/MediaRangeSpecificityForPinLaw", name := "ch", desc := "(I)C" } : Jvm.MethodName) method_2_code (2 : Nat) (Option.some Jvm.ClassFile.FieldType.char), Jvm.Cond.code ({ cls := "com/example/inquiry_to_answer/inquirytoanswer/http/MediaRangeSpecificityForPinLaw", name := "star", desc := "(I)Z" } : Jvm.MethodName) method_8_code (1 : Nat) (Option.some Jvm.ClassFile.FieldType.boolean), Jvm.Cond.code ({ cls := "com/example/inquiry_to_answer/inquirytoanswer/http/MediaRangeSpecificityForPinLaw", name := "str", desc := "(I)Ljava/lang/String;" } : Jvm.MethodName) method_6_code (2 : Nat) (Option.some (Jvm.ClassFile.FieldType.object "java/lang/String")), Jvm.Cond.code ({ cls := "java/lang/String", name := "valueOf", desc := "(C)Ljava/lang/String;" } : Jvm.MethodName) jdk_42_method_139_code (1 : Nat) (Option.some (Jvm.ClassFile.FieldType.object "java/lang/String")), Jvm.Cond.code ({ cls := "java/lang/StringLatin1", name := "canEncode", desc := "(C)Z" } : Jvm.MethodName) jdk_43_method_3_code (1 : Nat) (Option.some Jvm.ClassFile.FieldType.boolean), Jvm.Cond.code ({ cls := "java/lang/StringLatin1", name := "toBytes", desc := "(C)[B" } : Jvm.MethodName) jdk_43_method_46_code (1 : Nat) (Option.some (Jvm.ClassFile.FieldType.array Jvm.ClassFile.FieldType.byte)), Jvm.Cond.code ({ cls := "java/lang/String", name := "<init>", desc := "([BB)V" } : Jvm.MethodName) jdk_42_method_151_code (3 : Nat) (Option.none : Option Jvm.ClassFile.FieldType), Jvm.Cond.code ({ cls := "java/lang/Object", name := "<init>", desc := "()V" } : Jvm.MethodName) object_method_1_code (1 : Nat) (Option.none : Option Jvm.ClassFile.FieldType), Jvm.Cond.code ({ cls := "com/example/inquiry_to_answer/inquirytoanswer/http/MediaRangeSpecificityForPinLaw", name := "second", desc := "(I)C" } : Jvm.MethodName) method_4_code (1 : Nat) (Option.some Jvm.ClassFile.FieldType.char), Jvm.Cond.code ({ cls := "java/lang/String", name := "<init>", desc := "([C)V" } : Jvm.MethodName) jdk_42_method_3_code (2 : Nat) (Option.none : Option Jvm.ClassFile.FieldType), Jvm.Cond.code ({ cls := "java/lang/String", name := "<init>", desc := "([CIILjava/lang/Void;)V" } : Jvm.MethodName) jdk_42_method_149_code (6 : Nat) (Option.none : Option Jvm.ClassFile.FieldType), Jvm.Cond.code ({ cls := "java/lang/StringUTF16", name := "compress", desc := "([CII)[B" } : Jvm.MethodName) jdk_52_method_16_code (6 : Nat) (Option.some (Jvm.ClassFile.FieldType.array Jvm.ClassFile.FieldType.byte)), Jvm.Cond.code ({ cls := "java/lang/StringUTF16", name := "compress", desc := "([CI[BII)I" } : Jvm.MethodName) jdk_52_method_21_code (7 : Nat) (Option.some Jvm.ClassFile.FieldType.int), Jvm.Cond.code ({ cls := "java/lang/StringUTF16", name := "coderFromArrayLen", desc := "([BI)B" } : Jvm.MethodName) jdk_52_method_15_code (2 : Nat) (Option.some Jvm.ClassFile.FieldType.byte), Jvm.Cond.code ({ cls := "com/example/inquiry_to_answer/inquirytoanswer/http/MediaRangeSpecificityForPinLaw", name := "charset", desc := "(I)Ljava/lang/String;" } : Jvm.MethodName) method_9_code (4 : Nat) (Option.some (Jvm.ClassFile.FieldType.object "java/lang/String")), Jvm.Cond.code ({ cls := "com/example/inquiry_to_answer/inquirytoanswer/http/MediaRange", name := "<init>", desc := "(Ljava/lang/String;Ljava/lang/String;Ljava/lang/String;I)V" } : Jvm.MethodName) prog_123_method_1_code (5 : Nat) (Option.none : Option Jvm.ClassFile.FieldType), Jvm.Cond.code ({ cls := "java/lang/Record", name := "<init>", desc := "()V" } : Jvm.MethodName) jdk_30_method_1_code (1 : Nat) (Option.none : Option Jvm.ClassFile.FieldType), Jvm.Cond.code ({ cls := "com/example/inquiry_to_answer/inquirytoanswer/http/MediaRange", name := "specificityFor", desc := "(Ljava/lang/String;Ljava/lang/String;)I" } : Jvm.MethodName) prog_123_method_6_code (4 : Nat) (Option.some Jvm.ClassFile.FieldType.int), Jvm.Cond.code ({ cls := "java/lang/String", name := "equals", desc := "(Ljava/lang/Object;)Z" } : Jvm.MethodName) jdk_42_method_66_code (3 : Nat) (Option.some Jvm.ClassFile.FieldType.boolean), Jvm.Cond.code ({ cls := "java/lang/StringLatin1", name := "equals", desc := "([B[B)Z" } : Jvm.MethodName) jdk_43_method_13_code (3 : Nat) (Option.some Jvm.ClassFile.FieldType.boolean)]
set_option maxRecDepth 65536 in
theorem codes_eq : words1.filter isCode = codes1 := rfl
theorem w_codes : ∀ c ∈ words1.filter isCode, c.before args0 about1 = true := by
  rw [codes_eq]
  intro c hc
  simp only [codes1, List.mem_cons, List.not_mem_nil, or_false] at hc
  rcases hc with rfl | rfl | rfl | rfl | rfl | rfl | rfl | rfl | rfl | rfl | rfl | rfl | rfl | rfl | rfl | rfl | rfl | rfl | rfl | rfl | rfl | rfl | rfl | rfl | rfl
  · exact w_c0
  · exact w_c1
  · exact w_c2
  · exact w_c3
  · exact w_c4
  · exact w_c5
  · exact w_c6
  · exact w_c7
  · exact w_c8
  · exact w_c9
  · exact w_c10
  · exact w_c11
  · exact w_c12
  · exact w_c13
  · exact w_c14
  · exact w_c15
  · exact w_c16
  · exact w_c17
  · exact w_c18
  · exact w_c19
  · exact w_c20
  · exact w_c21
  · exact w_c22
  · exact w_c23
  · exact w_c24
set_option maxRecDepth 65536 in
theorem w_t1 : (words1.take 24).all (fun c => isCode c || c.before args0 about1) = true := by decide +kernel
set_option maxRecDepth 65536 in
theorem w_t2 : ((words1.drop 24).take 24).all (fun c => isCode c || c.before args0 about1) = true := by decide +kernel
set_option maxRecDepth 65536 in
theorem w_t3 : (((words1.drop 24).drop 24).take 24).all (fun c => isCode c || c.before args0 about1) = true := by decide +kernel
set_option maxRecDepth 65536 in
theorem w_t4 : ((((words1.drop 24).drop 24).drop 24).take 24).all (fun c => isCode c || c.before args0 about1) = true := by decide +kernel
set_option maxRecDepth 65536 in
theorem w_t5 : ((((words1.drop 24).drop 24).drop 24).drop 24).all (fun c => isCode c || c.before args0 about1) = true := by decide +kernel
theorem w_tables : (allAtoms (Jvm.Cond.code x code maxLocals ret :: tables_1)).before args0 about1 = true := by
  rw [allAtoms_all]
  show words1.all (fun c => c.before args0 about1) = true
  refine all_split ?_ w_codes
  rw [← List.take_append_drop 24 words1, List.all_append, w_t1, ← List.take_append_drop 24 (words1.drop 24), List.all_append, w_t2, ← List.take_append_drop 24 ((words1.drop 24).drop 24), List.all_append, w_t3, ← List.take_append_drop 24 (((words1.drop 24).drop 24).drop 24), List.all_append, w_t4, w_t5]
  rfl
set_option maxRecDepth 65536 in
theorem w_rest : rest_1_c.before args0 about1 = true := by decide +kernel
set_option maxRecDepth 65536 in
theorem w_case : (Jvm.Cond.and given_1 narrow_1).before args0 about1 = true := by decide +kernel
set_option maxRecDepth 65536 in
theorem w_consts : constsHeld consts_1 about1 := Jvm.Lit.constsHeldB_iff.mp (by decide +kernel)
theorem w_applies : (headSpec (Jvm.Cond.code x code maxLocals ret :: tables_1) room_1).applies x e0.platform about1 = true :=
  (Spec.applies_iff w_frames).mpr ⟨w_running, w_runnable, w_alone, w_named, w_hears, w_ripe, w_room, w_tables⟩
theorem atStart : AtStart classFile x code maxLocals ret World_1 tables_1 room_1 Calls_1 rest_1 Pre_1 launch0 p0 e0 about1 theMethod args0 below0 :=
  ⟨lists_1, trivial, launch0.admits_env _ _ _, launch0.least_env, fairChoices_fair.cas, fairChoices_fair.clock, w_frames, w_args, w_heap, w_applies, ⟨w_consts, trivial⟩, w_rest, w_case⟩
end start1
theorem witness_1 : WitnessClaimed_1 := ⟨start1.p0, start1.e0, start1.about1, start1.theMethod, start1.args0, start1.below0, start1.atStart⟩
end Jvm.Pilot.@@N@@
