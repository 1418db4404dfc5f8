import JvmDerived
import JvmDerived.Pilot.@@N@@Statement
import JvmDerived.Pilot.@@N@@Code
set_option linter.unusedVariables false
set_option linter.unusedSimpArgs false
namespace Jvm.Pilot.@@N@@
namespace GoKit
open Sem ClassFile Op Lib Jvm.Stand Jvm.Free Jvm.LawKit Jvm.RoadKit
/-- how a walk may end: cold (it may have interned) or not -/
def FinE (w : Bool) (s : State) (o : Outcome) (U : State) (L : List Loc) (k n : Nat) : Prop := (w = true ∧ ReturnedEndW s o U L k n) ∨ (w = false ∧ FrameEnd s o U L k n)
/-- every place of the list lies in a cell made since, or in one of ws -/
def Fw (k : Nat) (ws : List Addr) (L : List Loc) : Prop := ∀ y ∈ L, k ≤ y.base ∨ y.base ∈ ws
theorem Fw.app {k : Nat} {ws : List Addr} {L L' : List Loc} (N : Fw k ws L) (N' : Fw k ws L') : Fw k ws (L ++ L') := fun y hy => (List.mem_append.mp hy).elim (N y) (N' y)
theorem Fw.snoc {k : Nat} {ws : List Addr} {L : List Loc} {a : Addr} {i : Nat} (N : Fw k ws L) (q : k ≤ a ∨ a ∈ ws) : Fw k ws (L ++ [⟨a, i⟩]) := N.app fun y hy => by cases List.mem_singleton.mp hy; exact q
theorem Fw.sub {k k' : Nat} {ws ws' : List Addr} {L : List Loc} (N : Fw k ws L) (hk : k' ≤ k) (q : ∀ x ∈ ws, k' ≤ x ∨ x ∈ ws') : Fw k' ws' L := fun y hy => (N y hy).elim (fun z => Or.inl (Nat.le_trans hk z)) (q _)
theorem Fw.of_fr {k : Nat} {ws : List Addr} {L : List Loc} (N : Fr k L) : Fw k ws L := fun y hy => Or.inl (N y hy)
theorem keep_same {s t : State} {L : List Loc} {k n : Nat} {ws : List Addr} (hs : s.sameButNew t L k n) (N : Fw s.heap.size ws L) : Keep s.heap t.heap ws := by
  obtain ⟨-, h1, -, -, -, h2⟩ := hs
  refine ⟨h1, fun x c hx hn => ?_, fun x c hx => ?_⟩
  · obtain ⟨c', e1, e2, e3, e4⟩ := h2 x c hx
    have hlt := (Array.getElem?_eq_some_iff.mp hx).1
    have e5 : c'.slots = c.slots := Array.ext_getElem? fun i => e4 i fun hm => (N _ hm).elim (fun z => Nat.lt_irrefl _ (Nat.lt_of_lt_of_le hlt z)) hn
    rw [e1, e2, e5]
  · obtain ⟨c', e1, e2, e3, -⟩ := h2 x c hx
    exact ⟨c', e1, by rw [e2], by rw [e2], e3⟩
theorem all_le {k : Nat} {ws : List Addr} (q : ∀ x ∈ ws, k ≤ x) : ∀ x ∈ ws, k ≤ x ∨ x ∈ ([] : List Addr) := fun x hx => Or.inl (q x hx)
/-- what is known of the body -/
def Kit (p : Program) (m : MethodId) (meth : Method) (c : Code) (bytes : ByteArray) (maxL : Nat) (ret : Option FieldType) (nm : String) : Prop :=
  p.tables.exec = Jvm.exec ∧ c.code = bytes ∧ c.maxLocals = maxL ∧ meth.sig.returnType = ret ∧ meth.locks = false ∧ meth.name = nm
/-- from the frame g over the heap h (tables: those of s with vm0) the body comes to an end of which Q holds -/
def Go (p : Program) (l : Launch) (e : Env) (R : Room) (s : State) (m : MethodId) (args : Array Value) (below : List Frame) (meth : Method) (c : Code)
    (Z : State) (k0 : Nat) (ws wF : List Addr) (own : String) (Q : Option Value → Heap → Vm → Prop) (w : Bool) (vm0 : Vm) (h : Heap) (ce sl : Nat) (g : JFrame) : Prop :=
  ∀ (T : State) (locs : List Loc), Stand p l e R (s.setVm vm0) m args below meth c T locs ce sl → T.heap = h → Fw k0 ws locs → s.Since vm0 h.size → Z.Warmed39 vm0 → vm0.findClass own = some m.cls → (w = true ∨ vm0 = s.vm) →
    ∃ (U : State) (o : Outcome), Steps p.tables e below (T.setTop g) U ∧ U.status = .running ∧ Ended U below o ∧ ∃ v L, o = .returned v ∧ (Q v U.heap U.vm ∧ Fw k0 wF L) ∧ FinE w s o U L R.cells R.slots
/-- a contract -/
def Con (l : Launch) (y : MethodName) (bytes : ByteArray) (maxL : Nat) (ret : Option FieldType) (wds : List Jvm.Cond) (rm : Room) (Z : State) (as' : Array Value) (h : Heap) (wF : List Addr) (V : Vm → Prop) (Q : Option Value → Heap → Vm → Prop) (w : Bool) : Prop :=
  MetFree l y (head1 (Jvm.Cond.code y bytes maxL ret :: wds) rm) (fun a U => a = as' ∧ Z.Warmed39 U.vm ∧ U.heap = h ∧ V U.vm) (fun _ _ _ _ _ => True) (fun _ U o U' => ∃ v L, o = .returned v ∧ (Q v U'.heap U'.vm ∧ Fw h.size wF L) ∧ FinE w U o U' L rm.cells rm.slots)
section
variable {p : Program} {l : Launch} {e : Env} {R : Room} {s : State} {m : MethodId} {args : Array Value} {below : List Frame} {meth : Method} {c : Code} {Z : State} {k0 : Nat} {ws wF : List Addr} {own : String} {Q : Option Value → Heap → Vm → Prop} {w : Bool} {vm0 : Vm} {h : Heap} {ce sl : Nat}
  {bytes : ByteArray} {maxL : Nat} {ret : Option FieldType} {nm : String} {Ls : Array Slot} {rest st : List Value} {a0 : Array Value}
theorem Con.intro {y : MethodName} {wds : List Jvm.Cond} {rm : Room} {as' : Array Value} {V : Vm → Prop} (hpn : plainName y.cls = true)
    (hgo : ∀ p e s m below meth c, Kit p m meth c bytes maxL ret y.name → V s.vm → s.heap = h → Go p l e rm s m as' below meth c Z h.size [] wF y.cls Q w s.vm h 0 0 (entryFrame m as' maxL)) :
    Con l y bytes maxL ret wds rm Z as' h wF V Q w := by
  refine MetFree.of_bodySF (plainFor_of_name hpn) hisR ?_
  intro p e s m args below meth c s₁ Bd hml0 hP hK
  obtain ⟨rfl, hZ, hh, hV⟩ := hP
  have hown : s.vm.findClass y.cls = some m.cls := findClass_of_methodNamed Bd.named
  have hnm := (name_of_methodNamed Bd.named Bd.method).1
  have e0 : s₁.heap = h := by rw [← hh, Bd.state]; rfl
  exact hgo p e s m below meth c ⟨Bd.exec, Bd.bytes, hml0, Bd.returns, Bd.notSynchronized, hnm⟩ hV hh s₁ [] (Stand.of_body Bd) e0 (fun _ q => nomatch q) ((State.WarmedH.refl s).since _) hZ hown (Or.inr rfl)
theorem Go.pure {g g' : JFrame} (f : ∀ T t, At T m c below → Steps p.tables e below (T.setTop g') t → Steps p.tables e below (T.setTop g) t) (k : Go p l e R s m args below meth c Z k0 ws wF own Q w vm0 h ce sl g') : Go p l e R s m args below meth c Z k0 ws wF own Q w vm0 h ce sl g :=
  fun T locs X eT N hS hZ ho hw => by
    obtain ⟨U, o, hU, r⟩ := k T locs X eT N hS hZ ho hw
    exact ⟨U, o, f T U X.here hU, r⟩
theorem Go.allow {g : JFrame} (a : Addr) (k : Go p l e R s m args below meth c Z k0 (a :: ws) wF own Q w vm0 h ce sl g) : Go p l e R s m args below meth c Z k0 ws wF own Q w vm0 h ce sl g :=
  fun T locs X eT N hS hZ ho hw => k T locs X eT (fun y hy => (N y hy).imp id (List.mem_cons_of_mem _)) hS hZ ho hw
/-- a step that gives a Stand over the same start, the heap grown -/
theorem Go.step {g g' : JFrame} {h' : Heap} {ce' sl' : Nat} (hgr : h.size ≤ h'.size)
    (f : ∀ T locs, Stand p l e R (s.setVm vm0) m args below meth c T locs ce sl → T.heap = h → Fw k0 ws locs → Z.Warmed39 (s.setVm vm0).vm → (s.setVm vm0).vm.findClass own = some m.cls →
      ∃ T' locs', Stand p l e R (s.setVm vm0) m args below meth c T' locs' ce' sl' ∧ T'.heap = h' ∧ Fw k0 ws locs' ∧ ∀ t, Steps p.tables e below (T'.setTop g') t → Steps p.tables e below (T.setTop g) t)
    (k : Go p l e R s m args below meth c Z k0 ws wF own Q w vm0 h' ce' sl' g') : Go p l e R s m args below meth c Z k0 ws wF own Q w vm0 h ce sl g :=
  fun T locs X eT N hS hZ ho hw => by
    obtain ⟨T', locs', X', eT', N', st⟩ := f T locs X eT N hZ ho
    obtain ⟨U, o, hU, r⟩ := k T' locs' X' eT' N' ⟨hS.1, hS.2.mono hgr⟩ hZ ho hw
    exact ⟨U, o, st U hU, r⟩
/-- the same, the new heap behind an existential -/
theorem Go.stepE {g : JFrame} {ce' sl' : Nat} {D : Heap → JFrame → Prop}
    (f : ∀ T locs, Stand p l e R (s.setVm vm0) m args below meth c T locs ce sl → T.heap = h → Fw k0 ws locs → Z.Warmed39 (s.setVm vm0).vm → (s.setVm vm0).vm.findClass own = some m.cls →
      ∃ T' locs' h' g', Stand p l e R (s.setVm vm0) m args below meth c T' locs' ce' sl' ∧ T'.heap = h' ∧ Fw k0 ws locs' ∧ h.size ≤ h'.size ∧ D h' g' ∧ ∀ t, Steps p.tables e below (T'.setTop g') t → Steps p.tables e below (T.setTop g) t)
    (k : ∀ h' g', D h' g' → Go p l e R s m args below meth c Z k0 ws wF own Q w vm0 h' ce' sl' g') : Go p l e R s m args below meth c Z k0 ws wF own Q w vm0 h ce sl g :=
  fun T locs X eT N hS hZ ho hw => by
    obtain ⟨T', locs', h', g', X', eT', N', hgr, hD, st⟩ := f T locs X eT N hZ ho
    obtain ⟨U, o, hU, r⟩ := k h' g' hD T' locs' X' eT' N' ⟨hS.1, hS.2.mono hgr⟩ hZ ho hw
    exact ⟨U, o, st U hU, r⟩
theorem iloadN (K : Kit p m meth c bytes maxL ret nm) {pc : Nat} {k : Fin 4} {v : Int32} (hd : decode bytes pc = .ok (.iload_n k, 1)) (hl : Ls[k.val]? = some (.val (.int v)))  (k : Go p l e R s m args below meth c Z k0 ws wF own Q w vm0 h ce sl (mkF m (pc + 1) Ls (.int v :: st))) : Go p l e R s m args below meth c Z k0 ws wF own Q w vm0 h ce sl (mkF m (pc) Ls (st)) :=
  Go.pure (fun T t A r => XS.iloadN A K.1 rfl (hb K.2.1 hd) hl  r) k
theorem iload (K : Kit p m meth c bytes maxL ret nm) {pc : Nat} {k : Nat} {v : Int32} (hd : decode bytes pc = .ok (.iload k, 2)) (hl : Ls[k]? = some (.val (.int v)))  (k : Go p l e R s m args below meth c Z k0 ws wF own Q w vm0 h ce sl (mkF m (pc + 2) Ls (.int v :: st))) : Go p l e R s m args below meth c Z k0 ws wF own Q w vm0 h ce sl (mkF m (pc) Ls (st)) :=
  Go.pure (fun T t A r => XS.iload A K.1 rfl (hb K.2.1 hd) hl  r) k
theorem lloadN (K : Kit p m meth c bytes maxL ret nm) {pc : Nat} {k : Fin 4} {v : Int64} (hd : decode bytes pc = .ok (.lload_n k, 1)) (hl : Ls[k.val]? = some (.val (.long v)))  (k : Go p l e R s m args below meth c Z k0 ws wF own Q w vm0 h ce sl (mkF m (pc + 1) Ls (.long v :: st))) : Go p l e R s m args below meth c Z k0 ws wF own Q w vm0 h ce sl (mkF m (pc) Ls (st)) :=
  Go.pure (fun T t A r => XT.lloadN A K.1 rfl (hb K.2.1 hd) hl  r) k
theorem lload (K : Kit p m meth c bytes maxL ret nm) {pc : Nat} {k : Nat} {v : Int64} (hd : decode bytes pc = .ok (.lload k, 2)) (hl : Ls[k]? = some (.val (.long v)))  (k : Go p l e R s m args below meth c Z k0 ws wF own Q w vm0 h ce sl (mkF m (pc + 2) Ls (.long v :: st))) : Go p l e R s m args below meth c Z k0 ws wF own Q w vm0 h ce sl (mkF m (pc) Ls (st)) :=
  Go.pure (fun T t A r => XT.lload A K.1 rfl (hb K.2.1 hd) hl  r) k
theorem aloadN (K : Kit p m meth c bytes maxL ret nm) {pc : Nat} {k : Fin 4} {v : Value} (hd : decode bytes pc = .ok (.aload_n k, 1)) (hl : Ls[k.val]? = some (.val (v))) (hv : v.isRef = true) (k : Go p l e R s m args below meth c Z k0 ws wF own Q w vm0 h ce sl (mkF m (pc + 1) Ls (v :: st))) : Go p l e R s m args below meth c Z k0 ws wF own Q w vm0 h ce sl (mkF m (pc) Ls (st)) :=
  Go.pure (fun T t A r => XS.aloadN A K.1 rfl (hb K.2.1 hd) hl hv r) k
theorem aload (K : Kit p m meth c bytes maxL ret nm) {pc : Nat} {k : Nat} {v : Value} (hd : decode bytes pc = .ok (.aload k, 2)) (hl : Ls[k]? = some (.val (v))) (hv : v.isRef = true) (k : Go p l e R s m args below meth c Z k0 ws wF own Q w vm0 h ce sl (mkF m (pc + 2) Ls (v :: st))) : Go p l e R s m args below meth c Z k0 ws wF own Q w vm0 h ce sl (mkF m (pc) Ls (st)) :=
  Go.pure (fun T t A r => XS.aload A K.1 rfl (hb K.2.1 hd) hl hv r) k
theorem istoreN (K : Kit p m meth c bytes maxL ret nm) {pc : Nat} {k : Fin 4} {v : Int32} {l' : Array Slot} (hd : decode bytes pc = .ok (.istore_n k, 1))  (hl : storeLocals Ls k.val (.int v) = some l') (k : Go p l e R s m args below meth c Z k0 ws wF own Q w vm0 h ce sl (mkF m (pc + 1) l' (st))) : Go p l e R s m args below meth c Z k0 ws wF own Q w vm0 h ce sl (mkF m (pc) Ls (.int v :: st)) :=
  Go.pure (fun T t A r => XS.istoreN A K.1 rfl (hb K.2.1 hd) rfl  hl r) k
theorem istore (K : Kit p m meth c bytes maxL ret nm) {pc : Nat} {k : Nat} {v : Int32} {l' : Array Slot} (hd : decode bytes pc = .ok (.istore k, 2))  (hl : storeLocals Ls k (.int v) = some l') (k : Go p l e R s m args below meth c Z k0 ws wF own Q w vm0 h ce sl (mkF m (pc + 2) l' (st))) : Go p l e R s m args below meth c Z k0 ws wF own Q w vm0 h ce sl (mkF m (pc) Ls (.int v :: st)) :=
  Go.pure (fun T t A r => XS.istore A K.1 rfl (hb K.2.1 hd) rfl  hl r) k
theorem lstoreN (K : Kit p m meth c bytes maxL ret nm) {pc : Nat} {k : Fin 4} {v : Int64} {l' : Array Slot} (hd : decode bytes pc = .ok (.lstore_n k, 1))  (hl : storeLocals Ls k.val (.long v) = some l') (k : Go p l e R s m args below meth c Z k0 ws wF own Q w vm0 h ce sl (mkF m (pc + 1) l' (st))) : Go p l e R s m args below meth c Z k0 ws wF own Q w vm0 h ce sl (mkF m (pc) Ls (.long v :: st)) :=
  Go.pure (fun T t A r => XT.lstoreN A K.1 rfl (hb K.2.1 hd) rfl  hl r) k
theorem lstore (K : Kit p m meth c bytes maxL ret nm) {pc : Nat} {k : Nat} {v : Int64} {l' : Array Slot} (hd : decode bytes pc = .ok (.lstore k, 2))  (hl : storeLocals Ls k (.long v) = some l') (k : Go p l e R s m args below meth c Z k0 ws wF own Q w vm0 h ce sl (mkF m (pc + 2) l' (st))) : Go p l e R s m args below meth c Z k0 ws wF own Q w vm0 h ce sl (mkF m (pc) Ls (.long v :: st)) :=
  Go.pure (fun T t A r => XT.lstore A K.1 rfl (hb K.2.1 hd) rfl  hl r) k
theorem astoreN (K : Kit p m meth c bytes maxL ret nm) {pc : Nat} {k : Fin 4} {v : Value} {l' : Array Slot} (hd : decode bytes pc = .ok (.astore_n k, 1)) (hv : v.isRef = true) (hl : storeLocals Ls k.val (v) = some l') (k : Go p l e R s m args below meth c Z k0 ws wF own Q w vm0 h ce sl (mkF m (pc + 1) l' (st))) : Go p l e R s m args below meth c Z k0 ws wF own Q w vm0 h ce sl (mkF m (pc) Ls (v :: st)) :=
  Go.pure (fun T t A r => XS.astoreN A K.1 rfl (hb K.2.1 hd) rfl hv hl r) k
theorem astore (K : Kit p m meth c bytes maxL ret nm) {pc : Nat} {k : Nat} {v : Value} {l' : Array Slot} (hd : decode bytes pc = .ok (.astore k, 2)) (hv : v.isRef = true) (hl : storeLocals Ls k (v) = some l') (k : Go p l e R s m args below meth c Z k0 ws wF own Q w vm0 h ce sl (mkF m (pc + 2) l' (st))) : Go p l e R s m args below meth c Z k0 ws wF own Q w vm0 h ce sl (mkF m (pc) Ls (v :: st)) :=
  Go.pure (fun T t A r => XS.astore A K.1 rfl (hb K.2.1 hd) rfl hv hl r) k
theorem iconst (K : Kit p m meth c bytes maxL ret nm) {pc : Nat} {i : Int} {x : Int32} (hd : decode bytes pc = .ok (.iconst i, 1)) (hv : Int32.ofInt i = x) (k : Go p l e R s m args below meth c Z k0 ws wF own Q w vm0 h ce sl (mkF m (pc + 1) Ls (.int x :: st))) : Go p l e R s m args below meth c Z k0 ws wF own Q w vm0 h ce sl (mkF m (pc) Ls (st)) :=
  Go.pure (fun T t A r => XS.iconst A K.1 rfl (hb K.2.1 hd) r) (hv ▸ k)
theorem bipush (K : Kit p m meth c bytes maxL ret nm) {pc : Nat} {i : Int} {x : Int32} (hd : decode bytes pc = .ok (.bipush i, 2)) (hv : (Int8.ofInt i).toInt32 = x) (k : Go p l e R s m args below meth c Z k0 ws wF own Q w vm0 h ce sl (mkF m (pc + 2) Ls (.int x :: st))) : Go p l e R s m args below meth c Z k0 ws wF own Q w vm0 h ce sl (mkF m (pc) Ls (st)) :=
  Go.pure (fun T t A r => XS.bipush A K.1 rfl (hb K.2.1 hd) r) (hv ▸ k)
theorem sipush (K : Kit p m meth c bytes maxL ret nm) {pc : Nat} {i : Int} {x : Int32} (hd : decode bytes pc = .ok (.sipush i, 3)) (hv : (Int16.ofInt i).toInt32 = x) (k : Go p l e R s m args below meth c Z k0 ws wF own Q w vm0 h ce sl (mkF m (pc + 3) Ls (.int x :: st))) : Go p l e R s m args below meth c Z k0 ws wF own Q w vm0 h ce sl (mkF m (pc) Ls (st)) :=
  Go.pure (fun T t A r => XS.sipush A K.1 rfl (hb K.2.1 hd) r) (hv ▸ k)
theorem lconst (K : Kit p m meth c bytes maxL ret nm) {pc : Nat} {i : Fin 2} {x : Int64} (hd : decode bytes pc = .ok (.lconst i, 1)) (hv : Int64.ofNat i = x) (k : Go p l e R s m args below meth c Z k0 ws wF own Q w vm0 h ce sl (mkF m (pc + 1) Ls (.long x :: st))) : Go p l e R s m args below meth c Z k0 ws wF own Q w vm0 h ce sl (mkF m (pc) Ls (st)) :=
  Go.pure (fun T t A r => XT.lconst A K.1 rfl (hb K.2.1 hd) r) (hv ▸ k)
theorem aconstNull (K : Kit p m meth c bytes maxL ret nm) {pc : Nat}  (hd : decode bytes pc = .ok (.aconst_null, 1))  (k : Go p l e R s m args below meth c Z k0 ws wF own Q w vm0 h ce sl (mkF m (pc + 1) Ls (.null :: st))) : Go p l e R s m args below meth c Z k0 ws wF own Q w vm0 h ce sl (mkF m (pc) Ls (st)) :=
  Go.pure (fun T t A r => XS.aconstNull A K.1 rfl (hb K.2.1 hd)   r) k
theorem iadd (K : Kit p m meth c bytes maxL ret nm) {pc : Nat} {x y : Int32} (hd : decode bytes pc = .ok (.iadd, 1))  (k : Go p l e R s m args below meth c Z k0 ws wF own Q w vm0 h ce sl (mkF m (pc + 1) Ls (.int (x + y) :: rest))) : Go p l e R s m args below meth c Z k0 ws wF own Q w vm0 h ce sl (mkF m (pc) Ls (.int y :: .int x :: rest)) :=
  Go.pure (fun T t A r => XS.iadd A K.1 rfl (hb K.2.1 hd) rfl  r) k
theorem isub (K : Kit p m meth c bytes maxL ret nm) {pc : Nat} {x y : Int32} (hd : decode bytes pc = .ok (.isub, 1))  (k : Go p l e R s m args below meth c Z k0 ws wF own Q w vm0 h ce sl (mkF m (pc + 1) Ls (.int (x - y) :: rest))) : Go p l e R s m args below meth c Z k0 ws wF own Q w vm0 h ce sl (mkF m (pc) Ls (.int y :: .int x :: rest)) :=
  Go.pure (fun T t A r => XS.isub A K.1 rfl (hb K.2.1 hd) rfl  r) k
theorem iand (K : Kit p m meth c bytes maxL ret nm) {pc : Nat} {x y : Int32} (hd : decode bytes pc = .ok (.iand, 1))  (k : Go p l e R s m args below meth c Z k0 ws wF own Q w vm0 h ce sl (mkF m (pc + 1) Ls (.int (x &&& y) :: rest))) : Go p l e R s m args below meth c Z k0 ws wF own Q w vm0 h ce sl (mkF m (pc) Ls (.int y :: .int x :: rest)) :=
  Go.pure (fun T t A r => XS.iand A K.1 rfl (hb K.2.1 hd) rfl  r) k
theorem imul (K : Kit p m meth c bytes maxL ret nm) {pc : Nat} {x y : Int32} (hd : decode bytes pc = .ok (.imul, 1))  (k : Go p l e R s m args below meth c Z k0 ws wF own Q w vm0 h ce sl (mkF m (pc + 1) Ls (.int (x * y) :: rest))) : Go p l e R s m args below meth c Z k0 ws wF own Q w vm0 h ce sl (mkF m (pc) Ls (.int y :: .int x :: rest)) :=
  Go.pure (fun T t A r => XS.imul A K.1 rfl (hb K.2.1 hd) rfl  r) k
theorem idiv (K : Kit p m meth c bytes maxL ret nm) {pc : Nat} {x y : Int32} (hd : decode bytes pc = .ok (.idiv, 1)) (hy : y ≠ 0) (k : Go p l e R s m args below meth c Z k0 ws wF own Q w vm0 h ce sl (mkF m (pc + 1) Ls (.int (x / y) :: rest))) : Go p l e R s m args below meth c Z k0 ws wF own Q w vm0 h ce sl (mkF m (pc) Ls (.int y :: .int x :: rest)) :=
  Go.pure (fun T t A r => XS.idiv A K.1 rfl (hb K.2.1 hd) rfl hy r) k
theorem ixor (K : Kit p m meth c bytes maxL ret nm) {pc : Nat} {x y : Int32} (hd : decode bytes pc = .ok (.ixor, 1))  (k : Go p l e R s m args below meth c Z k0 ws wF own Q w vm0 h ce sl (mkF m (pc + 1) Ls (.int (x ^^^ y) :: rest))) : Go p l e R s m args below meth c Z k0 ws wF own Q w vm0 h ce sl (mkF m (pc) Ls (.int y :: .int x :: rest)) :=
  Go.pure (fun T t A r => XT.ixor A K.1 rfl (hb K.2.1 hd) rfl  r) k
theorem ior (K : Kit p m meth c bytes maxL ret nm) {pc : Nat} {x y : Int32} (hd : decode bytes pc = .ok (.ior, 1))  (k : Go p l e R s m args below meth c Z k0 ws wF own Q w vm0 h ce sl (mkF m (pc + 1) Ls (.int (x ||| y) :: rest))) : Go p l e R s m args below meth c Z k0 ws wF own Q w vm0 h ce sl (mkF m (pc) Ls (.int y :: .int x :: rest)) :=
  Go.pure (fun T t A r => XT.ior A K.1 rfl (hb K.2.1 hd) rfl  r) k
theorem ishl (K : Kit p m meth c bytes maxL ret nm) {pc : Nat} {x y : Int32} (hd : decode bytes pc = .ok (.ishl, 1))  (k : Go p l e R s m args below meth c Z k0 ws wF own Q w vm0 h ce sl (mkF m (pc + 1) Ls (.int (x <<< (y &&& 31)) :: rest))) : Go p l e R s m args below meth c Z k0 ws wF own Q w vm0 h ce sl (mkF m (pc) Ls (.int y :: .int x :: rest)) :=
  Go.pure (fun T t A r => XT.ishl A K.1 rfl (hb K.2.1 hd) rfl  r) k
theorem ishr (K : Kit p m meth c bytes maxL ret nm) {pc : Nat} {x y : Int32} (hd : decode bytes pc = .ok (.ishr, 1))  (k : Go p l e R s m args below meth c Z k0 ws wF own Q w vm0 h ce sl (mkF m (pc + 1) Ls (.int (x >>> (y &&& 31)) :: rest))) : Go p l e R s m args below meth c Z k0 ws wF own Q w vm0 h ce sl (mkF m (pc) Ls (.int y :: .int x :: rest)) :=
  Go.pure (fun T t A r => XT.ishr A K.1 rfl (hb K.2.1 hd) rfl  r) k
theorem iushr (K : Kit p m meth c bytes maxL ret nm) {pc : Nat} {x y : Int32} (hd : decode bytes pc = .ok (.iushr, 1))  (k : Go p l e R s m args below meth c Z k0 ws wF own Q w vm0 h ce sl (mkF m (pc + 1) Ls (.int (XT.ushr x y) :: rest))) : Go p l e R s m args below meth c Z k0 ws wF own Q w vm0 h ce sl (mkF m (pc) Ls (.int y :: .int x :: rest)) :=
  Go.pure (fun T t A r => XT.iushr A K.1 rfl (hb K.2.1 hd) rfl  r) k
theorem irem (K : Kit p m meth c bytes maxL ret nm) {pc : Nat} {x y : Int32} (hd : decode bytes pc = .ok (.irem, 1)) (hy : y ≠ 0) (k : Go p l e R s m args below meth c Z k0 ws wF own Q w vm0 h ce sl (mkF m (pc + 1) Ls (.int (x % y) :: rest))) : Go p l e R s m args below meth c Z k0 ws wF own Q w vm0 h ce sl (mkF m (pc) Ls (.int y :: .int x :: rest)) :=
  fun T locs X eT N hS hZ ho hw => by
    obtain ⟨U, o, hU, r⟩ := k T locs X eT N hS hZ ho hw
    exact ⟨U, o, iremM X K.1 rfl (hb K.2.1 hd) rfl hy hU, r⟩
theorem ineg (K : Kit p m meth c bytes maxL ret nm) {pc : Nat} {x : Int32} (hd : decode bytes pc = .ok (.ineg, 1))  (k : Go p l e R s m args below meth c Z k0 ws wF own Q w vm0 h ce sl (mkF m (pc + 1) Ls (.int (-x) :: rest))) : Go p l e R s m args below meth c Z k0 ws wF own Q w vm0 h ce sl (mkF m (pc) Ls (.int x :: rest)) :=
  Go.pure (fun T t A r => XS.ineg A K.1 rfl (hb K.2.1 hd) rfl  r) k
theorem ladd (K : Kit p m meth c bytes maxL ret nm) {pc : Nat} {x y : Int64} (hd : decode bytes pc = .ok (.ladd, 1))  (k : Go p l e R s m args below meth c Z k0 ws wF own Q w vm0 h ce sl (mkF m (pc + 1) Ls (.long (x + y) :: rest))) : Go p l e R s m args below meth c Z k0 ws wF own Q w vm0 h ce sl (mkF m (pc) Ls (.long y :: .long x :: rest)) :=
  Go.pure (fun T t A r => XT.ladd A K.1 rfl (hb K.2.1 hd) rfl  r) k
theorem lsub (K : Kit p m meth c bytes maxL ret nm) {pc : Nat} {x y : Int64} (hd : decode bytes pc = .ok (.lsub, 1))  (k : Go p l e R s m args below meth c Z k0 ws wF own Q w vm0 h ce sl (mkF m (pc + 1) Ls (.long (x - y) :: rest))) : Go p l e R s m args below meth c Z k0 ws wF own Q w vm0 h ce sl (mkF m (pc) Ls (.long y :: .long x :: rest)) :=
  Go.pure (fun T t A r => XT.lsub A K.1 rfl (hb K.2.1 hd) rfl  r) k
theorem lmul (K : Kit p m meth c bytes maxL ret nm) {pc : Nat} {x y : Int64} (hd : decode bytes pc = .ok (.lmul, 1))  (k : Go p l e R s m args below meth c Z k0 ws wF own Q w vm0 h ce sl (mkF m (pc + 1) Ls (.long (x * y) :: rest))) : Go p l e R s m args below meth c Z k0 ws wF own Q w vm0 h ce sl (mkF m (pc) Ls (.long y :: .long x :: rest)) :=
  Go.pure (fun T t A r => XT.lmul A K.1 rfl (hb K.2.1 hd) rfl  r) k
theorem land (K : Kit p m meth c bytes maxL ret nm) {pc : Nat} {x y : Int64} (hd : decode bytes pc = .ok (.land, 1))  (k : Go p l e R s m args below meth c Z k0 ws wF own Q w vm0 h ce sl (mkF m (pc + 1) Ls (.long (x &&& y) :: rest))) : Go p l e R s m args below meth c Z k0 ws wF own Q w vm0 h ce sl (mkF m (pc) Ls (.long y :: .long x :: rest)) :=
  Go.pure (fun T t A r => XT.land A K.1 rfl (hb K.2.1 hd) rfl  r) k
theorem lor (K : Kit p m meth c bytes maxL ret nm) {pc : Nat} {x y : Int64} (hd : decode bytes pc = .ok (.lor, 1))  (k : Go p l e R s m args below meth c Z k0 ws wF own Q w vm0 h ce sl (mkF m (pc + 1) Ls (.long (x ||| y) :: rest))) : Go p l e R s m args below meth c Z k0 ws wF own Q w vm0 h ce sl (mkF m (pc) Ls (.long y :: .long x :: rest)) :=
  Go.pure (fun T t A r => XT.lor A K.1 rfl (hb K.2.1 hd) rfl  r) k
theorem lxor (K : Kit p m meth c bytes maxL ret nm) {pc : Nat} {x y : Int64} (hd : decode bytes pc = .ok (.lxor, 1))  (k : Go p l e R s m args below meth c Z k0 ws wF own Q w vm0 h ce sl (mkF m (pc + 1) Ls (.long (x ^^^ y) :: rest))) : Go p l e R s m args below meth c Z k0 ws wF own Q w vm0 h ce sl (mkF m (pc) Ls (.long y :: .long x :: rest)) :=
  Go.pure (fun T t A r => XT.lxor A K.1 rfl (hb K.2.1 hd) rfl  r) k
theorem lrem (K : Kit p m meth c bytes maxL ret nm) {pc : Nat} {x y : Int64} (hd : decode bytes pc = .ok (.lrem, 1)) (hy : y ≠ 0) (k : Go p l e R s m args below meth c Z k0 ws wF own Q w vm0 h ce sl (mkF m (pc + 1) Ls (.long (x - (x / y) * y) :: rest))) : Go p l e R s m args below meth c Z k0 ws wF own Q w vm0 h ce sl (mkF m (pc) Ls (.long y :: .long x :: rest)) :=
  Go.pure (fun T t A r => XT.lrem A K.1 rfl (hb K.2.1 hd) rfl hy r) k
theorem lcmp (K : Kit p m meth c bytes maxL ret nm) {pc : Nat} {x y : Int64} (hd : decode bytes pc = .ok (.lcmp, 1))  (k : Go p l e R s m args below meth c Z k0 ws wF own Q w vm0 h ce sl (mkF m (pc + 1) Ls (.int (XT.cmpL x y) :: rest))) : Go p l e R s m args below meth c Z k0 ws wF own Q w vm0 h ce sl (mkF m (pc) Ls (.long y :: .long x :: rest)) :=
  Go.pure (fun T t A r => XT.lcmp A K.1 rfl (hb K.2.1 hd) rfl  r) k
theorem i2l (K : Kit p m meth c bytes maxL ret nm) {pc : Nat} {x : Int32} (hd : decode bytes pc = .ok (.i2l, 1))  (k : Go p l e R s m args below meth c Z k0 ws wF own Q w vm0 h ce sl (mkF m (pc + 1) Ls (.long x.toInt64 :: rest))) : Go p l e R s m args below meth c Z k0 ws wF own Q w vm0 h ce sl (mkF m (pc) Ls (.int x :: rest)) :=
  Go.pure (fun T t A r => XT.i2l A K.1 rfl (hb K.2.1 hd) rfl  r) k
theorem l2i (K : Kit p m meth c bytes maxL ret nm) {pc : Nat} {x : Int64} (hd : decode bytes pc = .ok (.l2i, 1))  (k : Go p l e R s m args below meth c Z k0 ws wF own Q w vm0 h ce sl (mkF m (pc + 1) Ls (.int x.toInt32 :: rest))) : Go p l e R s m args below meth c Z k0 ws wF own Q w vm0 h ce sl (mkF m (pc) Ls (.long x :: rest)) :=
  Go.pure (fun T t A r => XT.l2i A K.1 rfl (hb K.2.1 hd) rfl  r) k
theorem i2b (K : Kit p m meth c bytes maxL ret nm) {pc : Nat} {x : Int32} (hd : decode bytes pc = .ok (.i2b, 1))  (k : Go p l e R s m args below meth c Z k0 ws wF own Q w vm0 h ce sl (mkF m (pc + 1) Ls (.int x.toInt8.toInt32 :: rest))) : Go p l e R s m args below meth c Z k0 ws wF own Q w vm0 h ce sl (mkF m (pc) Ls (.int x :: rest)) :=
  Go.pure (fun T t A r => XT.i2b A K.1 rfl (hb K.2.1 hd) rfl  r) k
theorem i2c (K : Kit p m meth c bytes maxL ret nm) {pc : Nat} {x : Int32} (hd : decode bytes pc = .ok (.i2c, 1))  (k : Go p l e R s m args below meth c Z k0 ws wF own Q w vm0 h ce sl (mkF m (pc + 1) Ls (.int x.toUInt32.toUInt16.toUInt32.toInt32 :: rest))) : Go p l e R s m args below meth c Z k0 ws wF own Q w vm0 h ce sl (mkF m (pc) Ls (.int x :: rest)) :=
  Go.pure (fun T t A r => XT.i2c A K.1 rfl (hb K.2.1 hd) rfl  r) k
theorem dup (K : Kit p m meth c bytes maxL ret nm) {pc : Nat} {x : Value} (hd : decode bytes pc = .ok (.dup, 1)) (hc : x.category = 1) (k : Go p l e R s m args below meth c Z k0 ws wF own Q w vm0 h ce sl (mkF m (pc + 1) Ls (x :: x :: rest))) : Go p l e R s m args below meth c Z k0 ws wF own Q w vm0 h ce sl (mkF m (pc) Ls (x :: rest)) :=
  Go.pure (fun T t A r => XS.dup A K.1 rfl (hb K.2.1 hd) rfl hc r) k
theorem pop (K : Kit p m meth c bytes maxL ret nm) {pc : Nat} {x : Value} (hd : decode bytes pc = .ok (.pop, 1)) (hc : x.category = 1) (k : Go p l e R s m args below meth c Z k0 ws wF own Q w vm0 h ce sl (mkF m (pc + 1) Ls (rest))) : Go p l e R s m args below meth c Z k0 ws wF own Q w vm0 h ce sl (mkF m (pc) Ls (x :: rest)) :=
  Go.pure (fun T t A r => XT.pop A K.1 rfl (hb K.2.1 hd) rfl hc r) k
theorem dupX1 (K : Kit p m meth c bytes maxL ret nm) {pc : Nat} {x y : Value} (hd : decode bytes pc = .ok (.dup_x1, 1)) (hc : x.category = 1) (hc' : y.category = 1) (k : Go p l e R s m args below meth c Z k0 ws wF own Q w vm0 h ce sl (mkF m (pc + 1) Ls (x :: y :: x :: rest))) : Go p l e R s m args below meth c Z k0 ws wF own Q w vm0 h ce sl (mkF m (pc) Ls (x :: y :: rest)) :=
  Go.pure (fun T t A r => XT.dupX1 A K.1 rfl (hb K.2.1 hd) rfl hc hc' r) k
theorem dup2 (K : Kit p m meth c bytes maxL ret nm) {pc : Nat} {x y : Value} (hd : decode bytes pc = .ok (.dup2, 1)) (hc : x.category = 1) (hc' : y.category = 1) (k : Go p l e R s m args below meth c Z k0 ws wF own Q w vm0 h ce sl (mkF m (pc + 1) Ls (x :: y :: x :: y :: rest))) : Go p l e R s m args below meth c Z k0 ws wF own Q w vm0 h ce sl (mkF m (pc) Ls (x :: y :: rest)) :=
  Go.pure (fun T t A r => XT.dup2 A K.1 rfl (hb K.2.1 hd) rfl hc hc' r) k
theorem iinc (K : Kit p m meth c bytes maxL ret nm) {pc : Nat} {k : Nat} {cst : Int} {x y : Int32} {l' : Array Slot} (hd : decode bytes pc = .ok (.iinc k cst, 3)) (hl : Ls[k]? = some (.val (.int x))) (hv : x + Int32.ofInt cst = y) (hl' : storeLocals Ls k (.int y) = some l') (k : Go p l e R s m args below meth c Z k0 ws wF own Q w vm0 h ce sl (mkF m (pc + 3) l' (st))) : Go p l e R s m args below meth c Z k0 ws wF own Q w vm0 h ce sl (mkF m (pc) Ls (st)) :=
  Go.pure (fun T t A r => XS.iinc A K.1 rfl (hb K.2.1 hd) hl (hv ▸ hl') r) k
theorem goto (K : Kit p m meth c bytes maxL ret nm) {pc pc' : Nat} {o : Int} (hd : decode bytes pc = .ok (.goto o, 3)) (hp : 0 ≤ (pc : Int) + o ∧ ((pc : Int) + o).toNat = pc') (k : Go p l e R s m args below meth c Z k0 ws wF own Q w vm0 h ce sl (mkF m (pc') Ls (st))) : Go p l e R s m args below meth c Z k0 ws wF own Q w vm0 h ce sl (mkF m (pc) Ls (st)) :=
  Go.pure (fun T t A r => XS.goto A K.1 rfl rfl (hb K.2.1 hd) hp.1 hp.2 r) k
theorem icmp_eq_y (K : Kit p m meth c bytes maxL ret nm) {pc pc' : Nat} {o : Int} {x y : Int32} (hd : decode bytes pc = .ok (.if_icmp .eq o, 3)) (hp : 0 ≤ (pc : Int) + o ∧ ((pc : Int) + o).toNat = pc') (q : x = y) (k : Go p l e R s m args below meth c Z k0 ws wF own Q w vm0 h ce sl (mkF m (pc') Ls (rest))) : Go p l e R s m args below meth c Z k0 ws wF own Q w vm0 h ce sl (mkF m (pc) Ls (.int y :: .int x :: rest)) :=
  Go.pure (fun T t A r => XS.icmpYes A K.1 rfl rfl (hb K.2.1 hd) rfl (teq q).1 hp.1 hp.2 r) k
theorem icmp_eq_n (K : Kit p m meth c bytes maxL ret nm) {pc : Nat} {o : Int} {x y : Int32} (hd : decode bytes pc = .ok (.if_icmp .eq o, 3)) (q : ¬ x = y) (k : Go p l e R s m args below meth c Z k0 ws wF own Q w vm0 h ce sl (mkF m (pc + 3) Ls (rest))) : Go p l e R s m args below meth c Z k0 ws wF own Q w vm0 h ce sl (mkF m (pc) Ls (.int y :: .int x :: rest)) :=
  Go.pure (fun T t A r => XS.icmpNo A K.1 rfl (hb K.2.1 hd) rfl (feq q).1 r) k
theorem icmp_eq (K : Kit p m meth c bytes maxL ret nm) {pc pc' : Nat} {o : Int} {x y : Int32} (hd : decode bytes pc = .ok (.if_icmp .eq o, 3)) (hp : 0 ≤ (pc : Int) + o ∧ ((pc : Int) + o).toNat = pc') (k1 : x = y → Go p l e R s m args below meth c Z k0 ws wF own Q w vm0 h ce sl (mkF m (pc') Ls (rest))) (k2 : ¬ x = y → Go p l e R s m args below meth c Z k0 ws wF own Q w vm0 h ce sl (mkF m (pc + 3) Ls (rest))) : Go p l e R s m args below meth c Z k0 ws wF own Q w vm0 h ce sl (mkF m (pc) Ls (.int y :: .int x :: rest)) :=
  (Classical.em (x = y)).elim (fun q => icmp_eq_y K hd hp q (k1 q)) (fun q => icmp_eq_n K hd (by first | exact q | exact Classical.not_not.mp q) (k2 (by first | exact q | exact Classical.not_not.mp q)))
theorem if_eq_y (K : Kit p m meth c bytes maxL ret nm) {pc pc' : Nat} {o : Int} {x : Int32} (hd : decode bytes pc = .ok (.ifCond .eq o, 3)) (hp : 0 ≤ (pc : Int) + o ∧ ((pc : Int) + o).toNat = pc') (q : x = (0 : Int32)) (k : Go p l e R s m args below meth c Z k0 ws wF own Q w vm0 h ce sl (mkF m (pc') Ls (rest))) : Go p l e R s m args below meth c Z k0 ws wF own Q w vm0 h ce sl (mkF m (pc) Ls (.int x :: rest)) :=
  Go.pure (fun T t A r => XS.ifYes A K.1 rfl rfl (hb K.2.1 hd) rfl ((if0 _ _).trans (teq q).1) hp.1 hp.2 r) k
theorem if_eq_n (K : Kit p m meth c bytes maxL ret nm) {pc : Nat} {o : Int} {x : Int32} (hd : decode bytes pc = .ok (.ifCond .eq o, 3)) (q : ¬ x = (0 : Int32)) (k : Go p l e R s m args below meth c Z k0 ws wF own Q w vm0 h ce sl (mkF m (pc + 3) Ls (rest))) : Go p l e R s m args below meth c Z k0 ws wF own Q w vm0 h ce sl (mkF m (pc) Ls (.int x :: rest)) :=
  Go.pure (fun T t A r => XS.ifNo A K.1 rfl (hb K.2.1 hd) rfl ((if0 _ _).trans (feq q).1) r) k
theorem if_eq (K : Kit p m meth c bytes maxL ret nm) {pc pc' : Nat} {o : Int} {x : Int32} (hd : decode bytes pc = .ok (.ifCond .eq o, 3)) (hp : 0 ≤ (pc : Int) + o ∧ ((pc : Int) + o).toNat = pc') (k1 : x = (0 : Int32) → Go p l e R s m args below meth c Z k0 ws wF own Q w vm0 h ce sl (mkF m (pc') Ls (rest))) (k2 : ¬ x = (0 : Int32) → Go p l e R s m args below meth c Z k0 ws wF own Q w vm0 h ce sl (mkF m (pc + 3) Ls (rest))) : Go p l e R s m args below meth c Z k0 ws wF own Q w vm0 h ce sl (mkF m (pc) Ls (.int x :: rest)) :=
  (Classical.em (x = (0 : Int32))).elim (fun q => if_eq_y K hd hp q (k1 q)) (fun q => if_eq_n K hd (by first | exact q | exact Classical.not_not.mp q) (k2 (by first | exact q | exact Classical.not_not.mp q)))
theorem icmp_ne_y (K : Kit p m meth c bytes maxL ret nm) {pc pc' : Nat} {o : Int} {x y : Int32} (hd : decode bytes pc = .ok (.if_icmp .ne o, 3)) (hp : 0 ≤ (pc : Int) + o ∧ ((pc : Int) + o).toNat = pc') (q : ¬ x = y) (k : Go p l e R s m args below meth c Z k0 ws wF own Q w vm0 h ce sl (mkF m (pc') Ls (rest))) : Go p l e R s m args below meth c Z k0 ws wF own Q w vm0 h ce sl (mkF m (pc) Ls (.int y :: .int x :: rest)) :=
  Go.pure (fun T t A r => XS.icmpYes A K.1 rfl rfl (hb K.2.1 hd) rfl (feq q).2 hp.1 hp.2 r) k
theorem icmp_ne_n (K : Kit p m meth c bytes maxL ret nm) {pc : Nat} {o : Int} {x y : Int32} (hd : decode bytes pc = .ok (.if_icmp .ne o, 3)) (q : x = y) (k : Go p l e R s m args below meth c Z k0 ws wF own Q w vm0 h ce sl (mkF m (pc + 3) Ls (rest))) : Go p l e R s m args below meth c Z k0 ws wF own Q w vm0 h ce sl (mkF m (pc) Ls (.int y :: .int x :: rest)) :=
  Go.pure (fun T t A r => XS.icmpNo A K.1 rfl (hb K.2.1 hd) rfl (teq q).2 r) k
theorem icmp_ne (K : Kit p m meth c bytes maxL ret nm) {pc pc' : Nat} {o : Int} {x y : Int32} (hd : decode bytes pc = .ok (.if_icmp .ne o, 3)) (hp : 0 ≤ (pc : Int) + o ∧ ((pc : Int) + o).toNat = pc') (k1 : ¬ x = y → Go p l e R s m args below meth c Z k0 ws wF own Q w vm0 h ce sl (mkF m (pc') Ls (rest))) (k2 : x = y → Go p l e R s m args below meth c Z k0 ws wF own Q w vm0 h ce sl (mkF m (pc + 3) Ls (rest))) : Go p l e R s m args below meth c Z k0 ws wF own Q w vm0 h ce sl (mkF m (pc) Ls (.int y :: .int x :: rest)) :=
  (Classical.em (¬ x = y)).elim (fun q => icmp_ne_y K hd hp q (k1 q)) (fun q => icmp_ne_n K hd (by first | exact q | exact Classical.not_not.mp q) (k2 (by first | exact q | exact Classical.not_not.mp q)))
theorem if_ne_y (K : Kit p m meth c bytes maxL ret nm) {pc pc' : Nat} {o : Int} {x : Int32} (hd : decode bytes pc = .ok (.ifCond .ne o, 3)) (hp : 0 ≤ (pc : Int) + o ∧ ((pc : Int) + o).toNat = pc') (q : ¬ x = (0 : Int32)) (k : Go p l e R s m args below meth c Z k0 ws wF own Q w vm0 h ce sl (mkF m (pc') Ls (rest))) : Go p l e R s m args below meth c Z k0 ws wF own Q w vm0 h ce sl (mkF m (pc) Ls (.int x :: rest)) :=
  Go.pure (fun T t A r => XS.ifYes A K.1 rfl rfl (hb K.2.1 hd) rfl ((if0 _ _).trans (feq q).2) hp.1 hp.2 r) k
theorem if_ne_n (K : Kit p m meth c bytes maxL ret nm) {pc : Nat} {o : Int} {x : Int32} (hd : decode bytes pc = .ok (.ifCond .ne o, 3)) (q : x = (0 : Int32)) (k : Go p l e R s m args below meth c Z k0 ws wF own Q w vm0 h ce sl (mkF m (pc + 3) Ls (rest))) : Go p l e R s m args below meth c Z k0 ws wF own Q w vm0 h ce sl (mkF m (pc) Ls (.int x :: rest)) :=
  Go.pure (fun T t A r => XS.ifNo A K.1 rfl (hb K.2.1 hd) rfl ((if0 _ _).trans (teq q).2) r) k
theorem if_ne (K : Kit p m meth c bytes maxL ret nm) {pc pc' : Nat} {o : Int} {x : Int32} (hd : decode bytes pc = .ok (.ifCond .ne o, 3)) (hp : 0 ≤ (pc : Int) + o ∧ ((pc : Int) + o).toNat = pc') (k1 : ¬ x = (0 : Int32) → Go p l e R s m args below meth c Z k0 ws wF own Q w vm0 h ce sl (mkF m (pc') Ls (rest))) (k2 : x = (0 : Int32) → Go p l e R s m args below meth c Z k0 ws wF own Q w vm0 h ce sl (mkF m (pc + 3) Ls (rest))) : Go p l e R s m args below meth c Z k0 ws wF own Q w vm0 h ce sl (mkF m (pc) Ls (.int x :: rest)) :=
  (Classical.em (¬ x = (0 : Int32))).elim (fun q => if_ne_y K hd hp q (k1 q)) (fun q => if_ne_n K hd (by first | exact q | exact Classical.not_not.mp q) (k2 (by first | exact q | exact Classical.not_not.mp q)))
theorem icmp_lt_y (K : Kit p m meth c bytes maxL ret nm) {pc pc' : Nat} {o : Int} {x y : Int32} (hd : decode bytes pc = .ok (.if_icmp .lt o, 3)) (hp : 0 ≤ (pc : Int) + o ∧ ((pc : Int) + o).toNat = pc') (q : x < y) (k : Go p l e R s m args below meth c Z k0 ws wF own Q w vm0 h ce sl (mkF m (pc') Ls (rest))) : Go p l e R s m args below meth c Z k0 ws wF own Q w vm0 h ce sl (mkF m (pc) Ls (.int y :: .int x :: rest)) :=
  Go.pure (fun T t A r => XS.icmpYes A K.1 rfl rfl (hb K.2.1 hd) rfl (tlt q).1 hp.1 hp.2 r) k
theorem icmp_lt_n (K : Kit p m meth c bytes maxL ret nm) {pc : Nat} {o : Int} {x y : Int32} (hd : decode bytes pc = .ok (.if_icmp .lt o, 3)) (q : ¬ x < y) (k : Go p l e R s m args below meth c Z k0 ws wF own Q w vm0 h ce sl (mkF m (pc + 3) Ls (rest))) : Go p l e R s m args below meth c Z k0 ws wF own Q w vm0 h ce sl (mkF m (pc) Ls (.int y :: .int x :: rest)) :=
  Go.pure (fun T t A r => XS.icmpNo A K.1 rfl (hb K.2.1 hd) rfl (flt q).1 r) k
theorem icmp_lt (K : Kit p m meth c bytes maxL ret nm) {pc pc' : Nat} {o : Int} {x y : Int32} (hd : decode bytes pc = .ok (.if_icmp .lt o, 3)) (hp : 0 ≤ (pc : Int) + o ∧ ((pc : Int) + o).toNat = pc') (k1 : x < y → Go p l e R s m args below meth c Z k0 ws wF own Q w vm0 h ce sl (mkF m (pc') Ls (rest))) (k2 : ¬ x < y → Go p l e R s m args below meth c Z k0 ws wF own Q w vm0 h ce sl (mkF m (pc + 3) Ls (rest))) : Go p l e R s m args below meth c Z k0 ws wF own Q w vm0 h ce sl (mkF m (pc) Ls (.int y :: .int x :: rest)) :=
  (Classical.em (x < y)).elim (fun q => icmp_lt_y K hd hp q (k1 q)) (fun q => icmp_lt_n K hd (by first | exact q | exact Classical.not_not.mp q) (k2 (by first | exact q | exact Classical.not_not.mp q)))
theorem if_lt_y (K : Kit p m meth c bytes maxL ret nm) {pc pc' : Nat} {o : Int} {x : Int32} (hd : decode bytes pc = .ok (.ifCond .lt o, 3)) (hp : 0 ≤ (pc : Int) + o ∧ ((pc : Int) + o).toNat = pc') (q : x < (0 : Int32)) (k : Go p l e R s m args below meth c Z k0 ws wF own Q w vm0 h ce sl (mkF m (pc') Ls (rest))) : Go p l e R s m args below meth c Z k0 ws wF own Q w vm0 h ce sl (mkF m (pc) Ls (.int x :: rest)) :=
  Go.pure (fun T t A r => XS.ifYes A K.1 rfl rfl (hb K.2.1 hd) rfl ((if0 _ _).trans (tlt q).1) hp.1 hp.2 r) k
theorem if_lt_n (K : Kit p m meth c bytes maxL ret nm) {pc : Nat} {o : Int} {x : Int32} (hd : decode bytes pc = .ok (.ifCond .lt o, 3)) (q : ¬ x < (0 : Int32)) (k : Go p l e R s m args below meth c Z k0 ws wF own Q w vm0 h ce sl (mkF m (pc + 3) Ls (rest))) : Go p l e R s m args below meth c Z k0 ws wF own Q w vm0 h ce sl (mkF m (pc) Ls (.int x :: rest)) :=
  Go.pure (fun T t A r => XS.ifNo A K.1 rfl (hb K.2.1 hd) rfl ((if0 _ _).trans (flt q).1) r) k
theorem if_lt (K : Kit p m meth c bytes maxL ret nm) {pc pc' : Nat} {o : Int} {x : Int32} (hd : decode bytes pc = .ok (.ifCond .lt o, 3)) (hp : 0 ≤ (pc : Int) + o ∧ ((pc : Int) + o).toNat = pc') (k1 : x < (0 : Int32) → Go p l e R s m args below meth c Z k0 ws wF own Q w vm0 h ce sl (mkF m (pc') Ls (rest))) (k2 : ¬ x < (0 : Int32) → Go p l e R s m args below meth c Z k0 ws wF own Q w vm0 h ce sl (mkF m (pc + 3) Ls (rest))) : Go p l e R s m args below meth c Z k0 ws wF own Q w vm0 h ce sl (mkF m (pc) Ls (.int x :: rest)) :=
  (Classical.em (x < (0 : Int32))).elim (fun q => if_lt_y K hd hp q (k1 q)) (fun q => if_lt_n K hd (by first | exact q | exact Classical.not_not.mp q) (k2 (by first | exact q | exact Classical.not_not.mp q)))
theorem icmp_ge_y (K : Kit p m meth c bytes maxL ret nm) {pc pc' : Nat} {o : Int} {x y : Int32} (hd : decode bytes pc = .ok (.if_icmp .ge o, 3)) (hp : 0 ≤ (pc : Int) + o ∧ ((pc : Int) + o).toNat = pc') (q : ¬ x < y) (k : Go p l e R s m args below meth c Z k0 ws wF own Q w vm0 h ce sl (mkF m (pc') Ls (rest))) : Go p l e R s m args below meth c Z k0 ws wF own Q w vm0 h ce sl (mkF m (pc) Ls (.int y :: .int x :: rest)) :=
  Go.pure (fun T t A r => XS.icmpYes A K.1 rfl rfl (hb K.2.1 hd) rfl (flt q).2.1 hp.1 hp.2 r) k
theorem icmp_ge_n (K : Kit p m meth c bytes maxL ret nm) {pc : Nat} {o : Int} {x y : Int32} (hd : decode bytes pc = .ok (.if_icmp .ge o, 3)) (q : x < y) (k : Go p l e R s m args below meth c Z k0 ws wF own Q w vm0 h ce sl (mkF m (pc + 3) Ls (rest))) : Go p l e R s m args below meth c Z k0 ws wF own Q w vm0 h ce sl (mkF m (pc) Ls (.int y :: .int x :: rest)) :=
  Go.pure (fun T t A r => XS.icmpNo A K.1 rfl (hb K.2.1 hd) rfl (tlt q).2.1 r) k
theorem icmp_ge (K : Kit p m meth c bytes maxL ret nm) {pc pc' : Nat} {o : Int} {x y : Int32} (hd : decode bytes pc = .ok (.if_icmp .ge o, 3)) (hp : 0 ≤ (pc : Int) + o ∧ ((pc : Int) + o).toNat = pc') (k1 : ¬ x < y → Go p l e R s m args below meth c Z k0 ws wF own Q w vm0 h ce sl (mkF m (pc') Ls (rest))) (k2 : x < y → Go p l e R s m args below meth c Z k0 ws wF own Q w vm0 h ce sl (mkF m (pc + 3) Ls (rest))) : Go p l e R s m args below meth c Z k0 ws wF own Q w vm0 h ce sl (mkF m (pc) Ls (.int y :: .int x :: rest)) :=
  (Classical.em (¬ x < y)).elim (fun q => icmp_ge_y K hd hp q (k1 q)) (fun q => icmp_ge_n K hd (by first | exact q | exact Classical.not_not.mp q) (k2 (by first | exact q | exact Classical.not_not.mp q)))
theorem if_ge_y (K : Kit p m meth c bytes maxL ret nm) {pc pc' : Nat} {o : Int} {x : Int32} (hd : decode bytes pc = .ok (.ifCond .ge o, 3)) (hp : 0 ≤ (pc : Int) + o ∧ ((pc : Int) + o).toNat = pc') (q : ¬ x < (0 : Int32)) (k : Go p l e R s m args below meth c Z k0 ws wF own Q w vm0 h ce sl (mkF m (pc') Ls (rest))) : Go p l e R s m args below meth c Z k0 ws wF own Q w vm0 h ce sl (mkF m (pc) Ls (.int x :: rest)) :=
  Go.pure (fun T t A r => XS.ifYes A K.1 rfl rfl (hb K.2.1 hd) rfl ((if0 _ _).trans (flt q).2.1) hp.1 hp.2 r) k
theorem if_ge_n (K : Kit p m meth c bytes maxL ret nm) {pc : Nat} {o : Int} {x : Int32} (hd : decode bytes pc = .ok (.ifCond .ge o, 3)) (q : x < (0 : Int32)) (k : Go p l e R s m args below meth c Z k0 ws wF own Q w vm0 h ce sl (mkF m (pc + 3) Ls (rest))) : Go p l e R s m args below meth c Z k0 ws wF own Q w vm0 h ce sl (mkF m (pc) Ls (.int x :: rest)) :=
  Go.pure (fun T t A r => XS.ifNo A K.1 rfl (hb K.2.1 hd) rfl ((if0 _ _).trans (tlt q).2.1) r) k
theorem if_ge (K : Kit p m meth c bytes maxL ret nm) {pc pc' : Nat} {o : Int} {x : Int32} (hd : decode bytes pc = .ok (.ifCond .ge o, 3)) (hp : 0 ≤ (pc : Int) + o ∧ ((pc : Int) + o).toNat = pc') (k1 : ¬ x < (0 : Int32) → Go p l e R s m args below meth c Z k0 ws wF own Q w vm0 h ce sl (mkF m (pc') Ls (rest))) (k2 : x < (0 : Int32) → Go p l e R s m args below meth c Z k0 ws wF own Q w vm0 h ce sl (mkF m (pc + 3) Ls (rest))) : Go p l e R s m args below meth c Z k0 ws wF own Q w vm0 h ce sl (mkF m (pc) Ls (.int x :: rest)) :=
  (Classical.em (¬ x < (0 : Int32))).elim (fun q => if_ge_y K hd hp q (k1 q)) (fun q => if_ge_n K hd (by first | exact q | exact Classical.not_not.mp q) (k2 (by first | exact q | exact Classical.not_not.mp q)))
theorem icmp_gt_y (K : Kit p m meth c bytes maxL ret nm) {pc pc' : Nat} {o : Int} {x y : Int32} (hd : decode bytes pc = .ok (.if_icmp .gt o, 3)) (hp : 0 ≤ (pc : Int) + o ∧ ((pc : Int) + o).toNat = pc') (q : y < x) (k : Go p l e R s m args below meth c Z k0 ws wF own Q w vm0 h ce sl (mkF m (pc') Ls (rest))) : Go p l e R s m args below meth c Z k0 ws wF own Q w vm0 h ce sl (mkF m (pc) Ls (.int y :: .int x :: rest)) :=
  Go.pure (fun T t A r => XS.icmpYes A K.1 rfl rfl (hb K.2.1 hd) rfl (tlt q).2.2.1 hp.1 hp.2 r) k
theorem icmp_gt_n (K : Kit p m meth c bytes maxL ret nm) {pc : Nat} {o : Int} {x y : Int32} (hd : decode bytes pc = .ok (.if_icmp .gt o, 3)) (q : ¬ y < x) (k : Go p l e R s m args below meth c Z k0 ws wF own Q w vm0 h ce sl (mkF m (pc + 3) Ls (rest))) : Go p l e R s m args below meth c Z k0 ws wF own Q w vm0 h ce sl (mkF m (pc) Ls (.int y :: .int x :: rest)) :=
  Go.pure (fun T t A r => XS.icmpNo A K.1 rfl (hb K.2.1 hd) rfl (flt q).2.2.1 r) k
theorem icmp_gt (K : Kit p m meth c bytes maxL ret nm) {pc pc' : Nat} {o : Int} {x y : Int32} (hd : decode bytes pc = .ok (.if_icmp .gt o, 3)) (hp : 0 ≤ (pc : Int) + o ∧ ((pc : Int) + o).toNat = pc') (k1 : y < x → Go p l e R s m args below meth c Z k0 ws wF own Q w vm0 h ce sl (mkF m (pc') Ls (rest))) (k2 : ¬ y < x → Go p l e R s m args below meth c Z k0 ws wF own Q w vm0 h ce sl (mkF m (pc + 3) Ls (rest))) : Go p l e R s m args below meth c Z k0 ws wF own Q w vm0 h ce sl (mkF m (pc) Ls (.int y :: .int x :: rest)) :=
  (Classical.em (y < x)).elim (fun q => icmp_gt_y K hd hp q (k1 q)) (fun q => icmp_gt_n K hd (by first | exact q | exact Classical.not_not.mp q) (k2 (by first | exact q | exact Classical.not_not.mp q)))
theorem if_gt_y (K : Kit p m meth c bytes maxL ret nm) {pc pc' : Nat} {o : Int} {x : Int32} (hd : decode bytes pc = .ok (.ifCond .gt o, 3)) (hp : 0 ≤ (pc : Int) + o ∧ ((pc : Int) + o).toNat = pc') (q : (0 : Int32) < x) (k : Go p l e R s m args below meth c Z k0 ws wF own Q w vm0 h ce sl (mkF m (pc') Ls (rest))) : Go p l e R s m args below meth c Z k0 ws wF own Q w vm0 h ce sl (mkF m (pc) Ls (.int x :: rest)) :=
  Go.pure (fun T t A r => XS.ifYes A K.1 rfl rfl (hb K.2.1 hd) rfl ((if0 _ _).trans (tlt q).2.2.1) hp.1 hp.2 r) k
theorem if_gt_n (K : Kit p m meth c bytes maxL ret nm) {pc : Nat} {o : Int} {x : Int32} (hd : decode bytes pc = .ok (.ifCond .gt o, 3)) (q : ¬ (0 : Int32) < x) (k : Go p l e R s m args below meth c Z k0 ws wF own Q w vm0 h ce sl (mkF m (pc + 3) Ls (rest))) : Go p l e R s m args below meth c Z k0 ws wF own Q w vm0 h ce sl (mkF m (pc) Ls (.int x :: rest)) :=
  Go.pure (fun T t A r => XS.ifNo A K.1 rfl (hb K.2.1 hd) rfl ((if0 _ _).trans (flt q).2.2.1) r) k
theorem if_gt (K : Kit p m meth c bytes maxL ret nm) {pc pc' : Nat} {o : Int} {x : Int32} (hd : decode bytes pc = .ok (.ifCond .gt o, 3)) (hp : 0 ≤ (pc : Int) + o ∧ ((pc : Int) + o).toNat = pc') (k1 : (0 : Int32) < x → Go p l e R s m args below meth c Z k0 ws wF own Q w vm0 h ce sl (mkF m (pc') Ls (rest))) (k2 : ¬ (0 : Int32) < x → Go p l e R s m args below meth c Z k0 ws wF own Q w vm0 h ce sl (mkF m (pc + 3) Ls (rest))) : Go p l e R s m args below meth c Z k0 ws wF own Q w vm0 h ce sl (mkF m (pc) Ls (.int x :: rest)) :=
  (Classical.em ((0 : Int32) < x)).elim (fun q => if_gt_y K hd hp q (k1 q)) (fun q => if_gt_n K hd (by first | exact q | exact Classical.not_not.mp q) (k2 (by first | exact q | exact Classical.not_not.mp q)))
theorem icmp_le_y (K : Kit p m meth c bytes maxL ret nm) {pc pc' : Nat} {o : Int} {x y : Int32} (hd : decode bytes pc = .ok (.if_icmp .le o, 3)) (hp : 0 ≤ (pc : Int) + o ∧ ((pc : Int) + o).toNat = pc') (q : ¬ y < x) (k : Go p l e R s m args below meth c Z k0 ws wF own Q w vm0 h ce sl (mkF m (pc') Ls (rest))) : Go p l e R s m args below meth c Z k0 ws wF own Q w vm0 h ce sl (mkF m (pc) Ls (.int y :: .int x :: rest)) :=
  Go.pure (fun T t A r => XS.icmpYes A K.1 rfl rfl (hb K.2.1 hd) rfl (flt q).2.2.2 hp.1 hp.2 r) k
theorem icmp_le_n (K : Kit p m meth c bytes maxL ret nm) {pc : Nat} {o : Int} {x y : Int32} (hd : decode bytes pc = .ok (.if_icmp .le o, 3)) (q : y < x) (k : Go p l e R s m args below meth c Z k0 ws wF own Q w vm0 h ce sl (mkF m (pc + 3) Ls (rest))) : Go p l e R s m args below meth c Z k0 ws wF own Q w vm0 h ce sl (mkF m (pc) Ls (.int y :: .int x :: rest)) :=
  Go.pure (fun T t A r => XS.icmpNo A K.1 rfl (hb K.2.1 hd) rfl (tlt q).2.2.2 r) k
theorem icmp_le (K : Kit p m meth c bytes maxL ret nm) {pc pc' : Nat} {o : Int} {x y : Int32} (hd : decode bytes pc = .ok (.if_icmp .le o, 3)) (hp : 0 ≤ (pc : Int) + o ∧ ((pc : Int) + o).toNat = pc') (k1 : ¬ y < x → Go p l e R s m args below meth c Z k0 ws wF own Q w vm0 h ce sl (mkF m (pc') Ls (rest))) (k2 : y < x → Go p l e R s m args below meth c Z k0 ws wF own Q w vm0 h ce sl (mkF m (pc + 3) Ls (rest))) : Go p l e R s m args below meth c Z k0 ws wF own Q w vm0 h ce sl (mkF m (pc) Ls (.int y :: .int x :: rest)) :=
  (Classical.em (¬ y < x)).elim (fun q => icmp_le_y K hd hp q (k1 q)) (fun q => icmp_le_n K hd (by first | exact q | exact Classical.not_not.mp q) (k2 (by first | exact q | exact Classical.not_not.mp q)))
theorem if_le_y (K : Kit p m meth c bytes maxL ret nm) {pc pc' : Nat} {o : Int} {x : Int32} (hd : decode bytes pc = .ok (.ifCond .le o, 3)) (hp : 0 ≤ (pc : Int) + o ∧ ((pc : Int) + o).toNat = pc') (q : ¬ (0 : Int32) < x) (k : Go p l e R s m args below meth c Z k0 ws wF own Q w vm0 h ce sl (mkF m (pc') Ls (rest))) : Go p l e R s m args below meth c Z k0 ws wF own Q w vm0 h ce sl (mkF m (pc) Ls (.int x :: rest)) :=
  Go.pure (fun T t A r => XS.ifYes A K.1 rfl rfl (hb K.2.1 hd) rfl ((if0 _ _).trans (flt q).2.2.2) hp.1 hp.2 r) k
theorem if_le_n (K : Kit p m meth c bytes maxL ret nm) {pc : Nat} {o : Int} {x : Int32} (hd : decode bytes pc = .ok (.ifCond .le o, 3)) (q : (0 : Int32) < x) (k : Go p l e R s m args below meth c Z k0 ws wF own Q w vm0 h ce sl (mkF m (pc + 3) Ls (rest))) : Go p l e R s m args below meth c Z k0 ws wF own Q w vm0 h ce sl (mkF m (pc) Ls (.int x :: rest)) :=
  Go.pure (fun T t A r => XS.ifNo A K.1 rfl (hb K.2.1 hd) rfl ((if0 _ _).trans (tlt q).2.2.2) r) k
theorem if_le (K : Kit p m meth c bytes maxL ret nm) {pc pc' : Nat} {o : Int} {x : Int32} (hd : decode bytes pc = .ok (.ifCond .le o, 3)) (hp : 0 ≤ (pc : Int) + o ∧ ((pc : Int) + o).toNat = pc') (k1 : ¬ (0 : Int32) < x → Go p l e R s m args below meth c Z k0 ws wF own Q w vm0 h ce sl (mkF m (pc') Ls (rest))) (k2 : (0 : Int32) < x → Go p l e R s m args below meth c Z k0 ws wF own Q w vm0 h ce sl (mkF m (pc + 3) Ls (rest))) : Go p l e R s m args below meth c Z k0 ws wF own Q w vm0 h ce sl (mkF m (pc) Ls (.int x :: rest)) :=
  (Classical.em (¬ (0 : Int32) < x)).elim (fun q => if_le_y K hd hp q (k1 q)) (fun q => if_le_n K hd (by first | exact q | exact Classical.not_not.mp q) (k2 (by first | exact q | exact Classical.not_not.mp q)))
theorem ifnull_y (K : Kit p m meth c bytes maxL ret nm) {pc pc' : Nat} {o : Int}  (hd : decode bytes pc = .ok (.ifnull o, 3)) (hp : 0 ≤ (pc : Int) + o ∧ ((pc : Int) + o).toNat = pc') (k : Go p l e R s m args below meth c Z k0 ws wF own Q w vm0 h ce sl (mkF m (pc') Ls (rest))) : Go p l e R s m args below meth c Z k0 ws wF own Q w vm0 h ce sl (mkF m (pc) Ls (.null :: rest)) :=
  Go.pure (fun T t A r => XS.ifnullYes A K.1 rfl rfl (hb K.2.1 hd) rfl hp.1 hp.2 r) k
theorem ifnull_n (K : Kit p m meth c bytes maxL ret nm) {pc : Nat} {o : Int} {b : Addr} (hd : decode bytes pc = .ok (.ifnull o, 3)) (k : Go p l e R s m args below meth c Z k0 ws wF own Q w vm0 h ce sl (mkF m (pc + 3) Ls (rest))) : Go p l e R s m args below meth c Z k0 ws wF own Q w vm0 h ce sl (mkF m (pc) Ls (.ref b :: rest)) :=
  Go.pure (fun T t A r => XS.ifnullNo A K.1 rfl (hb K.2.1 hd) rfl r) k
theorem ifnonnull_y (K : Kit p m meth c bytes maxL ret nm) {pc pc' : Nat} {o : Int} {b : Addr} (hd : decode bytes pc = .ok (.ifnonnull o, 3)) (hp : 0 ≤ (pc : Int) + o ∧ ((pc : Int) + o).toNat = pc') (k : Go p l e R s m args below meth c Z k0 ws wF own Q w vm0 h ce sl (mkF m (pc') Ls (rest))) : Go p l e R s m args below meth c Z k0 ws wF own Q w vm0 h ce sl (mkF m (pc) Ls (.ref b :: rest)) :=
  Go.pure (fun T t A r => XT.ifnonnullYes A K.1 rfl rfl (hb K.2.1 hd) rfl hp.1 hp.2 r) k
theorem ifnonnull_n (K : Kit p m meth c bytes maxL ret nm) {pc : Nat} {o : Int}  (hd : decode bytes pc = .ok (.ifnonnull o, 3)) (k : Go p l e R s m args below meth c Z k0 ws wF own Q w vm0 h ce sl (mkF m (pc + 3) Ls (rest))) : Go p l e R s m args below meth c Z k0 ws wF own Q w vm0 h ce sl (mkF m (pc) Ls (.null :: rest)) :=
  Go.pure (fun T t A r => XT.ifnonnullNo A K.1 rfl (hb K.2.1 hd) rfl r) k
theorem acmp_eq_y (K : Kit p m meth c bytes maxL ret nm) {pc pc' : Nat} {o : Int} {x y : Value} (hd : decode bytes pc = .ok (.if_acmp .eq o, 3)) (hp : 0 ≤ (pc : Int) + o ∧ ((pc : Int) + o).toNat = pc') (r1 : x.isRef = true) (r2 : y.isRef = true) (q : x = y) (k : Go p l e R s m args below meth c Z k0 ws wF own Q w vm0 h ce sl (mkF m (pc') Ls (rest))) : Go p l e R s m args below meth c Z k0 ws wF own Q w vm0 h ce sl (mkF m (pc) Ls (y :: x :: rest)) :=
  Go.pure (fun T t A r => XT.acmpYes A K.1 rfl rfl (hb K.2.1 hd) rfl r1 r2 (decide_eq_true q) hp.1 hp.2 r) k
theorem acmp_eq_n (K : Kit p m meth c bytes maxL ret nm) {pc : Nat} {o : Int} {x y : Value} (hd : decode bytes pc = .ok (.if_acmp .eq o, 3)) (r1 : x.isRef = true) (r2 : y.isRef = true) (q : ¬ x = y) (k : Go p l e R s m args below meth c Z k0 ws wF own Q w vm0 h ce sl (mkF m (pc + 3) Ls (rest))) : Go p l e R s m args below meth c Z k0 ws wF own Q w vm0 h ce sl (mkF m (pc) Ls (y :: x :: rest)) :=
  Go.pure (fun T t A r => XT.acmpNo A K.1 rfl (hb K.2.1 hd) rfl r1 r2 (decide_eq_false q) r) k
theorem acmp_ne_y (K : Kit p m meth c bytes maxL ret nm) {pc pc' : Nat} {o : Int} {x y : Value} (hd : decode bytes pc = .ok (.if_acmp .ne o, 3)) (hp : 0 ≤ (pc : Int) + o ∧ ((pc : Int) + o).toNat = pc') (r1 : x.isRef = true) (r2 : y.isRef = true) (q : ¬ x = y) (k : Go p l e R s m args below meth c Z k0 ws wF own Q w vm0 h ce sl (mkF m (pc') Ls (rest))) : Go p l e R s m args below meth c Z k0 ws wF own Q w vm0 h ce sl (mkF m (pc) Ls (y :: x :: rest)) :=
  Go.pure (fun T t A r => XT.acmpYes A K.1 rfl rfl (hb K.2.1 hd) rfl r1 r2 (decide_eq_true q) hp.1 hp.2 r) k
theorem acmp_ne_n (K : Kit p m meth c bytes maxL ret nm) {pc : Nat} {o : Int} {x y : Value} (hd : decode bytes pc = .ok (.if_acmp .ne o, 3)) (r1 : x.isRef = true) (r2 : y.isRef = true) (q : x = y) (k : Go p l e R s m args below meth c Z k0 ws wF own Q w vm0 h ce sl (mkF m (pc + 3) Ls (rest))) : Go p l e R s m args below meth c Z k0 ws wF own Q w vm0 h ce sl (mkF m (pc) Ls (y :: x :: rest)) :=
  Go.pure (fun T t A r => XT.acmpNo A K.1 rfl (hb K.2.1 hd) rfl r1 r2 (decide_eq_false (fun z => z q)) r) k
theorem ret_core (K : Kit p m meth c bytes maxL ret nm) {g : JFrame} {v : Option Value} (hv : meth.sig.returnType = none → v = none) (hn : ∀ x ∈ ws, x ∈ wF) (hce : ce ≤ R.cells) (hsl : sl ≤ R.slots)
    (f : ∀ (T : State) (locs : List Loc) (fs : List Frame), Stand p l e R (s.setVm vm0) m args below meth c T locs ce sl → (∀ (f : JFrame) (acts : List Action), f.method = m → f.locked = none → f.entered = [] → (doReturn e (T.setTop f) acts v).1 = T.setFrames fs) → Steps p.tables e below (T.setTop g) (T.setFrames fs))
    (hq : ∀ vm1, (s.setVm vm0).WarmedH vm1 → Q v h vm1) : Go p l e R s m args below meth c Z k0 ws wF own Q w vm0 h ce sl g :=
  fun T locs X eT N hS hZ ho hw => by
    have N' : Fw k0 wF locs := fun y hy => (N y hy).imp id (hn _)
    rcases Bool.eq_false_or_eq_true w with hw1 | hw0
    · obtain ⟨fs, h1, h2, h3, h4⟩ := X.leaveW hS (by rw [eT]; exact Nat.le_refl _) (v := v) hv K.2.2.2.2.1
      refine ⟨T.setFrames fs, _, f T locs fs X h1, h2, h3, v, locs, rfl, ⟨?_, N'⟩, Or.inl ⟨hw1, ?_⟩⟩
      · show Q v T.heap T.vm
        rw [eT]; exact hq _ X.warmed
      · exact ⟨h4.1, h4.2.1, h4.2.2.1, h4.2.2.2.mono hce hsl⟩
    · rcases hw with hw | hw
      · rw [hw] at hw0; cases hw0
      subst hw
      obtain ⟨fs, h1, h2, h3, h4, h5⟩ := X.leave (v := v) hv K.2.2.2.2.1
      refine ⟨T.setFrames fs, _, f T locs fs X h1, h2, h3, v, locs, rfl, ⟨?_, N'⟩, Or.inr ⟨hw0, ⟨v, rfl⟩, h4, h5.mono hce hsl⟩⟩
      show Q v T.heap T.vm
      rw [eT]; exact hq _ X.warmed
theorem retV (K : Kit p m meth c bytes maxL none nm) {pc : Nat} (hd : decode bytes pc = .ok (.return_, 1)) (hn : ∀ x ∈ ws, x ∈ wF) (hce : ce ≤ R.cells) (hsl : sl ≤ R.slots) (hq : ∀ vm1, (s.setVm vm0).WarmedH vm1 → Q none h vm1) : Go p l e R s m args below meth c Z k0 ws wF own Q w vm0 h ce sl (mkF m pc Ls []) :=
  ret_core K (fun _ => rfl) hn hce hsl (fun T locs fs X hr => X.returnOut K.1 K.2.2.2.1 (hb K.2.1 hd) hr) hq
theorem retZ (K : Kit p m meth c bytes maxL (some t) nm) (ht : t = .boolean ∨ t = .byte ∨ t = .char ∨ t = .short) {pc : Nat} {z z' : Int32} (hz : nar t z = z') (hd : decode bytes pc = .ok (.ireturn, 1)) (hn : ∀ x ∈ ws, x ∈ wF) (hce : ce ≤ R.cells) (hsl : sl ≤ R.slots) (hq : ∀ vm1, (s.setVm vm0).WarmedH vm1 → Q (some (.int z')) h vm1) : Go p l e R s m args below meth c Z k0 ws wF own Q w vm0 h ce sl (mkF m pc Ls (.int z :: rest)) :=
  ret_core K (v := some (.int z')) (fun h => by rw [K.2.2.2.1] at h; cases h) hn hce hsl (fun T locs fs X hr => retN X K.1 K.2.2.2.1 ht (hb K.2.1 hd) (fun f acts a1 a2 a3 => by rw [hz]; exact hr f acts a1 a2 a3)) hq
theorem retOf (K : Kit p m meth c bytes maxL (some t) nm) {pc : Nat} {i : Instr} {v : Value} (hn' : narrow t v = v)
    (hi : (i = .ireturn ∧ (t = .int ∨ t = .boolean ∨ t = .byte ∨ t = .char ∨ t = .short) ∧ ∃ z, v = .int z) ∨ (i = .lreturn ∧ t = .long ∧ ∃ z, v = .long z) ∨ (i = .dreturn ∧ t = .double ∧ ∃ z, v = .double z) ∨ (i = .freturn ∧ t = .float ∧ ∃ z, v = .float z) ∨ (i = .areturn ∧ t.isReference = true ∧ v.isRef = true))
    (hd : decode bytes pc = .ok (i, 1)) (hn : ∀ x ∈ ws, x ∈ wF) (hce : ce ≤ R.cells) (hsl : sl ≤ R.slots) (hq : ∀ vm1, (s.setVm vm0).WarmedH vm1 → Q (some v) h vm1) : Go p l e R s m args below meth c Z k0 ws wF own Q w vm0 h ce sl (mkF m pc Ls (v :: rest)) :=
  ret_core K (v := some v) (fun h => by rw [K.2.2.2.1] at h; cases h) hn hce hsl (fun T locs fs X hr => retOut X K.1 K.2.2.2.1 hn' hi (hb K.2.1 hd) hr) hq
theorem retI (K : Kit p m meth c bytes maxL (some .int) nm) {pc : Nat} {z : Int32} (hd : decode bytes pc = .ok (.ireturn, 1)) (hn : ∀ x ∈ ws, x ∈ wF) (hce : ce ≤ R.cells) (hsl : sl ≤ R.slots) (hq : ∀ vm1, (s.setVm vm0).WarmedH vm1 → Q (some (.int z)) h vm1) : Go p l e R s m args below meth c Z k0 ws wF own Q w vm0 h ce sl (mkF m pc Ls (.int z :: rest)) :=
  retOf K rfl (Or.inl ⟨rfl, Or.inl rfl, z, rfl⟩) hd hn hce hsl hq
theorem retL (K : Kit p m meth c bytes maxL (some .long) nm) {pc : Nat} {z : Int64} (hd : decode bytes pc = .ok (.lreturn, 1)) (hn : ∀ x ∈ ws, x ∈ wF) (hce : ce ≤ R.cells) (hsl : sl ≤ R.slots) (hq : ∀ vm1, (s.setVm vm0).WarmedH vm1 → Q (some (.long z)) h vm1) : Go p l e R s m args below meth c Z k0 ws wF own Q w vm0 h ce sl (mkF m pc Ls (.long z :: rest)) :=
  retOf K rfl (Or.inr (Or.inl ⟨rfl, rfl, z, rfl⟩)) hd hn hce hsl hq
theorem narrow_ref {t : FieldType} {v : Value} (ht : t.isReference = true) : narrow t v = v := by
  cases t <;> first | rfl | (simp [FieldType.isReference] at ht) | (cases v <;> rfl)
theorem retA (K : Kit p m meth c bytes maxL (some t) nm) (ht : t.isReference = true) {pc : Nat} {v : Value} (hv : v.isRef = true) (hd : decode bytes pc = .ok (.areturn, 1)) (hn : ∀ x ∈ ws, x ∈ wF) (hce : ce ≤ R.cells) (hsl : sl ≤ R.slots) (hq : ∀ vm1, (s.setVm vm0).WarmedH vm1 → Q (some v) h vm1) : Go p l e R s m args below meth c Z k0 ws wF own Q w vm0 h ce sl (mkF m pc Ls (v :: rest)) :=
  retOf K (narrow_ref ht) (Or.inr (Or.inr (Or.inr (Or.inr ⟨rfl, ht, hv⟩)))) hd hn hce hsl hq
theorem getF (K : Kit p m meth c bytes maxL ret nm) {pc idx : Nat} {R0 O n d host : String} (wl : (Jvm.Cond.fieldLink own idx R0 n d).before a0 Z = true ∨ (Jvm.Cond.fieldLinkNest own idx R0 n d host).before a0 Z = true) (via : Via Z R0 O n d) {a : Addr} {v : Value} (F : Fld Z h a O n d v) (hd : decode bytes pc = .ok (.getfield idx, 3)) (k : Go p l e R s m args below meth c Z k0 ws wF own Q w vm0 h ce sl (mkF m (pc + 3) Ls (v :: rest))) : Go p l e R s m args below meth c Z k0 ws wF own Q w vm0 h ce sl (mkF m (pc) Ls (.ref a :: rest)) :=
  Go.step (Nat.le_refl _) (fun T locs X eT N hZ ho => by
    obtain ⟨T', X', e', st⟩ := RoadKit.getF X K.1 hZ ho wl via eT F (g := mkF m pc Ls (.ref a :: rest)) rfl rfl (hb K.2.1 hd)
    exact ⟨T', locs, X', e', N, st⟩) k
theorem getS (K : Kit p m meth c bytes maxL ret nm) {pc idx : Nat} {R0 O n d : String} (wl : (Jvm.Cond.fieldLink own idx R0 n d).before a0 Z = true) (via : Via Z R0 O n d) {v : Value} (F : Sta Z h O n d v) (hd : decode bytes pc = .ok (.getstatic idx, 3)) (k : Go p l e R s m args below meth c Z k0 ws wF own Q w vm0 h ce sl (mkF m (pc + 3) Ls (v :: st))) : Go p l e R s m args below meth c Z k0 ws wF own Q w vm0 h ce sl (mkF m (pc) Ls (st)) :=
  Go.step (Nat.le_refl _) (fun T locs X eT N hZ ho => by
    obtain ⟨T', X', e', st⟩ := RoadKit.getS (host := "") X K.1 hZ ho wl via eT F (g := mkF m pc Ls st) rfl (hb K.2.1 hd)
    exact ⟨T', locs, X', e', N, st⟩) k
theorem putF (K : Kit p m meth c bytes maxL ret nm) {pc idx kk : Nat} {R0 O n d C : String} {ty : FieldType} (wl : (Jvm.Cond.fieldLink own idx R0 n d).before a0 Z = true) (via : Via Z R0 O n d) {a : Addr} {v old : Value} (F : Fld Z h a O n d old) (E : Exa Z h a C)
    (L : (Jvm.Cond.lays C O n d).before a0 Z = true ∨ ((Jvm.Cond.laysFinal C O n d).before a0 Z = true ∧ own = O ∧ nm = "<init>")) (wi : (Jvm.Cond.instantiable C kk).before a0 Z = true) (hty : parseFieldDescriptor d = some ty) (hn' : narrow ty v = v) (hf : fits ty v = true) (hn : k0 ≤ a ∨ a ∈ ws)
    (hd : decode bytes pc = .ok (.putfield idx, 3)) (k : ∀ h', Wr h h' a (RoadKit.slotOf Z O n d) v → Fld Z h' a O n d v → Go p l e R s m args below meth c Z k0 ws wF own Q w vm0 h' ce sl (mkF m (pc + 3) Ls (rest))) : Go p l e R s m args below meth c Z k0 ws wF own Q w vm0 h ce sl (mkF m (pc) Ls (v :: .ref a :: rest)) :=
  fun T locs X eT N hS hZ ho hw => by
    obtain ⟨T', h', X', e', W, st⟩ := RoadKit.putF (host := "") X K.1 hZ ho (Or.inl wl) via eT F E (L.imp id fun q => ⟨q.1, q.2.1, K.2.2.2.2.2.trans q.2.2⟩) wi hty hn' hf (g := mkF m pc Ls (v :: .ref a :: rest)) rfl rfl (hb K.2.1 hd)
    obtain ⟨U, o, hU, r⟩ := k h' W (F.same W) T' _ X' e' (Fw.snoc N hn) ⟨hS.1, hS.2.mono (Nat.le_of_eq W.size.symm)⟩ hZ ho hw
    exact ⟨U, o, st U hU, r⟩
theorem newO (K : Kit p m meth c bytes maxL ret nm) {pc idx n : Nat} {C : String} (wl : (Jvm.Cond.classLink own idx C).before a0 Z = true) (wi : (Jvm.Cond.instantiable C n).before a0 Z = true) (wz : (Jvm.Cond.initialized C).before a0 Z = true)
    (hd : decode bytes pc = .ok (.new idx, 3)) (hc : ce + 1 ≤ R.cells) (hl : sl + n ≤ R.slots)
    (k : ∀ h' a, a = h.size → Ext h h' → Exa Z h' a C → (∀ {O nm d : String} {ty : FieldType}, Laid Z a0 C O nm d → parseFieldDescriptor d = some ty → Fld Z h' a O nm d (defaultValue ty)) → Go p l e R s m args below meth c Z k0 ws wF own Q w vm0 h' (ce + 1) (sl + n) (mkF m (pc + 3) Ls (.ref a :: st))) : Go p l e R s m args below meth c Z k0 ws wF own Q w vm0 h ce sl (mkF m (pc) Ls (st)) :=
  fun T locs X eT N hS hZ ho hw => by
    obtain ⟨T', h', X', e', E, A, D, -, st⟩ := RoadKit.newO X K.1 hZ ho wl wi wz eT (g := mkF m pc Ls st) rfl (hb K.2.1 hd) hc hl
    obtain ⟨U, o, hU, r⟩ := k h' h.size rfl E A (fun {_ _ _ _} => D) T' _ X' e' N ⟨hS.1, hS.2.mono E.1⟩ hZ ho hw
    exact ⟨U, o, st U hU, r⟩
theorem newP (K : Kit p m meth c bytes maxL ret nm) {pc : Nat} {aty : ArrayType} {n : Int32} (wl : (Jvm.Cond.arrayClass (newarray.typeOf aty)).before a0 Z = true) (hd : decode bytes pc = .ok (.newarray aty, 2)) (hn : ¬ n < 0) {cap : Nat} (hcap : n.toNatClampNeg ≤ cap) (hb' : cap * 8 ≤ 536870912) (hc : ce + 1 ≤ R.cells) (hl : sl + cap ≤ R.slots)
    (k : ∀ h' a cA, a = h.size → Ext h h' → Arv Z h' a cA (newarray.typeOf aty) n [] (defaultValue (newarray.typeOf aty)) → Go p l e R s m args below meth c Z k0 ws wF own Q w vm0 h' (ce + 1) (sl + cap) (mkF m (pc + 2) Ls (.ref a :: rest))) : Go p l e R s m args below meth c Z k0 ws wF own Q w vm0 h ce sl (mkF m (pc) Ls (.int n :: rest)) :=
  fun T locs X eT N hS hZ ho hw => by
    obtain ⟨T', h', cA, X', e', E, A, st⟩ := RoadKit.newP X K.1 hZ wl eT (g := mkF m pc Ls (.int n :: rest)) rfl (hb K.2.1 hd) rfl hn hcap hb' hc hl
    obtain ⟨U, o, hU, r⟩ := k h' h.size cA rfl E (Arv.new A hn) T' _ X' e' N ⟨hS.1, hS.2.mono E.1⟩ hZ ho hw
    exact ⟨U, o, st U hU, r⟩
theorem castore (K : Kit p m meth c bytes maxL ret nm) {pc i : Nat} {a : Addr} {kc : ClassId} {z j x : Int32} {vs : List Value} {dv : Value} (A : Arv Z h a kc .char z vs dv) (hj : ¬ j < 0 ∧ j < z) (hi : j.toNatClampNeg = i) (hi' : i < vs.length) (hn : k0 ≤ a ∨ a ∈ ws) (hd : decode bytes pc = .ok (.castore, 1))
    (k : ∀ h', Wr h h' a i (.int (nar .char x)) → Arv Z h' a kc .char z (vs.set i (.int (nar .char x))) dv → Go p l e R s m args below meth c Z k0 ws wF own Q w vm0 h' ce sl (mkF m (pc + 1) Ls (rest))) : Go p l e R s m args below meth c Z k0 ws wF own Q w vm0 h ce sl (mkF m (pc) Ls (.int x :: .int j :: .ref a :: rest)) :=
  fun T locs X eT N hS hZ ho hw => by
    obtain ⟨cl, Ar, q, S, Nz, H, G⟩ := A
    obtain ⟨T', h', X', e', W, st⟩ := RoadKit.stC X K.1 hZ eT Ar (j := j) (inb_of S hj) (g := mkF m pc Ls (.int x :: .int j :: .ref a :: rest)) rfl rfl (hb K.2.1 hd)
    have V := Arv.set Ar q S Nz H G (fits_nar_char _) W i hi hi'
    rw [hi] at W
    obtain ⟨U, o, hU, r⟩ := k h' W V T' _ X' e' (Fw.snoc N hn) ⟨hS.1, hS.2.mono (Nat.le_of_eq W.size.symm)⟩ hZ ho hw
    exact ⟨U, o, st U hU, r⟩
theorem bastore (K : Kit p m meth c bytes maxL ret nm) {pc i : Nat} {a : Addr} {kc : ClassId} {z j x : Int32} {vs : List Value} {dv : Value} (A : Arv Z h a kc .byte z vs dv) (hj : ¬ j < 0 ∧ j < z) (hi : j.toNatClampNeg = i) (hi' : i < vs.length) (hn : k0 ≤ a ∨ a ∈ ws) (hd : decode bytes pc = .ok (.bastore, 1))
    (k : ∀ h', Wr h h' a i (.int (nar .byte x)) → Arv Z h' a kc .byte z (vs.set i (.int (nar .byte x))) dv → Go p l e R s m args below meth c Z k0 ws wF own Q w vm0 h' ce sl (mkF m (pc + 1) Ls (rest))) : Go p l e R s m args below meth c Z k0 ws wF own Q w vm0 h ce sl (mkF m (pc) Ls (.int x :: .int j :: .ref a :: rest)) :=
  fun T locs X eT N hS hZ ho hw => by
    obtain ⟨cl, Ar, q, S, Nz, H, G⟩ := A
    obtain ⟨T', h', X', e', W, st⟩ := RoadKit.stB X K.1 hZ eT Ar (j := j) (inb_of S hj) (g := mkF m pc Ls (.int x :: .int j :: .ref a :: rest)) rfl rfl (hb K.2.1 hd)
    have V := Arv.set Ar q S Nz H G (fits_nar_byte _) W i hi hi'
    rw [hi] at W
    obtain ⟨U, o, hU, r⟩ := k h' W V T' _ X' e' (Fw.snoc N hn) ⟨hS.1, hS.2.mono (Nat.le_of_eq W.size.symm)⟩ hZ ho hw
    exact ⟨U, o, st U hU, r⟩
theorem iastore (K : Kit p m meth c bytes maxL ret nm) {pc i : Nat} {a : Addr} {kc : ClassId} {z j x : Int32} {vs : List Value} {dv : Value} (A : Arv Z h a kc .int z vs dv) (hj : ¬ j < 0 ∧ j < z) (hi : j.toNatClampNeg = i) (hi' : i < vs.length) (hn : k0 ≤ a ∨ a ∈ ws) (hd : decode bytes pc = .ok (.iastore, 1))
    (k : ∀ h', Wr h h' a i (.int x) → Arv Z h' a kc .int z (vs.set i (.int x)) dv → Go p l e R s m args below meth c Z k0 ws wF own Q w vm0 h' ce sl (mkF m (pc + 1) Ls (rest))) : Go p l e R s m args below meth c Z k0 ws wF own Q w vm0 h ce sl (mkF m (pc) Ls (.int x :: .int j :: .ref a :: rest)) :=
  fun T locs X eT N hS hZ ho hw => by
    obtain ⟨cl, Ar, q, S, Nz, H, G⟩ := A
    obtain ⟨T', h', X', e', W, st⟩ := RoadKit.stI X K.1 hZ eT Ar (j := j) (inb_of S hj) (g := mkF m pc Ls (.int x :: .int j :: .ref a :: rest)) rfl rfl (hb K.2.1 hd)
    have V := Arv.set Ar q S Nz H G rfl W i hi hi'
    rw [hi] at W
    obtain ⟨U, o, hU, r⟩ := k h' W V T' _ X' e' (Fw.snoc N hn) ⟨hS.1, hS.2.mono (Nat.le_of_eq W.size.symm)⟩ hZ ho hw
    exact ⟨U, o, st U hU, r⟩
theorem caload (K : Kit p m meth c bytes maxL ret nm) {pc : Nat} {a : Addr} {kc : ClassId} {z j : Int32} {vs : List Value} {dv v : Value} (A : Arv Z h a kc .char z vs dv) (hj : ¬ j < 0 ∧ j < z) (hv : vs.getD j.toNatClampNeg dv = v) (hd : decode bytes pc = .ok (.caload, 1)) (k : Go p l e R s m args below meth c Z k0 ws wF own Q w vm0 h ce sl (mkF m (pc + 1) Ls (v :: rest))) : Go p l e R s m args below meth c Z k0 ws wF own Q w vm0 h ce sl (mkF m (pc) Ls (.int j :: .ref a :: rest)) :=
  Go.step (Nat.le_refl _) (fun T locs X eT N hZ ho => by
    obtain ⟨cl, Ar, q, S, Nz, H, G⟩ := A
    exact ⟨T, locs, X, eT, N, fun t r => X.caload K.1 (j := j) (v := v) (by rw [eT]; exact Ar.1) (State.isArrayOf_alike hZ.alike Ar.2.1) Ar.2.2 (inb_of S hj) (H.at (inb_of S hj) hv) (g := mkF m pc Ls (.int j :: .ref a :: rest)) rfl rfl (hb K.2.1 hd) t r⟩) k
theorem iaload (K : Kit p m meth c bytes maxL ret nm) {pc : Nat} {a : Addr} {kc : ClassId} {z j : Int32} {vs : List Value} {dv v : Value} (A : Arv Z h a kc .int z vs dv) (hj : ¬ j < 0 ∧ j < z) (hv : vs.getD j.toNatClampNeg dv = v) (hd : decode bytes pc = .ok (.iaload, 1)) (k : Go p l e R s m args below meth c Z k0 ws wF own Q w vm0 h ce sl (mkF m (pc + 1) Ls (v :: rest))) : Go p l e R s m args below meth c Z k0 ws wF own Q w vm0 h ce sl (mkF m (pc) Ls (.int j :: .ref a :: rest)) :=
  Go.step (Nat.le_refl _) (fun T locs X eT N hZ ho => by
    obtain ⟨cl, Ar, q, S, Nz, H, G⟩ := A
    exact ⟨T, locs, X, eT, N, fun t r => X.iaload K.1 (j := j) (v := v) (by rw [eT]; exact Ar.1) (State.isArrayOf_alike hZ.alike Ar.2.1) Ar.2.2 (inb_of S hj) (H.at (inb_of S hj) hv) (g := mkF m pc Ls (.int j :: .ref a :: rest)) rfl rfl (hb K.2.1 hd) t r⟩) k
theorem baload (K : Kit p m meth c bytes maxL ret nm) {pc : Nat} {a : Addr} {kc : ClassId} {z j : Int32} {vs : List Value} {dv v : Value} (A : Arv Z h a kc .byte z vs dv) (hj : ¬ j < 0 ∧ j < z) (hv : vs.getD j.toNatClampNeg dv = v) (hd : decode bytes pc = .ok (.baload, 1)) (k : Go p l e R s m args below meth c Z k0 ws wF own Q w vm0 h ce sl (mkF m (pc + 1) Ls (v :: rest))) : Go p l e R s m args below meth c Z k0 ws wF own Q w vm0 h ce sl (mkF m (pc) Ls (.int j :: .ref a :: rest)) :=
  Go.step (Nat.le_refl _) (fun T locs X eT N hZ ho => by
    obtain ⟨cl, Ar, q, S, Nz, H, G⟩ := A
    exact ⟨T, locs, X, eT, N, fun t r => X.baloadBytes K.1 (j := j) (v := v) (by rw [eT]; exact Ar.1) (State.isArrayOf_alike hZ.alike Ar.2.1) Ar.2.2 (inb_of S hj) (H.at (inb_of S hj) hv) (g := mkF m pc Ls (.int j :: .ref a :: rest)) rfl rfl (hb K.2.1 hd) t r⟩) k
theorem arrlen (K : Kit p m meth c bytes maxL ret nm) {pc : Nat} {a : Addr} {kc : ClassId} {ty : FieldType} {z : Int32} {vs : List Value} {dv : Value} (A : Arv Z h a kc ty z vs dv) (hd : decode bytes pc = .ok (.arraylength, 1)) (k : Go p l e R s m args below meth c Z k0 ws wF own Q w vm0 h ce sl (mkF m (pc + 1) Ls (.int z :: rest))) : Go p l e R s m args below meth c Z k0 ws wF own Q w vm0 h ce sl (mkF m (pc) Ls (.ref a :: rest)) :=
  Go.step (Nat.le_refl _) (fun T locs X eT N hZ ho => by
    obtain ⟨cl, Ar, q, S, Nz, H, G⟩ := A
    exact ⟨T, locs, X, eT, N, fun t r => X.arraylength K.1 (by rw [eT]; exact Ar.1) (State.isArrayOf_alike hZ.alike Ar.2.1) (g := mkF m pc Ls (.ref a :: rest)) rfl rfl (hb K.2.1 hd) t (by rw [len_of S Nz]; exact r)⟩) k
theorem instY (K : Kit p m meth c bytes maxL ret nm) {pc idx : Nat} {C : String} (wl : (Jvm.Cond.classLink own idx C).before a0 Z = true) {a : Addr} (I : Ins Z h a C true) (hd : decode bytes pc = .ok (.instanceof idx, 3)) (k : Go p l e R s m args below meth c Z k0 ws wF own Q w vm0 h ce sl (mkF m (pc + 3) Ls (.int 1 :: rest))) : Go p l e R s m args below meth c Z k0 ws wF own Q w vm0 h ce sl (mkF m (pc) Ls (.ref a :: rest)) :=
  Go.step (Nat.le_refl _) (fun T locs X eT N hZ ho => by
    obtain ⟨T', X', e', st⟩ := RoadKit.instY X K.1 hZ ho wl eT I (g := mkF m pc Ls (.ref a :: rest)) rfl rfl (hb K.2.1 hd)
    exact ⟨T', locs, X', e', N, st⟩) k
theorem instNo (K : Kit p m meth c bytes maxL ret nm) {pc idx : Nat} {C D : String} (wl : (Jvm.Cond.classLink own idx C).before a0 Z = true) {a : Addr} (E : Exa Z h a D) (I : ∃ c t, Z.vm.findClass D = some c ∧ Z.vm.findClass C = some t ∧ Z.vm.assignable c t = false) (hd : decode bytes pc = .ok (.instanceof idx, 3)) (k : Go p l e R s m args below meth c Z k0 ws wF own Q w vm0 h ce sl (mkF m (pc + 3) Ls (.int 0 :: rest))) : Go p l e R s m args below meth c Z k0 ws wF own Q w vm0 h ce sl (mkF m (pc) Ls (.ref a :: rest)) :=
  Go.step (Nat.le_refl _) (fun T locs X eT N hZ ho => by
    obtain ⟨T', X', e', st⟩ := RoadKit.instNo X K.1 hZ ho wl eT E I (g := mkF m pc Ls (.ref a :: rest)) rfl rfl (hb K.2.1 hd)
    exact ⟨T', locs, X', e', N, st⟩) k
theorem instNull (K : Kit p m meth c bytes maxL ret nm) {pc idx : Nat} (hd : decode bytes pc = .ok (.instanceof idx, 3)) (k : Go p l e R s m args below meth c Z k0 ws wF own Q w vm0 h ce sl (mkF m (pc + 3) Ls (.int 0 :: rest))) : Go p l e R s m args below meth c Z k0 ws wF own Q w vm0 h ce sl (mkF m (pc) Ls (.null :: rest)) :=
  Go.step (Nat.le_refl _) (fun T locs X eT N hZ ho => ⟨T, locs, X, eT, N, fun t r => X.instanceofNull K.1 (g := mkF m pc Ls (.null :: rest)) rfl rfl (hb K.2.1 hd) t r⟩) k
theorem castY (K : Kit p m meth c bytes maxL ret nm) {pc idx : Nat} {C : String} (wl : (Jvm.Cond.classLink own idx C).before a0 Z = true) {a : Addr} (I : Ins Z h a C true) (hd : decode bytes pc = .ok (.checkcast idx, 3)) (k : Go p l e R s m args below meth c Z k0 ws wF own Q w vm0 h ce sl (mkF m (pc + 3) Ls (.ref a :: rest))) : Go p l e R s m args below meth c Z k0 ws wF own Q w vm0 h ce sl (mkF m (pc) Ls (.ref a :: rest)) :=
  Go.step (Nat.le_refl _) (fun T locs X eT N hZ ho => by
    obtain ⟨T', X', e', st⟩ := RoadKit.castY X K.1 hZ ho wl eT I (g := mkF m pc Ls (.ref a :: rest)) rfl rfl (hb K.2.1 hd)
    exact ⟨T', locs, X', e', N, st⟩) k
theorem castNull (K : Kit p m meth c bytes maxL ret nm) {pc idx : Nat} (hd : decode bytes pc = .ok (.checkcast idx, 3)) (k : Go p l e R s m args below meth c Z k0 ws wF own Q w vm0 h ce sl (mkF m (pc + 3) Ls (.null :: rest))) : Go p l e R s m args below meth c Z k0 ws wF own Q w vm0 h ce sl (mkF m (pc) Ls (.null :: rest)) :=
  Go.step (Nat.le_refl _) (fun T locs X eT N hZ ho => ⟨T, locs, X, eT, N, fun t r => X.checkcastNull K.1 (g := mkF m pc Ls (.null :: rest)) rfl rfl (hb K.2.1 hd) t r⟩) k
theorem initO (K : Kit p m meth c bytes maxL ret nm) {pc idx : Nat} (w1 : (Jvm.Cond.methodLink own idx Lib.objectInit).before a0 Z = true) (w2 : (Jvm.Cond.instanceMethod Lib.objectInit).before a0 Z = true) (w3 : (Jvm.Cond.code Lib.objectInit ⟨#[0xb1]⟩ 1 none).before a0 Z = true) {a : Addr} (hsz : Ls.size = maxL) (hd : decode bytes pc = .ok (.invokespecial idx, 3))
    (hf : 1 ≤ R.frames) (hl : (rest.map fun v => v.category).sum + 12 ≤ R.locals) (k : Go p l e R s m args below meth c Z k0 ws wF own Q w vm0 h ce sl (mkF m (pc + 3) Ls (rest))) : Go p l e R s m args below meth c Z k0 ws wF own Q w vm0 h ce sl (mkF m (pc) Ls (.ref a :: rest)) :=
  Go.step (Nat.le_refl _) (fun T locs X eT N hZ ho => by
    obtain ⟨T', X', e', st⟩ := RoadKit.initO X K.1 hZ ho w1 w2 w3 eT (g := mkF m pc Ls (.ref a :: rest)) rfl (by rw [K.2.2.1]; exact hsz) rfl (hb K.2.1 hd) hf (W := (rest.map fun v => v.category).sum) (by show 2 * 0 + _ ≤ _; omega) hl
    exact ⟨T', locs, X', e', N, st⟩) k
theorem ldcInt (K : Kit p m meth c bytes maxL ret nm) {pc idx : Nat} {v : Int32} (wl : (Jvm.Cond.constant own idx v).before a0 Z = true) (hd : decode bytes pc = .ok (.ldc idx, 2)) (k : Go p l e R s m args below meth c Z k0 ws wF own Q w vm0 h ce sl (mkF m (pc + 2) Ls (.int v :: st))) : Go p l e R s m args below meth c Z k0 ws wF own Q w vm0 h ce sl (mkF m (pc) Ls (st)) :=
  Go.step (Nat.le_refl _) (fun T locs X eT N hZ ho => ⟨T, locs, X, eT, N, fun t r => X.ldcInt K.1 ho (mvT hZ wl) (g := mkF m pc Ls st) rfl (hb K.2.1 hd) t r⟩) k
theorem ldc2Long (K : Kit p m meth c bytes maxL ret nm) {pc idx : Nat} {v : Int64} (wl : (Jvm.Cond.constantLong own idx v).before a0 Z = true) (hd : decode bytes pc = .ok (.ldc2_w idx, 3)) (k : Go p l e R s m args below meth c Z k0 ws wF own Q w vm0 h ce sl (mkF m (pc + 3) Ls (.long v :: st))) : Go p l e R s m args below meth c Z k0 ws wF own Q w vm0 h ce sl (mkF m (pc) Ls (st)) :=
  Go.step (Nat.le_refl _) (fun T locs X eT N hZ ho => ⟨T, locs, X, eT, N, fun t r => X.ldc2Long K.1 ho (mvT hZ wl) (g := mkF m pc Ls st) rfl (hb K.2.1 hd) t r⟩) k
/-- a payer's two ends, as RoadKit's backOf and the String laws have them -/
def BK (l : Launch) (R : Room) (p : Program) (e : Env) (below : List Frame) (s : State) (args : Array Value) (y : MethodName) (len W : Nat) (as' : Array Value) (h : Heap) (rc rs : Nat) (Qf : Option Value → Heap → List Loc → Prop) : Prop :=
  Back l R p e below s args y len W (fun A a => a = as' ∧ A.U.heap = h ∧ A.cells + rc ≤ R.cells ∧ A.slots + rs ≤ R.slots) (fun A _ v B => ∃ L, Qf v B.U.heap L ∧ B.locs = A.locs ++ L ∧ B.cells = A.cells + rc ∧ B.slots = A.slots + rs)
def BKS (l : Launch) (R : Room) (p : Program) (e : Env) (below : List Frame) (s : State) (args : Array Value) (y : MethodName) (len W : Nat) (as' : Array Value) (h : Heap) (rc rs : Nat) (V : Vm → Prop) (Qf : Option Value → Heap → Vm → List Loc → Prop) : Prop :=
  BackS l R p e below s args y len W (fun A a => a = as' ∧ A.U.heap = h ∧ V A.U.vm ∧ A.cells + rc ≤ R.cells ∧ A.slots + rs ≤ R.slots) (fun A _ v B => ∃ L, Qf v B.U.heap B.U.vm L ∧ B.locs = A.locs ++ L ∧ B.cells = A.cells + rc ∧ B.slots = A.slots + rs)
theorem Con.bk {y : MethodName} {by' : ByteArray} {mL : Nat} {rt : Option FieldType} {rm : Room} {as' : Array Value} {h : Heap} {Qc : Option Value → Heap → Vm → Prop} (C : Con l y by' mL rt [] rm Z as' h wF (fun _ => True) Qc false) {len W : Nat} (hZ : Z.Warmed39 s.vm)
    (wc : (Jvm.Cond.code y by' mL rt).before a0 Z = true) (wz : (Jvm.Cond.initialized y.cls).before a0 Z = true) (hf : rm.frames + 1 ≤ R.frames) (hl : W + (mL + 11) + rm.locals ≤ R.locals) :
    BK l R p e below s args y len W as' h rm.cells rm.slots (fun v h' L => (∃ vm, Qc v h' vm) ∧ Fw h.size wF L ∧ Keep h h' wF) :=
  backOf (Q := fun v h' L => (∃ vm, Qc v h' vm) ∧ Fw h.size wF L ∧ Keep h h' wF) (fun p' e' ha hc hk s' m' a' b' hf' happ hP hK => by
    obtain ⟨n, o, h1, h2, h3, v, L, r1, ⟨r2, r3⟩, r4⟩ := C p' e' ha hc hk s' m' a' b' hf' happ ⟨hP.1, hP.2.1, hP.2.2, trivial⟩ hK
    have eh := hP.2.2
    subst eh
    rcases r4 with r4 | r4
    · exact nomatch r4.1
    exact ⟨n, o, h1, h2, h3, v, L, r1, ⟨⟨_, r2⟩, r3, by have q := keep_same r4.2.2.2 r3; exact q⟩, r4.2⟩) hZ wc wz hf hl
theorem Con.bks {y : MethodName} {by' : ByteArray} {mL : Nat} {rt : Option FieldType} {rm : Room} {as' : Array Value} {h : Heap} {V : Vm → Prop} {Qc : Option Value → Heap → Vm → Prop} (C : Con l y by' mL rt [] rm Z as' h wF V Qc true) {len W : Nat} (hZ : Z.Warmed39 s.vm)
    (wc : (Jvm.Cond.code y by' mL rt).before a0 Z = true) (wz : (Jvm.Cond.initialized y.cls).before a0 Z = true) (hf : rm.frames + 1 ≤ R.frames) (hl : W + (mL + 11) + rm.locals ≤ R.locals) :
    BKS l R p e below s args y len W as' h rm.cells rm.slots V (fun v h' vm L => Qc v h' vm ∧ Fw h.size wF L ∧ Keep h h' wF) :=
  BackS.of_freeW (bytes := by') (maxL := mL) (ret := rt) (E := fun _ first o t L k n => k = rm.cells ∧ n = rm.slots ∧ ∃ v, o = .returned v ∧ Qc v t.heap t.vm ∧ Fw h.size wF L) C hf hl
    (fun m' meth' c' A a Y hp => have hU : Z.Warmed39 A.U.vm := wtrans hZ Y.warmed
      ⟨by show (Jvm.Cond.and _ .tt).before a A.U = true; rw [Jvm.Cond.before_and, mv hU wc]; rfl, mv hU wc, mv hU wz, hp.2.2.2.1, hp.2.2.2.2⟩)
    (fun m' meth' c' A a g mk Y hp => ⟨hp.1, wtrans hZ Y.warmed, hp.2.1, hp.2.2.1⟩) (fun _ _ _ _ _ _ _ _ _ => trivial)
    (fun a first o t q => by
      obtain ⟨v, L, r1, ⟨r2, r3⟩, r4⟩ := q
      exact ⟨L, _, _, r4.elim (fun q => q.2) (fun q => nomatch q.1), rfl, rfl, v, r1, r2, r3⟩)
    (fun m' meth' c' A a g mk v t L k n Y hp _ hR q => by
      obtain ⟨e1, e2, v', e3, e4, e5⟩ := q
      have eh : (A.U.calling g mk a).heap = h := hp.2.1
      have K : Keep (A.U.calling g mk a).heap t.heap wF := by have q := keep_same hR.2.2.2 (ws := wF) (by rw [eh]; exact e5); exact q
      rw [eh] at K
      cases e3; subst e1 e2; exact ⟨L, ⟨e4, e5, K⟩, rfl, rfl, rfl⟩)
theorem callS (K : Kit p m meth c bytes maxL ret nm) {pc idx : Nat} {y : MethodName} {as' : Array Value} {rc rs : Nat} {Qf : Option Value → Heap → List Loc → Prop} {by' : ByteArray} {mL : Nat} {rt : Option FieldType} (wl : (Jvm.Cond.methodLink own idx y).before a0 Z = true) (wt : (Jvm.Cond.static y).before a0 Z = true) (wz : (Jvm.Cond.initialized y.cls).before a0 Z = true) (wc : (Jvm.Cond.code y by' mL rt).before a0 Z = true) (hy : y.cls ≠ "java/lang/invoke/MethodHandle" ∧ y.cls ≠ "java/lang/invoke/VarHandle")  (hK : Z.Warmed39 (s.setVm vm0).vm → BK l R p e below (s.setVm vm0) args y 3 (rest.map fun v => v.category).sum as' h rc rs Qf)
    {argsL : List Value} (has : as' = argsL.toArray) (hst : st = argsL.reverse ++ rest) (hlen : ∀ sig, parseMethodDescriptor y.desc = some sig → argsL.length = sig.parameters.length) (hsz : Ls.size = maxL) (hd : decode bytes pc = .ok (.invokestatic idx, 3)) (hce : ce + rc ≤ R.cells) (hsl : sl + rs ≤ R.slots) (hfr : ∀ v h' L, Qf v h' L → Fw k0 ws L ∧ h.size ≤ h'.size)
    (k : ∀ v h' L, Qf v h' L → Go p l e R s m args below meth c Z k0 ws wF own Q w vm0 h' (ce + rc) (sl + rs) (mkF m (pc + 3) Ls (v.toList ++ rest))) : Go p l e R s m args below meth c Z k0 ws wF own Q w vm0 h ce sl (mkF m (pc) Ls (st)) :=
  fun T locs X eT N hS hZ ho hw => by
    subst has hst
    obtain ⟨v, vm1, ⟨T', L', c', s'⟩, hW1, X', ⟨L, hQ, q1, q2, q3⟩, st⟩ := Jvm.LawKit.callS X K.1 ho (mvT hZ wl) (mvT hZ wt) (mvT hZ wz) (mvT hZ wc) hy (hK hZ) (g := mkF m pc Ls (argsL.reverse ++ rest)) rfl (by rw [K.2.2.1]; exact hsz) (argsL := argsL) (rest := rest) hlen rfl (by show 2 * 0 + _ ≤ _; omega) (hb K.2.1 hd) (fun _ _ => ⟨rfl, eT, hce, hsl⟩)
    dsimp only [Pt.U, Pt.locs, Pt.cells, Pt.slots] at X' q1 q2 q3 st hQ
    subst q1 q2 q3
    obtain ⟨U, o, hU, r⟩ := k v T'.heap L hQ T' _ X' rfl (Fw.app N (hfr _ _ _ hQ).1) ⟨hS.1, hS.2.mono (hfr _ _ _ hQ).2⟩ hZ ho hw
    exact ⟨U, o, st U hU, r⟩
theorem callSS (K : Kit p m meth c bytes maxL ret nm) {pc idx : Nat} {y : MethodName} {as' : Array Value} {rc rs : Nat} {V : Vm → Prop} {Qf : Option Value → Heap → Vm → List Loc → Prop} {by' : ByteArray} {mL : Nat} {rt : Option FieldType} (wl : (Jvm.Cond.methodLink own idx y).before a0 Z = true) (wt : (Jvm.Cond.static y).before a0 Z = true) (wz : (Jvm.Cond.initialized y.cls).before a0 Z = true) (wc : (Jvm.Cond.code y by' mL rt).before a0 Z = true) (hy : y.cls ≠ "java/lang/invoke/MethodHandle" ∧ y.cls ≠ "java/lang/invoke/VarHandle")  (hw1 : w = true) (hV : ∀ vm1, (s.setVm vm0).WarmedH vm1 → V vm1) (hK : Z.Warmed39 (s.setVm vm0).vm → BKS l R p e below (s.setVm vm0) args y 3 (rest.map fun v => v.category).sum as' h rc rs V Qf)
    {argsL : List Value} (has : as' = argsL.toArray) (hst : st = argsL.reverse ++ rest) (hlen : ∀ sig, parseMethodDescriptor y.desc = some sig → argsL.length = sig.parameters.length) (hsz : Ls.size = maxL) (hd : decode bytes pc = .ok (.invokestatic idx, 3)) (hce : ce + rc ≤ R.cells) (hsl : sl + rs ≤ R.slots) (hfr : ∀ v h' vm L, Qf v h' vm L → Fw k0 ws L)
    (k : ∀ v h' vm1 L, Qf v h' vm1 L → h.size ≤ h'.size → (s.setVm vm0).Warmed39 vm1 → Go p l e R s m args below meth c Z k0 ws wF own Q w vm1 h' (ce + rc) (sl + rs) (mkF m (pc + 3) Ls (v.toList ++ rest))) : Go p l e R s m args below meth c Z k0 ws wF own Q w vm0 h ce sl (mkF m (pc) Ls (st)) :=
  fun T locs X eT N hS hZ ho hw => by
    subst has hst
    obtain ⟨v, vm1, ⟨T', L', c', s'⟩, hW1, X', hS2, hgr, ⟨L, hQ, q1, q2, q3⟩, st⟩ := callSS X K.1 ho (mvT hZ wl) (mvT hZ wt) (mvT hZ wz) (mvT hZ wc) hy (hK hZ) (g := mkF m pc Ls (argsL.reverse ++ rest)) rfl (by rw [K.2.2.1]; exact hsz) (argsL := argsL) (rest := rest) hlen rfl (by show 2 * 0 + _ ≤ _; omega) (hb K.2.1 hd) (fun vm1 hv => ⟨rfl, eT, hV vm1 hv, hce, hsl⟩)
    dsimp only [Pt.U, Pt.locs, Pt.cells, Pt.slots] at X' q1 q2 q3 st hQ hS2 hgr
    subst q1 q2 q3
    rw [eT] at hgr
    obtain ⟨U, o, hU, r⟩ := k v T'.heap T'.vm L hQ hgr hS2.1 T' _ X' rfl (Fw.app N (hfr _ _ _ _ hQ)) (hS.trans hS2 hgr) (State.Warmed39.trans (t := s.setVm vm0) hZ hS2.1) ((hS2.1.alike.findClass _ _).trans ho) (Or.inl hw1)
    exact ⟨U, o, st.trans hU, r⟩
theorem callI (K : Kit p m meth c bytes maxL ret nm) {pc idx : Nat} {y : MethodName} {as' : Array Value} {rc rs : Nat} {Qf : Option Value → Heap → List Loc → Prop} {by' : ByteArray} {mL : Nat} (hy1 : y.name = "<init>") (wl : (Jvm.Cond.methodLink own idx y).before a0 Z = true) (wt : (Jvm.Cond.instanceMethod y).before a0 Z = true) (wc : (Jvm.Cond.code y by' mL none).before a0 Z = true) (hy : y.cls ≠ "java/lang/invoke/MethodHandle" ∧ y.cls ≠ "java/lang/invoke/VarHandle") {a : Addr}  (hK : Z.Warmed39 (s.setVm vm0).vm → BK l R p e below (s.setVm vm0) args y 3 (rest.map fun v => v.category).sum as' h rc rs Qf)
    {argsL : List Value} (has : as' = (.ref a :: argsL).toArray) (hst : st = argsL.reverse ++ .ref a :: rest) (hlen : ∀ sig, parseMethodDescriptor y.desc = some sig → argsL.length = sig.parameters.length) (hsz : Ls.size = maxL) (hd : decode bytes pc = .ok (.invokespecial idx, 3)) (hce : ce + rc ≤ R.cells) (hsl : sl + rs ≤ R.slots) (hfr : ∀ v h' L, Qf v h' L → Fw k0 ws L ∧ h.size ≤ h'.size)
    (k : ∀ v h' L, Qf v h' L → Go p l e R s m args below meth c Z k0 ws wF own Q w vm0 h' (ce + rc) (sl + rs) (mkF m (pc + 3) Ls (v.toList ++ rest))) : Go p l e R s m args below meth c Z k0 ws wF own Q w vm0 h ce sl (mkF m (pc) Ls (st)) :=
  fun T locs X eT N hS hZ ho hw => by
    subst has hst
    obtain ⟨v, vm1, ⟨T', L', c', s'⟩, hW1, X', ⟨L, hQ, q1, q2, q3⟩, st⟩ := X.specialBack K.1 hy1 ho (mvT hZ wl) (mvT hZ wt) (mvT hZ wc) hy (hK hZ) (g := mkF m pc Ls (argsL.reverse ++ .ref a :: rest)) rfl (by rw [K.2.2.1]; exact hsz) (Steps.refl _) (a := a) (argsL := argsL) (rest := rest) hlen rfl (by show 2 * 0 + _ ≤ _; omega) (hb K.2.1 hd) (fun _ _ => ⟨rfl, eT, hce, hsl⟩)
    dsimp only [Pt.U, Pt.locs, Pt.cells, Pt.slots] at X' q1 q2 q3 st hQ
    subst q1 q2 q3
    obtain ⟨U, o, hU, r⟩ := k v T'.heap L hQ T' _ X' rfl (Fw.app N (hfr _ _ _ hQ).1) ⟨hS.1, hS.2.mono (hfr _ _ _ hQ).2⟩ hZ ho hw
    exact ⟨U, o, st.trans hU, r⟩
theorem callIS (K : Kit p m meth c bytes maxL ret nm) {pc idx : Nat} {y : MethodName} {as' : Array Value} {rc rs : Nat} {V : Vm → Prop} {Qf : Option Value → Heap → Vm → List Loc → Prop} {by' : ByteArray} {mL : Nat} (hy1 : y.name = "<init>") (wl : (Jvm.Cond.methodLink own idx y).before a0 Z = true) (wt : (Jvm.Cond.instanceMethod y).before a0 Z = true) (wc : (Jvm.Cond.code y by' mL none).before a0 Z = true) (hy : y.cls ≠ "java/lang/invoke/MethodHandle" ∧ y.cls ≠ "java/lang/invoke/VarHandle") {a : Addr}  (hw1 : w = true) (hV : ∀ vm1, (s.setVm vm0).WarmedH vm1 → V vm1) (hK : Z.Warmed39 (s.setVm vm0).vm → BKS l R p e below (s.setVm vm0) args y 3 (rest.map fun v => v.category).sum as' h rc rs V Qf)
    {argsL : List Value} (has : as' = (.ref a :: argsL).toArray) (hst : st = argsL.reverse ++ .ref a :: rest) (hlen : ∀ sig, parseMethodDescriptor y.desc = some sig → argsL.length = sig.parameters.length) (hsz : Ls.size = maxL) (hd : decode bytes pc = .ok (.invokespecial idx, 3)) (hce : ce + rc ≤ R.cells) (hsl : sl + rs ≤ R.slots) (hfr : ∀ v h' vm L, Qf v h' vm L → Fw k0 ws L)
    (k : ∀ v h' vm1 L, Qf v h' vm1 L → h.size ≤ h'.size → (s.setVm vm0).Warmed39 vm1 → Go p l e R s m args below meth c Z k0 ws wF own Q w vm1 h' (ce + rc) (sl + rs) (mkF m (pc + 3) Ls (v.toList ++ rest))) : Go p l e R s m args below meth c Z k0 ws wF own Q w vm0 h ce sl (mkF m (pc) Ls (st)) :=
  fun T locs X eT N hS hZ ho hw => by
    subst has hst
    obtain ⟨v, vm1, ⟨T', L', c', s'⟩, hW1, X', hS2, hgr, ⟨L, hQ, q1, q2, q3⟩, st⟩ := X.specialBackS K.1 hy1 ho (mvT hZ wl) (mvT hZ wt) (mvT hZ wc) hy (hK hZ) (g := mkF m pc Ls (argsL.reverse ++ .ref a :: rest)) rfl (by rw [K.2.2.1]; exact hsz) (Steps.refl _) (a := a) (argsL := argsL) (rest := rest) hlen rfl (by show 2 * 0 + _ ≤ _; omega) (hb K.2.1 hd) (fun vm1 hv => ⟨rfl, eT, hV vm1 hv, hce, hsl⟩)
    dsimp only [Pt.U, Pt.locs, Pt.cells, Pt.slots] at X' q1 q2 q3 st hQ hS2 hgr
    subst q1 q2 q3
    rw [eT] at hgr
    obtain ⟨U, o, hU, r⟩ := k v T'.heap T'.vm L hQ hgr hS2.1 T' _ X' rfl (Fw.app N (hfr _ _ _ _ hQ)) (hS.trans hS2 hgr) (State.Warmed39.trans (t := s.setVm vm0) hZ hS2.1) ((hS2.1.alike.findClass _ _).trans ho) (Or.inl hw1)
    exact ⟨U, o, st.trans hU, r⟩
theorem callV (K : Kit p m meth c bytes maxL ret nm) {pc idx : Nat} {y : MethodName} {as' : Array Value} {rc rs : Nat} {Qf : Option Value → Heap → List Loc → Prop} {z : MethodName} {C : String} (wl : (Jvm.Cond.methodLink own idx y).before a0 Z = true) (wd : (Jvm.Cond.declares y).before a0 Z = true) (nf : NotFace (s.setVm vm0) y ∨ ((Jvm.Cond.selects y.cls y y).before a0 Z = true)) (wt : (Jvm.Cond.selects C y z).before a0 Z = true) (wc : (Jvm.Cond.instanceMethod z).before a0 Z = true) (hy : y.cls ≠ "java/lang/invoke/MethodHandle" ∧ y.cls ≠ "java/lang/invoke/VarHandle") {a : Addr} (E : Exa Z h a C)  (hK : Z.Warmed39 (s.setVm vm0).vm → BK l R p e below (s.setVm vm0) args z 3 (rest.map fun v => v.category).sum as' h rc rs Qf)
    {argsL : List Value} (has : as' = (.ref a :: argsL).toArray) (hst : st = argsL.reverse ++ .ref a :: rest) (hlen : ∀ sig, parseMethodDescriptor y.desc = some sig → argsL.length = sig.parameters.length) (hsz : Ls.size = maxL) (hd : decode bytes pc = .ok (.invokevirtual idx, 3)) (hce : ce + rc ≤ R.cells) (hsl : sl + rs ≤ R.slots) (hfr : ∀ v h' L, Qf v h' L → Fw k0 ws L ∧ h.size ≤ h'.size)
    (k : ∀ v h' L, Qf v h' L → Go p l e R s m args below meth c Z k0 ws wF own Q w vm0 h' (ce + rc) (sl + rs) (mkF m (pc + 3) Ls (v.toList ++ rest))) : Go p l e R s m args below meth c Z k0 ws wF own Q w vm0 h ce sl (mkF m (pc) Ls (st)) :=
  fun T locs X eT N hS hZ ho hw => by
    subst has hst
    obtain ⟨cq, kq, qa, qb, qc⟩ := isOf (s := s.setVm vm0) hZ eT E
    have nf' : NotFace (s.setVm vm0) y := nf.elim id (fun q => notFace_of_selects (args := #[]) (mvT hZ q))
    obtain ⟨v, vm1, ⟨T', L', c', s'⟩, hW1, X', ⟨L, hQ, q1, q2, q3⟩, st⟩ := X.virtualBack K.1 ho (mvT hZ wl) (mvT hZ wd) nf' (mvT hZ wt) (mvT hZ wc) hy (hK hZ) qa qc (g := mkF m pc Ls (argsL.reverse ++ .ref a :: rest)) rfl (by rw [K.2.2.1]; exact hsz) (Steps.refl _) (argsL := argsL) (rest := rest) hlen rfl (by show 2 * 0 + _ ≤ _; omega) (hb K.2.1 hd) (fun _ _ => ⟨rfl, eT, hce, hsl⟩)
    dsimp only [Pt.U, Pt.locs, Pt.cells, Pt.slots] at X' q1 q2 q3 st hQ
    subst q1 q2 q3
    obtain ⟨U, o, hU, r⟩ := k v T'.heap L hQ T' _ X' rfl (Fw.app N (hfr _ _ _ hQ).1) ⟨hS.1, hS.2.mono (hfr _ _ _ hQ).2⟩ hZ ho hw
    exact ⟨U, o, st.trans hU, r⟩
theorem callVS (K : Kit p m meth c bytes maxL ret nm) {pc idx : Nat} {y : MethodName} {as' : Array Value} {rc rs : Nat} {V : Vm → Prop} {Qf : Option Value → Heap → Vm → List Loc → Prop} {z : MethodName} {C : String} (wl : (Jvm.Cond.methodLink own idx y).before a0 Z = true) (wd : (Jvm.Cond.declares y).before a0 Z = true) (nf : NotFace (s.setVm vm0) y ∨ ((Jvm.Cond.selects y.cls y y).before a0 Z = true)) (wt : (Jvm.Cond.selects C y z).before a0 Z = true) (wc : (Jvm.Cond.instanceMethod z).before a0 Z = true) (hy : y.cls ≠ "java/lang/invoke/MethodHandle" ∧ y.cls ≠ "java/lang/invoke/VarHandle") {a : Addr} (E : Exa Z h a C)  (hw1 : w = true) (hV : ∀ vm1, (s.setVm vm0).WarmedH vm1 → V vm1) (hK : Z.Warmed39 (s.setVm vm0).vm → BKS l R p e below (s.setVm vm0) args z 3 (rest.map fun v => v.category).sum as' h rc rs V Qf)
    {argsL : List Value} (has : as' = (.ref a :: argsL).toArray) (hst : st = argsL.reverse ++ .ref a :: rest) (hlen : ∀ sig, parseMethodDescriptor y.desc = some sig → argsL.length = sig.parameters.length) (hsz : Ls.size = maxL) (hd : decode bytes pc = .ok (.invokevirtual idx, 3)) (hce : ce + rc ≤ R.cells) (hsl : sl + rs ≤ R.slots) (hfr : ∀ v h' vm L, Qf v h' vm L → Fw k0 ws L)
    (k : ∀ v h' vm1 L, Qf v h' vm1 L → h.size ≤ h'.size → (s.setVm vm0).Warmed39 vm1 → Go p l e R s m args below meth c Z k0 ws wF own Q w vm1 h' (ce + rc) (sl + rs) (mkF m (pc + 3) Ls (v.toList ++ rest))) : Go p l e R s m args below meth c Z k0 ws wF own Q w vm0 h ce sl (mkF m (pc) Ls (st)) :=
  fun T locs X eT N hS hZ ho hw => by
    subst has hst
    obtain ⟨cq, kq, qa, qb, qc⟩ := isOf (s := s.setVm vm0) hZ eT E
    have nf' : NotFace (s.setVm vm0) y := nf.elim id (fun q => notFace_of_selects (args := #[]) (mvT hZ q))
    obtain ⟨v, vm1, ⟨T', L', c', s'⟩, hW1, X', hS2, hgr, ⟨L, hQ, q1, q2, q3⟩, st⟩ := X.virtualBackS K.1 ho (mvT hZ wl) (mvT hZ wd) nf' (mvT hZ wt) (mvT hZ wc) hy (hK hZ) qa qc (g := mkF m pc Ls (argsL.reverse ++ .ref a :: rest)) rfl (by rw [K.2.2.1]; exact hsz) (Steps.refl _) (argsL := argsL) (rest := rest) hlen rfl (by show 2 * 0 + _ ≤ _; omega) (hb K.2.1 hd) (fun vm1 hv => ⟨rfl, eT, hV vm1 hv, hce, hsl⟩)
    dsimp only [Pt.U, Pt.locs, Pt.cells, Pt.slots] at X' q1 q2 q3 st hQ hS2 hgr
    subst q1 q2 q3
    rw [eT] at hgr
    obtain ⟨U, o, hU, r⟩ := k v T'.heap T'.vm L hQ hgr hS2.1 T' _ X' rfl (Fw.app N (hfr _ _ _ _ hQ)) (hS.trans hS2 hgr) (State.Warmed39.trans (t := s.setVm vm0) hZ hS2.1) ((hS2.1.alike.findClass _ _).trans ho) (Or.inl hw1)
    exact ⟨U, o, st.trans hU, r⟩
theorem ib_warm {vm1 : Vm} {Ts : List String} (I : IB Z vm0 Ts) (hW : (s.setVm vm0).WarmedH vm1) : IB Z vm1 Ts := by
  obtain ⟨more, h1, h2⟩ := I
  exact ⟨more, by rw [hW.interned_eq]; exact h1, h2⟩
/-- ldc of a String constant whose text the walk reads -/
theorem ldcT (K : Kit p m meth c bytes maxL ret nm) (hw1 : w = true) {pc idx : Nat} {text : String} {Ts : List String} {n0 : Nat} {h00 : Heap} (hsh : s.heap = h00) (hk0 : k0 = h00.size) (O : Old Z n0 h00) (hws : ws = []) (wl : (Jvm.Cond.stringLink own idx text).before a0 Z = true) (wS : ∀ a ∈ Bundle.stringAtoms, a.before a0 Z = true) (I : IB Z vm0 Ts) (hnot : text ∉ Ts) (hh : Jvm.Lit.constHeld Z own idx) (hcw : Jvm.Lit.compactW.before a0 Z = true)
    {vs : List Value} {z : Int32} (ht : (∀ c ∈ text.toList, c.toNat < 256) ∧ text.toList.map (fun c => Value.int (Jvm.Lit.byteI c.toNat.toUInt16)) = vs) (hz : ¬ z < 0) (hl : z.toNatClampNeg = vs.length)
    (hd : decode bytes pc = .ok (.ldc idx, 2)) {n : Nat} (hn : 4 * text.toList.length ≤ n) (hbig : n ≤ 536870912) (hc : ce + 2 ≤ R.cells) (hl' : sl + (n + 4) ≤ R.slots)
    (k : ∀ h' vm1 a b kb, Ext h h' → Exa Z h' a "java/lang/String" → Fld Z h' a "java/lang/String" "coder" "B" (.int 0) → Fld Z h' a "java/lang/String" "value" "[B" (.ref b) → Arv Z h' b kb .byte z vs (.int 0) → IB Z vm1 (text :: Ts) → Lit (s.setVm vm1) own idx a → Go p l e R s m args below meth c Z k0 ws wF own Q w vm1 h' (ce + 2) (sl + (n + 4)) (mkF m (pc + 2) Ls (.ref a :: st))) : Go p l e R s m args below meth c Z k0 ws wF own Q w vm0 h ce sl (mkF m (pc) Ls (st)) :=
  fun T locs X eT N hS hZ ho hw => by
    subst hsh hk0 hws
    have N' : Fr s.heap.size locs := fun y hy => (N y hy).elim id (fun z => nomatch z)
    obtain ⟨a, T', h', k1, b, kb, X', e', E, hS', hk1, hZ', ho', r1, r2, r3, r4, r5, r6, r7, r8, st⟩ := ldcSVL X K.1 hZ ho wl wS eT hS (Nat.le_refl _) N' (fun b cl hb => O.2.2 b cl hb) I hnot hh hcw ht hz hl (g := mkF m pc Ls st) rfl (hb K.2.1 hd) hn hbig hc hl'
    obtain ⟨U, o, hU, r⟩ := k h' T'.vm a b kb E r1 r2 r3 r4 r7 r8 T' _ X' e' N ⟨hS'.1, hS'.2.mono hk1⟩ hZ' ho' (Or.inl hw1)
    exact ⟨U, o, st U hU, r⟩
theorem ldcA (K : Kit p m meth c bytes maxL ret nm) {pc idx : Nat} {text : String} {a : Addr} (wl : (Jvm.Cond.stringLink own idx text).before a0 Z = true) (L : Lit (s.setVm vm0) own idx a) (hd : decode bytes pc = .ok (.ldc idx, 2)) (k : Go p l e R s m args below meth c Z k0 ws wF own Q w vm0 h ce sl (mkF m (pc + 2) Ls (.ref a :: st))) : Go p l e R s m args below meth c Z k0 ws wF own Q w vm0 h ce sl (mkF m (pc) Ls (st)) :=
  Go.step (Nat.le_refl _) (fun T locs X eT N hZ ho => ⟨T, locs, X, eT, N, fun t r => ldcAgain X K.1 hZ ho wl L (g := mkF m pc Ls st) rfl (hb K.2.1 hd) t r⟩) k
/-- ldc of a String constant whose text nobody reads -/
theorem ldcN (K : Kit p m meth c bytes maxL ret nm) (hw1 : w = true) {pc idx : Nat} {text : String} (wl : (Jvm.Cond.stringLink own idx text).before a0 Z = true) (wS : ∀ a ∈ Bundle.stringAtoms, a.before a0 Z = true) (hd : decode bytes pc = .ok (.ldc idx, 2)) {n : Nat} (hn : 4 * text.toList.length ≤ n) (hbig : n ≤ 536870912) (hc : ce + 2 ≤ R.cells) (hl' : sl + (n + 4) ≤ R.slots)
    (k : ∀ h' vm1 a, Ext h h' → Go p l e R s m args below meth c Z k0 ws wF own Q w vm1 h' (ce + 2) (sl + (n + 4)) (mkF m (pc + 2) Ls (.ref a :: st))) : Go p l e R s m args below meth c Z k0 ws wF own Q w vm0 h ce sl (mkF m (pc) Ls (st)) :=
  fun T locs X eT N hS hZ ho hw => by
    obtain ⟨a, T', h', k1, X', e', E, hS', hk1, hZ', ho', st⟩ := ldcS X K.1 hZ ho wl wS eT hS (Nat.le_refl _) (g := mkF m pc Ls st) rfl (hb K.2.1 hd) hn hbig hc hl'
    obtain ⟨U, o, hU, r⟩ := k h' T'.vm a E T' _ X' e' N ⟨hS'.1, hS'.2.mono hk1⟩ hZ' ho' (Or.inl hw1)
    exact ⟨U, o, st U hU, r⟩
end
open Jvm Jvm.ClassFile Sem Op Lib Jvm.Free Jvm.Stand Jvm.LawKit Jvm.RoadKit
theorem ane {a b : Nat} (h : ¬ a = b) : (a : Addr) ≠ b := h
theorem fits_isRef {t : FieldType} {v : Value} (ht : t.isReference = true) (h : v.isRef = true) : fits t v = true := by
  cases t <;> cases v <;> first | rfl | (exact absurd ht (by decide)) | (exact absurd h (by simp [Value.isRef]))
theorem cat_ref (a : Addr) : (Value.ref a).category = 1 := rfl
theorem cat_int (a : Int32) : (Value.int a).category = 1 := rfl
theorem cat_long (a : Int64) : (Value.long a).category = 2 := rfl
theorem cat_null : Value.null.category = 1 := rfl
theorem cat_isRef {v : Value} (h : v.isRef = true) : v.category = 1 := by
  cases v <;> first | rfl | (simp [Value.isRef] at h)
theorem i2c_id {x : Int32} (h0 : ¬ x < 0) (h1 : ¬ (65535 : Int32) < x) : x.toUInt32.toUInt16.toUInt32.toInt32 = x := by
  have := c_i2c x
  have a0 : (0 : Int32).toInt = 0 := by decide
  have a1 : (65535 : Int32).toInt = 65535 := by decide
  rw [Int32.lt_iff_toInt_lt] at h0 h1
  apply Int32.toInt_inj.mp
  omega
theorem mask_rng (x : Int32) (m : Int32) (hm : 0 ≤ m.toInt) : ¬ (x &&& m) < 0 ∧ ¬ m < (x &&& m) := by
  have := c_and x m hm
  have a0 : (0 : Int32).toInt = 0 := by decide
  rw [Int32.lt_iff_toInt_lt, Int32.lt_iff_toInt_lt]
  omega
theorem nar_char_id {x : Int32} (h0 : ¬ x < 0) (h1 : ¬ (65535 : Int32) < x) : nar .char x = x := i2c_id h0 h1
theorem nle {a b c : Int32} (h : ¬ b < a) (hbc : ¬ c < b) : ¬ c < a := by
  rw [Int32.lt_iff_toInt_lt] at *; omega
theorem ch255 (x : Int32) : nar .char ((x &&& 255).toUInt32.toUInt16.toUInt32.toInt32) = x &&& 255 := by
  have := mask_rng x 255 (by decide)
  rw [i2c_mask]
  exact nar_char_id this.1 (nle this.2 (by decide))
theorem and3 (x : Int32) : x &&& 3 = 0 ∨ x &&& 3 = 1 ∨ x &&& 3 = 2 ∨ x &&& 3 = 3 := by
  have h := c_and x 3 (by decide)
  have a3 : (3 : Int32).toInt = 3 := by decide
  rw [a3] at h
  have : (x &&& 3).toInt = 0 ∨ (x &&& 3).toInt = 1 ∨ (x &&& 3).toInt = 2 ∨ (x &&& 3).toInt = 3 := by omega
  rcases this with q | q | q | q
  · exact Or.inl (Int32.toInt_inj.mp (q.trans (by decide)))
  · exact Or.inr (Or.inl (Int32.toInt_inj.mp (q.trans (by decide))))
  · exact Or.inr (Or.inr (Or.inl (Int32.toInt_inj.mp (q.trans (by decide)))))
  · exact Or.inr (Or.inr (Or.inr (Int32.toInt_inj.mp (q.trans (by decide)))))
end GoKit
end Jvm.Pilot.@@N@@
/- laws to paste: Road.backV, Road.codOf (cut by pick.py; bodies as the Statement names them) -/
namespace Jvm.Pilot.@@N@@
namespace StrChars
open Jvm Sem ClassFile Op Lib Jvm.Stand Jvm.Free.XT Jvm.Free.ALB Jvm.Free.JM Jvm.Free
open Jvm.Lib.Cold (StaticIs)
/-- a char array whose places are chars -/
def Ch (a : Addr) (A : Cell) (U : State) : Prop := Arr .char a A U ∧ Typed .char A
theorem Ch.mv {a : Addr} {A : Cell} {U U' : State} (h : Ch a A U) (hal : U.vm.Alike U'.vm) (hh : U'.heap = U.heap) : Ch a A U' := ⟨h.1.mv hal hh, h.2⟩
theorem Ch.keep {a : Addr} {A : Cell} {U U' : State} (h : Ch a A U) (hal : U.vm.Alike U'.vm) (hk : U'.heap[a]? = some A) : Ch a A U' := ⟨h.1.keep hal hk, h.2⟩
/-- what place i of a char[]'s cell holds -/
def cv (A : Cell) (i : Nat) : Int32 := match A.slots[i]? with | some (.int x) => x | _ => 0
theorem Ch.get {a : Addr} {A : Cell} {U : State} (h : Ch a A U) {i : Nat} (hi : i < A.slots.size) : A.slots[i]? = some (.int (cv A i)) := by
  have e := Array.getElem?_eq_getElem hi
  have f := h.2 i _ e
  unfold cv; rw [e]
  generalize A.slots[i] = v at f
  cases v <;> simp [fits] at f ⊢
/-- the byte that i2b leaves of a char -/
def lo8 (x : Int32) : Int32 := x.toInt8.toInt32
theorem fits_lo8 (y : Int32) : fits .byte (.int (lo8 y)) = true := by
  have h1 := y.toInt8.le_toInt
  have h2 := y.toInt8.toInt_lt
  simp only [lo8, fits, Bool.and_eq_true, decide_eq_true_eq, Int32.le_iff_toInt_le, Int8.toInt_toInt32, show (-128 : Int32).toInt = -128 from by decide, show (127 : Int32).toInt = 127 from by decide]
  omega
/-- A' is A but that each place j of lo .. hi - 1 holds f j -/
def Laid (A A' : Cell) (lo hi : Nat) (f : Nat → Value) : Prop := A'.cls = A.cls ∧ A'.vm = A.vm ∧ A'.slots.size = A.slots.size ∧ ∀ i, A'.slots[i]? = if lo ≤ i ∧ i < hi then some (f i) else A.slots[i]?
theorem Laid.zero (A : Cell) (lo : Nat) (f : Nat → Value) : Laid A A lo (lo + 0) f := ⟨rfl, rfl, rfl, fun i => by rw [if_neg (by omega)]⟩
theorem Laid.step {A Ak : Cell} {lo k : Nat} {f : Nat → Value} {v : Value} (h : Laid A Ak lo k f) (hlo : lo ≤ k) (hk : k < Ak.slots.size) (hv : v = f k) : Laid A (Ak.setSlot k v) lo (k + 1) f := by
  refine ⟨h.1, h.2.1, by simpa [Cell.setSlot] using h.2.2.1, fun i => ?_⟩
  by_cases e : k = i
  · subst e; rw [Cell.slots_setSlot_self v hk, if_pos (by omega), hv]
  · rw [Cell.slots_setSlot_ne v e, h.2.2.2 i]
    by_cases q : lo ≤ i ∧ i < k
    · rw [if_pos q, if_pos (by omega)]
    · rw [if_neg q, if_neg (by omega)]
def U16 : String := "java/lang/StringUTF16"
namespace Cmp5
def yN : MethodName := ⟨"java/lang/StringUTF16", "compress", "([CI[BII)I"⟩
abbrev yB : ByteArray := jdk_52_method_21_code
theorem d0 : decode yB 0 = .ok (.iconst 0, 1) := by decide +kernel
theorem d1 : decode yB 1 = .ok (.istore 5, 2) := by decide +kernel
theorem d3 : decode yB 3 = .ok (.iload 5, 2) := by decide +kernel
theorem d5 : decode yB 5 = .ok (.iload 4, 2) := by decide +kernel
theorem d7 : decode yB 7 = .ok (.if_icmp (.ge) 37, 3) := by decide +kernel
theorem d10 : decode yB 10 = .ok (.aload_n 0, 1) := by decide +kernel
theorem d11 : decode yB 11 = .ok (.iload_n 1, 1) := by decide +kernel
theorem d12 : decode yB 12 = .ok (.caload, 1) := by decide +kernel
theorem d13 : decode yB 13 = .ok (.istore 6, 2) := by decide +kernel
theorem d15 : decode yB 15 = .ok (.iload 6, 2) := by decide +kernel
theorem d17 : decode yB 17 = .ok (.sipush 255, 3) := by decide +kernel
theorem d20 : decode yB 20 = .ok (.if_icmp (.le) 6, 3) := by decide +kernel
theorem d26 : decode yB 26 = .ok (.aload_n 2, 1) := by decide +kernel
theorem d27 : decode yB 27 = .ok (.iload_n 3, 1) := by decide +kernel
theorem d28 : decode yB 28 = .ok (.iload 6, 2) := by decide +kernel
theorem d30 : decode yB 30 = .ok (.i2b, 1) := by decide +kernel
theorem d31 : decode yB 31 = .ok (.bastore, 1) := by decide +kernel
theorem d32 : decode yB 32 = .ok (.iinc 1 1, 3) := by decide +kernel
theorem d35 : decode yB 35 = .ok (.iinc 3 1, 3) := by decide +kernel
theorem d38 : decode yB 38 = .ok (.iinc 5 1, 3) := by decide +kernel
theorem d41 : decode yB 41 = .ok (.goto (-38), 3) := by decide +kernel
theorem d44 : decode yB 44 = .ok (.iload 4, 2) := by decide +kernel
theorem d46 : decode yB 46 = .ok (.ireturn, 1) := by decide +kernel
def site : List Cond := []
def tab : Cond := tabOf yN yB 7 (some .int) site
def P (b : Addr) (A : Cell) (d : Addr) (B : Cell) (o q len : Nat) (args : Array Value) (s : State) : Prop := args = #[.ref b, .int (Int32.ofNat o), .ref d, .int (Int32.ofNat q), .int (Int32.ofNat len)] ∧ Ch b A s ∧ Arr .byte d B s ∧ b ≠ d ∧ o + len ≤ A.slots.size ∧ q + len ≤ B.slots.size ∧ ∀ i, i < len → ¬ 255 < cv A (o + i)
def E (b : Addr) (A : Cell) (d : Addr) (B : Cell) (o q len : Nat) (r : Option Value) (s u : State) : Prop := r = some (.int (Int32.ofNat len)) ∧ ∃ B', Put d B' s u ∧ Laid B B' q (q + len) (fun j => Value.int (lo8 (cv A (o + (j - q)))))
/-- no char of the range above 255: len; the places written hold each char's low byte -/
theorem law (l : Launch) (b : Addr) (A : Cell) (d : Addr) (B : Cell) (o q len : Nat) : Law l yN 5 5 0 0 yB 7 (some .int) site (P b A d B o q len) (E b A d B o q len) (copyLocs d q len) 0 0 := by
  refine Law.of_walk (plainFor_of_name (by decide +kernel)) (by decide +kernel) (by decide +kernel) (by decide) (fun _ _ h => by rw [h.1]; rfl) (fun _ U U' hal hh h => ⟨h.1, h.2.1.mv hal hh, h.2.2.1.mv hal hh, h.2.2.2⟩) (fun r U U' V V' h1 hal h2 h => ⟨h.1, h.2.elim fun B' q => ⟨B', q.1.mv h1 h2, q.2⟩⟩) ?_
  intro p e s m args below meth c s₁ X0 hexec hbytes hml hret hlk hnm hown hh0 W hP
  obtain ⟨rfl, hA, hB, hne, l1, l2, hp⟩ := hP
  have c1 : Steps p.tables e below (s₁.setTop (entryFrame m #[.ref b, .int (Int32.ofNat o), .ref d, .int (Int32.ofNat q), .int (Int32.ofNat len)] 7)) (s₁.setTop (mkF m 0 #[.val (.ref b), .val (.int (Int32.ofNat o)), .val (.ref d), .val (.int (Int32.ofNat q)), .val (.int (Int32.ofNat len)), .unset, .unset] [])) := entry rfl
  have hA0 := hA.1.mv X0.warmed.alike hh0
  have hB0 := hB.mv X0.warmed.alike hh0
  have a31 := hA.1.2.2.2
  have c2 : Steps p.tables e below (s₁.setTop (entryFrame m #[.ref b, .int (Int32.ofNat o), .ref d, .int (Int32.ofNat q), .int (Int32.ofNat len)] 7)) (s₁.setTop (mkF m 3 #[.val (.ref b), .val (.int (Int32.ofNat o)), .val (.ref d), .val (.int (Int32.ofNat q)), .val (.int (Int32.ofNat len)), .val (.int 0), .unset] [])) := c1.trans (by
    refine iconstV X0.here hexec rfl 0 (hb hbytes d0) (by decide) ?_
    refine XS.istore X0.here hexec rfl (hb hbytes d1) rfl rfl ?_
    exact Steps.refl _)
  have loop : ∀ (r i : Nat), i + r = len → ∀ (z : Slot), (z = .unset ∨ ∃ w, z = .val w ∧ w.category = 1) → ∀ (Tl : State) (Bk : Cell), Stand p l e { frames := 0, locals := 0, cells := 0, slots := 0 } s m #[.ref b, .int (Int32.ofNat o), .ref d, .int (Int32.ofNat q), .int (Int32.ofNat len)] below meth c Tl ([] ++ copyLocs d q i) 0 0 → Put d Bk s₁ Tl → Laid B Bk q (q + i) (fun j => Value.int (lo8 (cv A (o + (j - q))))) →
      Steps p.tables e below (s₁.setTop (entryFrame m #[.ref b, .int (Int32.ofNat o), .ref d, .int (Int32.ofNat q), .int (Int32.ofNat len)] 7)) (Tl.setTop (mkF m 3 #[.val (.ref b), .val (.int (Int32.ofNat (o + i))), .val (.ref d), .val (.int (Int32.ofNat (q + i))), .val (.int (Int32.ofNat len)), .val (.int (Int32.ofNat i)), z] [])) → ∃ (T' : State) (B' : Cell) (z' : Slot), Stand p l e { frames := 0, locals := 0, cells := 0, slots := 0 } s m #[.ref b, .int (Int32.ofNat o), .ref d, .int (Int32.ofNat q), .int (Int32.ofNat len)] below meth c T' ([] ++ copyLocs d q len) 0 0 ∧ Put d B' s₁ T' ∧ Laid B B' q (q + len) (fun j => Value.int (lo8 (cv A (o + (j - q))))) ∧
      Steps p.tables e below (s₁.setTop (entryFrame m #[.ref b, .int (Int32.ofNat o), .ref d, .int (Int32.ofNat q), .int (Int32.ofNat len)] 7)) (T'.setTop (mkF m 3 #[.val (.ref b), .val (.int (Int32.ofNat (o + len))), .val (.ref d), .val (.int (Int32.ofNat (q + len))), .val (.int (Int32.ofNat len)), .val (.int (Int32.ofNat len)), z'] [])) := by
    intro r
    induction r with
    | zero =>
      intro i hi z hz Tl Bk Xl pl fl cl
      have hil : i = len := by omega
      rw [hil] at Xl fl cl
      exact ⟨Tl, Bk, z, Xl, pl, fl, cl⟩
    | succ r ih =>
      intro i hi z hz Tl Bk Xl pl fl cl
      have all := X0.warmed.alike.symm.trans Xl.warmed.alike
      have hAl := hA0.keep all (pl.other hne hA0.1)
      have hBk := hB0.like all pl.1 fl.1 fl.2.1 fl.2.2.1
      have hlt : q + i < Bk.slots.size := by rw [fl.2.2.1]; omega
      have c3 : Steps p.tables e below (s₁.setTop (entryFrame m #[.ref b, .int (Int32.ofNat o), .ref d, .int (Int32.ofNat q), .int (Int32.ofNat len)] 7)) (Tl.setTop (mkF m 12 #[.val (.ref b), .val (.int (Int32.ofNat (o + i))), .val (.ref d), .val (.int (Int32.ofNat (q + i))), .val (.int (Int32.ofNat len)), .val (.int (Int32.ofNat i)), z] [.int (Int32.ofNat (o + i)), .ref b])) := cl.trans (by
        refine XS.iload Xl.here hexec rfl (hb hbytes d3) rfl ?_
        refine XS.iload Xl.here hexec rfl (hb hbytes d5) rfl ?_
        refine XS.icmpNo Xl.here hexec rfl (hb hbytes d7) rfl (ii_ge_f (lt32 (by omega) (by omega))) ?_
        refine XS.aloadN Xl.here hexec rfl (hb hbytes d10) rfl rfl ?_
        refine XS.iloadN Xl.here hexec rfl (hb hbytes d11) rfl ?_
        exact Steps.refl _)
      have c4 : Steps p.tables e below (s₁.setTop (entryFrame m #[.ref b, .int (Int32.ofNat o), .ref d, .int (Int32.ofNat q), .int (Int32.ofNat len)] 7)) (Tl.setTop (mkF m 13 #[.val (.ref b), .val (.int (Int32.ofNat (o + i))), .val (.ref d), .val (.int (Int32.ofNat (q + i))), .val (.int (Int32.ofNat len)), .val (.int (Int32.ofNat i)), z] [.int (cv A (o + i))])) := c3.trans (by
        refine Xl.aget hexec hAl rfl (hA.get (i := o + i) (by omega)) rfl rfl (hb hbytes d12) ?_
        exact Steps.refl _)
      have c5 : Steps p.tables e below (s₁.setTop (entryFrame m #[.ref b, .int (Int32.ofNat o), .ref d, .int (Int32.ofNat q), .int (Int32.ofNat len)] 7)) (Tl.setTop (mkF m 15 #[.val (.ref b), .val (.int (Int32.ofNat (o + i))), .val (.ref d), .val (.int (Int32.ofNat (q + i))), .val (.int (Int32.ofNat len)), .val (.int (Int32.ofNat i)), .val (.int (cv A (o + i)))] [])) := c4.trans (by
        refine XS.istoreS Xl.here hexec rfl (hb hbytes d13) rfl rfl hz ?_
        exact Steps.refl _)
      have c6 : Steps p.tables e below (s₁.setTop (entryFrame m #[.ref b, .int (Int32.ofNat o), .ref d, .int (Int32.ofNat q), .int (Int32.ofNat len)] 7)) (Tl.setTop (mkF m 31 #[.val (.ref b), .val (.int (Int32.ofNat (o + i))), .val (.ref d), .val (.int (Int32.ofNat (q + i))), .val (.int (Int32.ofNat len)), .val (.int (Int32.ofNat i)), .val (.int (cv A (o + i)))] [.int (lo8 (cv A (o + i))), .int (Int32.ofNat (q + i)), .ref d])) := c5.trans (by
        refine XS.iload Xl.here hexec rfl (hb hbytes d15) rfl ?_
        refine sipushV Xl.here hexec rfl 255 (hb hbytes d17) (by decide) ?_
        refine XS.icmpYes Xl.here hexec rfl (pc0 := 20) rfl (hb hbytes d20) rfl (ii_le_t (hp i (by omega))) (by decide) rfl ?_
        refine XS.aloadN Xl.here hexec rfl (hb hbytes d26) rfl rfl ?_
        refine XS.iloadN Xl.here hexec rfl (hb hbytes d27) rfl ?_
        refine XS.iload Xl.here hexec rfl (hb hbytes d28) rfl ?_
        refine i2b Xl.here hexec rfl (hb hbytes d30) rfl ?_
        exact Steps.refl _)
      obtain ⟨T7, X7, p7, st7⟩ := Xl.aput hexec hBk rfl hlt rfl (fits_lo8 (cv A (o + i))) (g := (mkF m 31 #[.val (.ref b), .val (.int (Int32.ofNat (o + i))), .val (.ref d), .val (.int (Int32.ofNat (q + i))), .val (.int (Int32.ofNat len)), .val (.int (Int32.ofNat i)), .val (.int (cv A (o + i)))] [.int (lo8 (cv A (o + i))), .int (Int32.ofNat (q + i)), .ref d])) rfl (rest := []) rfl (hb hbytes d31)
      have c8 : Steps p.tables e below (s₁.setTop (entryFrame m #[.ref b, .int (Int32.ofNat o), .ref d, .int (Int32.ofNat q), .int (Int32.ofNat len)] 7)) (T7.setTop (mkF m 32 #[.val (.ref b), .val (.int (Int32.ofNat (o + i))), .val (.ref d), .val (.int (Int32.ofNat (q + i))), .val (.int (Int32.ofNat len)), .val (.int (Int32.ofNat i)), .val (.int (cv A (o + i)))] [])) := c6.trans (st7 _ (Steps.refl _))
      have c9 : Steps p.tables e below (s₁.setTop (entryFrame m #[.ref b, .int (Int32.ofNat o), .ref d, .int (Int32.ofNat q), .int (Int32.ofNat len)] 7)) (T7.setTop (mkF m 3 #[.val (.ref b), .val (.int (Int32.ofNat (o + i) + 1)), .val (.ref d), .val (.int (Int32.ofNat (q + i) + 1)), .val (.int (Int32.ofNat len)), .val (.int (Int32.ofNat i + 1)), .val (.int (cv A (o + i)))] [])) := c8.trans (by
        refine iincV X7.here hexec rfl 1 (hb hbytes d32) (by decide) rfl rfl ?_
        refine iincV X7.here hexec rfl 1 (hb hbytes d35) (by decide) rfl rfl ?_
        refine iincV X7.here hexec rfl 1 (hb hbytes d38) (by decide) rfl rfl ?_
        refine XS.goto X7.here hexec rfl (pc0 := 41) rfl (hb hbytes d41) (by decide) rfl ?_
        exact Steps.refl _)
      have c10 : Steps p.tables e below (s₁.setTop (entryFrame m #[.ref b, .int (Int32.ofNat o), .ref d, .int (Int32.ofNat q), .int (Int32.ofNat len)] 7)) (T7.setTop (mkF m 3 #[.val (.ref b), .val (.int (Int32.ofNat (o + (i + 1)))), .val (.ref d), .val (.int (Int32.ofNat (q + (i + 1)))), .val (.int (Int32.ofNat len)), .val (.int (Int32.ofNat (i + 1))), .val (.int (cv A (o + i)))] [])) := by
        have := c9
        rw [succ32, succ32, succ32] at this
        exact this
      exact ih (i + 1) (by omega) _ (Or.inr ⟨_, rfl, rfl⟩) T7 _ (by rw [copyLocs_step, ← List.append_assoc]; exact X7) (pl.trans p7) (fl.step (by omega) hlt (by simp)) c10
  obtain ⟨T9, B9, z9, X9, p9, f9, g9⟩ := loop len 0 (by omega) .unset (Or.inl rfl) s₁ B (by simpa [copyLocs] using X0) ⟨hB0.1, fun _ _ => rfl, rfl⟩ (Laid.zero _ _ _) c2
  have c11 : Steps p.tables e below (s₁.setTop (entryFrame m #[.ref b, .int (Int32.ofNat o), .ref d, .int (Int32.ofNat q), .int (Int32.ofNat len)] 7)) (T9.setTop (mkF m 46 #[.val (.ref b), .val (.int (Int32.ofNat (o + len))), .val (.ref d), .val (.int (Int32.ofNat (q + len))), .val (.int (Int32.ofNat len)), .val (.int (Int32.ofNat len)), z9] [.int (Int32.ofNat len)])) := g9.trans (by
    refine XS.iload X9.here hexec rfl (hb hbytes d3) rfl ?_
    refine XS.iload X9.here hexec rfl (hb hbytes d5) rfl ?_
    refine XS.icmpYes X9.here hexec rfl (pc0 := 7) rfl (hb hbytes d7) rfl (ii_ge_t (nlt32 (by omega) (Nat.le_refl _))) (by decide) rfl ?_
    refine XS.iload X9.here hexec rfl (hb hbytes d44) rfl ?_
    exact Steps.refl _)
  exact ⟨T9, some (.int (Int32.ofNat len)), _, _, _, X9, by simp, rfl, rfl, (fun h => by cases h), ⟨rfl, B9, p9.from hh0, f9⟩, fun fs hl => c11.trans (X9.ireturnOut hexec hret rfl (Or.inl rfl) (hb hbytes d46) hl)⟩
end Cmp5
namespace Cmp3
def yN : MethodName := ⟨"java/lang/StringUTF16", "compress", "([CII)[B"⟩
abbrev yB : ByteArray := jdk_52_method_16_code
theorem d0 : decode yB 0 = .ok (.iload_n 2, 1) := by decide +kernel
theorem d1 : decode yB 1 = .ok (.newarray .byte, 2) := by decide +kernel
theorem d3 : decode yB 3 = .ok (.astore_n 3, 1) := by decide +kernel
theorem d4 : decode yB 4 = .ok (.aload_n 0, 1) := by decide +kernel
theorem d5 : decode yB 5 = .ok (.iload_n 1, 1) := by decide +kernel
theorem d6 : decode yB 6 = .ok (.aload_n 3, 1) := by decide +kernel
theorem d7 : decode yB 7 = .ok (.iconst 0, 1) := by decide +kernel
theorem d8 : decode yB 8 = .ok (.iload_n 2, 1) := by decide +kernel
theorem d9 : decode yB 9 = .ok (.invokestatic 115, 3) := by decide +kernel
theorem d12 : decode yB 12 = .ok (.istore 4, 2) := by decide +kernel
theorem d14 : decode yB 14 = .ok (.iload 4, 2) := by decide +kernel
theorem d16 : decode yB 16 = .ok (.iload_n 2, 1) := by decide +kernel
theorem d17 : decode yB 17 = .ok (.if_icmp (.eq) 40, 3) := by decide +kernel
theorem d57 : decode yB 57 = .ok (.aload_n 3, 1) := by decide +kernel
theorem d58 : decode yB 58 = .ok (.areturn, 1) := by decide +kernel
def site : List Cond := [.arrayClass .byte, Cmp5.tab] ++ staticW U16 115 Cmp5.yN
def tab : Cond := tabOf yN yB 6 (some (.array .byte)) site
def P (b : Addr) (A : Cell) (o len : Nat) (args : Array Value) (s : State) : Prop := args = #[.ref b, .int (Int32.ofNat o), .int (Int32.ofNat len)] ∧ Ch b A s ∧ o + len ≤ A.slots.size ∧ len ≤ 536870912 ∧ ∀ i, i < len → ¬ 255 < cv A (o + i)
def E (b : Addr) (A : Cell) (o len : Nat) (r : Option Value) (s u : State) : Prop := NewArr .byte "[B" len (fun j => .int (lo8 (cv A (o + j)))) r s u ∧ u.heap.size = s.heap.size + 1
/-- no char of the range above 255: a new byte[] of their low bytes -/
theorem law (l : Launch) (b : Addr) (A : Cell) (o len : Nat) : Law l yN 3 3 1 18 yB 6 (some (.array .byte)) site (P b A o len) (E b A o len) [] 1 len := by
  refine Law.of_walk (plainFor_of_name (by decide +kernel)) (by decide +kernel) (by decide +kernel) (by decide) (fun _ _ h => by rw [h.1]; rfl) (fun _ U U' hal hh h => ⟨h.1, h.2.1.mv hal hh, h.2.2⟩) (fun r U U' V V' h1 hal h2 h => ⟨NewArr.mv r U U' V V' h1 hal h2 h.1, by rw [h1, h2]; exact h.2⟩) ?_
  intro p e s m args below meth c s₁ X0 hexec hbytes hml hret hlk hnm hown hh0 W hP
  obtain ⟨rfl, hA, l1, l2, hp⟩ := hP
  have a31 := hA.1.2.2.2
  have c1 : Steps p.tables e below (s₁.setTop (entryFrame m #[.ref b, .int (Int32.ofNat o), .int (Int32.ofNat len)] 6)) (s₁.setTop (mkF m 0 #[.val (.ref b), .val (.int (Int32.ofNat o)), .val (.int (Int32.ofNat len)), .unset, .unset, .unset] [])) := entry rfl
  have c2 : Steps p.tables e below (s₁.setTop (entryFrame m #[.ref b, .int (Int32.ofNat o), .int (Int32.ofNat len)] 6)) (s₁.setTop (mkF m 1 #[.val (.ref b), .val (.int (Int32.ofNat o)), .val (.int (Int32.ofNat len)), .unset, .unset, .unset] [.int (Int32.ofNat len)])) := c1.trans (by
    refine XS.iloadN X0.here hexec rfl (hb hbytes d0) rfl ?_
    exact Steps.refl _)
  obtain ⟨T3, B3, X3, ba3, bs3, bv3, bh3, bf3, st3⟩ := X0.anew hexec (atype := .byte) (wk W (.arrayClass .byte)) rfl (by show len * 1 ≤ _; omega) (by omega) (g := (mkF m 1 #[.val (.ref b), .val (.int (Int32.ofNat o)), .val (.int (Int32.ofNat len)), .unset, .unset, .unset] [.int (Int32.ofNat len)])) rfl (hb hbytes d1) (rest := []) rfl (Nat.le_refl _) (by show 0 + len ≤ len; omega)
  rw [hh0] at ba3 st3
  have kp3 : XT.Kept s T3 := (XT.Kept.of_eq hh0).push bh3
  have hA3 := hA.keep X3.warmed.alike (kp3 _ _ hA.1.1)
  have hne : b ≠ s.heap.size := hA.1.ne
  have c4 : Steps p.tables e below (s₁.setTop (entryFrame m #[.ref b, .int (Int32.ofNat o), .int (Int32.ofNat len)] 6)) (T3.setTop (mkF m 3 #[.val (.ref b), .val (.int (Int32.ofNat o)), .val (.int (Int32.ofNat len)), .unset, .unset, .unset] [.ref s.heap.size])) := c2.trans (st3 _ (Steps.refl _))
  have c5 : Steps p.tables e below (s₁.setTop (entryFrame m #[.ref b, .int (Int32.ofNat o), .int (Int32.ofNat len)] 6)) (T3.setTop (mkF m 9 #[.val (.ref b), .val (.int (Int32.ofNat o)), .val (.int (Int32.ofNat len)), .val (.ref s.heap.size), .unset, .unset] [.int (Int32.ofNat len), .int 0, .ref s.heap.size, .int (Int32.ofNat o), .ref b])) := c4.trans (by
    refine XS.astoreN X3.here hexec rfl (hb hbytes d3) rfl rfl rfl ?_
    refine XS.aloadN X3.here hexec rfl (hb hbytes d4) rfl rfl ?_
    refine XS.iloadN X3.here hexec rfl (hb hbytes d5) rfl ?_
    refine XS.aloadN X3.here hexec rfl (hb hbytes d6) rfl rfl ?_
    refine iconstV X3.here hexec rfl 0 (hb hbytes d7) (by decide) ?_
    refine XS.iloadN X3.here hexec rfl (hb hbytes d8) rfl ?_
    exact Steps.refl _)
  obtain ⟨v6, T6, X6, E6, g6⟩ := X3.callS hexec (Cmp5.law l b A s.heap.size B3 o 0 len) hown (wks W (staticW U16 115 Cmp5.yN)) (wk W Cmp5.tab) (W := 0) (Nat.le_of_ble_eq_true rfl) (Nat.le_of_ble_eq_true rfl) (Nat.le_refl _) (by show 0 + len + 0 ≤ len; omega) (g := (mkF m 9 #[.val (.ref b), .val (.int (Int32.ofNat o)), .val (.int (Int32.ofNat len)), .val (.ref s.heap.size), .unset, .unset] [.int (Int32.ofNat len), .int (Int32.ofNat 0), .ref s.heap.size, .int (Int32.ofNat o), .ref b])) rfl (by rw [hml]; rfl) c5 (argsL := [.ref b, .int (Int32.ofNat o), .ref s.heap.size, .int (Int32.ofNat 0), .int (Int32.ofNat len)]) (rest := []) rfl rfl (by show 2 * 0 + 0 ≤ _; decide) (hb hbytes d9) (⟨rfl, hA3, ba3, hne, l1, by rw [bs3]; simp, hp⟩)
  obtain ⟨rfl, B6, p6, f6⟩ := E6
  have c7 : Steps p.tables e below (s₁.setTop (entryFrame m #[.ref b, .int (Int32.ofNat o), .int (Int32.ofNat len)] 6)) (T6.setTop (mkF m 12 #[.val (.ref b), .val (.int (Int32.ofNat o)), .val (.int (Int32.ofNat len)), .val (.ref s.heap.size), .unset, .unset] [.int (Int32.ofNat len)])) := g6
  have c8 : Steps p.tables e below (s₁.setTop (entryFrame m #[.ref b, .int (Int32.ofNat o), .int (Int32.ofNat len)] 6)) (T6.setTop (mkF m 58 #[.val (.ref b), .val (.int (Int32.ofNat o)), .val (.int (Int32.ofNat len)), .val (.ref s.heap.size), .val (.int (Int32.ofNat len)), .unset] [.ref s.heap.size])) := c7.trans (by
    refine XS.istore X6.here hexec rfl (hb hbytes d12) rfl rfl ?_
    refine XS.iload X6.here hexec rfl (hb hbytes d14) rfl ?_
    refine XS.iloadN X6.here hexec rfl (hb hbytes d16) rfl ?_
    refine XS.icmpYes X6.here hexec rfl (pc0 := 17) rfl (hb hbytes d17) rfl (ii_eq_t rfl) (by decide) rfl ?_
    refine XS.aloadN X6.here hexec rfl (hb hbytes d57) rfl rfl ?_
    exact Steps.refl _)
  have X8 := X6.wide (L' := []) (cells' := 1) (slots' := len) (fun x hx hlt => by
    simp only [List.nil_append, copyLocs, List.mem_map, List.mem_range] at hx
    obtain ⟨i, -, rfl⟩ := hx
    exact absurd hlt (Nat.lt_irrefl _)) (Nat.le_refl _) (by omega)
  exact ⟨T6, some (.ref s.heap.size), _, _, _, X8, rfl, rfl, rfl, (fun h => by cases h), ⟨⟨rfl, B6, ba3.like (X3.warmed.alike.symm.trans X6.warmed.alike) p6.1 f6.1 f6.2.1 f6.2.2.1, f6.2.1.trans bv3, by rw [X6.warmed.alike.findClass, f6.1]; exact bf3, by rw [f6.2.2.1, bs3]; simp, fun j hj => by rw [f6.2.2.2 j, if_pos (by omega)]; rfl, kp3.put p6 (Nat.le_refl _)⟩, by rw [p6.2.2, bh3, hh0]; simp⟩, fun fs hl => c8.trans (X8.areturnOut hexec rfl hret rfl (hb hbytes d58) hl)⟩
end Cmp3
namespace CodL
def yN : MethodName := ⟨"java/lang/StringUTF16", "coderFromArrayLen", "([BI)B"⟩
abbrev yB : ByteArray := jdk_52_method_15_code
theorem d0 : decode yB 0 = .ok (.iload_n 1, 1) := by decide +kernel
theorem d1 : decode yB 1 = .ok (.aload_n 0, 1) := by decide +kernel
theorem d2 : decode yB 2 = .ok (.arraylength, 1) := by decide +kernel
theorem d3 : decode yB 3 = .ok (.isub, 1) := by decide +kernel
theorem d4 : decode yB 4 = .ok (.bipush 31, 2) := by decide +kernel
theorem d6 : decode yB 6 = .ok (.iushr, 1) := by decide +kernel
theorem d7 : decode yB 7 = .ok (.i2b, 1) := by decide +kernel
theorem d8 : decode yB 8 = .ok (.ireturn, 1) := by decide +kernel
def site : List Cond := []
def tab : Cond := tabOf yN yB 2 (some .byte) site
def P (d : Addr) (B : Cell) (args : Array Value) (s : State) : Prop := args = #[.ref d, .int (Int32.ofNat B.slots.size)] ∧ Arr .byte d B s
def E (r : Option Value) (s u : State) : Prop := XT.PureE (some (.int 0)) r s u
/-- an array as long as the number of chars: LATIN1 -/
theorem law (l : Launch) (d : Addr) (B : Cell) : Law l yN 2 2 0 0 yB 2 (some .byte) site (P d B) E [] 0 0 := by
  refine Law.of_walk (plainFor_of_name (by decide +kernel)) (by decide +kernel) (by decide +kernel) (by decide) (fun _ _ h => by rw [h.1]; rfl) (fun _ U U' hal hh h => ⟨h.1, h.2.mv hal hh⟩) (fun r U U' V V' h1 hal h2 h => XT.PureE.mv r U U' V V' h1 hal h2 h) ?_
  intro p e s m args below meth c s₁ X0 hexec hbytes hml hret hlk hnm hown hh0 W hP
  obtain ⟨rfl, hB⟩ := hP
  have hB0 := hB.mv X0.warmed.alike hh0
  have c1 : Steps p.tables e below (s₁.setTop (entryFrame m #[.ref d, .int (Int32.ofNat B.slots.size)] 2)) (s₁.setTop (mkF m 0 #[.val (.ref d), .val (.int (Int32.ofNat B.slots.size))] [])) := entry rfl
  have c2 : Steps p.tables e below (s₁.setTop (entryFrame m #[.ref d, .int (Int32.ofNat B.slots.size)] 2)) (s₁.setTop (mkF m 2 #[.val (.ref d), .val (.int (Int32.ofNat B.slots.size))] [.ref d, .int (Int32.ofNat B.slots.size)])) := c1.trans (by
    refine XS.iloadN X0.here hexec rfl (hb hbytes d0) rfl ?_
    refine XS.aloadN X0.here hexec rfl (hb hbytes d1) rfl rfl ?_
    exact Steps.refl _)
  have c3 : Steps p.tables e below (s₁.setTop (entryFrame m #[.ref d, .int (Int32.ofNat B.slots.size)] 2)) (s₁.setTop (mkF m 8 #[.val (.ref d), .val (.int (Int32.ofNat B.slots.size))] [.int (lo8 (ushr (Int32.ofNat B.slots.size - Int32.ofNat B.slots.size) 31))])) := c2.trans (by
    refine X0.alen hexec hB0 rfl rfl (hb hbytes d2) ?_
    refine XS.isub X0.here hexec rfl (hb hbytes d3) rfl ?_
    refine bipushV X0.here hexec rfl 31 (hb hbytes d4) (by decide) ?_
    refine iushr X0.here hexec rfl (hb hbytes d6) rfl ?_
    refine i2b X0.here hexec rfl (hb hbytes d7) rfl ?_
    exact Steps.refl _)
  have e0 : lo8 (ushr (Int32.ofNat B.slots.size - Int32.ofNat B.slots.size) 31) = 0 := by rw [Int32.sub_self]; decide
  rw [e0] at c3
  exact ⟨s₁, some (.int 0), _, _, _, X0, rfl, rfl, rfl, (fun h => by cases h), ⟨rfl, hh0⟩, fun fs hl => c3.trans (X0.ireturnOut hexec hret rfl (Or.inr (Or.inr (Or.inl rfl))) (hb hbytes d8) hl)⟩
end CodL
/-- the String at a is Latin-1 over a new byte[] (the heap's one new cell): the low bytes of the len chars of A from o on; every cell but a is kept -/
def Got (a : Addr) (D : Cell) (fV fC : Field) (A : Cell) (o len : Nat) (r : Option Value) (s u : State) : Prop := r = none ∧ ∃ D' V : Cell, Blank "java/lang/String" a D' u ∧ Same D D' [fV.slot, fC.slot] ∧ D'.slots[fV.slot]? = some (.ref s.heap.size) ∧ D'.slots[fC.slot]? = some (.int 0) ∧ Arr .byte s.heap.size V u ∧ V.vm = .none ∧ u.vm.findClass "[B" = some V.cls ∧ V.slots.size = len ∧ (∀ j, j < len → V.slots[j]? = some (.int (lo8 (cv A (o + j))))) ∧ (∀ (y : Addr) (c : Cell), y ≠ a → s.heap[y]? = some c → u.heap[y]? = some c) ∧ u.heap.size = s.heap.size + 1
theorem Got.mv {a : Addr} {D A : Cell} {fV fC : Field} {o len : Nat} : ∀ r (U U' V V' : State), U'.heap = U.heap → V.vm.Alike V'.vm → V'.heap = V.heap → Got a D fV fC A o len r U V → Got a D fV fC A o len r U' V' :=
  fun r U U' V V' h1 hal h2 ⟨e0, D', X, a1, a2, a3, a4, a5, a6, a7, a8, a9, a10, a11⟩ => ⟨e0, D', X, a1.mv hal h2, a2, by rw [h1]; exact a3, a4, by rw [h1]; exact a5.mv hal h2, a6, by rw [hal.findClass]; exact a7, a8, a9, by rw [h1, h2]; exact a10, by rw [h1, h2]; exact a11⟩
namespace New4
def yN : MethodName := ⟨"java/lang/String", "<init>", "([CIILjava/lang/Void;)V"⟩
abbrev yB : ByteArray := jdk_42_method_149_code
theorem d0 : decode yB 0 = .ok (.aload_n 0, 1) := by decide +kernel
theorem d1 : decode yB 1 = .ok (.invokespecial 1, 3) := by decide +kernel
theorem d4 : decode yB 4 = .ok (.iload_n 3, 1) := by decide +kernel
theorem d5 : decode yB 5 = .ok (.ifCond (.ne) 22, 3) := by decide +kernel
theorem d27 : decode yB 27 = .ok (.getstatic 38, 3) := by decide +kernel
theorem d30 : decode yB 30 = .ok (.ifCond (.eq) 28, 3) := by decide +kernel
theorem d33 : decode yB 33 = .ok (.aload_n 1, 1) := by decide +kernel
theorem d34 : decode yB 34 = .ok (.iload_n 2, 1) := by decide +kernel
theorem d35 : decode yB 35 = .ok (.iload_n 3, 1) := by decide +kernel
theorem d36 : decode yB 36 = .ok (.invokestatic 177, 3) := by decide +kernel
theorem d39 : decode yB 39 = .ok (.astore 5, 2) := by decide +kernel
theorem d41 : decode yB 41 = .ok (.aload_n 0, 1) := by decide +kernel
theorem d42 : decode yB 42 = .ok (.aload 5, 2) := by decide +kernel
theorem d44 : decode yB 44 = .ok (.iload_n 3, 1) := by decide +kernel
theorem d45 : decode yB 45 = .ok (.invokestatic 47, 3) := by decide +kernel
theorem d48 : decode yB 48 = .ok (.putfield 15, 3) := by decide +kernel
theorem d51 : decode yB 51 = .ok (.aload_n 0, 1) := by decide +kernel
theorem d52 : decode yB 52 = .ok (.aload 5, 2) := by decide +kernel
theorem d54 : decode yB 54 = .ok (.putfield 9, 3) := by decide +kernel
theorem d57 : decode yB 57 = .ok (.return_, 1) := by decide +kernel
def site : List Cond := [.fieldLink "java/lang/String" 38 "java/lang/String" "COMPACT_STRINGS" "Z", Cmp3.tab, CodL.tab, .laysFinal "java/lang/String" "java/lang/String" "value" "[B", .fieldLink "java/lang/String" 9 "java/lang/String" "value" "[B", .laysFinal "java/lang/String" "java/lang/String" "coder" "B", .fieldLink "java/lang/String" 15 "java/lang/String" "coder" "B"] ++ objW "java/lang/String" 1 ++ staticW "java/lang/String" 177 Cmp3.yN ++ staticW "java/lang/String" 47 CodL.yN
def tab : Cond := tabOf yN yB 6 none site
def P (a : Addr) (D : Cell) (fV fC : Field) (b : Addr) (A : Cell) (z : Int32) (o len : Nat) (args : Array Value) (s : State) : Prop := args = #[.ref a, .ref b, .int (Int32.ofNat o), .int (Int32.ofNat len), .null] ∧ Blank "java/lang/String" a D s ∧ Found "java/lang/String" "value" "[B" fV s ∧ Found "java/lang/String" "coder" "B" fC s ∧ Ch b A s ∧ StaticIs s "java/lang/String" "COMPACT_STRINGS" "Z" (.int z) ∧ ¬ z = 0 ∧ 0 < len ∧ o + len ≤ A.slots.size ∧ len ≤ 536870912 ∧ ∀ i, i < len → ¬ 255 < cv A (o + i)
def E (a : Addr) (D : Cell) (fV fC : Field) (A : Cell) (o len : Nat) (r : Option Value) (s u : State) : Prop := Got a D fV fC A o len r s u
/-- len > 0, no char of the range above 255: a Latin-1 String of their low bytes -/
theorem law (l : Launch) (a : Addr) (D : Cell) (fV fC : Field) (b : Addr) (A : Cell) (z : Int32) (o len : Nat) : Law l yN 5 4 2 35 yB 6 none site (P a D fV fC b A z o len) (E a D fV fC A o len) [⟨a, fC.slot⟩, ⟨a, fV.slot⟩] 1 len := by
  refine Law.of_walk (plainFor_of_name (by decide +kernel)) (by decide +kernel) (by decide +kernel) (by decide) (fun _ _ h => by rw [h.1]; rfl) (fun _ U U' hal hh h => ⟨h.1, h.2.1.mv hal hh, h.2.2.1.al hal, h.2.2.2.1.al hal, h.2.2.2.2.1.mv hal hh, h.2.2.2.2.2.1.there hal hh, h.2.2.2.2.2.2⟩) (fun r U U' V V' h1 hal h2 h => Got.mv r U U' V V' h1 hal h2 h) ?_
  intro p e s m args below meth c s₁ X0 hexec hbytes hml hret hlk hnm hown hh0 W hP
  obtain ⟨rfl, hB, f1, f2, hA, s1, hz, l0, l1, l2, hp⟩ := hP
  have a31 := hA.1.2.2.2
  have c1 : Steps p.tables e below (s₁.setTop (entryFrame m #[.ref a, .ref b, .int (Int32.ofNat o), .int (Int32.ofNat len), .null] 6)) (s₁.setTop (mkF m 0 #[.val (.ref a), .val (.ref b), .val (.int (Int32.ofNat o)), .val (.int (Int32.ofNat len)), .val .null, .unset] [])) := entry rfl
  have c2 : Steps p.tables e below (s₁.setTop (entryFrame m #[.ref a, .ref b, .int (Int32.ofNat o), .int (Int32.ofNat len), .null] 6)) (s₁.setTop (mkF m 1 #[.val (.ref a), .val (.ref b), .val (.int (Int32.ofNat o)), .val (.int (Int32.ofNat len)), .val .null, .unset] [.ref a])) := c1.trans (by
    refine XS.aloadN X0.here hexec rfl (hb hbytes d0) rfl rfl ?_
    exact Steps.refl _)
  obtain ⟨T3, X3, q3, st3⟩ := X0.oinit hexec hown (wks W (objW "java/lang/String" 1)) (g := (mkF m 1 #[.val (.ref a), .val (.ref b), .val (.int (Int32.ofNat o)), .val (.int (Int32.ofNat len)), .val .null, .unset] [.ref a])) rfl (by rw [hml]; rfl) (rest := []) rfl (hb hbytes d1) (W := 0) (by show 2 * 0 + 0 ≤ _; decide) (Nat.le_of_ble_eq_true rfl) (Nat.le_of_ble_eq_true rfl)
  have hh3 := q3.trans hh0
  have c4 : Steps p.tables e below (s₁.setTop (entryFrame m #[.ref a, .ref b, .int (Int32.ofNat o), .int (Int32.ofNat len), .null] 6)) (T3.setTop (mkF m 27 #[.val (.ref a), .val (.ref b), .val (.int (Int32.ofNat o)), .val (.int (Int32.ofNat len)), .val .null, .unset] [])) := (c2.trans (st3 _ (Steps.refl _))).trans (by
    refine XS.iloadN X3.here hexec rfl (hb hbytes d4) rfl ?_
    refine XS.ifYes X3.here hexec rfl (pc0 := 5) rfl (hb hbytes d5) rfl (i0_ne_t (nz32 (by omega) l0)) (by decide) rfl ?_
    exact Steps.refl _)
  obtain ⟨T5, X5, q5, st5⟩ := X3.sget hexec hown (wk W (.fieldLink "java/lang/String" 38 "java/lang/String" "COMPACT_STRINGS" "Z")) s1 (fun _ _ h => by rw [hh3]; exact h) (g := (mkF m 27 #[.val (.ref a), .val (.ref b), .val (.int (Int32.ofNat o)), .val (.int (Int32.ofNat len)), .val .null, .unset] [])) rfl (hb hbytes d27)
  have hh5 := q5.trans hh3
  have c6 : Steps p.tables e below (s₁.setTop (entryFrame m #[.ref a, .ref b, .int (Int32.ofNat o), .int (Int32.ofNat len), .null] 6)) (T5.setTop (mkF m 30 #[.val (.ref a), .val (.ref b), .val (.int (Int32.ofNat o)), .val (.int (Int32.ofNat len)), .val .null, .unset] [.int z])) := c4.trans (st5 _ (Steps.refl _))
  have c7 : Steps p.tables e below (s₁.setTop (entryFrame m #[.ref a, .ref b, .int (Int32.ofNat o), .int (Int32.ofNat len), .null] 6)) (T5.setTop (mkF m 36 #[.val (.ref a), .val (.ref b), .val (.int (Int32.ofNat o)), .val (.int (Int32.ofNat len)), .val .null, .unset] [.int (Int32.ofNat len), .int (Int32.ofNat o), .ref b])) := c6.trans (by
    refine XS.ifNo X5.here hexec rfl (hb hbytes d30) rfl (i0_eq_f hz) ?_
    refine XS.aloadN X5.here hexec rfl (hb hbytes d33) rfl rfl ?_
    refine XS.iloadN X5.here hexec rfl (hb hbytes d34) rfl ?_
    refine XS.iloadN X5.here hexec rfl (hb hbytes d35) rfl ?_
    exact Steps.refl _)
  obtain ⟨v8, T8, X8, E8, g8⟩ := X5.callS hexec (Cmp3.law l b A o len) hown (wks W (staticW "java/lang/String" 177 Cmp3.yN)) (wk W Cmp3.tab) (W := 0) (Nat.le_of_ble_eq_true rfl) (Nat.le_of_ble_eq_true rfl) (Nat.le_refl _) (by show 0 + len ≤ len; omega) (g := (mkF m 36 #[.val (.ref a), .val (.ref b), .val (.int (Int32.ofNat o)), .val (.int (Int32.ofNat len)), .val .null, .unset] [.int (Int32.ofNat len), .int (Int32.ofNat o), .ref b])) rfl (by rw [hml]; rfl) c7 (argsL := [.ref b, .int (Int32.ofNat o), .int (Int32.ofNat len)]) (rest := []) rfl rfl (by show 2 * 0 + 0 ≤ _; decide) (hb hbytes d36) (⟨rfl, hA.mv X5.warmed.alike hh5, l1, l2, hp⟩)
  obtain ⟨e8, z8⟩ := E8
  obtain ⟨rfl, N, n1, n2, n3, n4, n5, n6⟩ := NewArr.mv _ T5 s _ _ hh5.symm (Vm.Alike.refl _) rfl e8
  rw [hh5] at z8
  have hB1 := hB.keep X8.warmed.alike (n6 _ _ hB.1)
  have hne : s.heap.size ≠ a := (Nat.ne_of_lt (Array.getElem?_eq_some_iff.mp hB.1).1).symm
  have c9 : Steps p.tables e below (s₁.setTop (entryFrame m #[.ref a, .ref b, .int (Int32.ofNat o), .int (Int32.ofNat len), .null] 6)) (T8.setTop (mkF m 39 #[.val (.ref a), .val (.ref b), .val (.int (Int32.ofNat o)), .val (.int (Int32.ofNat len)), .val .null, .unset] [.ref s.heap.size])) := g8
  have c10 : Steps p.tables e below (s₁.setTop (entryFrame m #[.ref a, .ref b, .int (Int32.ofNat o), .int (Int32.ofNat len), .null] 6)) (T8.setTop (mkF m 45 #[.val (.ref a), .val (.ref b), .val (.int (Int32.ofNat o)), .val (.int (Int32.ofNat len)), .val .null, .val (.ref s.heap.size)] [.int (Int32.ofNat N.slots.size), .ref s.heap.size, .ref a])) := by
    have hc : Steps p.tables e below (s₁.setTop (entryFrame m #[.ref a, .ref b, .int (Int32.ofNat o), .int (Int32.ofNat len), .null] 6)) (T8.setTop (mkF m 45 #[.val (.ref a), .val (.ref b), .val (.int (Int32.ofNat o)), .val (.int (Int32.ofNat len)), .val .null, .val (.ref s.heap.size)] [.int (Int32.ofNat len), .ref s.heap.size, .ref a])) := c9.trans (by
      refine XS.astore X8.here hexec rfl (hb hbytes d39) rfl rfl rfl ?_
      refine XS.aloadN X8.here hexec rfl (hb hbytes d41) rfl rfl ?_
      refine XS.aload X8.here hexec rfl (hb hbytes d42) rfl rfl ?_
      refine XS.iloadN X8.here hexec rfl (hb hbytes d44) rfl ?_
      exact Steps.refl _)
    rw [n4]; exact hc
  obtain ⟨v11, T11, X11, E11, g11⟩ := X8.callS hexec (CodL.law l s.heap.size N) hown (wks W (staticW "java/lang/String" 47 CodL.yN)) (wk W CodL.tab) (W := 1) (Nat.le_of_ble_eq_true rfl) (Nat.le_of_ble_eq_true rfl) (Nat.le_refl _) (by show 0 + len + 0 ≤ len; omega) (g := (mkF m 45 #[.val (.ref a), .val (.ref b), .val (.int (Int32.ofNat o)), .val (.int (Int32.ofNat len)), .val .null, .val (.ref s.heap.size)] [.int (Int32.ofNat N.slots.size), .ref s.heap.size, .ref a])) rfl (by rw [hml]; rfl) c10 (argsL := [.ref s.heap.size, .int (Int32.ofNat N.slots.size)]) (rest := [.ref a]) rfl rfl (by show 2 * 0 + (1 + 0) ≤ _; decide) (hb hbytes d45) (⟨rfl, n1⟩)
  obtain ⟨rfl, q11⟩ := E11
  have hB11 := hB1.mv (X8.warmed.alike.symm.trans X11.warmed.alike) q11
  have c12 : Steps p.tables e below (s₁.setTop (entryFrame m #[.ref a, .ref b, .int (Int32.ofNat o), .int (Int32.ofNat len), .null] 6)) (T11.setTop (mkF m 48 #[.val (.ref a), .val (.ref b), .val (.int (Int32.ofNat o)), .val (.int (Int32.ofNat len)), .val .null, .val (.ref s.heap.size)] [.int 0, .ref a])) := g11
  obtain ⟨T13, X13, p13, bl13, sl13, st13⟩ := X11.finit hexec hown (wk W (.fieldLink "java/lang/String" 15 "java/lang/String" "coder" "B")) (Or.inr ⟨_, (wk W (.laysFinal "java/lang/String" "java/lang/String" "coder" "B"))⟩) (Or.inl ⟨rfl, hnm⟩) f2 (Or.inl rfl) hB11 (t := .byte) (by decide +kernel) rfl (g := (mkF m 48 #[.val (.ref a), .val (.ref b), .val (.int (Int32.ofNat o)), .val (.int (Int32.ofNat len)), .val .null, .val (.ref s.heap.size)] [.int 0, .ref a])) rfl (rest := []) rfl (hb hbytes d48)
  have c14 : Steps p.tables e below (s₁.setTop (entryFrame m #[.ref a, .ref b, .int (Int32.ofNat o), .int (Int32.ofNat len), .null] 6)) (T13.setTop (mkF m 54 #[.val (.ref a), .val (.ref b), .val (.int (Int32.ofNat o)), .val (.int (Int32.ofNat len)), .val .null, .val (.ref s.heap.size)] [.ref s.heap.size, .ref a])) := (c12.trans (st13 _ (Steps.refl _))).trans (by
    refine XS.aloadN X13.here hexec rfl (hb hbytes d51) rfl rfl ?_
    refine XS.aload X13.here hexec rfl (hb hbytes d52) rfl rfl ?_
    exact Steps.refl _)
  obtain ⟨T15, X15, p15, bl15, sl15, st15⟩ := X13.finit hexec hown (wk W (.fieldLink "java/lang/String" 9 "java/lang/String" "value" "[B")) (Or.inr ⟨_, (wk W (.laysFinal "java/lang/String" "java/lang/String" "value" "[B"))⟩) (Or.inl ⟨rfl, hnm⟩) f1 (Or.inl rfl) bl13 (t := (.array .byte)) (by decide +kernel) rfl (g := (mkF m 54 #[.val (.ref a), .val (.ref b), .val (.int (Int32.ofNat o)), .val (.int (Int32.ofNat len)), .val .null, .val (.ref s.heap.size)] [.ref s.heap.size, .ref a])) rfl (rest := []) rfl (hb hbytes d54)
  have c16 : Steps p.tables e below (s₁.setTop (entryFrame m #[.ref a, .ref b, .int (Int32.ofNat o), .int (Int32.ofNat len), .null] 6)) (T15.setTop (mkF m 57 #[.val (.ref a), .val (.ref b), .val (.int (Int32.ofNat o)), .val (.int (Int32.ofNat len)), .val .null, .val (.ref s.heap.size)] [])) := c14.trans (st15 _ (Steps.refl _))
  have ap := apart (Or.inr ⟨_, (wk W (.laysFinal "java/lang/String" "java/lang/String" "value" "[B"))⟩) (Or.inr ⟨_, (wk W (.laysFinal "java/lang/String" "java/lang/String" "coder" "B"))⟩) f1 f2 (t₁ := .array .byte) (t₂ := .byte) (by decide +kernel) (by decide +kernel) (by decide)
  have al := X8.warmed.alike.symm.trans X15.warmed.alike
  have n7 : T11.heap[s.heap.size]? = some N := by rw [q11]; exact n1.1
  exact ⟨T15, none, _, _, _, X15, by simp, rfl, by omega, (fun _ => rfl), ⟨rfl, _, N, bl15, ((Same.refl D _).set _ (by simp)).set _ (by simp), sl15, (Cell.slots_setSlot_ne _ ap).trans sl13, n1.keep al (p15.other hne (p13.other hne n7)), n2, by rw [al.findClass]; exact n3, n4, n5, fun y c h1 h2 => p15.other h1 (p13.other h1 (by rw [q11]; exact n6 y c h2)), by rw [p15.2.2, p13.2.2, q11]; exact z8⟩, fun fs hl => c16.trans (X15.returnOut hexec hret (hb hbytes d57) hl)⟩
end New4
namespace New1
def yN : MethodName := ⟨"java/lang/String", "<init>", "([C)V"⟩
abbrev yB : ByteArray := jdk_42_method_3_code
theorem d0 : decode yB 0 = .ok (.aload_n 0, 1) := by decide +kernel
theorem d1 : decode yB 1 = .ok (.aload_n 1, 1) := by decide +kernel
theorem d2 : decode yB 2 = .ok (.iconst 0, 1) := by decide +kernel
theorem d3 : decode yB 3 = .ok (.aload_n 1, 1) := by decide +kernel
theorem d4 : decode yB 4 = .ok (.arraylength, 1) := by decide +kernel
theorem d5 : decode yB 5 = .ok (.aconst_null, 1) := by decide +kernel
theorem d6 : decode yB 6 = .ok (.invokespecial 27, 3) := by decide +kernel
theorem d9 : decode yB 9 = .ok (.return_, 1) := by decide +kernel
def site : List Cond := [New4.tab] ++ initW "java/lang/String" 27 New4.yN
def tab : Cond := tabOf yN yB 2 none site
def P (a : Addr) (D : Cell) (fV fC : Field) (b : Addr) (A : Cell) (z : Int32) (args : Array Value) (s : State) : Prop := args = #[.ref a, .ref b] ∧ Blank "java/lang/String" a D s ∧ Found "java/lang/String" "value" "[B" fV s ∧ Found "java/lang/String" "coder" "B" fC s ∧ Ch b A s ∧ StaticIs s "java/lang/String" "COMPACT_STRINGS" "Z" (.int z) ∧ ¬ z = 0 ∧ 0 < A.slots.size ∧ A.slots.size ≤ 536870912 ∧ ∀ i, i < A.slots.size → ¬ 255 < cv A i
def E (a : Addr) (D : Cell) (fV fC : Field) (A : Cell) (r : Option Value) (s u : State) : Prop := Got a D fV fC A 0 A.slots.size r s u
/-- new String(chars), not empty, no char above 255: a Latin-1 String of their low bytes -/
theorem law (l : Launch) (a : Addr) (D : Cell) (fV fC : Field) (b : Addr) (A : Cell) (z : Int32) : Law l yN 2 1 3 52 yB 2 none site (P a D fV fC b A z) (E a D fV fC A) [⟨a, fC.slot⟩, ⟨a, fV.slot⟩] 1 A.slots.size := by
  refine Law.of_walk (plainFor_of_name (by decide +kernel)) (by decide +kernel) (by decide +kernel) (by decide) (fun _ _ h => by rw [h.1]; rfl) (fun _ U U' hal hh h => ⟨h.1, h.2.1.mv hal hh, h.2.2.1.al hal, h.2.2.2.1.al hal, h.2.2.2.2.1.mv hal hh, h.2.2.2.2.2.1.there hal hh, h.2.2.2.2.2.2⟩) (fun r U U' V V' h1 hal h2 h => Got.mv r U U' V V' h1 hal h2 h) ?_
  intro p e s m args below meth c s₁ X0 hexec hbytes hml hret hlk hnm hown hh0 W hP
  obtain ⟨rfl, hB, f1, f2, hA, s1, hz, l0, l2, hp⟩ := hP
  have c1 : Steps p.tables e below (s₁.setTop (entryFrame m #[.ref a, .ref b] 2)) (s₁.setTop (mkF m 0 #[.val (.ref a), .val (.ref b)] [])) := entry rfl
  have c2 : Steps p.tables e below (s₁.setTop (entryFrame m #[.ref a, .ref b] 2)) (s₁.setTop (mkF m 6 #[.val (.ref a), .val (.ref b)] [.null, .int (Int32.ofNat A.slots.size), .int 0, .ref b, .ref a])) := c1.trans (by
    refine XS.aloadN X0.here hexec rfl (hb hbytes d0) rfl rfl ?_
    refine XS.aloadN X0.here hexec rfl (hb hbytes d1) rfl rfl ?_
    refine iconstV X0.here hexec rfl 0 (hb hbytes d2) (by decide) ?_
    refine XS.aloadN X0.here hexec rfl (hb hbytes d3) rfl rfl ?_
    refine X0.alen hexec (hA.1.mv X0.warmed.alike hh0) rfl rfl (hb hbytes d4) ?_
    refine XS.aconstNull X0.here hexec rfl (hb hbytes d5) ?_
    exact Steps.refl _)
  obtain ⟨v3, T3, X3, E3, g3⟩ := X0.callN hexec (New4.law l a D fV fC b A z 0 A.slots.size) rfl hown (wks W (initW "java/lang/String" 27 New4.yN)) (W New4.tab (by simp only [site, List.mem_cons, List.mem_append, true_or, or_true])) (W := 0) (Nat.le_of_ble_eq_true rfl) (Nat.le_of_ble_eq_true rfl) (Nat.le_refl _) (by show 0 + A.slots.size ≤ A.slots.size; omega) (g := (mkF m 6 #[.val (.ref a), .val (.ref b)] [.null, .int (Int32.ofNat A.slots.size), .int (Int32.ofNat 0), .ref b, .ref a])) rfl (by rw [hml]; rfl) c2 (argsL := [.ref b, .int (Int32.ofNat 0), .int (Int32.ofNat A.slots.size), .null]) (rest := []) rfl rfl (by show 2 * 0 + 0 ≤ _; decide) (hb hbytes d6) (⟨rfl, hB.mv X0.warmed.alike hh0, f1.al X0.warmed.alike, f2.al X0.warmed.alike, hA.mv X0.warmed.alike hh0, s1.there X0.warmed.alike hh0, hz, l0, by omega, l2, fun i hi => by rw [Nat.zero_add]; exact hp i hi⟩)
  have e0 := Got.mv _ s₁ s _ _ hh0.symm (Vm.Alike.refl _) rfl E3
  obtain rfl := e0.1
  have c4 : Steps p.tables e below (s₁.setTop (entryFrame m #[.ref a, .ref b] 2)) (T3.setTop (mkF m 9 #[.val (.ref a), .val (.ref b)] [])) := g3
  exact ⟨T3, none, _, _, _, X3, by simp, rfl, by omega, (fun _ => rfl), e0, fun fs hl => c4.trans (X3.returnOut hexec hret (hb hbytes d9) hl)⟩
theorem pays {l : Launch} {R : Room} {p : Program} {e : Env} {below : List Frame} {s : State} {sargs : Array Value} {len W : Nat} (a : Addr) (D : Cell) (fV fC : Field) (b : Addr) (A : Cell) (z : Int32) (htab : tab.before sargs s = true) (hfr : 4 ≤ R.frames) (hlo : W + 65 ≤ R.locals) :
    Back l R p e below s sargs yN len W (fun A₁ a₁ => A₁.cells + 1 ≤ R.cells ∧ A₁.slots + A.slots.size ≤ R.slots ∧ P a D fV fC b A z a₁ A₁.U) (fun A₁ _ v₁ B₁ => E a D fV fC A v₁ A₁.U B₁.U ∧ B₁.locs = A₁.locs ++ [⟨a, fC.slot⟩, ⟨a, fV.slot⟩] ∧ B₁.cells = A₁.cells + 1 ∧ B₁.slots = A₁.slots + A.slots.size) :=
  (law l a D fV fC b A z).pays htab hfr (by omega)
end New1
end StrChars
namespace StrChars.Road
open Jvm Sem ClassFile Op Lib Jvm.Stand Jvm.Free Jvm.Free.XT
open Jvm.Lib.Cold (StaticIs)
abbrev ST : String := "java/lang/String"
/-- every table word that New1's law asks, flat -/
abbrev words : List Jvm.Cond := [.code New1.yN New1.yB 2 none, .initialized ST, .methodLink ST 27 New4.yN, .instanceMethod New4.yN,
  .code New4.yN New4.yB 6 none, .fieldLink ST 38 ST "COMPACT_STRINGS" "Z", .laysFinal ST ST "value" "[B", .fieldLink ST 9 ST "value" "[B", .laysFinal ST ST "coder" "B", .fieldLink ST 15 ST "coder" "B",
  .methodLink ST 1 Lib.objectInit, .instanceMethod Lib.objectInit, .code Lib.objectInit ⟨#[0xb1]⟩ 1 none, .methodLink ST 177 Cmp3.yN, .static Cmp3.yN, .methodLink ST 47 CodL.yN, .static CodL.yN,
  .code Cmp3.yN Cmp3.yB 6 (some (.array .byte)), .initialized U16, .arrayClass .byte, .methodLink U16 115 Cmp5.yN, .static Cmp5.yN, .code Cmp5.yN Cmp5.yB 7 (some .int), .code CodL.yN CodL.yB 2 (some .byte)]
theorem tab_of {a : Array Value} {s : State} (h : ∀ w ∈ words, w.before a s = true) : New1.tab.before a s = true := by
  have h5 : Cmp5.tab.before a s = true := unparts (wk h (.code Cmp5.yN Cmp5.yB 7 (some .int))) (wks h (.initialized Cmp5.yN.cls :: Cmp5.site))
  have hc : CodL.tab.before a s = true := unparts (wk h (.code CodL.yN CodL.yB 2 (some .byte))) (wks h (.initialized CodL.yN.cls :: CodL.site))
  have q5 : ∀ w ∈ Cmp5.tab :: words, w.before a s = true := fun w hw => (List.mem_cons.mp hw).elim (fun e => e ▸ h5) (h w)
  have h3 : Cmp3.tab.before a s = true := unparts (wk q5 (.code Cmp3.yN Cmp3.yB 6 (some (.array .byte)))) (wks q5 (.initialized Cmp3.yN.cls :: Cmp3.site))
  have q3 : ∀ w ∈ Cmp3.tab :: CodL.tab :: words, w.before a s = true := fun w hw => (List.mem_cons.mp hw).elim (fun e => e ▸ h3) fun hw => (List.mem_cons.mp hw).elim (fun e => e ▸ hc) (h w)
  have h4 : New4.tab.before a s = true := unparts (wk q3 (.code New4.yN New4.yB 6 none)) (wks q3 (.initialized New4.yN.cls :: New4.site))
  have q4 : ∀ w ∈ New4.tab :: words, w.before a s = true := fun w hw => (List.mem_cons.mp hw).elim (fun e => e ▸ h4) (h w)
  exact unparts (wk q4 (.code New1.yN New1.yB 2 none)) (wks q4 (.initialized New1.yN.cls :: New1.site))
/-- the words ride from the start Z to the walk's own state -/
theorem moved {Z s : State} {a0 args : Array Value} (hZ : Z.Warmed39 s.vm) (hw : ∀ d ∈ words, d.before a0 Z = true) : ∀ d ∈ words, d.before args s = true := fun d hd => by
  have q := hw d hd
  have t : ∀ d ∈ words, d = .arrayClass .byte ∨ (d.onTables && d.keepsFace) = true := by decide +kernel
  rcases t d hd with rfl | t
  · exact RoadKit.mvA hZ q
  · exact RoadKit.mv hZ q t
/-- WHAT COMES BACK, over the tables of the start Z: h the heap at the call, h' behind it -/
def Q (Z : State) (x : Addr) (A : Cell) (h : Heap) (v : Option Value) (h' : Heap) (L : List Loc) : Prop := v = none ∧ (∀ y ∈ L, y.base = x) ∧ RoadKit.Keep h h' [x] ∧ h'.size = h.size + 1 ∧ RoadKit.Exa Z h' x ST ∧ RoadKit.Fld Z h' x ST "value" "[B" (.ref h.size) ∧ RoadKit.Fld Z h' x ST "coder" "B" (.int 0) ∧
  (∃ V : Cell, RoadKit.Arr Z h' h.size V .byte ∧ V.vm = .none ∧ Z.vm.findClass "[B" = some V.cls ∧ V.slots.size = A.slots.size ∧ ∀ j, j < A.slots.size → V.slots[j]? = some (.int (lo8 (cv A j)))) ∧
  ∀ (O n d : String) (w : Value), RoadKit.Fld Z h x O n d w → RoadKit.slotOf Z O n d ≠ RoadKit.slotOf Z ST "value" "[B" → RoadKit.slotOf Z O n d ≠ RoadKit.slotOf Z ST "coder" "B" → RoadKit.Fld Z h' x O n d w
/-- **new String(chars) AT A CALL, IN THE ROAD'S FORM**: for specialBack behind newO: x the fresh String, b the char[] with the cell A -/
theorem back {p : Program} {l : Launch} {e : Env} {R : Room} {s : State} {args : Array Value} {below : List Frame} {len W : Nat} {Z : State} {a0 : Array Value} {h : Heap} (hZ : Z.Warmed39 s.vm) (hw : ∀ d ∈ words, d.before a0 Z = true) {kI : Nat} (wi : (Jvm.Cond.instantiable ST kI).before a0 Z = true)
    {x b : Addr} {A : Cell} {z : Int32} {v0 c0 : Value} (E : RoadKit.Exa Z h x ST) (V : RoadKit.Fld Z h x ST "value" "[B" v0) (C : RoadKit.Fld Z h x ST "coder" "B" c0) (K : RoadKit.Arr Z h b A .char) (hty : Typed .char A) (S : RoadKit.Sta Z h ST "COMPACT_STRINGS" "Z" (.int z)) (hz : ¬ z = 0)
    (l0 : 0 < A.slots.size) (l2 : A.slots.size ≤ 536870912) (hp : ∀ i, i < A.slots.size → ¬ 255 < cv A i) (hfr : 4 ≤ R.frames) (hlo : W + 65 ≤ R.locals) :
    Back l R p e below s args New1.yN len W (fun P a => a = #[.ref x, .ref b] ∧ P.U.heap = h ∧ P.cells + 1 ≤ R.cells ∧ P.slots + A.slots.size ≤ R.slots)
      (fun P _ v B => ∃ L, Q Z x A h v B.U.heap L ∧ B.locs = P.locs ++ L ∧ B.cells = P.cells + 1 ∧ B.slots = P.slots + A.slots.size) := by
  intro m meth c P g ig mk a X hg hsize hdg hW hn hp'
  obtain ⟨rfl, rfl, r1, r2⟩ := hp'
  have al : Z.vm.Alike P.U.vm := hZ.alike.trans X.warmed.alike
  obtain ⟨D, cfV, kV, iV, fV, hD, gV, stV, knV, obV, asV, slV⟩ := id V
  obtain ⟨D', cfC, kC, iC, fC, hD', gC, stC, -, -, asC, slC⟩ := id C
  cases hD.symm.trans hD'
  obtain ⟨D2, kD, e1, e2, e3, e4, e5⟩ := id E
  cases hD.symm.trans e1
  obtain ⟨c2, k2, i1, i2, i3, -⟩ := Cond.instantiable_spec wi
  cases e2.symm.trans i1
  cases e3.symm.trans i2
  obtain ⟨kU, u1, u2⟩ := al.2.2 _ _ e3
  have hB : Blank ST x D P.U := ⟨hD, ⟨knV, fun q hq => by rw [hq] at obV; cases obV⟩, by rw [al.findClass]; exact e2, kU, u1, by rw [u2]; exact i3, by rw [u2]; exact e5 i3⟩
  have F1 : Found ST "value" "[B" fV P.U := ⟨SBG.found_only al ⟨cfV, kV, iV, gV⟩, stV⟩
  have F2 : Found ST "coder" "B" fC P.U := ⟨SBG.found_only al ⟨cfC, kC, iC, gC⟩, stC⟩
  have hA : Ch b A P.U := ⟨⟨K.1, State.isArrayOf_alike al K.2.1, K.2.2, by omega⟩, hty⟩
  have hS : StaticIs P.U ST "COMPACT_STRINGS" "Z" (.int z) := by
    obtain ⟨cfS, iS, kS, fS, st, cS, t1, t2, t3, t4, t5, t6, t7⟩ := S
    exact StaticIs.there (s := { Z with heap := P.U.heap }) ⟨cfS, iS, kS, fS, st, cS, t1, t2, t3, t4, t5, (fun q => by rw [q] at t6; cases t6), t7⟩ al rfl
  obtain ⟨v, B, X', ⟨⟨hv, E', V', q1, q2, q3, q4, q5, q6, q7, q8, q9, q10, q11⟩, hl, hc, hs⟩, st⟩ := New1.pays x D fV fC b A z (tab_of (moved hZ hw)) hfr hlo m meth c P g ig mk _ X hg hsize hdg hW hn ⟨r1, r2, rfl, hB, F1, F2, hA, hS, hz, l0, l2, hp⟩
  have al' : Z.vm.Alike B.U.vm := hZ.alike.trans X'.warmed.alike
  have hsz : E'.slots.size = D.slots.size := by
    obtain ⟨-, -, -, kB, w1, w2, w3⟩ := q1
    obtain ⟨kB', y1, y2⟩ := al'.2.2 _ _ e3
    rw [q2.2.1] at w1
    cases w1.symm.trans y1
    rw [w3, e5 i3, y2]
  refine ⟨v, B, X', ⟨_, ⟨hv, ?_, ⟨by omega, fun y cy hy hn' => q10 y cy (by simpa using hn') hy, fun y cy hy => ?_⟩, q11, ⟨E', _, q1.1, by rw [q2.2.1]; exact e2, by rw [q2.2.1]; exact e3, by rw [q2.1]; exact obV, fun _ => by rw [hsz]; exact e5 i3⟩,
    ⟨E', cfV, kV, iV, fV, q1.1, gV, stV, by rw [q2.1]; exact knV, by rw [q2.1]; exact obV, by rw [q2.2.1]; exact asV, q3⟩, ⟨E', cfC, kC, iC, fC, q1.1, gC, stC, by rw [q2.1]; exact knV, by rw [q2.1]; exact obV, by rw [q2.2.1]; exact asC, q4⟩,
    ⟨V', ⟨q5.1, State.isArrayOf_alike al'.symm q5.2.1, q5.2.2.1⟩, q6, by rw [← al'.findClass]; exact q7, q8, fun j hj => by have := q9 j hj; rwa [Nat.zero_add] at this⟩, fun O n d w F n1 n2 => ?_⟩, hl, hc, hs⟩, st⟩
  · intro y hy
    simp only [List.mem_cons, List.not_mem_nil, or_false] at hy
    rcases hy with rfl | rfl <;> rfl
  · by_cases q : y = x
    · subst q
      cases hD.symm.trans hy
      exact ⟨E', q1.1, q2.2.1, q2.1, hsz⟩
    · exact ⟨cy, q10 y cy q hy, rfl, rfl, rfl⟩
  · obtain ⟨D3, cf, k, i, f, g1, g2, g3, g4, g5, g6, g7⟩ := F
    cases hD.symm.trans g1
    simp only [RoadKit.slotOf, g2, gV, gC, Option.map_some, Option.getD_some] at n1 n2
    exact ⟨E', cf, k, i, f, q1.1, g2, g3, by rw [q2.1]; exact g4, by rw [q2.1]; exact g5, by rw [q2.2.1]; exact g6, by rw [q2.2.2 f.slot (by simp [n1, n2])]; exact g7⟩
end StrChars.Road
namespace StrChars.Road
open Jvm Sem ClassFile Op Lib Jvm.Stand Jvm.Free Jvm.Free.XT
/-- WHAT COMES BACK, the byte[] as a list of values -/
def QA (Z : State) (x : Addr) (zn : Int32) (cs : List Int32) (h : Heap) (v : Option Value) (h' : Heap) (L : List Loc) : Prop := v = none ∧ (∀ y ∈ L, y.base = x) ∧ RoadKit.Keep h h' [x] ∧ h'.size = h.size + 1 ∧ RoadKit.Exa Z h' x ST ∧ RoadKit.Fld Z h' x ST "value" "[B" (.ref h.size) ∧ RoadKit.Fld Z h' x ST "coder" "B" (.int 0) ∧
  (∃ kb, Z.vm.findClass "[B" = some kb ∧ RoadKit.Arv Z h' h.size kb .byte zn (cs.map fun c => .int (lo8 c)) (.int 0)) ∧
  ∀ (O n d : String) (w : Value), RoadKit.Fld Z h x O n d w → RoadKit.slotOf Z O n d ≠ RoadKit.slotOf Z ST "value" "[B" → RoadKit.slotOf Z O n d ≠ RoadKit.slotOf Z ST "coder" "B" → RoadKit.Fld Z h' x O n d w
/-- **new String(chars) AT A CALL, THE ARRAYS AS LISTS**: the char[] at b holds cs, not empty, no char above 255 -/
theorem backArv {p : Program} {l : Launch} {e : Env} {R : Room} {s : State} {args : Array Value} {below : List Frame} {len W : Nat} {Z : State} {a0 : Array Value} {h : Heap} (hZ : Z.Warmed39 s.vm) (hw : ∀ d ∈ words, d.before a0 Z = true) {kI : Nat} (wi : (Jvm.Cond.instantiable ST kI).before a0 Z = true)
    {x b : Addr} {k : ClassId} {zn z : Int32} {cs : List Int32} {dv v0 c0 : Value} (E : RoadKit.Exa Z h x ST) (V : RoadKit.Fld Z h x ST "value" "[B" v0) (C : RoadKit.Fld Z h x ST "coder" "B" c0) (K : RoadKit.Arv Z h b k .char zn (cs.map Value.int) dv) (S : RoadKit.Sta Z h ST "COMPACT_STRINGS" "Z" (.int z)) (hz : ¬ z = 0)
    (hlen : zn.toNatClampNeg = cs.length) (h0 : 0 < cs.length) (hbig : cs.length ≤ 536870912) (hall : ∀ c ∈ cs, ¬ 255 < c) (hfr : 4 ≤ R.frames) (hlo : W + 65 ≤ R.locals) :
    Back l R p e below s args New1.yN len W (fun P a => a = #[.ref x, .ref b] ∧ P.U.heap = h ∧ P.cells + 1 ≤ R.cells ∧ P.slots + cs.length ≤ R.slots)
      (fun P _ v B => ∃ L, QA Z x zn cs h v B.U.heap L ∧ B.locs = P.locs ++ L ∧ B.cells = P.cells + 1 ∧ B.slots = P.slots + cs.length) := by
  obtain ⟨A, K1, K2, K3, K4, K5, K6⟩ := K
  have e : A.slots.size = cs.length := K3.trans hlen
  have hat : ∀ (i : Nat) (hi : i < cs.length), A.slots[i]? = some (.int cs[i]) := fun i hi => by rw [K5 i (by omega)]; simp [List.getD_eq_getElem?_getD, hi]
  have hcv : ∀ (i : Nat) (hi : i < cs.length), cv A i = cs[i] := fun i hi => by unfold cv; rw [hat i hi]
  have hty : Typed .char A := fun i v hv => by
    have hi : i < A.slots.size := (Array.getElem?_eq_some_iff.mp hv).1
    have q := K5 i hi
    rw [hv] at q
    rw [Option.some.inj q]
    exact K6 i hi
  refine Back.mono (back hZ hw wi E V C K1 hty S hz (by omega) (by omega) (fun i hi => by rw [hcv i (by omega)]; exact hall _ (List.getElem_mem _)) hfr hlo) (fun P a hp => ⟨hp.1, hp.2.1, hp.2.2.1, by rw [e]; exact hp.2.2.2⟩) (fun P a v B hp hq => ?_)
  obtain ⟨L, ⟨q1, q2, q3, q4, q5, q6, q7, ⟨V', v1, v2, v3, v4, v5⟩, q9⟩, hl, hc, hs⟩ := hq
  refine ⟨L, ⟨q1, q2, q3, q4, q5, q6, q7, ⟨V'.cls, v3, V', v1, rfl, by rw [v4, e, hlen], K4, fun i hi => ?_, fun i hi => ?_⟩, q9⟩, hl, hc, by rw [hs, e]⟩
  · have hi' : i < cs.length := by omega
    rw [v5 i (by omega), hcv i hi']; simp [List.getD_eq_getElem?_getD, hi']
  · have hi' : i < cs.length := by omega
    simp only [List.getD_eq_getElem?_getD, List.getElem?_map, List.getElem?_eq_getElem hi', Option.map_some, Option.getD_some]
    exact fits_lo8 _
end StrChars.Road
namespace StrChars.Road
open Jvm Sem ClassFile Op Lib Jvm.Stand Jvm.Free Jvm.Free.XT
/-- WHAT COMES BACK, in the writer's own shape -/
def QV (Z : State) (x : Addr) (N : Int32) (bs : List Int32) (h : Heap) (n0 : Nat) (v : Option Value) (h' : Heap) (L : List Loc) : Prop := v = none ∧ RoadKit.Fr n0 L ∧ RoadKit.Keep h h' [x] ∧ RoadKit.Exa Z h' x ST ∧ RoadKit.Fld Z h' x ST "coder" "B" (.int 0) ∧
  ∃ (t : Addr) (kb : ClassId), n0 ≤ t ∧ h.size ≤ t ∧ ¬ t = x ∧ RoadKit.Fld Z h' x ST "value" "[B" (.ref t) ∧ RoadKit.Arv Z h' t kb .byte N (bs.map Value.int) (.int 0)
/-- **new String(chars) AT A CALL, FOR THE WRITER**: a char[] of n known ints, each 0 to 255 -/
theorem backV {p : Program} {l : Launch} {e : Env} {R : Room} {s : State} {args : Array Value} {below : List Frame} {len W : Nat} {Z : State} {a0 : Array Value} {h : Heap} (hZ : Z.Warmed39 s.vm) (hw : ∀ d ∈ words, d.before a0 Z = true) {kI : Nat} (wi : (Jvm.Cond.instantiable ST kI).before a0 Z = true)
    {x b : Addr} {kC : ClassId} {cs bs : List Int32} {d v0 c0 : Value} {z N : Int32} {n n0 : Nat} (hx0 : n0 ≤ x) (hh0 : n0 ≤ h.size) (E : RoadKit.Exa Z h x ST) (V : RoadKit.Fld Z h x ST "value" "[B" v0) (C : RoadKit.Fld Z h x ST "coder" "B" c0) (K : RoadKit.Arv Z h b kC .char N (cs.map Value.int) d) (S : RoadKit.Sta Z h ST "COMPACT_STRINGS" "Z" (.int z)) (hz : ¬ z = 0)
    (hn : cs.length = n) (hN : N = Int32.ofNat n) (l0 : 0 < n) (l2 : n ≤ 4000) (hp : ∀ c ∈ cs, ¬ c < 0 ∧ ¬ (255 : Int32) < c) (hb : bs = cs.map (fun c => c.toInt8.toInt32)) (hfr : 4 ≤ R.frames) (hlo : W + 65 ≤ R.locals) :
    Back l R p e below s args (⟨"java/lang/String", "<init>", "([C)V"⟩ : MethodName) len W (fun P a => a = #[.ref x, .ref b] ∧ P.U.heap = h ∧ P.cells + 1 ≤ R.cells ∧ P.slots + n ≤ R.slots)
      (fun P _ v B => ∃ L, QV Z x N bs h n0 v B.U.heap L ∧ B.locs = P.locs ++ L ∧ B.cells = P.cells + 1 ∧ B.slots = P.slots + n) := by
  subst hn hN hb
  refine Back.mono (backArv hZ hw wi E V C K S hz (n32 (by omega)) l0 (by omega) (fun c hc => (hp c hc).2) hfr hlo) (fun P a hp => hp) (fun P a v B hp hq => ?_)
  obtain ⟨L, ⟨q1, q2, q3, q4, q5, q6, q7, ⟨kb, v1, v2⟩, q9⟩, hl, hc, hs⟩ := hq
  exact ⟨L, ⟨q1, fun y hy => by rw [q2 y hy]; exact hx0, q3, q5, q7, h.size, kb, hh0, Nat.le_refl _, Nat.ne_of_gt E.lt, q6, by rw [List.map_map]; exact v2⟩, hl, hc, hs⟩
end StrChars.Road
namespace StrChars
open Jvm Sem ClassFile Op Lib Jvm.Stand Jvm.Free.XT Jvm.Free.ALB Jvm.Free.JM Jvm.Free
open Jvm.Lib.Cold (StaticIs)
def hi8 (x : Int32) : Int32 := lo8 (x >>> ((8 : Int32) &&& 31))
end StrChars
namespace StrChars.Road
open Jvm Sem ClassFile Op Lib Jvm.Stand Jvm.Free Jvm.Free.XT
open Jvm.Lib.Cold (StaticIs)
/-- the bytes of the chars cs, low before high -/
def wideBytes : List Int32 → List Value
  | [] => []
  | c :: cs => .int (lo8 c) :: .int (hi8 c) :: wideBytes cs
/-- an array of N2 bytes vs codes the chars cs by the coder cd -/
def CodA (cs : List Int32) (cd N2 : Int32) (vs : List Value) : Prop := (cd = 0 ∧ N2 = Int32.ofNat cs.length ∧ vs = (cs.map fun c => Value.int (lo8 c)) ∧ ∀ c ∈ cs, ¬ 255 < c) ∨ (cd = 1 ∧ N2 = Int32.ofNat (2 * cs.length) ∧ vs = wideBytes cs ∧ ∃ c ∈ cs, 255 < c)
end StrChars.Road
namespace StrChars.Road
open Jvm Sem ClassFile Op Lib Jvm.Stand Jvm.Free Jvm.Free.XT
open Jvm.Lib.Cold (StaticIs)
/-- what backV says of its String, as the contracts of this text ask it: cs's low bytes, coder 0 -/
theorem codOf {cs : List Int32} {n : Nat} (hn : cs.length = n) (hb : ∀ c ∈ cs, ¬ 255 < c) : CodA cs 0 (Int32.ofNat n) ((cs.map lo8).map Value.int) := Or.inl ⟨rfl, by rw [hn], by simp [List.map_map, Function.comp_def], hb⟩
end StrChars.Road
end Jvm.Pilot.@@N@@
namespace Jvm.Pilot.@@N@@
namespace GoKit
open Sem ClassFile Op Lib Jvm.Stand Jvm.Free Jvm.LawKit Jvm.RoadKit
section
variable {Z : State} {h h' : Heap} {a t : Nat} {cs ds : List Int32} {ws : List Addr} {x : Nat} {sl : Nat} {v : Value}
/-- the String at a, its byte[] at t, spells cs -/
def Str (Z : State) (h : Heap) (a t : Nat) (cs : List Int32) : Prop := ∃ (kb : ClassId) (cd N2 : Int32) (vs : List Value), Exa Z h a "java/lang/String" ∧ Fld Z h a "java/lang/String" "value" "[B" (.ref t) ∧ Fld Z h a "java/lang/String" "coder" "B" (.int cd) ∧ Arv Z h t kb .byte N2 vs (.int 0) ∧ StrChars.Road.CodA cs cd N2 vs ∧ (∀ c ∈ cs, ¬ c < 0 ∧ ¬ (65535 : Int32) < c) ∧ cs.length ≤ 4000
theorem Str.ext (S : Str Z h a t cs) (E : Ext h h') : Str Z h' a t cs := by
  obtain ⟨kb, cd, N2, vs, r1, r2, r3, r4, r⟩ := S
  exact ⟨kb, cd, N2, vs, r1.ext E, r2.ext E, r3.ext E, r4.ext E, r⟩
theorem Str.other (S : Str Z h a t cs) (W : Wr h h' x sl v) (q1 : a ≠ x) (q2 : t ≠ x) : Str Z h' a t cs := by
  obtain ⟨kb, cd, N2, vs, r1, r2, r3, r4, r⟩ := S
  exact ⟨kb, cd, N2, vs, r1.wr W, r2.other W (Or.inl q1), r3.other W (Or.inl q1), r4.other W q2, r⟩
theorem Str.keep (S : Str Z h a t cs) (K : Keep h h' ws) (q1 : a ∉ ws) (q2 : t ∉ ws) : Str Z h' a t cs := by
  obtain ⟨kb, cd, N2, vs, r1, r2, r3, r4, r⟩ := S
  exact ⟨kb, cd, N2, vs, r1.keep K, r2.keep K q1, r3.keep K q1, r4.keep K q2, r⟩
theorem Str.exa (S : Str Z h a t cs) : Exa Z h a "java/lang/String" := by obtain ⟨_, _, _, _, r, -⟩ := S; exact r
theorem Str.lt (S : Str Z h a t cs) : a < h.size ∧ t < h.size := by obtain ⟨_, _, _, _, r1, _, _, r4, -⟩ := S; exact ⟨r1.lt, r4.lt⟩
theorem Str.latin {kb : ClassId} {N2 : Int32} {vs : List Value} (E : Exa Z h a "java/lang/String") (V : Fld Z h a "java/lang/String" "value" "[B" (.ref t)) (C : Fld Z h a "java/lang/String" "coder" "B" (.int 0)) (A : Arv Z h t kb .byte N2 vs (.int 0)) (hN : N2 = Int32.ofNat cs.length) (hv : vs = cs.map fun c => Value.int (StrChars.lo8 c)) (hp : ∀ c ∈ cs, ¬ c < 0 ∧ ¬ (255 : Int32) < c) (hl : cs.length ≤ 4000) : Str Z h a t cs :=
  ⟨kb, 0, N2, vs, E, V, C, A, Or.inl ⟨rfl, hN, hv, fun c hc => (hp c hc).2⟩, fun c hc => ⟨(hp c hc).1, nle (hp c hc).2 (by decide)⟩, hl⟩
variable {p : Program} {l : Launch} {e : Env} {R : Room} {s : State} {args : Array Value} {below : List Frame} {len W : Nat} {a0 : Array Value}
theorem Str.bkNew (hZ : Z.Warmed39 s.vm) (hw : ∀ d ∈ StrChars.Road.words, d.before a0 Z = true) {kI : Nat} (wi : (Jvm.Cond.instantiable "java/lang/String" kI).before a0 Z = true)
    {x b : Nat} {kC : ClassId} {cs : List Int32} {d v0 c0 : Value} {z N : Int32} {n n0 : Nat} (hx0 : n0 ≤ x) (hh0 : n0 ≤ h.size) (E : Exa Z h x "java/lang/String") (V : Fld Z h x "java/lang/String" "value" "[B" v0) (C : Fld Z h x "java/lang/String" "coder" "B" c0) (K : Arv Z h b kC .char N (cs.map Value.int) d) (S : Sta Z h "java/lang/String" "COMPACT_STRINGS" "Z" (.int z)) (hz : ¬ z = 0)
    (hn : cs.length = n) (hN : N = Int32.ofNat n) (l0 : 0 < n) (l2 : n ≤ 4000) (hp : ∀ c ∈ cs, ¬ c < 0 ∧ ¬ (255 : Int32) < c) (hfr : 4 ≤ R.frames) (hlo : W + 65 ≤ R.locals) :
    BK l R p e below s args (⟨"java/lang/String", "<init>", "([C)V"⟩ : MethodName) len W #[.ref x, .ref b] h 1 n (fun v h' L => v = none ∧ Fr n0 L ∧ Keep h h' [x] ∧ ∃ t : Nat, h.size ≤ t ∧ Str Z h' x t cs) := by
  refine Back.mono (StrChars.Road.backV hZ hw wi (bs := cs.map (fun c => c.toInt8.toInt32)) hx0 hh0 E V C K S hz hn hN l0 l2 hp rfl hfr hlo) (fun P a hp => hp) (fun P a v B _ hq => ?_)
  obtain ⟨L, ⟨q1, q2, q3, q4, q5, t, kb, q6, q7, q8, q9, q10⟩, hr⟩ := hq
  exact ⟨L, ⟨q1, q2, q3, t, q7, Str.latin q4 q9 q5 q10 (by rw [hN, hn]) (by rw [List.map_map]; rfl) hp (by omega)⟩, hr⟩
end
end GoKit
end Jvm.Pilot.@@N@@
namespace Jvm.Pilot.@@N@@
open Jvm Jvm.ClassFile Sem Op Lib Jvm.Free Jvm.Stand Jvm.LawKit Jvm.RoadKit Bundle Jvm.Pilot.@@N@@.Jvm.D
open GoKit
theorem pn_0 : plainName "java/lang/Record" = true := by first | (simp [plainName, overriddenIn]; done) | decide +kernel
theorem pn_1 : plainName "com/example/neat_mapper/neatmapper/engine/Same" = true := by first | (simp [plainName, overriddenIn]; done) | decide +kernel
theorem pn_2 : plainName "com/example/neat_mapper/neatmapper/engine/SameEqualsPinLaw" = true := by first | (simp [plainName, overriddenIn]; done) | decide +kernel
theorem pd_0 : parseMethodDescriptor "()V" = some ⟨[], none⟩ := by decide +kernel
theorem pd_1 : parseMethodDescriptor "([C)V" = some ⟨[(.array .char)], none⟩ := by decide +kernel
theorem pd_2 : parseMethodDescriptor "(ILjava/lang/Object;Ljava/lang/Object;Ljava/lang/Object;)Ljava/lang/Object;" = some ⟨[.int, (.object "java/lang/Object"), (.object "java/lang/Object"), (.object "java/lang/Object")], some (.object "java/lang/Object")⟩ := by decide +kernel
theorem pd_3 : parseMethodDescriptor "(Ljava/lang/Object;)V" = some ⟨[(.object "java/lang/Object")], none⟩ := by decide +kernel
theorem pd_4 : parseMethodDescriptor "(Ljava/lang/Object;)Z" = some ⟨[(.object "java/lang/Object")], some .boolean⟩ := by decide +kernel
theorem d8_0 : decode prog_7_method_1_code 0 = .ok (.aload_n 0, 1) := by decide +kernel
theorem d8_1 : decode prog_7_method_1_code 1 = .ok (.invokespecial 1, 3) := by decide +kernel
theorem d8_4 : decode prog_7_method_1_code 4 = .ok (.aload_n 0, 1) := by decide +kernel
theorem d8_5 : decode prog_7_method_1_code 5 = .ok (.aload_n 1, 1) := by decide +kernel
theorem d8_6 : decode prog_7_method_1_code 6 = .ok (.putfield 7, 3) := by decide +kernel
theorem d8_9 : decode prog_7_method_1_code 9 = .ok (.return_, 1) := by decide +kernel
theorem d10_0 : decode prog_7_method_2_code 0 = .ok (.aload_n 1, 1) := by decide +kernel
theorem d10_1 : decode prog_7_method_2_code 1 = .ok (.instanceof 8, 3) := by decide +kernel
theorem d10_4 : decode prog_7_method_2_code 4 = .ok (.ifCond .eq 23, 3) := by decide +kernel
theorem d10_7 : decode prog_7_method_2_code 7 = .ok (.aload_n 1, 1) := by decide +kernel
theorem d10_8 : decode prog_7_method_2_code 8 = .ok (.checkcast 8, 3) := by decide +kernel
theorem d10_11 : decode prog_7_method_2_code 11 = .ok (.astore_n 2, 1) := by decide +kernel
theorem d10_12 : decode prog_7_method_2_code 12 = .ok (.aload_n 2, 1) := by decide +kernel
theorem d10_13 : decode prog_7_method_2_code 13 = .ok (.getfield 7, 3) := by decide +kernel
theorem d10_16 : decode prog_7_method_2_code 16 = .ok (.aload_n 0, 1) := by decide +kernel
theorem d10_17 : decode prog_7_method_2_code 17 = .ok (.getfield 7, 3) := by decide +kernel
theorem d10_20 : decode prog_7_method_2_code 20 = .ok (.if_acmp .ne 7, 3) := by decide +kernel
theorem d10_23 : decode prog_7_method_2_code 23 = .ok (.iconst 1, 1) := by decide +kernel
theorem d10_24 : decode prog_7_method_2_code 24 = .ok (.goto 4, 3) := by decide +kernel
theorem d10_27 : decode prog_7_method_2_code 27 = .ok (.iconst 0, 1) := by decide +kernel
theorem d10_28 : decode prog_7_method_2_code 28 = .ok (.ireturn, 1) := by decide +kernel
theorem d7_0 : decode method_2_code 0 = .ok (.iload_n 0, 1) := by decide +kernel
theorem d7_1 : decode method_2_code 1 = .ok (.ifCond .ne 5, 3) := by decide +kernel
theorem d7_4 : decode method_2_code 4 = .ok (.aconst_null, 1) := by decide +kernel
theorem d7_5 : decode method_2_code 5 = .ok (.areturn, 1) := by decide +kernel
theorem d7_6 : decode method_2_code 6 = .ok (.iload_n 0, 1) := by decide +kernel
theorem d7_7 : decode method_2_code 7 = .ok (.iconst 1, 1) := by decide +kernel
theorem d7_8 : decode method_2_code 8 = .ok (.if_icmp .ne 5, 3) := by decide +kernel
theorem d7_11 : decode method_2_code 11 = .ok (.aload_n 1, 1) := by decide +kernel
theorem d7_12 : decode method_2_code 12 = .ok (.areturn, 1) := by decide +kernel
theorem d7_13 : decode method_2_code 13 = .ok (.iload_n 0, 1) := by decide +kernel
theorem d7_14 : decode method_2_code 14 = .ok (.iconst 2, 1) := by decide +kernel
theorem d7_15 : decode method_2_code 15 = .ok (.if_icmp .ne 5, 3) := by decide +kernel
theorem d7_18 : decode method_2_code 18 = .ok (.aload_n 2, 1) := by decide +kernel
theorem d7_19 : decode method_2_code 19 = .ok (.areturn, 1) := by decide +kernel
theorem d7_20 : decode method_2_code 20 = .ok (.aload_n 3, 1) := by decide +kernel
theorem d7_21 : decode method_2_code 21 = .ok (.areturn, 1) := by decide +kernel
theorem d9_0 : decode jdk_30_method_1_code 0 = .ok (.aload_n 0, 1) := by decide +kernel
theorem d9_1 : decode jdk_30_method_1_code 1 = .ok (.invokespecial 1, 3) := by decide +kernel
theorem d9_4 : decode jdk_30_method_1_code 4 = .ok (.return_, 1) := by decide +kernel
def pk (k : Int32) (a b c : Value) : Value := if k = 0 then .null else if k = 1 then a else if k = 2 then b else c
theorem pk_ref {k : Int32} {a b c : Value} (ha : a.isRef = true) (hb : b.isRef = true) (hc : c.isRef = true) : (pk k a b c).isRef = true := by
  unfold pk; repeat' split
  all_goals first | rfl | assumption
theorem pk_inj {i j : Int32} {a b c : Addr} (hi : i = 0 ∨ i = 1 ∨ i = 2 ∨ i = 3) (hj : j = 0 ∨ j = 1 ∨ j = 2 ∨ j = 3) (h1 : a ≠ b) (h2 : a ≠ c) (h3 : b ≠ c) : pk j (.ref a) (.ref b) (.ref c) = pk i (.ref a) (.ref b) (.ref c) ↔ i = j := by
  rcases hi with rfl | rfl | rfl | rfl <;> rcases hj with rfl | rfl | rfl | rfl <;> simp [pk, h1, h2, h3, h1.symm, h2.symm, h3.symm]
theorem pk_cases {k : Int32} {a b c : Nat} : pk k (.ref a) (.ref b) (.ref c) = .null ∨ pk k (.ref a) (.ref b) (.ref c) = .ref a ∨ pk k (.ref a) (.ref b) (.ref c) = .ref b ∨ pk k (.ref a) (.ref b) (.ref c) = .ref c := by
  unfold pk; repeat' split
  all_goals simp
/-- a String is no Same -/
theorem str_no {Z : State} {a0 : Array Value} (hw : ∀ d ∈ tables_1, d.before a0 Z = true) : ∃ c t, Z.vm.findClass "java/lang/String" = some c ∧ Z.vm.findClass "com/example/neat_mapper/neatmapper/engine/Same" = some t ∧ Z.vm.assignable c t = false := by
  obtain ⟨t, kt, g1, g2, g3, g4, -⟩ := Cond.instantiable_spec (hw _ (List.mem_of_getElem? (i := 35) rfl))
  obtain ⟨c, h0⟩ := found_sup (hw _ (List.mem_of_getElem? (i := 55) rfl) : (Jvm.Cond.superclass "java/lang/String" "java/lang/Object").before a0 Z = true)
  obtain ⟨p, k, kp, h1, h2, h3, h4, h5, -, h7⟩ := Cond.superclass_spec h0 (hw _ (List.mem_of_getElem? (i := 55) rfl))
  obtain ⟨p', kp', q1, q2, q3, -, -⟩ := Cond.noSuperclass_spec (hw _ (List.mem_of_getElem? (i := 56) rfl))
  cases h1.symm.trans q1
  have ne : c ≠ t := ids_ne h0 g1 (by decide)
  have ne2 : p ≠ t := ids_ne h1 g1 (by decide)
  have g7 : kt.isInterface = false := by
    cases hi : kt.isInterface
    · rfl
    · rw [hi] at g4; cases g4
  have s2 : ∀ fuel, Z.vm.isSubclassAux fuel p t = false := fun fuel => by
    cases fuel with
    | zero => rfl
    | succ f => simp [Vm.isSubclassAux, ne2, q2, q3]
  have s1 : ∀ fuel, Z.vm.isSubclassAux fuel c t = false := fun fuel => by
    cases fuel with
    | zero => rfl
    | succ f => simp [Vm.isSubclassAux, ne, h2, h4, s2]
  refine ⟨c, t, h0, g1, ?_⟩
  show Z.vm.assignableAux (255 + 1) c t = false
  simp [Vm.assignableAux, ne, h2, g2, h5, g3, g7, Vm.isSubclass, s1]
set_option maxRecDepth 65536 in
set_option maxHeartbeats 40000000 in
theorem c_rec (l : Launch) (Z : State) (a0 : Array Value) (hw : ∀ d ∈ tables_1, d.before a0 Z = true) (a1 : Nat) (h0 : Heap) :
    Con l (⟨"java/lang/Record", "<init>", "()V"⟩ : MethodName) jdk_30_method_1_code 1 none [] ({ frames := 1, cells := 0, slots := 0, locals := 12 } : Room) Z #[(.ref a1)] h0 [] (fun _ => True) (fun v h _ => v = none ∧ h = h0) false := by
  refine Con.intro pn_0 ?_
  intro p e s m below meth c K hV hsh
  have ef : entryFrame m #[(.ref a1)] 1 = (mkF m 0 #[.val (.ref a1)] []) := (by first | (simp [entryFrame, mkF, argsToLocals, cat_ref, cat_int, cat_long, cat_null]; done) | rfl)
  rw [ef]
  refine GoKit.aloadN (pc := 0) K d9_0 rfl rfl ?_
  refine GoKit.initO (pc := 1) (a0 := a0) K (hw _ (List.mem_of_getElem? (i := 45) rfl)) (hw _ (List.mem_of_getElem? (i := 12) rfl)) (hw _ (List.mem_of_getElem? (i := 13) rfl)) rfl d9_1 (by decide) (Nat.le_of_ble_eq_true rfl) ?_
  exact GoKit.retV (pc := 4) K d9_4 (by simp) (by decide) (by decide) (fun _ _ => ⟨rfl, rfl⟩)
set_option maxRecDepth 65536 in
set_option maxHeartbeats 40000000 in
theorem c_same (l : Launch) (Z : State) (a0 : Array Value) (hw : ∀ d ∈ tables_1, d.before a0 Z = true) (a1 : Nat) (x1 : Value) (r1 : x1.isRef = true) (h0 : Heap) (E1 : Exa Z h0 a1 "com/example/neat_mapper/neatmapper/engine/Same") (F1 : Fld Z h0 a1 "com/example/neat_mapper/neatmapper/engine/Same" "object" "Ljava/lang/Object;" .null) :
    Con l (⟨"com/example/neat_mapper/neatmapper/engine/Same", "<init>", "(Ljava/lang/Object;)V"⟩ : MethodName) prog_7_method_1_code 2 none [] ({ frames := 2, cells := 0, slots := 0, locals := 24 } : Room) Z #[(.ref a1), x1] h0 [a1] (fun _ => True) (fun v h _ => v = none ∧ Fld Z h a1 "com/example/neat_mapper/neatmapper/engine/Same" "object" "Ljava/lang/Object;" x1) false := by
  refine Con.intro pn_1 ?_
  intro p e s m below meth c K hV hsh
  have ef : entryFrame m #[(.ref a1), x1] 2 = (mkF m 0 #[.val (.ref a1), .val x1] []) := (by first | (simp [entryFrame, mkF, argsToLocals, cat_ref, cat_int, cat_long, cat_null, (cat_isRef r1)]; done) | rfl)
  rw [ef]
  refine GoKit.aloadN (pc := 0) K d8_0 rfl rfl ?_
  refine GoKit.callI (pc := 1) (a0 := a0) (argsL := []) (rest := []) K rfl (hw _ (List.mem_of_getElem? (i := 40) rfl)) (hw _ (List.mem_of_getElem? (i := 41) rfl)) (hw _ (List.mem_of_getElem? (i := 44) rfl)) (by decide) (fun hZ => Con.bk (a0 := a0) (c_rec l Z a0 hw a1 h0) hZ (hw _ (List.mem_of_getElem? (i := 44) rfl)) (hw _ (List.mem_of_getElem? (i := 43) rfl)) (by decide) (Nat.le_of_ble_eq_true rfl)) rfl rfl (lenOf pd_0 rfl) rfl d8_1 (by decide) (by decide) (fun _ _ _ q => ⟨Fw.sub q.2.1 (by omega) (fun x hx => nomatch hx), q.2.2.1⟩) ?_
  intro v1 h2 L4 q3
  obtain ⟨⟨vm5, rfl, e6⟩, -, -⟩ := q3
  replace e6 := e6.symm; subst e6
  show Go _ _ _ _ _ _ _ _ _ _ _ _ _ _ _ _ _ _ _ _ _ (mkF m 4 #[.val (.ref a1), .val x1] [])
  refine Go.allow a1 ?_
  refine GoKit.aloadN (pc := 4) K d8_4 rfl rfl ?_
  refine GoKit.aloadN (pc := 5) K d8_5 rfl r1 ?_
  refine GoKit.putF (pc := 6) (a0 := a0) (ty := (.object "java/lang/Object")) K (hw _ (List.mem_of_getElem? (i := 46) rfl)) Via.refl F1 E1 (Or.inr ⟨(hw _ (List.mem_of_getElem? (i := 47) rfl)), rfl, rfl⟩) (hw _ (List.mem_of_getElem? (i := 35) rfl)) (by decide +kernel) (GoKit.narrow_ref rfl) (fits_isRef rfl r1) (Or.inr (by simp)) d8_6 ?_
  intro h7 W8 F9
  have sz10 : h0.size ≤ h7.size := Nat.le_of_eq W8.size.symm
  exact GoKit.retV (pc := 9) K d8_9 (by simp) (by decide) (by decide) (fun _ _ => ⟨rfl, F9⟩)
set_option maxRecDepth 65536 in
set_option maxHeartbeats 40000000 in
theorem c_pick (l : Launch) (Z : State) (a0 : Array Value) (hw : ∀ d ∈ tables_1, d.before a0 Z = true) (p1 : Int32) (x1 x2 x3 : Value) (r1 : x1.isRef = true) (r2 : x2.isRef = true) (r3 : x3.isRef = true) (h0 : Heap) :
    Con l (⟨"com/example/neat_mapper/neatmapper/engine/SameEqualsPinLaw", "pick", "(ILjava/lang/Object;Ljava/lang/Object;Ljava/lang/Object;)Ljava/lang/Object;"⟩ : MethodName) method_2_code 4 (some (.object "java/lang/Object")) [] ({ frames := 0, cells := 0, slots := 0, locals := 0 } : Room) Z #[(.int p1), x1, x2, x3] h0 [] (fun _ => True) (fun v h _ => v = some (pk p1 x1 x2 x3) ∧ h = h0) false := by
  refine Con.intro pn_2 ?_
  intro p e s m below meth c K hV hsh
  have ef : entryFrame m #[(.int p1), x1, x2, x3] 4 = (mkF m 0 #[.val (.int p1), .val x1, .val x2, .val x3] []) := (by first | (simp [entryFrame, mkF, argsToLocals, cat_ref, cat_int, cat_long, cat_null, (cat_isRef r1), (cat_isRef r2), (cat_isRef r3)]; done) | rfl)
  rw [ef]
  refine GoKit.iloadN (pc := 0) K d7_0 rfl ?_
  refine GoKit.if_ne (pc := 1) (pc' := 6) K d7_1 (by decide) (fun hc1 => ?_) (fun hc1 => ?_)
  · -- ¬ p1 = (0 : Int32)
    refine GoKit.iloadN (pc := 6) K d7_6 rfl ?_
    refine GoKit.iconst (pc := 7) (x := (1 : Int32)) K d7_7 rfl ?_
    refine GoKit.icmp_ne (pc := 8) (pc' := 13) K d7_8 (by decide) (fun hc2 => ?_) (fun hc2 => ?_)
    · -- ¬ p1 = (1 : Int32)
      refine GoKit.iloadN (pc := 13) K d7_13 rfl ?_
      refine GoKit.iconst (pc := 14) (x := (2 : Int32)) K d7_14 rfl ?_
      refine GoKit.icmp_ne (pc := 15) (pc' := 20) K d7_15 (by decide) (fun hc3 => ?_) (fun hc3 => ?_)
      · -- ¬ p1 = (2 : Int32)
        refine GoKit.aloadN (pc := 20) K d7_20 rfl r3 ?_
        exact GoKit.retA (pc := 21) K rfl r3 d7_21 (by simp) (by decide) (by decide) (fun _ _ => ⟨by simp [pk, hc1, hc2, hc3], rfl⟩)
      · -- p1 = (2 : Int32)
        refine GoKit.aloadN (pc := 18) K d7_18 rfl r2 ?_
        exact GoKit.retA (pc := 19) K rfl r2 d7_19 (by simp) (by decide) (by decide) (fun _ _ => ⟨by simp [pk, hc1, hc2, hc3], rfl⟩)
    · -- p1 = (1 : Int32)
      refine GoKit.aloadN (pc := 11) K d7_11 rfl r1 ?_
      exact GoKit.retA (pc := 12) K rfl r1 d7_12 (by simp) (by decide) (by decide) (fun _ _ => ⟨by simp [pk, hc1, hc2], rfl⟩)
  · -- p1 = (0 : Int32)
    refine GoKit.aconstNull (pc := 4) K d7_4 ?_
    exact GoKit.retA (pc := 5) K rfl rfl d7_5 (by simp) (by decide) (by decide) (fun _ _ => ⟨by simp [pk, hc1], rfl⟩)
set_option maxRecDepth 65536 in
set_option maxHeartbeats 40000000 in
theorem c_eqS (l : Launch) (Z : State) (a0 : Array Value) (hw : ∀ d ∈ tables_1, d.before a0 Z = true) (a1 a2 : Nat) (x1 x2 : Value) (r1 : x1.isRef = true) (r2 : x2.isRef = true) (h0 : Heap) (E2 : Exa Z h0 a2 "com/example/neat_mapper/neatmapper/engine/Same") (F1 : Fld Z h0 a1 "com/example/neat_mapper/neatmapper/engine/Same" "object" "Ljava/lang/Object;" x1) (F2 : Fld Z h0 a2 "com/example/neat_mapper/neatmapper/engine/Same" "object" "Ljava/lang/Object;" x2) :
    Con l (⟨"com/example/neat_mapper/neatmapper/engine/Same", "equals", "(Ljava/lang/Object;)Z"⟩ : MethodName) prog_7_method_2_code 3 (some .boolean) [] ({ frames := 0, cells := 0, slots := 0, locals := 0 } : Room) Z #[(.ref a1), (.ref a2)] h0 [] (fun _ => True) (fun v h _ => v = some (.int (if x2 = x1 then 1 else 0)) ∧ h = h0) false := by
  refine Con.intro pn_1 ?_
  intro p e s m below meth c K hV hsh
  have ef : entryFrame m #[(.ref a1), (.ref a2)] 3 = (mkF m 0 #[.val (.ref a1), .val (.ref a2), .unset] []) := (by first | (simp [entryFrame, mkF, argsToLocals, cat_ref, cat_int, cat_long, cat_null]; done) | rfl)
  rw [ef]
  refine GoKit.aloadN (pc := 0) K d10_0 rfl rfl ?_
  refine GoKit.instY (pc := 1) (a0 := a0) K (hw _ (List.mem_of_getElem? (i := 53) rfl)) (Ins.self E2) d10_1 ?_
  refine GoKit.if_eq_n (pc := 4) K d10_4  (by decide) ?_
  refine GoKit.aloadN (pc := 7) K d10_7 rfl rfl ?_
  refine GoKit.castY (pc := 8) (a0 := a0) K (hw _ (List.mem_of_getElem? (i := 53) rfl)) (Ins.self E2) d10_8 ?_
  refine GoKit.astoreN (pc := 11) (l' := #[.val (.ref a1), .val (.ref a2), .val (.ref a2)]) K d10_11 rfl rfl ?_
  refine GoKit.aloadN (pc := 12) K d10_12 rfl rfl ?_
  refine GoKit.getF (pc := 13) (host := "") (a0 := a0) K (Or.inl (hw _ (List.mem_of_getElem? (i := 46) rfl))) Via.refl F2 d10_13 ?_
  refine GoKit.aloadN (pc := 16) K d10_16 rfl rfl ?_
  refine GoKit.getF (pc := 17) (host := "") (a0 := a0) K (Or.inl (hw _ (List.mem_of_getElem? (i := 46) rfl))) Via.refl F1 d10_17 ?_
  by_cases hc1 : ¬ x2 = x1
  · -- ¬ x2 = x1
    refine GoKit.acmp_ne_y (pc := 20) (pc' := 27) K d10_20 (by decide) r2 r1 hc1 ?_
    refine GoKit.iconst (pc := 27) (x := (0 : Int32)) K d10_27 rfl ?_
    exact GoKit.retZ (pc := 28) K (by simp) (z' := (0 : Int32)) (by decide) d10_28 (by simp) (by decide) (by decide) (fun _ _ => ⟨by simp [hc1], rfl⟩)
  · -- x2 = x1
    refine GoKit.acmp_ne_n (pc := 20) K d10_20 r2 r1 (Classical.not_not.mp hc1) ?_
    refine GoKit.iconst (pc := 23) (x := (1 : Int32)) K d10_23 rfl ?_
    refine GoKit.goto (pc := 24) (pc' := 28) K d10_24 (by decide) ?_
    exact GoKit.retZ (pc := 28) K (by simp) (z' := (1 : Int32)) (by decide) d10_28 (by simp) (by decide) (by decide) (fun _ _ => ⟨by simp [hc1], rfl⟩)
set_option maxRecDepth 65536 in
set_option maxHeartbeats 40000000 in
theorem c_eqN (l : Launch) (Z : State) (a0 : Array Value) (hw : ∀ d ∈ tables_1, d.before a0 Z = true) (a1 : Nat) (h0 : Heap) :
    Con l (⟨"com/example/neat_mapper/neatmapper/engine/Same", "equals", "(Ljava/lang/Object;)Z"⟩ : MethodName) prog_7_method_2_code 3 (some .boolean) [] ({ frames := 0, cells := 0, slots := 0, locals := 0 } : Room) Z #[(.ref a1), .null] h0 [] (fun _ => True) (fun v h _ => v = some (.int 0) ∧ h = h0) false := by
  refine Con.intro pn_1 ?_
  intro p e s m below meth c K hV hsh
  have ef : entryFrame m #[(.ref a1), .null] 3 = (mkF m 0 #[.val (.ref a1), .val .null, .unset] []) := (by first | (simp [entryFrame, mkF, argsToLocals, cat_ref, cat_int, cat_long, cat_null]; done) | rfl)
  rw [ef]
  refine GoKit.aloadN (pc := 0) K d10_0 rfl rfl ?_
  refine GoKit.instNull (pc := 1) K d10_1 ?_
  refine GoKit.if_eq_y (pc := 4) (pc' := 27) K d10_4 (by decide)  (by decide) ?_
  refine GoKit.iconst (pc := 27) (x := (0 : Int32)) K d10_27 rfl ?_
  exact GoKit.retZ (pc := 28) K (by simp) (z' := (0 : Int32)) (by decide) d10_28 (by simp) (by decide) (by decide) (fun _ _ => ⟨rfl, rfl⟩)
set_option maxRecDepth 65536 in
set_option maxHeartbeats 40000000 in
theorem c_eqF (l : Launch) (Z : State) (a0 : Array Value) (hw : ∀ d ∈ tables_1, d.before a0 Z = true) (a1 a2 : Nat) (h0 : Heap) (E2 : Exa Z h0 a2 "java/lang/String") :
    Con l (⟨"com/example/neat_mapper/neatmapper/engine/Same", "equals", "(Ljava/lang/Object;)Z"⟩ : MethodName) prog_7_method_2_code 3 (some .boolean) [] ({ frames := 0, cells := 0, slots := 0, locals := 0 } : Room) Z #[(.ref a1), (.ref a2)] h0 [] (fun _ => True) (fun v h _ => v = some (.int 0) ∧ h = h0) false := by
  refine Con.intro pn_1 ?_
  intro p e s m below meth c K hV hsh
  have ef : entryFrame m #[(.ref a1), (.ref a2)] 3 = (mkF m 0 #[.val (.ref a1), .val (.ref a2), .unset] []) := (by first | (simp [entryFrame, mkF, argsToLocals, cat_ref, cat_int, cat_long, cat_null]; done) | rfl)
  rw [ef]
  refine GoKit.aloadN (pc := 0) K d10_0 rfl rfl ?_
  refine GoKit.instNo (pc := 1) (a0 := a0) K (hw _ (List.mem_of_getElem? (i := 53) rfl)) E2 (str_no hw) d10_1 ?_
  refine GoKit.if_eq_y (pc := 4) (pc' := 27) K d10_4 (by decide)  (by decide) ?_
  refine GoKit.iconst (pc := 27) (x := (0 : Int32)) K d10_27 rfl ?_
  exact GoKit.retZ (pc := 28) K (by simp) (z' := (0 : Int32)) (by decide) d10_28 (by simp) (by decide) (by decide) (fun _ _ => ⟨rfl, rfl⟩)
theorem c_eqO (l : Launch) (Z : State) (a0 : Array Value) (hw : ∀ d ∈ tables_1, d.before a0 Z = true) (a1 : Nat) (x : Value) (h0 : Heap) (hx : x = .null ∨ ∃ a, x = .ref a ∧ Exa Z h0 a "java/lang/String") :
    Con l (⟨"com/example/neat_mapper/neatmapper/engine/Same", "equals", "(Ljava/lang/Object;)Z"⟩ : MethodName) prog_7_method_2_code 3 (some .boolean) [] ({ frames := 0, cells := 0, slots := 0, locals := 0 } : Room) Z #[.ref a1, x] h0 [] (fun _ => True) (fun v h _ => v = some (.int 0) ∧ h = h0) false := by
  rcases hx with rfl | ⟨a, rfl, E⟩
  · exact c_eqN l Z a0 hw a1 h0
  · exact c_eqF l Z a0 hw a1 a h0 E
set_option maxRecDepth 65536 in
set_option maxHeartbeats 40000000 in
theorem c_law (l : Launch) (Z : State) (a0 : Array Value) (hw : ∀ d ∈ tables_1, d.before a0 Z = true) (p1 p2 p3 : Int32) (h0 : Heap) (n0 : Nat) (O0 : Old Z n0 h0) (z0 : Int32) (S0 : Sta Z Z.heap "java/lang/String" "COMPACT_STRINGS" "Z" (.int z0)) (hz0 : ¬ z0 = 0) :
    Con l x code maxLocals ret tables_1 room_1 Z #[(.int p1), (.int p2), (.int p3)] h0 [] (fun _ => True) (fun v _ _ => v = some (.int 1)) false := by
  refine Con.intro pn_2 ?_
  intro p e s m below meth c K hV hsh
  have K : Kit p m meth c code 20 (some .boolean) "law" := K
  have ef : entryFrame m #[(.int p1), (.int p2), (.int p3)] maxLocals = (mkF m 0 #[.val (.int p1), .val (.int p2), .val (.int p3), .unset, .unset, .unset, .unset, .unset, .unset, .unset, .unset, .unset, .unset, .unset, .unset, .unset, .unset, .unset, .unset, .unset] []) := (by first | (simp [entryFrame, mkF, argsToLocals, cat_ref, cat_int, cat_long, cat_null, maxLocals]; done) | rfl)
  rw [ef]
  have hO : Old Z n0 h0 := O0
  have hn0 : n0 ≤ h0.size := by rw [← O0.1]; exact O0.2.1
  have hch : ∀ y : Int32, ∀ c ∈ ([nar .char ((y &&& (255 : Int32)).toUInt32.toUInt16.toUInt32.toInt32)] : List Int32), ¬ c < 0 ∧ ¬ (255 : Int32) < c := by
    intro y c hc; cases List.mem_singleton.mp hc; rw [ch255]; exact mask_rng y 255 (by decide)
  refine GoKit.iconst (pc := 0) (x := (1 : Int32)) K at_0 rfl ?_
  refine GoKit.newP (pc := 1) (a0 := a0) (cap := 1) K (hw _ (List.mem_of_getElem? (i := 0) rfl)) at_1 (by decide) (by decide) (by decide) (by decide) (by decide) ?_
  intro h1 b2 kc3 eq4 E5 A6
  have sz8 : h0.size ≤ h1.size := E5.1
  have lt9 : b2 < h1.size := A6.lt
  have V7 : Arv Z h1 b2 kc3 .char (1 : Int32) [.int 0] (.int 0) := A6.pad (pad_rep [] _ 1)
  refine GoKit.dup (pc := 3) K at_3 rfl ?_
  refine GoKit.iconst (pc := 4) (x := (0 : Int32)) K at_4 rfl ?_
  refine GoKit.iloadN (pc := 5) K at_5 rfl ?_
  refine GoKit.sipush (pc := 6) (x := (255 : Int32)) K at_6 rfl ?_
  refine GoKit.iand (pc := 9) K at_9 ?_
  refine GoKit.i2c (pc := 10) K at_10 ?_
  refine GoKit.castore (pc := 11) (i := 0) K V7 (by decide) rfl (by decide) (Or.inl (by omega)) at_11 ?_
  intro h10 W11 V12
  have sz13 : h1.size ≤ h10.size := Nat.le_of_eq W11.size.symm
  have V14 : Arv Z h10 b2 kc3 .char (1 : Int32) [(.int (nar .char ((p1 &&& (255 : Int32))).toUInt32.toUInt16.toUInt32.toInt32))] (.int 0) := V12
  refine GoKit.astoreN (pc := 12) (l' := #[.val (.int p1), .val (.int p2), .val (.int p3), .val (.ref b2), .unset, .unset, .unset, .unset, .unset, .unset, .unset, .unset, .unset, .unset, .unset, .unset, .unset, .unset, .unset, .unset]) K at_12 rfl rfl ?_
  refine GoKit.iconst (pc := 13) (x := (1 : Int32)) K at_13 rfl ?_
  refine GoKit.newP (pc := 14) (a0 := a0) (cap := 1) K (hw _ (List.mem_of_getElem? (i := 0) rfl)) at_14 (by decide) (by decide) (by decide) (by decide) (by decide) ?_
  intro h15 b16 kc17 eq18 E19 A20
  have sz22 : h10.size ≤ h15.size := E19.1
  have lt23 : b16 < h15.size := A20.lt
  have V21 : Arv Z h15 b16 kc17 .char (1 : Int32) [.int 0] (.int 0) := A20.pad (pad_rep [] _ 1)
  refine GoKit.dup (pc := 16) K at_16 rfl ?_
  refine GoKit.iconst (pc := 17) (x := (0 : Int32)) K at_17 rfl ?_
  refine GoKit.iloadN (pc := 18) K at_18 rfl ?_
  refine GoKit.sipush (pc := 19) (x := (255 : Int32)) K at_19 rfl ?_
  refine GoKit.iand (pc := 22) K at_22 ?_
  refine GoKit.i2c (pc := 23) K at_23 ?_
  refine GoKit.castore (pc := 24) (i := 0) K V21 (by decide) rfl (by decide) (Or.inl (by omega)) at_24 ?_
  intro h24 W25 V26
  have sz27 : h15.size ≤ h24.size := Nat.le_of_eq W25.size.symm
  have V28 : Arv Z h24 b16 kc17 .char (1 : Int32) [(.int (nar .char ((p2 &&& (255 : Int32))).toUInt32.toUInt16.toUInt32.toInt32))] (.int 0) := V26
  refine GoKit.astore (pc := 25) (l' := #[.val (.int p1), .val (.int p2), .val (.int p3), .val (.ref b2), .val (.ref b16), .unset, .unset, .unset, .unset, .unset, .unset, .unset, .unset, .unset, .unset, .unset, .unset, .unset, .unset, .unset]) K at_25 rfl rfl ?_
  refine GoKit.iconst (pc := 27) (x := (1 : Int32)) K at_27 rfl ?_
  refine GoKit.newP (pc := 28) (a0 := a0) (cap := 1) K (hw _ (List.mem_of_getElem? (i := 0) rfl)) at_28 (by decide) (by decide) (by decide) (by decide) (by decide) ?_
  intro h29 b30 kc31 eq32 E33 A34
  have sz36 : h24.size ≤ h29.size := E33.1
  have lt37 : b30 < h29.size := A34.lt
  have V35 : Arv Z h29 b30 kc31 .char (1 : Int32) [.int 0] (.int 0) := A34.pad (pad_rep [] _ 1)
  refine GoKit.dup (pc := 30) K at_30 rfl ?_
  refine GoKit.iconst (pc := 31) (x := (0 : Int32)) K at_31 rfl ?_
  refine GoKit.iloadN (pc := 32) K at_32 rfl ?_
  refine GoKit.sipush (pc := 33) (x := (255 : Int32)) K at_33 rfl ?_
  refine GoKit.iand (pc := 36) K at_36 ?_
  refine GoKit.i2c (pc := 37) K at_37 ?_
  refine GoKit.castore (pc := 38) (i := 0) K V35 (by decide) rfl (by decide) (Or.inl (by omega)) at_38 ?_
  intro h38 W39 V40
  have sz41 : h29.size ≤ h38.size := Nat.le_of_eq W39.size.symm
  have V42 : Arv Z h38 b30 kc31 .char (1 : Int32) [(.int (nar .char ((p1 &&& (255 : Int32))).toUInt32.toUInt16.toUInt32.toInt32))] (.int 0) := V40
  refine GoKit.astore (pc := 39) (l' := #[.val (.int p1), .val (.int p2), .val (.int p3), .val (.ref b2), .val (.ref b16), .val (.ref b30), .unset, .unset, .unset, .unset, .unset, .unset, .unset, .unset, .unset, .unset, .unset, .unset, .unset, .unset]) K at_39 rfl rfl ?_
  refine GoKit.newO (pc := 41) (a0 := a0) K (hw _ (List.mem_of_getElem? (i := 1) rfl)) (hw _ (List.mem_of_getElem? (i := 2) rfl)) (hw _ (List.mem_of_getElem? (i := 3) rfl)) at_41 (by decide) (by decide) ?_
  intro h43 b44 eq45 E46 A47 D48
  have sz49 : h38.size ≤ h43.size := E46.1
  have lt50 : b44 < h43.size := A47.lt
  have F51 : Fld Z h43 b44 "java/lang/String" "coder" "B" (.int (0 : Int32)) := D48 (Or.inr (hw _ (List.mem_of_getElem? (i := 27) rfl))) (ty := .byte) (by decide +kernel)
  have F52 : Fld Z h43 b44 "java/lang/String" "value" "[B" .null := D48 (Or.inr (hw _ (List.mem_of_getElem? (i := 29) rfl))) (ty := (.array .byte)) (by decide +kernel)
  refine GoKit.dup (pc := 44) K at_44 rfl ?_
  refine GoKit.aloadN (pc := 45) K at_45 rfl rfl ?_
  have f53 := (((((V14.ext E19).other W25 (ane (by omega))).ext E33).other W39 (ane (by omega))).ext E46)
  have f54 := (((((((hO.ext E5).wr W11 (by omega)).ext E19).wr W25 (by omega)).ext E33).wr W39 (by omega)).ext E46)
  refine GoKit.callI (pc := 46) (a0 := a0) (argsL := [(.ref b2)]) (rest := [(.ref b44)]) K rfl (hw _ (List.mem_of_getElem? (i := 4) rfl)) (hw _ (List.mem_of_getElem? (i := 5) rfl)) (hw _ (List.mem_of_getElem? (i := 6) rfl)) (by decide) (fun hZ => Str.bkNew hZ (kI := 4) (fun d hd => hw d ((by decide +kernel : ∀ d ∈ StrChars.Road.words, d ∈ tables_1) d hd)) (hw _ (List.mem_of_getElem? (i := 2) rfl)) (cs := ([(nar .char ((p1 &&& (255 : Int32))).toUInt32.toUInt16.toUInt32.toInt32)] : List Int32)) (n := 1) (n0 := h0.size) (by omega) (by omega) A47 F52 F51 f53 (S0.ext f54.2) hz0 rfl rfl (by decide) (by decide) (hch _) (by decide) (Nat.le_of_ble_eq_true rfl)) rfl rfl (lenOf pd_1 rfl) rfl at_46 (by decide) (by decide) (fun _ _ _ q => ⟨Fw.of_fr q.2.1, q.2.2.1.1⟩) ?_
  intro v55 h56 L58 q57
  obtain ⟨rfl, -, K59, t60, lt62, T61⟩ := q57
  have sz64 : h43.size ≤ h56.size := K59.1
  have lx63 := T61.lt
  have lx63_1 := lx63.1; have lx63_2 := lx63.2
  show Go _ _ _ _ _ _ _ _ _ _ _ _ _ _ _ _ _ _ _ _ _ (mkF m 49 #[.val (.int p1), .val (.int p2), .val (.int p3), .val (.ref b2), .val (.ref b16), .val (.ref b30), .unset, .unset, .unset, .unset, .unset, .unset, .unset, .unset, .unset, .unset, .unset, .unset, .unset, .unset] [(.ref b44)])
  refine GoKit.astore (pc := 49) (l' := #[.val (.int p1), .val (.int p2), .val (.int p3), .val (.ref b2), .val (.ref b16), .val (.ref b30), .val (.ref b44), .unset, .unset, .unset, .unset, .unset, .unset, .unset, .unset, .unset, .unset, .unset, .unset, .unset]) K at_49 rfl rfl ?_
  refine GoKit.newO (pc := 51) (a0 := a0) K (hw _ (List.mem_of_getElem? (i := 1) rfl)) (hw _ (List.mem_of_getElem? (i := 2) rfl)) (hw _ (List.mem_of_getElem? (i := 3) rfl)) at_51 (by decide) (by decide) ?_
  intro h65 b66 eq67 E68 A69 D70
  have sz71 : h56.size ≤ h65.size := E68.1
  have lt72 : b66 < h65.size := A69.lt
  have F73 : Fld Z h65 b66 "java/lang/String" "coder" "B" (.int (0 : Int32)) := D70 (Or.inr (hw _ (List.mem_of_getElem? (i := 27) rfl))) (ty := .byte) (by decide +kernel)
  have F74 : Fld Z h65 b66 "java/lang/String" "value" "[B" .null := D70 (Or.inr (hw _ (List.mem_of_getElem? (i := 29) rfl))) (ty := (.array .byte)) (by decide +kernel)
  refine GoKit.dup (pc := 54) K at_54 rfl ?_
  refine GoKit.aload (pc := 55) K at_55 rfl rfl ?_
  have f75 := (((((V28.ext E33).other W39 (ane (by omega))).ext E46).keep K59 (ninS (ane (by omega)) nin0)).ext E68)
  have f76 := ((f54.keep K59 (allS (by omega) all0)).ext E68)
  refine GoKit.callI (pc := 57) (a0 := a0) (argsL := [(.ref b16)]) (rest := [(.ref b66)]) K rfl (hw _ (List.mem_of_getElem? (i := 4) rfl)) (hw _ (List.mem_of_getElem? (i := 5) rfl)) (hw _ (List.mem_of_getElem? (i := 6) rfl)) (by decide) (fun hZ => Str.bkNew hZ (kI := 4) (fun d hd => hw d ((by decide +kernel : ∀ d ∈ StrChars.Road.words, d ∈ tables_1) d hd)) (hw _ (List.mem_of_getElem? (i := 2) rfl)) (cs := ([(nar .char ((p2 &&& (255 : Int32))).toUInt32.toUInt16.toUInt32.toInt32)] : List Int32)) (n := 1) (n0 := h0.size) (by omega) (by omega) A69 F74 F73 f75 (S0.ext f76.2) hz0 rfl rfl (by decide) (by decide) (hch _) (by decide) (Nat.le_of_ble_eq_true rfl)) rfl rfl (lenOf pd_1 rfl) rfl at_57 (by decide) (by decide) (fun _ _ _ q => ⟨Fw.of_fr q.2.1, q.2.2.1.1⟩) ?_
  intro v77 h78 L80 q79
  obtain ⟨rfl, -, K81, t82, lt84, T83⟩ := q79
  have sz86 : h65.size ≤ h78.size := K81.1
  have lx85 := T83.lt
  have lx85_1 := lx85.1; have lx85_2 := lx85.2
  show Go _ _ _ _ _ _ _ _ _ _ _ _ _ _ _ _ _ _ _ _ _ (mkF m 60 #[.val (.int p1), .val (.int p2), .val (.int p3), .val (.ref b2), .val (.ref b16), .val (.ref b30), .val (.ref b44), .unset, .unset, .unset, .unset, .unset, .unset, .unset, .unset, .unset, .unset, .unset, .unset, .unset] [(.ref b66)])
  refine GoKit.astore (pc := 60) (l' := #[.val (.int p1), .val (.int p2), .val (.int p3), .val (.ref b2), .val (.ref b16), .val (.ref b30), .val (.ref b44), .val (.ref b66), .unset, .unset, .unset, .unset, .unset, .unset, .unset, .unset, .unset, .unset, .unset, .unset]) K at_60 rfl rfl ?_
  refine GoKit.newO (pc := 62) (a0 := a0) K (hw _ (List.mem_of_getElem? (i := 1) rfl)) (hw _ (List.mem_of_getElem? (i := 2) rfl)) (hw _ (List.mem_of_getElem? (i := 3) rfl)) at_62 (by decide) (by decide) ?_
  intro h87 b88 eq89 E90 A91 D92
  have sz93 : h78.size ≤ h87.size := E90.1
  have lt94 : b88 < h87.size := A91.lt
  have F95 : Fld Z h87 b88 "java/lang/String" "coder" "B" (.int (0 : Int32)) := D92 (Or.inr (hw _ (List.mem_of_getElem? (i := 27) rfl))) (ty := .byte) (by decide +kernel)
  have F96 : Fld Z h87 b88 "java/lang/String" "value" "[B" .null := D92 (Or.inr (hw _ (List.mem_of_getElem? (i := 29) rfl))) (ty := (.array .byte)) (by decide +kernel)
  refine GoKit.dup (pc := 65) K at_65 rfl ?_
  refine GoKit.aload (pc := 66) K at_66 rfl rfl ?_
  have f97 := (((((V42.ext E46).keep K59 (ninS (ane (by omega)) nin0)).ext E68).keep K81 (ninS (ane (by omega)) nin0)).ext E90)
  have f98 := ((f76.keep K81 (allS (by omega) all0)).ext E90)
  refine GoKit.callI (pc := 68) (a0 := a0) (argsL := [(.ref b30)]) (rest := [(.ref b88)]) K rfl (hw _ (List.mem_of_getElem? (i := 4) rfl)) (hw _ (List.mem_of_getElem? (i := 5) rfl)) (hw _ (List.mem_of_getElem? (i := 6) rfl)) (by decide) (fun hZ => Str.bkNew hZ (kI := 4) (fun d hd => hw d ((by decide +kernel : ∀ d ∈ StrChars.Road.words, d ∈ tables_1) d hd)) (hw _ (List.mem_of_getElem? (i := 2) rfl)) (cs := ([(nar .char ((p1 &&& (255 : Int32))).toUInt32.toUInt16.toUInt32.toInt32)] : List Int32)) (n := 1) (n0 := h0.size) (by omega) (by omega) A91 F96 F95 f97 (S0.ext f98.2) hz0 rfl rfl (by decide) (by decide) (hch _) (by decide) (Nat.le_of_ble_eq_true rfl)) rfl rfl (lenOf pd_1 rfl) rfl at_68 (by decide) (by decide) (fun _ _ _ q => ⟨Fw.of_fr q.2.1, q.2.2.1.1⟩) ?_
  intro v99 h100 L102 q101
  obtain ⟨rfl, -, K103, t104, lt106, T105⟩ := q101
  have sz108 : h87.size ≤ h100.size := K103.1
  have lx107 := T105.lt
  have lx107_1 := lx107.1; have lx107_2 := lx107.2
  show Go _ _ _ _ _ _ _ _ _ _ _ _ _ _ _ _ _ _ _ _ _ (mkF m 71 #[.val (.int p1), .val (.int p2), .val (.int p3), .val (.ref b2), .val (.ref b16), .val (.ref b30), .val (.ref b44), .val (.ref b66), .unset, .unset, .unset, .unset, .unset, .unset, .unset, .unset, .unset, .unset, .unset, .unset] [(.ref b88)])
  refine GoKit.astore (pc := 71) (l' := #[.val (.int p1), .val (.int p2), .val (.int p3), .val (.ref b2), .val (.ref b16), .val (.ref b30), .val (.ref b44), .val (.ref b66), .val (.ref b88), .unset, .unset, .unset, .unset, .unset, .unset, .unset, .unset, .unset, .unset, .unset]) K at_71 rfl rfl ?_
  refine GoKit.iloadN (pc := 73) K at_73 rfl ?_
  refine GoKit.iconst (pc := 74) (x := (3 : Int32)) K at_74 rfl ?_
  refine GoKit.iand (pc := 75) K at_75 ?_
  refine GoKit.istore (pc := 76) (l' := #[.val (.int p1), .val (.int p2), .val (.int p3), .val (.ref b2), .val (.ref b16), .val (.ref b30), .val (.ref b44), .val (.ref b66), .val (.ref b88), .val (.int (p3 &&& (3 : Int32))), .unset, .unset, .unset, .unset, .unset, .unset, .unset, .unset, .unset, .unset]) K at_76 rfl ?_
  refine GoKit.iloadN (pc := 78) K at_78 rfl ?_
  refine GoKit.iconst (pc := 79) (x := (2 : Int32)) K at_79 rfl ?_
  refine GoKit.iushr (pc := 80) K at_80 ?_
  refine GoKit.iconst (pc := 81) (x := (3 : Int32)) K at_81 rfl ?_
  refine GoKit.iand (pc := 82) K at_82 ?_
  refine GoKit.istore (pc := 83) (l' := #[.val (.int p1), .val (.int p2), .val (.int p3), .val (.ref b2), .val (.ref b16), .val (.ref b30), .val (.ref b44), .val (.ref b66), .val (.ref b88), .val (.int (p3 &&& (3 : Int32))), .val (.int ((XT.ushr p3 (2 : Int32)) &&& (3 : Int32))), .unset, .unset, .unset, .unset, .unset, .unset, .unset, .unset, .unset]) K at_83 rfl ?_
  refine GoKit.iload (pc := 85) K at_85 rfl ?_
  refine GoKit.aload (pc := 87) K at_87 rfl rfl ?_
  refine GoKit.aload (pc := 89) K at_89 rfl rfl ?_
  refine GoKit.aload (pc := 91) K at_91 rfl rfl ?_
  refine GoKit.callS (pc := 93) (a0 := a0) (argsL := [(.int (p3 &&& (3 : Int32))), (.ref b44), (.ref b66), (.ref b88)]) (rest := []) K (hw _ (List.mem_of_getElem? (i := 30) rfl)) (hw _ (List.mem_of_getElem? (i := 31) rfl)) (hw _ (List.mem_of_getElem? (i := 32) rfl)) (hw _ (List.mem_of_getElem? (i := 33) rfl)) (by decide) (fun hZ => Con.bk (a0 := a0) (c_pick l Z a0 hw (p3 &&& (3 : Int32)) (.ref b44) (.ref b66) (.ref b88) rfl rfl rfl h100) hZ (hw _ (List.mem_of_getElem? (i := 33) rfl)) (hw _ (List.mem_of_getElem? (i := 32) rfl)) (by decide) (Nat.le_of_ble_eq_true rfl)) rfl rfl (lenOf pd_2 rfl) rfl at_93 (by decide) (by decide) (fun _ _ _ q => ⟨Fw.sub q.2.1 (by omega) (fun x hx => nomatch hx), q.2.2.1⟩) ?_
  intro v109 h110 L112 q111
  obtain ⟨⟨vm113, rfl, e114⟩, -, -⟩ := q111
  replace e114 := e114.symm; subst e114
  have r115 : (pk (p3 &&& (3 : Int32)) (.ref b44) (.ref b66) (.ref b88)).isRef = true := pk_ref rfl rfl rfl
  have r115c : (pk (p3 &&& (3 : Int32)) (.ref b44) (.ref b66) (.ref b88)).category = 1 := cat_isRef r115
  show Go _ _ _ _ _ _ _ _ _ _ _ _ _ _ _ _ _ _ _ _ _ (mkF m 96 #[.val (.int p1), .val (.int p2), .val (.int p3), .val (.ref b2), .val (.ref b16), .val (.ref b30), .val (.ref b44), .val (.ref b66), .val (.ref b88), .val (.int (p3 &&& (3 : Int32))), .val (.int ((XT.ushr p3 (2 : Int32)) &&& (3 : Int32))), .unset, .unset, .unset, .unset, .unset, .unset, .unset, .unset, .unset] [(pk (p3 &&& (3 : Int32)) (.ref b44) (.ref b66) (.ref b88))])
  refine GoKit.astore (pc := 96) (l' := #[.val (.int p1), .val (.int p2), .val (.int p3), .val (.ref b2), .val (.ref b16), .val (.ref b30), .val (.ref b44), .val (.ref b66), .val (.ref b88), .val (.int (p3 &&& (3 : Int32))), .val (.int ((XT.ushr p3 (2 : Int32)) &&& (3 : Int32))), .val (pk (p3 &&& (3 : Int32)) (.ref b44) (.ref b66) (.ref b88)), .unset, .unset, .unset, .unset, .unset, .unset, .unset, .unset]) K at_96 r115 (XS.store1 rfl (Or.inl rfl) r115c) ?_
  refine GoKit.iload (pc := 98) K at_98 rfl ?_
  refine GoKit.aload (pc := 100) K at_100 rfl rfl ?_
  refine GoKit.aload (pc := 102) K at_102 rfl rfl ?_
  refine GoKit.aload (pc := 104) K at_104 rfl rfl ?_
  refine GoKit.callS (pc := 106) (a0 := a0) (argsL := [(.int ((XT.ushr p3 (2 : Int32)) &&& (3 : Int32))), (.ref b44), (.ref b66), (.ref b88)]) (rest := []) K (hw _ (List.mem_of_getElem? (i := 30) rfl)) (hw _ (List.mem_of_getElem? (i := 31) rfl)) (hw _ (List.mem_of_getElem? (i := 32) rfl)) (hw _ (List.mem_of_getElem? (i := 33) rfl)) (by decide) (fun hZ => Con.bk (a0 := a0) (c_pick l Z a0 hw ((XT.ushr p3 (2 : Int32)) &&& (3 : Int32)) (.ref b44) (.ref b66) (.ref b88) rfl rfl rfl h100) hZ (hw _ (List.mem_of_getElem? (i := 33) rfl)) (hw _ (List.mem_of_getElem? (i := 32) rfl)) (by decide) (Nat.le_of_ble_eq_true rfl)) rfl rfl (lenOf pd_2 rfl) rfl at_106 (by decide) (by decide) (fun _ _ _ q => ⟨Fw.sub q.2.1 (by omega) (fun x hx => nomatch hx), q.2.2.1⟩) ?_
  intro v116 h117 L119 q118
  obtain ⟨⟨vm120, rfl, e121⟩, -, -⟩ := q118
  replace e121 := e121.symm; subst e121
  have r122 : (pk ((XT.ushr p3 (2 : Int32)) &&& (3 : Int32)) (.ref b44) (.ref b66) (.ref b88)).isRef = true := pk_ref rfl rfl rfl
  have r122c : (pk ((XT.ushr p3 (2 : Int32)) &&& (3 : Int32)) (.ref b44) (.ref b66) (.ref b88)).category = 1 := cat_isRef r122
  show Go _ _ _ _ _ _ _ _ _ _ _ _ _ _ _ _ _ _ _ _ _ (mkF m 109 #[.val (.int p1), .val (.int p2), .val (.int p3), .val (.ref b2), .val (.ref b16), .val (.ref b30), .val (.ref b44), .val (.ref b66), .val (.ref b88), .val (.int (p3 &&& (3 : Int32))), .val (.int ((XT.ushr p3 (2 : Int32)) &&& (3 : Int32))), .val (pk (p3 &&& (3 : Int32)) (.ref b44) (.ref b66) (.ref b88)), .unset, .unset, .unset, .unset, .unset, .unset, .unset, .unset] [(pk ((XT.ushr p3 (2 : Int32)) &&& (3 : Int32)) (.ref b44) (.ref b66) (.ref b88))])
  refine GoKit.astore (pc := 109) (l' := #[.val (.int p1), .val (.int p2), .val (.int p3), .val (.ref b2), .val (.ref b16), .val (.ref b30), .val (.ref b44), .val (.ref b66), .val (.ref b88), .val (.int (p3 &&& (3 : Int32))), .val (.int ((XT.ushr p3 (2 : Int32)) &&& (3 : Int32))), .val (pk (p3 &&& (3 : Int32)) (.ref b44) (.ref b66) (.ref b88)), .val (pk ((XT.ushr p3 (2 : Int32)) &&& (3 : Int32)) (.ref b44) (.ref b66) (.ref b88)), .unset, .unset, .unset, .unset, .unset, .unset, .unset]) K at_109 r122 (XS.store1 rfl (Or.inl rfl) r122c) ?_
  refine GoKit.newO (pc := 111) (a0 := a0) K (hw _ (List.mem_of_getElem? (i := 34) rfl)) (hw _ (List.mem_of_getElem? (i := 35) rfl)) (hw _ (List.mem_of_getElem? (i := 36) rfl)) at_111 (by decide) (by decide) ?_
  intro h123 b124 eq125 E126 A127 D128
  have sz129 : h100.size ≤ h123.size := E126.1
  have lt130 : b124 < h123.size := A127.lt
  have F131 : Fld Z h123 b124 "com/example/neat_mapper/neatmapper/engine/Same" "object" "Ljava/lang/Object;" .null := D128 (Or.inr (hw _ (List.mem_of_getElem? (i := 47) rfl))) (ty := (.object "java/lang/Object")) (by decide +kernel)
  refine GoKit.dup (pc := 114) K at_114 rfl ?_
  refine GoKit.aload (pc := 115) K at_115 rfl r115 ?_
  refine GoKit.callI (pc := 117) (a0 := a0) (argsL := [(pk (p3 &&& (3 : Int32)) (.ref b44) (.ref b66) (.ref b88))]) (rest := [(.ref b124)]) K rfl (hw _ (List.mem_of_getElem? (i := 37) rfl)) (hw _ (List.mem_of_getElem? (i := 38) rfl)) (hw _ (List.mem_of_getElem? (i := 39) rfl)) (by decide) (fun hZ => Con.bk (a0 := a0) (c_same l Z a0 hw b124 (pk (p3 &&& (3 : Int32)) (.ref b44) (.ref b66) (.ref b88)) r115 h123 A127 F131) hZ (hw _ (List.mem_of_getElem? (i := 39) rfl)) (hw _ (List.mem_of_getElem? (i := 36) rfl)) (by decide) (Nat.le_of_ble_eq_true rfl)) rfl rfl (lenOf pd_3 rfl) rfl at_117 (by decide) (by decide) (fun _ _ _ q => ⟨Fw.sub q.2.1 (by omega) (allS (Or.inl (by omega)) all0), q.2.2.1⟩) ?_
  intro v132 h133 L135 q134
  obtain ⟨⟨vm136, rfl, F138⟩, -, K137⟩ := q134
  have sz139 : h123.size ≤ h133.size := K137.1
  show Go _ _ _ _ _ _ _ _ _ _ _ _ _ _ _ _ _ _ _ _ _ (mkF m 120 #[.val (.int p1), .val (.int p2), .val (.int p3), .val (.ref b2), .val (.ref b16), .val (.ref b30), .val (.ref b44), .val (.ref b66), .val (.ref b88), .val (.int (p3 &&& (3 : Int32))), .val (.int ((XT.ushr p3 (2 : Int32)) &&& (3 : Int32))), .val (pk (p3 &&& (3 : Int32)) (.ref b44) (.ref b66) (.ref b88)), .val (pk ((XT.ushr p3 (2 : Int32)) &&& (3 : Int32)) (.ref b44) (.ref b66) (.ref b88)), .unset, .unset, .unset, .unset, .unset, .unset, .unset] [(.ref b124)])
  refine GoKit.astore (pc := 120) (l' := #[.val (.int p1), .val (.int p2), .val (.int p3), .val (.ref b2), .val (.ref b16), .val (.ref b30), .val (.ref b44), .val (.ref b66), .val (.ref b88), .val (.int (p3 &&& (3 : Int32))), .val (.int ((XT.ushr p3 (2 : Int32)) &&& (3 : Int32))), .val (pk (p3 &&& (3 : Int32)) (.ref b44) (.ref b66) (.ref b88)), .val (pk ((XT.ushr p3 (2 : Int32)) &&& (3 : Int32)) (.ref b44) (.ref b66) (.ref b88)), .val (.ref b124), .unset, .unset, .unset, .unset, .unset, .unset]) K at_120 rfl rfl ?_
  refine GoKit.newO (pc := 122) (a0 := a0) K (hw _ (List.mem_of_getElem? (i := 34) rfl)) (hw _ (List.mem_of_getElem? (i := 35) rfl)) (hw _ (List.mem_of_getElem? (i := 36) rfl)) at_122 (by decide) (by decide) ?_
  intro h140 b141 eq142 E143 A144 D145
  have sz146 : h133.size ≤ h140.size := E143.1
  have lt147 : b141 < h140.size := A144.lt
  have F148 : Fld Z h140 b141 "com/example/neat_mapper/neatmapper/engine/Same" "object" "Ljava/lang/Object;" .null := D145 (Or.inr (hw _ (List.mem_of_getElem? (i := 47) rfl))) (ty := (.object "java/lang/Object")) (by decide +kernel)
  refine GoKit.dup (pc := 125) K at_125 rfl ?_
  refine GoKit.aload (pc := 126) K at_126 rfl r122 ?_
  refine GoKit.callI (pc := 128) (a0 := a0) (argsL := [(pk ((XT.ushr p3 (2 : Int32)) &&& (3 : Int32)) (.ref b44) (.ref b66) (.ref b88))]) (rest := [(.ref b141)]) K rfl (hw _ (List.mem_of_getElem? (i := 37) rfl)) (hw _ (List.mem_of_getElem? (i := 38) rfl)) (hw _ (List.mem_of_getElem? (i := 39) rfl)) (by decide) (fun hZ => Con.bk (a0 := a0) (c_same l Z a0 hw b141 (pk ((XT.ushr p3 (2 : Int32)) &&& (3 : Int32)) (.ref b44) (.ref b66) (.ref b88)) r122 h140 A144 F148) hZ (hw _ (List.mem_of_getElem? (i := 39) rfl)) (hw _ (List.mem_of_getElem? (i := 36) rfl)) (by decide) (Nat.le_of_ble_eq_true rfl)) rfl rfl (lenOf pd_3 rfl) rfl at_128 (by decide) (by decide) (fun _ _ _ q => ⟨Fw.sub q.2.1 (by omega) (allS (Or.inl (by omega)) all0), q.2.2.1⟩) ?_
  intro v149 h150 L152 q151
  obtain ⟨⟨vm153, rfl, F155⟩, -, K154⟩ := q151
  have sz156 : h140.size ≤ h150.size := K154.1
  show Go _ _ _ _ _ _ _ _ _ _ _ _ _ _ _ _ _ _ _ _ _ (mkF m 131 #[.val (.int p1), .val (.int p2), .val (.int p3), .val (.ref b2), .val (.ref b16), .val (.ref b30), .val (.ref b44), .val (.ref b66), .val (.ref b88), .val (.int (p3 &&& (3 : Int32))), .val (.int ((XT.ushr p3 (2 : Int32)) &&& (3 : Int32))), .val (pk (p3 &&& (3 : Int32)) (.ref b44) (.ref b66) (.ref b88)), .val (pk ((XT.ushr p3 (2 : Int32)) &&& (3 : Int32)) (.ref b44) (.ref b66) (.ref b88)), .val (.ref b124), .unset, .unset, .unset, .unset, .unset, .unset] [(.ref b141)])
  refine GoKit.astore (pc := 131) (l' := #[.val (.int p1), .val (.int p2), .val (.int p3), .val (.ref b2), .val (.ref b16), .val (.ref b30), .val (.ref b44), .val (.ref b66), .val (.ref b88), .val (.int (p3 &&& (3 : Int32))), .val (.int ((XT.ushr p3 (2 : Int32)) &&& (3 : Int32))), .val (pk (p3 &&& (3 : Int32)) (.ref b44) (.ref b66) (.ref b88)), .val (pk ((XT.ushr p3 (2 : Int32)) &&& (3 : Int32)) (.ref b44) (.ref b66) (.ref b88)), .val (.ref b124), .val (.ref b141), .unset, .unset, .unset, .unset, .unset]) K at_131 rfl rfl ?_
  refine GoKit.iload (pc := 133) K at_133 rfl ?_
  refine GoKit.iload (pc := 135) K at_135 rfl ?_
  have J : ∀ ex : Int32, (((p3 &&& (3 : Int32)) = ((XT.ushr p3 (2 : Int32)) &&& (3 : Int32)) ∧ ex = 1) ∨ (¬ (p3 &&& (3 : Int32)) = ((XT.ushr p3 (2 : Int32)) &&& (3 : Int32)) ∧ ex = 0)) → Go p l e room_1 s m #[(.int p1), (.int p2), (.int p3)] below meth c Z h0.size [] [] "com/example/neat_mapper/neatmapper/engine/SameEqualsPinLaw" (fun v _ _ => v = some (.int 1)) false s.vm h150 11 20 (mkF m 145 #[.val (.int p1), .val (.int p2), .val (.int p3), .val (.ref b2), .val (.ref b16), .val (.ref b30), .val (.ref b44), .val (.ref b66), .val (.ref b88), .val (.int (p3 &&& (3 : Int32))), .val (.int ((XT.ushr p3 (2 : Int32)) &&& (3 : Int32))), .val (pk (p3 &&& (3 : Int32)) (.ref b44) (.ref b66) (.ref b88)), .val (pk ((XT.ushr p3 (2 : Int32)) &&& (3 : Int32)) (.ref b44) (.ref b66) (.ref b88)), .val (.ref b124), .val (.ref b141), .unset, .unset, .unset, .unset, .unset] [(.int ex)]) := by
    intro ex hex
    refine GoKit.istore (pc := 145) (l' := #[.val (.int p1), .val (.int p2), .val (.int p3), .val (.ref b2), .val (.ref b16), .val (.ref b30), .val (.ref b44), .val (.ref b66), .val (.ref b88), .val (.int (p3 &&& (3 : Int32))), .val (.int ((XT.ushr p3 (2 : Int32)) &&& (3 : Int32))), .val (pk (p3 &&& (3 : Int32)) (.ref b44) (.ref b66) (.ref b88)), .val (pk ((XT.ushr p3 (2 : Int32)) &&& (3 : Int32)) (.ref b44) (.ref b66) (.ref b88)), .val (.ref b124), .val (.ref b141), .val (.int ex), .unset, .unset, .unset, .unset]) K at_145 rfl ?_
    refine GoKit.aload (pc := 147) K at_147 rfl rfl ?_
    refine GoKit.aload (pc := 149) K at_149 rfl rfl ?_
    have f157 := ((F138.ext E143).keep K154 (ninS (ane (by omega)) nin0))
    have f158 := (A144.keep K154)
    have f159 := (((A127.keep K137).ext E143).keep K154)
    refine GoKit.callV (pc := 151) (a0 := a0) (argsL := [(.ref b141)]) (rest := []) K (hw _ (List.mem_of_getElem? (i := 48) rfl)) (hw _ (List.mem_of_getElem? (i := 49) rfl)) (Or.inr (hw _ (List.mem_of_getElem? (i := 51) rfl))) (hw _ (List.mem_of_getElem? (i := 51) rfl)) (hw _ (List.mem_of_getElem? (i := 50) rfl)) (by decide) f159 (fun hZ => Con.bk (a0 := a0) (c_eqS l Z a0 hw b124 b141 (pk (p3 &&& (3 : Int32)) (.ref b44) (.ref b66) (.ref b88)) (pk ((XT.ushr p3 (2 : Int32)) &&& (3 : Int32)) (.ref b44) (.ref b66) (.ref b88)) r115 r122 h150 f158 f157 F155) hZ (hw _ (List.mem_of_getElem? (i := 52) rfl)) (hw _ (List.mem_of_getElem? (i := 36) rfl)) (by decide) (Nat.le_of_ble_eq_true rfl)) rfl rfl (lenOf pd_4 rfl) rfl at_151 (by decide) (by decide) (fun _ _ _ q => ⟨Fw.sub q.2.1 (by omega) (fun x hx => nomatch hx), q.2.2.1⟩) ?_
    intro v160 h161 L163 q162
    obtain ⟨⟨vm164, rfl, e165⟩, -, -⟩ := q162
    replace e165 := e165.symm; subst e165
    show Go _ _ _ _ _ _ _ _ _ _ _ _ _ _ _ _ _ _ _ _ _ (mkF m 154 #[.val (.int p1), .val (.int p2), .val (.int p3), .val (.ref b2), .val (.ref b16), .val (.ref b30), .val (.ref b44), .val (.ref b66), .val (.ref b88), .val (.int (p3 &&& (3 : Int32))), .val (.int ((XT.ushr p3 (2 : Int32)) &&& (3 : Int32))), .val (pk (p3 &&& (3 : Int32)) (.ref b44) (.ref b66) (.ref b88)), .val (pk ((XT.ushr p3 (2 : Int32)) &&& (3 : Int32)) (.ref b44) (.ref b66) (.ref b88)), .val (.ref b124), .val (.ref b141), .val (.int ex), .unset, .unset, .unset, .unset] [(.int (if (pk ((XT.ushr p3 (2 : Int32)) &&& (3 : Int32)) (.ref b44) (.ref b66) (.ref b88)) = (pk (p3 &&& (3 : Int32)) (.ref b44) (.ref b66) (.ref b88)) then 1 else 0))])
    refine GoKit.istore (pc := 154) (l' := #[.val (.int p1), .val (.int p2), .val (.int p3), .val (.ref b2), .val (.ref b16), .val (.ref b30), .val (.ref b44), .val (.ref b66), .val (.ref b88), .val (.int (p3 &&& (3 : Int32))), .val (.int ((XT.ushr p3 (2 : Int32)) &&& (3 : Int32))), .val (pk (p3 &&& (3 : Int32)) (.ref b44) (.ref b66) (.ref b88)), .val (pk ((XT.ushr p3 (2 : Int32)) &&& (3 : Int32)) (.ref b44) (.ref b66) (.ref b88)), .val (.ref b124), .val (.ref b141), .val (.int ex), .val (.int (if (pk ((XT.ushr p3 (2 : Int32)) &&& (3 : Int32)) (.ref b44) (.ref b66) (.ref b88)) = (pk (p3 &&& (3 : Int32)) (.ref b44) (.ref b66) (.ref b88)) then 1 else 0)), .unset, .unset, .unset]) K at_154 rfl ?_
    refine GoKit.aload (pc := 156) K at_156 rfl rfl ?_
    refine GoKit.aload (pc := 158) K at_158 rfl rfl ?_
    refine GoKit.callV (pc := 160) (a0 := a0) (argsL := [(.ref b124)]) (rest := []) K (hw _ (List.mem_of_getElem? (i := 48) rfl)) (hw _ (List.mem_of_getElem? (i := 49) rfl)) (Or.inr (hw _ (List.mem_of_getElem? (i := 51) rfl))) (hw _ (List.mem_of_getElem? (i := 51) rfl)) (hw _ (List.mem_of_getElem? (i := 50) rfl)) (by decide) f158 (fun hZ => Con.bk (a0 := a0) (c_eqS l Z a0 hw b141 b124 (pk ((XT.ushr p3 (2 : Int32)) &&& (3 : Int32)) (.ref b44) (.ref b66) (.ref b88)) (pk (p3 &&& (3 : Int32)) (.ref b44) (.ref b66) (.ref b88)) r122 r115 h150 f159 F155 f157) hZ (hw _ (List.mem_of_getElem? (i := 52) rfl)) (hw _ (List.mem_of_getElem? (i := 36) rfl)) (by decide) (Nat.le_of_ble_eq_true rfl)) rfl rfl (lenOf pd_4 rfl) rfl at_160 (by decide) (by decide) (fun _ _ _ q => ⟨Fw.sub q.2.1 (by omega) (fun x hx => nomatch hx), q.2.2.1⟩) ?_
    intro v166 h167 L169 q168
    obtain ⟨⟨vm170, rfl, e171⟩, -, -⟩ := q168
    replace e171 := e171.symm; subst e171
    show Go _ _ _ _ _ _ _ _ _ _ _ _ _ _ _ _ _ _ _ _ _ (mkF m 163 #[.val (.int p1), .val (.int p2), .val (.int p3), .val (.ref b2), .val (.ref b16), .val (.ref b30), .val (.ref b44), .val (.ref b66), .val (.ref b88), .val (.int (p3 &&& (3 : Int32))), .val (.int ((XT.ushr p3 (2 : Int32)) &&& (3 : Int32))), .val (pk (p3 &&& (3 : Int32)) (.ref b44) (.ref b66) (.ref b88)), .val (pk ((XT.ushr p3 (2 : Int32)) &&& (3 : Int32)) (.ref b44) (.ref b66) (.ref b88)), .val (.ref b124), .val (.ref b141), .val (.int ex), .val (.int (if (pk ((XT.ushr p3 (2 : Int32)) &&& (3 : Int32)) (.ref b44) (.ref b66) (.ref b88)) = (pk (p3 &&& (3 : Int32)) (.ref b44) (.ref b66) (.ref b88)) then 1 else 0)), .unset, .unset, .unset] [(.int (if (pk (p3 &&& (3 : Int32)) (.ref b44) (.ref b66) (.ref b88)) = (pk ((XT.ushr p3 (2 : Int32)) &&& (3 : Int32)) (.ref b44) (.ref b66) (.ref b88)) then 1 else 0))])
    refine GoKit.istore (pc := 163) (l' := #[.val (.int p1), .val (.int p2), .val (.int p3), .val (.ref b2), .val (.ref b16), .val (.ref b30), .val (.ref b44), .val (.ref b66), .val (.ref b88), .val (.int (p3 &&& (3 : Int32))), .val (.int ((XT.ushr p3 (2 : Int32)) &&& (3 : Int32))), .val (pk (p3 &&& (3 : Int32)) (.ref b44) (.ref b66) (.ref b88)), .val (pk ((XT.ushr p3 (2 : Int32)) &&& (3 : Int32)) (.ref b44) (.ref b66) (.ref b88)), .val (.ref b124), .val (.ref b141), .val (.int ex), .val (.int (if (pk ((XT.ushr p3 (2 : Int32)) &&& (3 : Int32)) (.ref b44) (.ref b66) (.ref b88)) = (pk (p3 &&& (3 : Int32)) (.ref b44) (.ref b66) (.ref b88)) then 1 else 0)), .val (.int (if (pk (p3 &&& (3 : Int32)) (.ref b44) (.ref b66) (.ref b88)) = (pk ((XT.ushr p3 (2 : Int32)) &&& (3 : Int32)) (.ref b44) (.ref b66) (.ref b88)) then 1 else 0)), .unset, .unset]) K at_163 rfl ?_
    refine GoKit.aload (pc := 165) K at_165 rfl rfl ?_
    refine GoKit.aload (pc := 167) K at_167 rfl r122 ?_
    have f172 := (((((((((A47.keep K59).ext E68).keep K81).ext E90).keep K103).ext E126).keep K137).ext E143).keep K154)
    have f173 := (((((((A69.keep K81).ext E90).keep K103).ext E126).keep K137).ext E143).keep K154)
    have f174 := (((((A91.keep K103).ext E126).keep K137).ext E143).keep K154)
    have hpk : (pk ((XT.ushr p3 (2 : Int32)) &&& (3 : Int32)) (.ref b44) (.ref b66) (.ref b88)) = .null ∨ ∃ a, (pk ((XT.ushr p3 (2 : Int32)) &&& (3 : Int32)) (.ref b44) (.ref b66) (.ref b88)) = .ref a ∧ Exa Z h150 a "java/lang/String" := by
      rcases pk_cases (k := ((XT.ushr p3 (2 : Int32)) &&& (3 : Int32))) (a := b44) (b := b66) (c := b88) with q | q | q | q
      · exact Or.inl q
      · exact Or.inr ⟨_, q, f172⟩
      · exact Or.inr ⟨_, q, f173⟩
      · exact Or.inr ⟨_, q, f174⟩
    refine GoKit.callV (pc := 169) (a0 := a0) (argsL := [(pk ((XT.ushr p3 (2 : Int32)) &&& (3 : Int32)) (.ref b44) (.ref b66) (.ref b88))]) (rest := []) K (hw _ (List.mem_of_getElem? (i := 48) rfl)) (hw _ (List.mem_of_getElem? (i := 49) rfl)) (Or.inr (hw _ (List.mem_of_getElem? (i := 51) rfl))) (hw _ (List.mem_of_getElem? (i := 51) rfl)) (hw _ (List.mem_of_getElem? (i := 50) rfl)) (by decide) f159 (fun hZ => Con.bk (a0 := a0) (c_eqO l Z a0 hw b124 (pk ((XT.ushr p3 (2 : Int32)) &&& (3 : Int32)) (.ref b44) (.ref b66) (.ref b88)) h150 hpk) hZ (hw _ (List.mem_of_getElem? (i := 52) rfl)) (hw _ (List.mem_of_getElem? (i := 36) rfl)) (by decide) (Nat.le_of_ble_eq_true rfl)) rfl rfl (lenOf pd_4 rfl) rfl at_169 (by decide) (by decide) (fun _ _ _ q => ⟨Fw.sub q.2.1 (by omega) (fun x hx => nomatch hx), q.2.2.1⟩) ?_
    intro v175 h176 L178 q177
    obtain ⟨⟨vm179, rfl, e180⟩, -, -⟩ := q177
    replace e180 := e180.symm; subst e180
    show Go _ _ _ _ _ _ _ _ _ _ _ _ _ _ _ _ _ _ _ _ _ (mkF m 172 #[.val (.int p1), .val (.int p2), .val (.int p3), .val (.ref b2), .val (.ref b16), .val (.ref b30), .val (.ref b44), .val (.ref b66), .val (.ref b88), .val (.int (p3 &&& (3 : Int32))), .val (.int ((XT.ushr p3 (2 : Int32)) &&& (3 : Int32))), .val (pk (p3 &&& (3 : Int32)) (.ref b44) (.ref b66) (.ref b88)), .val (pk ((XT.ushr p3 (2 : Int32)) &&& (3 : Int32)) (.ref b44) (.ref b66) (.ref b88)), .val (.ref b124), .val (.ref b141), .val (.int ex), .val (.int (if (pk ((XT.ushr p3 (2 : Int32)) &&& (3 : Int32)) (.ref b44) (.ref b66) (.ref b88)) = (pk (p3 &&& (3 : Int32)) (.ref b44) (.ref b66) (.ref b88)) then 1 else 0)), .val (.int (if (pk (p3 &&& (3 : Int32)) (.ref b44) (.ref b66) (.ref b88)) = (pk ((XT.ushr p3 (2 : Int32)) &&& (3 : Int32)) (.ref b44) (.ref b66) (.ref b88)) then 1 else 0)), .unset, .unset] [(.int (0 : Int32))])
    refine GoKit.istore (pc := 172) (l' := #[.val (.int p1), .val (.int p2), .val (.int p3), .val (.ref b2), .val (.ref b16), .val (.ref b30), .val (.ref b44), .val (.ref b66), .val (.ref b88), .val (.int (p3 &&& (3 : Int32))), .val (.int ((XT.ushr p3 (2 : Int32)) &&& (3 : Int32))), .val (pk (p3 &&& (3 : Int32)) (.ref b44) (.ref b66) (.ref b88)), .val (pk ((XT.ushr p3 (2 : Int32)) &&& (3 : Int32)) (.ref b44) (.ref b66) (.ref b88)), .val (.ref b124), .val (.ref b141), .val (.int ex), .val (.int (if (pk ((XT.ushr p3 (2 : Int32)) &&& (3 : Int32)) (.ref b44) (.ref b66) (.ref b88)) = (pk (p3 &&& (3 : Int32)) (.ref b44) (.ref b66) (.ref b88)) then 1 else 0)), .val (.int (if (pk (p3 &&& (3 : Int32)) (.ref b44) (.ref b66) (.ref b88)) = (pk ((XT.ushr p3 (2 : Int32)) &&& (3 : Int32)) (.ref b44) (.ref b66) (.ref b88)) then 1 else 0)), .val (.int (0 : Int32)), .unset]) K at_172 rfl ?_
    refine GoKit.aload (pc := 174) K at_174 rfl rfl ?_
    refine GoKit.aconstNull (pc := 176) K at_176 ?_
    refine GoKit.callV (pc := 177) (a0 := a0) (argsL := [.null]) (rest := []) K (hw _ (List.mem_of_getElem? (i := 48) rfl)) (hw _ (List.mem_of_getElem? (i := 49) rfl)) (Or.inr (hw _ (List.mem_of_getElem? (i := 51) rfl))) (hw _ (List.mem_of_getElem? (i := 51) rfl)) (hw _ (List.mem_of_getElem? (i := 50) rfl)) (by decide) f159 (fun hZ => Con.bk (a0 := a0) (c_eqO l Z a0 hw b124 .null h150 (Or.inl rfl)) hZ (hw _ (List.mem_of_getElem? (i := 52) rfl)) (hw _ (List.mem_of_getElem? (i := 36) rfl)) (by decide) (Nat.le_of_ble_eq_true rfl)) rfl rfl (lenOf pd_4 rfl) rfl at_177 (by decide) (by decide) (fun _ _ _ q => ⟨Fw.sub q.2.1 (by omega) (fun x hx => nomatch hx), q.2.2.1⟩) ?_
    intro v181 h182 L184 q183
    obtain ⟨⟨vm185, rfl, e186⟩, -, -⟩ := q183
    replace e186 := e186.symm; subst e186
    show Go _ _ _ _ _ _ _ _ _ _ _ _ _ _ _ _ _ _ _ _ _ (mkF m 180 #[.val (.int p1), .val (.int p2), .val (.int p3), .val (.ref b2), .val (.ref b16), .val (.ref b30), .val (.ref b44), .val (.ref b66), .val (.ref b88), .val (.int (p3 &&& (3 : Int32))), .val (.int ((XT.ushr p3 (2 : Int32)) &&& (3 : Int32))), .val (pk (p3 &&& (3 : Int32)) (.ref b44) (.ref b66) (.ref b88)), .val (pk ((XT.ushr p3 (2 : Int32)) &&& (3 : Int32)) (.ref b44) (.ref b66) (.ref b88)), .val (.ref b124), .val (.ref b141), .val (.int ex), .val (.int (if (pk ((XT.ushr p3 (2 : Int32)) &&& (3 : Int32)) (.ref b44) (.ref b66) (.ref b88)) = (pk (p3 &&& (3 : Int32)) (.ref b44) (.ref b66) (.ref b88)) then 1 else 0)), .val (.int (if (pk (p3 &&& (3 : Int32)) (.ref b44) (.ref b66) (.ref b88)) = (pk ((XT.ushr p3 (2 : Int32)) &&& (3 : Int32)) (.ref b44) (.ref b66) (.ref b88)) then 1 else 0)), .val (.int (0 : Int32)), .unset] [(.int (0 : Int32))])
    refine GoKit.istore (pc := 180) (l' := #[.val (.int p1), .val (.int p2), .val (.int p3), .val (.ref b2), .val (.ref b16), .val (.ref b30), .val (.ref b44), .val (.ref b66), .val (.ref b88), .val (.int (p3 &&& (3 : Int32))), .val (.int ((XT.ushr p3 (2 : Int32)) &&& (3 : Int32))), .val (pk (p3 &&& (3 : Int32)) (.ref b44) (.ref b66) (.ref b88)), .val (pk ((XT.ushr p3 (2 : Int32)) &&& (3 : Int32)) (.ref b44) (.ref b66) (.ref b88)), .val (.ref b124), .val (.ref b141), .val (.int ex), .val (.int (if (pk ((XT.ushr p3 (2 : Int32)) &&& (3 : Int32)) (.ref b44) (.ref b66) (.ref b88)) = (pk (p3 &&& (3 : Int32)) (.ref b44) (.ref b66) (.ref b88)) then 1 else 0)), .val (.int (if (pk (p3 &&& (3 : Int32)) (.ref b44) (.ref b66) (.ref b88)) = (pk ((XT.ushr p3 (2 : Int32)) &&& (3 : Int32)) (.ref b44) (.ref b66) (.ref b88)) then 1 else 0)), .val (.int (0 : Int32)), .val (.int (0 : Int32))]) K at_180 rfl ?_
    refine GoKit.iload (pc := 182) K at_182 rfl ?_
    refine GoKit.iload (pc := 184) K at_184 rfl ?_
    have hij := pk_inj (i := (p3 &&& (3 : Int32))) (j := ((XT.ushr p3 (2 : Int32)) &&& (3 : Int32))) (a := b44) (b := b66) (c := b88) (and3 _) (and3 _) (ane (by omega)) (ane (by omega)) (ane (by omega))
    have hpq : (if (pk ((XT.ushr p3 (2 : Int32)) &&& (3 : Int32)) (.ref b44) (.ref b66) (.ref b88)) = (pk (p3 &&& (3 : Int32)) (.ref b44) (.ref b66) (.ref b88)) then 1 else 0) = ex := by
      rcases hex with ⟨q, rfl⟩ | ⟨q, rfl⟩
      · exact if_pos (hij.mpr q)
      · exact if_neg (fun z => q (hij.mp z))
    refine GoKit.icmp_ne_n (pc := 186) K at_186  hpq ?_
    refine GoKit.iload (pc := 189) K at_189 rfl ?_
    refine GoKit.iload (pc := 191) K at_191 rfl ?_
    have hqp : (if (pk (p3 &&& (3 : Int32)) (.ref b44) (.ref b66) (.ref b88)) = (pk ((XT.ushr p3 (2 : Int32)) &&& (3 : Int32)) (.ref b44) (.ref b66) (.ref b88)) then 1 else 0) = ex := by
      rcases hex with ⟨q, rfl⟩ | ⟨q, rfl⟩
      · exact if_pos (hij.mpr q).symm
      · exact if_neg (fun z => q (hij.mp z.symm))
    refine GoKit.icmp_ne_n (pc := 193) K at_193  hqp ?_
    refine GoKit.iload (pc := 196) K at_196 rfl ?_
    refine GoKit.if_ne_n (pc := 198) K at_198  (by decide) ?_
    refine GoKit.iload (pc := 201) K at_201 rfl ?_
    refine GoKit.if_ne_n (pc := 203) K at_203  (by decide) ?_
    refine GoKit.iconst (pc := 206) (x := (1 : Int32)) K at_206 rfl ?_
    refine GoKit.goto (pc := 207) (pc' := 211) K at_207 (by decide) ?_
    exact GoKit.retZ (pc := 211) K (by simp) (z' := (1 : Int32)) (by decide) at_211 (by simp) (by decide) (by decide) (fun _ _ => rfl)
  refine GoKit.icmp_ne (pc := 137) (pc' := 144) K at_137 (by decide) (fun hc => ?_) (fun hc => ?_)
  · refine GoKit.iconst (pc := 144) (x := (0 : Int32)) K at_144 rfl ?_
    exact J _ (Or.inr ⟨hc, rfl⟩)
  · refine GoKit.iconst (pc := 140) (x := (1 : Int32)) K at_140 rfl ?_
    refine GoKit.goto (pc := 141) (pc' := 145) K at_141 (by decide) ?_
    exact J _ (Or.inl ⟨hc, rfl⟩)
set_option maxRecDepth 65536 in
set_option maxHeartbeats 40000000 in
theorem comes_1 {Post : Tables → Env → Array Value → State → Outcome → State → Prop} (hpost : ∀ tb e args s v u, (limb_1_1.after args s (.returned v) u = true ∧ limb_1_2.after args s (.returned v) u = true ∧ True) → FrameEnd s (.returned v) u (Jvm.fieldLocs frame_1_writes args s ++ Jvm.arrayLocs frame_1_arrays args s ++ Jvm.staticLocs frame_1_statics s) 32 128 → Post tb e args s (.returned v) u) :
    ArmFor flags0 classFile x code maxLocals ret World_1 tables_1 room_1 Calls_1 rest_1 Pre_1 Post := by
  intro l hfl _ _ p e ha hc hk s m args below hf hA hF happ hP
  obtain ⟨hcalls, hrest, hpre⟩ := hP
  obtain ⟨-, -, -, hnamed, -, -, -, hat⟩ := (Spec.applies_iff hf).mp happ
  obtain ⟨hg, hn⟩ := and_e (Cond.before_iff.mp (show (Jvm.Cond.and given_1 narrow_1).before args s = true from hpre))
  obtain ⟨g0, r0⟩ := and_e hg
  obtain ⟨g1, r1⟩ := and_e r0
  obtain ⟨g2, r2⟩ := and_e r1
  obtain ⟨w0, w1, w2, rfl⟩ : ∃ w0 w1 w2 : Value, args = #[w0, w1, w2] := by
    have hs : args.size = 3 := by simpa [Cond.value, given_1] using g0
    obtain ⟨L⟩ := args
    match L, hs with
    | [w0, w1, w2], _ => exact ⟨w0, w1, w2, rfl⟩
  have hw := fun d (hd : d ∈ tables_1) => atoms_spec (ws := Jvm.Cond.code x code maxLocals ret :: tables_1) hat d (List.mem_cons_of_mem _ hd)
  have hfit : Fit s := fun {y c} hc i hi => by
    obtain ⟨ha, rfl⟩ := Array.getElem?_eq_some_iff.mp hc
    have q := List.all_eq_true.mp ((Array.all_eq_true_iff_forall_mem.mp hF) _ (Array.getElem_mem ha)) i (List.mem_range.mpr hi)
    simpa [Array.getElem?_eq_getElem hi] using q
  obtain ⟨hsets, hown0⟩ := atoms_of _ (rest_1_c_eq ▸ (show rest_1_c.before _ s = true from hrest))
  obtain ⟨i0, ei0⟩ := is_v g1
  obtain rfl : w0 = (.int i0) := Option.some.inj ei0
  obtain ⟨i1, ei1⟩ := is_v g2
  obtain rfl : w1 = (.int i1) := Option.some.inj ei1
  obtain ⟨i2, ei2⟩ := is_v r2
  obtain rfl : w2 = (.int i2) := Option.some.inj ei2
  obtain ⟨z0, ez0⟩ := is_v (Cond.before_iff.mp (hsets _ (List.mem_of_getElem? (i := 1) rfl)))
  have S0 : Sta s s.heap "java/lang/String" "COMPACT_STRINGS" "Z" (.int z0) := Sta.start ez0 (Or.inl (hsets _ (List.mem_of_getElem? (i := 0) rfl)))
  have hz0 : ¬ z0 = 0 := gotF (Cond.eq_ints ez0 (Term.int_eval (0))) (not_v (Cond.before_iff.mp (hsets _ (List.mem_of_getElem? (i := 2) rfl))))
  obtain ⟨n, o, h1, h2, h3, _, L, rfl, ⟨rfl, N⟩, hq⟩ := c_law l s _ hw i0 i1 i2 s.heap s.heap.size (Old.start s) z0 S0 hz0 p e ha hc hk s m _ below hf ((Spec.applies_iff_loose hf).mp happ).1 ⟨rfl, State.Warmed39.refl s, rfl, trivial⟩ trivial
  have N2 : ∀ y ∈ L, s.heap.size ≤ y.base := fun y hy => (N y hy).elim id (fun z => nomatch z)
  rcases hq with hq | ⟨-, hq⟩
  · exact nomatch hq.1
  refine ⟨n, _, h1, h2, h3, hpost _ _ _ _ _ _ ⟨Cond.after_iff.mpr rfl, Cond.after_iff.mpr (eq_i res_at (Term.int_eval (1)) rfl), trivial⟩ ⟨hq.1, hq.2.1, (hq.2.2.sift fun y hy => Or.inr (N2 y hy)).mono (by decide) (by decide)⟩⟩
theorem main_1_1 : Claimed_1_1 := comes_1 fun _ _ _ _ _ _ h hF => ⟨h.1, hF⟩
theorem main_1_2 : Claimed_1_2 := comes_1 fun _ _ _ _ _ _ h hF => ⟨h.2.1, hF⟩
end Jvm.Pilot.@@N@@
namespace Jvm.Pilot.@@N@@
open Jvm Jvm.ClassFile Sem Op Lib Jvm.Free Jvm.Stand Jvm.Pilot.@@N@@.Jvm.D
/-! MADE BY PROGRAM (witnessworld.py) out of the Statement's table words and the real class files: 21 classes; the members and pool entries that the words name. The judged class is class 1, her method 2. -/
namespace start1
open Jvm.ClassFile
def u (s : String) : CpInfo := .utf8 (stringToUtf16 s)
/-- a pool by its gaps: so many unusable entries, then the entry; so many at the end -/
def gap : Nat → List CpInfo → List CpInfo
  | 0, r => r
  | n + 1, r => .unusable :: gap n r
def poolList (es : List (Nat × CpInfo)) (last : Nat) : List CpInfo := es.foldr (fun e r => gap e.1 (e.2 :: r)) (gap last [])
def pool (es : List (Nat × CpInfo)) (last : Nat) : Array CpInfo := ⟨poolList es last⟩
def fileOf (pool : Array CpInfo) (this : Nat) (attrs : Array Attribute := #[]) (ms : Array MethodInfo := #[]) (fl : Nat := 33) (sup : Nat := 0) (ifs : Array Nat := #[]) (fds : Array FieldInfo := #[]) : ClassFile where
  minorVersion := 0
  majorVersion := 65
  constantPool := pool
  accessFlags := fl
  thisClass := this
  superClass := sup
  interfaces := ifs
  fields := fds
  methods := ms
  attributes := attrs
def plain (name : String) (sup : Option ClassId) : Class where
  name := name
  kind := .ordinary
  loader := none
  accessFlags := 33
  super := sup
  interfaces := #[]
  cf := none
  fields := #[]
  methods := #[]
  instanceTypes := #[]
  staticTypes := #[]
  resolved := #[]
  callSites := []
  init := .initialized
  statics := none
  mirror := none

def pool0 : Array CpInfo := pool [(5, u "<init>"), (0, u "()V"), (1, .class_ 10), (1, u "java/lang/Object")] 113

def k0c0 : Code := { maxStack := 0, maxLocals := 1, code := object_method_1_code, exceptionTable := #[], attributes := #[] }
def k0m0 : Method := { name := "<init>", desc := "()V", sig := { parameters := [], returnType := none }, accessFlags := 1, code := some k0c0 }
/-- java/lang/Object -/
def k0 : Class := { plain "java/lang/Object" none with
  accessFlags := 33
  interfaces := #[]
  cf := some (fileOf pool0 8 #[] #[{ accessFlags := 1, nameIndex := 5, descriptorIndex := 6, attributes := #[] }] 33 0 #[] #[])
  fields := #[]
  methods := #[k0m0]
  instanceTypes := #[]
  staticTypes := #[]
  resolved := Array.replicate 124 none
  statics := none }

def pool1 : Array CpInfo := pool [(2, .class_ 4), (1, u "java/lang/Object"), (0, u "<init>"), (0, u "()V"), (0, .class_ 8), (0, u "java/lang/String"), (0, .methodref 7 10), (0, .nameAndType 5 11), (0, u "([C)V"), (0, .methodref 13 14), (0, .class_ 15), (0, .nameAndType 16 17), (0, u "com/example/neat_mapper/neatmapper/engine/SameEqualsPinLaw"), (0, u "pick"), (0, u "(ILjava/lang/Object;Ljava/lang/Object;Ljava/lang/Object;)Ljava/lang/Object;"), (0, .class_ 19), (0, u "com/example/neat_mapper/neatmapper/engine/Same"), (0, .methodref 18 21), (0, .nameAndType 5 22), (0, u "(Ljava/lang/Object;)V"), (0, .methodref 18 24), (0, .nameAndType 25 26), (0, u "equals"), (0, u "(Ljava/lang/Object;)Z"), (3, u "law"), (0, u "(III)Z")] 4

def k1m0 : Method := { name := "<init>", desc := "()V", sig := { parameters := [], returnType := none }, accessFlags := 1, code := none }
def k1c1 : Code := { maxStack := 2, maxLocals := 4, code := method_2_code, exceptionTable := #[], attributes := #[] }
def k1m1 : Method := { name := "pick", desc := "(ILjava/lang/Object;Ljava/lang/Object;Ljava/lang/Object;)Ljava/lang/Object;", sig := { parameters := [.int, (.object "java/lang/Object"), (.object "java/lang/Object"), (.object "java/lang/Object")], returnType := some (.object "java/lang/Object") }, accessFlags := 10, code := some k1c1 }
def k1c2 : Code := { maxStack := 5, maxLocals := 20, code := code, exceptionTable := #[], attributes := #[] }
def k1m2 : Method := { name := "law", desc := "(III)Z", sig := { parameters := [.int, .int, .int], returnType := some .boolean }, accessFlags := 9, code := some k1c2 }
/-- com/example/neat_mapper/neatmapper/engine/SameEqualsPinLaw -/
def k1 : Class := { plain "com/example/neat_mapper/neatmapper/engine/SameEqualsPinLaw" (some 0) with
  accessFlags := 49
  interfaces := #[]
  cf := some (fileOf pool1 13 #[] #[{ accessFlags := 1, nameIndex := 5, descriptorIndex := 6, attributes := #[] }, { accessFlags := 10, nameIndex := 16, descriptorIndex := 17, attributes := #[] }, { accessFlags := 9, nameIndex := 30, descriptorIndex := 31, attributes := #[] }] 49 2 #[] #[])
  fields := #[]
  methods := #[k1m0, k1m1, k1m2]
  instanceTypes := #[]
  staticTypes := #[]
  resolved := Array.replicate 36 none
  statics := none }

def pool2 : Array CpInfo := pool [(1, .class_ 2), (0, u "java/io/Serializable"), (0, .class_ 4), (0, u "java/lang/Object")] 2

/-- java/io/Serializable -/
def k2 : Class := { plain "java/io/Serializable" (some 0) with
  accessFlags := 1537
  interfaces := #[]
  cf := some (fileOf pool2 1 #[] #[] 1537 3 #[] #[])
  fields := #[]
  methods := #[]
  instanceTypes := #[]
  staticTypes := #[]
  resolved := Array.replicate 7 none
  statics := none }

def pool3 : Array CpInfo := pool [(1, .class_ 2), (0, u "java/lang/Comparable"), (0, .class_ 4), (0, u "java/lang/Object")] 7

/-- java/lang/Comparable -/
def k3 : Class := { plain "java/lang/Comparable" (some 0) with
  accessFlags := 1537
  interfaces := #[]
  cf := some (fileOf pool3 1 #[] #[] 1537 3 #[] #[])
  fields := #[]
  methods := #[]
  instanceTypes := #[]
  staticTypes := #[]
  resolved := Array.replicate 12 none
  statics := none }

def pool4 : Array CpInfo := pool [(2, .class_ 4), (1, u "java/lang/CharSequence"), (42, .class_ 48), (0, u "java/lang/CharSequence$1CodePointIterator"), (10, .class_ 60), (0, u "java/lang/CharSequence$1CharIterator"), (5, .class_ 67), (0, u "java/lang/Object")] 63

/-- java/lang/CharSequence -/
def k4 : Class := { plain "java/lang/CharSequence" (some 0) with
  accessFlags := 1537
  interfaces := #[]
  cf := some (fileOf pool4 2 #[.nestMembers #[47, 59]] #[] 1537 66 #[] #[])
  fields := #[]
  methods := #[]
  instanceTypes := #[]
  staticTypes := #[]
  resolved := Array.replicate 131 none
  statics := none }

def pool5 : Array CpInfo := pool [(1, .class_ 2), (0, u "java/lang/constant/Constable"), (0, .class_ 4), (0, u "java/lang/Object")] 6

/-- java/lang/constant/Constable -/
def k5 : Class := { plain "java/lang/constant/Constable" (some 0) with
  accessFlags := 1537
  interfaces := #[]
  cf := some (fileOf pool5 1 #[] #[] 1537 3 #[] #[])
  fields := #[]
  methods := #[]
  instanceTypes := #[]
  staticTypes := #[]
  resolved := Array.replicate 11 none
  statics := none }

def pool6 : Array CpInfo := pool [(1, .class_ 2), (0, u "java/lang/constant/ConstantDesc"), (0, .class_ 4), (0, u "java/lang/Object")] 32

/-- java/lang/constant/ConstantDesc -/
def k6 : Class := { plain "java/lang/constant/ConstantDesc" (some 0) with
  accessFlags := 1537
  interfaces := #[]
  cf := some (fileOf pool6 1 #[] #[] 1537 3 #[] #[])
  fields := #[]
  methods := #[]
  instanceTypes := #[]
  staticTypes := #[]
  resolved := Array.replicate 37 none
  statics := none }

def pool7 : Array CpInfo := pool [(1, .methodref 2 3), (0, .class_ 4), (0, .nameAndType 5 6), (0, u "java/lang/Object"), (0, u "<init>"), (0, u "()V"), (2, .fieldref 10 11), (0, .class_ 12), (0, .nameAndType 13 14), (0, u "java/lang/String"), (0, u "value"), (0, u "[B"), (0, .fieldref 10 16), (0, .nameAndType 17 18), (0, u "coder"), (0, u "B"), (2, u "hash"), (0, u "I"), (2, u "hashIsZero"), (0, u "Z"), (0, .methodref 10 28), (0, .nameAndType 5 29), (0, u "([CIILjava/lang/Void;)V"), (8, .fieldref 10 39), (0, .nameAndType 40 26), (0, u "COMPACT_STRINGS"), (1, .class_ 44), (1, u "java/lang/StringUTF16"), (0, u "compress"), (1, .methodref 42 48), (0, .nameAndType 49 50), (0, u "coderFromArrayLen"), (0, u "([BI)B"), (126, .methodref 42 178), (0, .nameAndType 45 179), (0, u "([CII)[B"), (395, .class_ 576), (0, u "java/lang/CharSequence"), (22, u "CASE_INSENSITIVE_ORDER"), (0, u "Ljava/util/Comparator;"), (409, u "([C)V"), (90, u "serialPersistentFields"), (0, u "[Ljava/io/ObjectStreamField;"), (0, .class_ 1104), (0, u "java/lang/String$CaseInsensitiveComparator"), (1, .class_ 1107), (0, u "java/io/Serializable"), (0, .class_ 1109), (0, u "java/lang/Comparable"), (0, .class_ 1111), (0, u "java/lang/constant/Constable"), (0, .class_ 1113), (0, u "java/lang/constant/ConstantDesc"), (2, u "serialVersionUID"), (0, u "J"), (3, u "REPL"), (0, u "C"), (2, u "LATIN1"), (1, u "UTF16")] 323

def k7m0 : Method := { name := "<init>", desc := "()V", sig := { parameters := [], returnType := none }, accessFlags := 1, code := none }
def k7c1 : Code := { maxStack := 5, maxLocals := 2, code := jdk_42_method_3_code, exceptionTable := #[], attributes := #[] }
def k7m1 : Method := { name := "<init>", desc := "([C)V", sig := { parameters := [(.array .char)], returnType := none }, accessFlags := 1, code := some k7c1 }
def k7c2 : Code := { maxStack := 4, maxLocals := 6, code := jdk_42_method_149_code, exceptionTable := #[], attributes := #[] }
def k7m2 : Method := { name := "<init>", desc := "([CIILjava/lang/Void;)V", sig := { parameters := [(.array .char), .int, .int, (.object "java/lang/Void")], returnType := none }, accessFlags := 2, code := some k7c2 }
/-- java/lang/String -/
def k7 : Class := { plain "java/lang/String" (some 0) with
  accessFlags := 49
  interfaces := #[2, 3, 4, 5, 6]
  cf := some (fileOf pool7 10 #[.nestMembers #[1103]] #[{ accessFlags := 1, nameIndex := 5, descriptorIndex := 6, attributes := #[] }, { accessFlags := 1, nameIndex := 5, descriptorIndex := 1010, attributes := #[] }, { accessFlags := 2, nameIndex := 5, descriptorIndex := 29, attributes := #[] }] 49 2 #[1106, 1108, 575, 1110, 1112] #[{ accessFlags := 18, nameIndex := 13, descriptorIndex := 14, attributes := #[] }, { accessFlags := 18, nameIndex := 17, descriptorIndex := 18, attributes := #[] }, { accessFlags := 2, nameIndex := 21, descriptorIndex := 22, attributes := #[] }, { accessFlags := 2, nameIndex := 25, descriptorIndex := 26, attributes := #[] }, { accessFlags := 26, nameIndex := 1116, descriptorIndex := 1117, attributes := #[] }, { accessFlags := 24, nameIndex := 40, descriptorIndex := 26, attributes := #[] }, { accessFlags := 26, nameIndex := 1101, descriptorIndex := 1102, attributes := #[] }, { accessFlags := 26, nameIndex := 1121, descriptorIndex := 1122, attributes := #[] }, { accessFlags := 25, nameIndex := 599, descriptorIndex := 600, attributes := #[] }, { accessFlags := 24, nameIndex := 1125, descriptorIndex := 18, attributes := #[] }, { accessFlags := 24, nameIndex := 1127, descriptorIndex := 18, attributes := #[] }])
  fields := #[{ name := "value", type := (.array .byte), accessFlags := 18, slot := 0, constantValue := 0 }, { name := "coder", type := .byte, accessFlags := 18, slot := 1, constantValue := 0 }, { name := "hash", type := .int, accessFlags := 2, slot := 2, constantValue := 0 }, { name := "hashIsZero", type := .boolean, accessFlags := 2, slot := 3, constantValue := 0 }, { name := "serialVersionUID", type := .long, accessFlags := 26, slot := 0, constantValue := 0 }, { name := "COMPACT_STRINGS", type := .boolean, accessFlags := 24, slot := 1, constantValue := 0 }, { name := "serialPersistentFields", type := (.array (.object "java/io/ObjectStreamField")), accessFlags := 26, slot := 2, constantValue := 0 }, { name := "REPL", type := .char, accessFlags := 26, slot := 3, constantValue := 0 }, { name := "CASE_INSENSITIVE_ORDER", type := (.object "java/util/Comparator"), accessFlags := 25, slot := 4, constantValue := 0 }, { name := "LATIN1", type := .byte, accessFlags := 24, slot := 5, constantValue := 0 }, { name := "UTF16", type := .byte, accessFlags := 24, slot := 6, constantValue := 0 }]
  methods := #[k7m0, k7m1, k7m2]
  instanceTypes := #[(.array .byte), .byte, .int, .boolean]
  staticTypes := #[.long, .boolean, (.array (.object "java/io/ObjectStreamField")), .char, (.object "java/util/Comparator"), .byte, .byte]
  resolved := Array.replicate 1451 none
  statics := some 0 }

def pool8 : Array CpInfo := pool [(6, .class_ 8), (1, u "java/lang/Object"), (0, u "<init>"), (0, u "()V"), (1, .class_ 14), (1, u "java/lang/StringUTF16"), (31, u "$assertionsDisabled"), (0, u "Z"), (13, u "HI_BYTE_SHIFT"), (0, u "I"), (2, u "LO_BYTE_SHIFT"), (49, .methodref 12 116), (0, .nameAndType 117 118), (0, u "compress"), (0, u "([CI[BII)I"), (3, u "([CII)[B"), (138, u "coderFromArrayLen"), (0, u "([BI)B"), (106, .class_ 371), (1, u "java/lang/StringUTF16$LinesSpliterator"), (58, u "MAX_LENGTH"), (196, .class_ 628), (0, u "java/lang/StringUTF16$CodePointsSpliterator"), (0, .class_ 630), (0, u "java/lang/StringUTF16$CharsSpliterator")] 4

def k8m0 : Method := { name := "<init>", desc := "()V", sig := { parameters := [], returnType := none }, accessFlags := 0, code := none }
def k8c1 : Code := { maxStack := 2, maxLocals := 2, code := jdk_52_method_15_code, exceptionTable := #[], attributes := #[] }
def k8m1 : Method := { name := "coderFromArrayLen", desc := "([BI)B", sig := { parameters := [(.array .byte), .int], returnType := some .byte }, accessFlags := 8, code := some k8c1 }
def k8c2 : Code := { maxStack := 5, maxLocals := 6, code := jdk_52_method_16_code, exceptionTable := #[], attributes := #[] }
def k8m2 : Method := { name := "compress", desc := "([CII)[B", sig := { parameters := [(.array .char), .int, .int], returnType := some (.array .byte) }, accessFlags := 9, code := some k8c2 }
def k8c3 : Code := { maxStack := 3, maxLocals := 7, code := jdk_52_method_21_code, exceptionTable := #[], attributes := #[] }
def k8m3 : Method := { name := "compress", desc := "([CI[BII)I", sig := { parameters := [(.array .char), .int, (.array .byte), .int, .int], returnType := some .int }, accessFlags := 9, code := some k8c3 }
/-- java/lang/StringUTF16 -/
def k8 : Class := { plain "java/lang/StringUTF16" (some 0) with
  accessFlags := 48
  interfaces := #[]
  cf := some (fileOf pool8 12 #[.nestMembers #[627, 629, 369]] #[{ accessFlags := 0, nameIndex := 9, descriptorIndex := 10, attributes := #[] }, { accessFlags := 8, nameIndex := 261, descriptorIndex := 262, attributes := #[] }, { accessFlags := 9, nameIndex := 117, descriptorIndex := 122, attributes := #[] }, { accessFlags := 9, nameIndex := 117, descriptorIndex := 118, attributes := #[] }] 48 6 #[] #[{ accessFlags := 26, nameIndex := 61, descriptorIndex := 62, attributes := #[] }, { accessFlags := 26, nameIndex := 65, descriptorIndex := 62, attributes := #[] }, { accessFlags := 24, nameIndex := 430, descriptorIndex := 62, attributes := #[] }, { accessFlags := 4120, nameIndex := 46, descriptorIndex := 47, attributes := #[] }])
  fields := #[{ name := "HI_BYTE_SHIFT", type := .int, accessFlags := 26, slot := 0, constantValue := 0 }, { name := "LO_BYTE_SHIFT", type := .int, accessFlags := 26, slot := 1, constantValue := 0 }, { name := "MAX_LENGTH", type := .int, accessFlags := 24, slot := 2, constantValue := 0 }, { name := "$assertionsDisabled", type := .boolean, accessFlags := 4120, slot := 3, constantValue := 0 }]
  methods := #[k8m0, k8m1, k8m2, k8m3]
  instanceTypes := #[]
  staticTypes := #[.int, .int, .int, .boolean]
  resolved := Array.replicate 635 none
  statics := none }

def pool9 : Array CpInfo := pool [(1, .methodref 2 3), (0, .class_ 4), (0, .nameAndType 5 6), (0, u "java/lang/Object"), (0, u "<init>"), (0, u "()V"), (0, .class_ 8), (0, u "java/lang/Record")] 13

def k9c0 : Code := { maxStack := 1, maxLocals := 1, code := jdk_30_method_1_code, exceptionTable := #[], attributes := #[] }
def k9m0 : Method := { name := "<init>", desc := "()V", sig := { parameters := [], returnType := none }, accessFlags := 4, code := some k9c0 }
/-- java/lang/Record -/
def k9 : Class := { plain "java/lang/Record" (some 0) with
  accessFlags := 1057
  interfaces := #[]
  cf := some (fileOf pool9 7 #[] #[{ accessFlags := 4, nameIndex := 5, descriptorIndex := 6, attributes := #[] }] 1057 2 #[] #[])
  fields := #[]
  methods := #[k9m0]
  instanceTypes := #[]
  staticTypes := #[]
  resolved := Array.replicate 22 none
  statics := none }

def pool10 : Array CpInfo := pool [(1, .methodref 2 3), (0, .class_ 4), (0, .nameAndType 5 6), (0, u "java/lang/Record"), (0, u "<init>"), (0, u "()V"), (0, .fieldref 8 9), (0, .class_ 10), (0, .nameAndType 11 12), (0, u "com/example/neat_mapper/neatmapper/engine/Same"), (0, u "object"), (0, u "Ljava/lang/Object;"), (10, u "(Ljava/lang/Object;)V"), (3, u "equals"), (0, u "(Ljava/lang/Object;)Z")] 24

def k10c0 : Code := { maxStack := 2, maxLocals := 2, code := prog_7_method_1_code, exceptionTable := #[], attributes := #[] }
def k10m0 : Method := { name := "<init>", desc := "(Ljava/lang/Object;)V", sig := { parameters := [(.object "java/lang/Object")], returnType := none }, accessFlags := 0, code := some k10c0 }
def k10c1 : Code := { maxStack := 2, maxLocals := 3, code := prog_7_method_2_code, exceptionTable := #[], attributes := #[] }
def k10m1 : Method := { name := "equals", desc := "(Ljava/lang/Object;)Z", sig := { parameters := [(.object "java/lang/Object")], returnType := some .boolean }, accessFlags := 1, code := some k10c1 }
/-- com/example/neat_mapper/neatmapper/engine/Same -/
def k10 : Class := { plain "com/example/neat_mapper/neatmapper/engine/Same" (some 9) with
  accessFlags := 48
  interfaces := #[]
  cf := some (fileOf pool10 8 #[] #[{ accessFlags := 0, nameIndex := 5, descriptorIndex := 23, attributes := #[] }, { accessFlags := 1, nameIndex := 27, descriptorIndex := 28, attributes := #[] }] 48 2 #[] #[{ accessFlags := 18, nameIndex := 11, descriptorIndex := 12, attributes := #[] }])
  fields := #[{ name := "object", type := (.object "java/lang/Object"), accessFlags := 18, slot := 0, constantValue := 0 }]
  methods := #[k10m0, k10m1]
  instanceTypes := #[(.object "java/lang/Object")]
  staticTypes := #[]
  resolved := Array.replicate 53 none
  statics := none }

def pool11 : Array CpInfo := pool [(4, .class_ 6), (1, u "java/lang/Object"), (0, u "<init>"), (0, u "()V"), (5, .class_ 16), (1, u "java/lang/StringLatin1"), (104, u "$assertionsDisabled"), (0, u "Z"), (98, .class_ 223), (1, u "java/lang/StringLatin1$LinesSpliterator"), (166, .class_ 391), (0, u "java/lang/StringLatin1$CharsSpliterator")] 3

def k11m0 : Method := { name := "<init>", desc := "()V", sig := { parameters := [], returnType := none }, accessFlags := 0, code := none }
/-- java/lang/StringLatin1 -/
def k11 : Class := { plain "java/lang/StringLatin1" (some 0) with
  accessFlags := 48
  interfaces := #[]
  cf := some (fileOf pool11 14 #[.nestMembers #[390, 221]] #[{ accessFlags := 0, nameIndex := 7, descriptorIndex := 8, attributes := #[] }] 48 4 #[] #[{ accessFlags := 4120, nameIndex := 121, descriptorIndex := 122, attributes := #[] }])
  fields := #[{ name := "$assertionsDisabled", type := .boolean, accessFlags := 4120, slot := 0, constantValue := 0 }]
  methods := #[k11m0]
  instanceTypes := #[]
  staticTypes := #[.boolean]
  resolved := Array.replicate 395 none
  statics := none }

def pool12 : Array CpInfo := pool [(2, .class_ 4), (1, u "java/lang/Object"), (0, u "<init>"), (0, u "()V"), (17, .class_ 26), (1, u "jdk/internal/util/Preconditions"), (28, .class_ 56), (0, u "jdk/internal/util/Preconditions$4"), (57, .class_ 115), (0, u "jdk/internal/util/Preconditions$1"), (7, u "SIOOBE_FORMATTER"), (0, u "Ljava/util/function/BiFunction;"), (0, .class_ 126), (0, u "jdk/internal/util/Preconditions$2"), (3, u "AIOOBE_FORMATTER"), (0, .class_ 132), (0, u "jdk/internal/util/Preconditions$3"), (3, u "IOOBE_FORMATTER")] 57

def k12m0 : Method := { name := "<init>", desc := "()V", sig := { parameters := [], returnType := none }, accessFlags := 1, code := none }
/-- jdk/internal/util/Preconditions -/
def k12 : Class := { plain "jdk/internal/util/Preconditions" (some 0) with
  accessFlags := 33
  interfaces := #[]
  cf := some (fileOf pool12 24 #[.nestMembers #[55, 131, 125, 114]] #[{ accessFlags := 1, nameIndex := 5, descriptorIndex := 6, attributes := #[] }] 33 2 #[] #[{ accessFlags := 25, nameIndex := 123, descriptorIndex := 124, attributes := #[] }, { accessFlags := 25, nameIndex := 130, descriptorIndex := 124, attributes := #[] }, { accessFlags := 25, nameIndex := 136, descriptorIndex := 124, attributes := #[] }])
  fields := #[{ name := "SIOOBE_FORMATTER", type := (.object "java/util/function/BiFunction"), accessFlags := 25, slot := 0, constantValue := 0 }, { name := "AIOOBE_FORMATTER", type := (.object "java/util/function/BiFunction"), accessFlags := 25, slot := 1, constantValue := 0 }, { name := "IOOBE_FORMATTER", type := (.object "java/util/function/BiFunction"), accessFlags := 25, slot := 2, constantValue := 0 }]
  methods := #[k12m0]
  instanceTypes := #[]
  staticTypes := #[(.object "java/util/function/BiFunction"), (.object "java/util/function/BiFunction"), (.object "java/util/function/BiFunction")]
  resolved := Array.replicate 194 none
  statics := some 1 }

def pool13 : Array CpInfo := pool [(9, u "<init>"), (6, .class_ 18), (1, u "java/lang/Object"), (0, u "()V"), (1, .class_ 23), (1, u "jdk/internal/util/ArraysSupport"), (0, u "LOG2_ARRAY_LONG_INDEX_SCALE"), (0, u "I"), (2, u "U"), (0, u "Ljdk/internal/misc/Unsafe;"), (8, u "BIG_ENDIAN"), (0, u "Z"), (8, u "LOG2_BYTE_BIT_SIZE"), (4, u "LOG2_ARRAY_INT_INDEX_SCALE"), (54, u "JLA"), (0, u "Ljdk/internal/access/JavaLangAccess;"), (11, u "LOG2_ARRAY_BOOLEAN_INDEX_SCALE"), (9, u "LOG2_ARRAY_BYTE_INDEX_SCALE"), (5, u "LOG2_ARRAY_CHAR_INDEX_SCALE"), (5, u "LOG2_ARRAY_SHORT_INDEX_SCALE"), (18, u "LOG2_ARRAY_FLOAT_INDEX_SCALE"), (24, u "LOG2_ARRAY_DOUBLE_INDEX_SCALE"), (89, u "T_BOOLEAN"), (2, u "T_CHAR"), (1, u "T_FLOAT"), (1, u "T_DOUBLE"), (1, u "T_BYTE"), (1, u "T_SHORT"), (1, u "T_INT"), (1, u "T_LONG"), (1, u "SOFT_MAX_ARRAY_LENGTH")] 83

def k13m0 : Method := { name := "<init>", desc := "()V", sig := { parameters := [], returnType := none }, accessFlags := 2, code := none }
/-- jdk/internal/util/ArraysSupport -/
def k13 : Class := { plain "jdk/internal/util/ArraysSupport" (some 0) with
  accessFlags := 33
  interfaces := #[]
  cf := some (fileOf pool13 21 #[] #[{ accessFlags := 2, nameIndex := 9, descriptorIndex := 19, attributes := #[] }] 33 16 #[] #[{ accessFlags := 24, nameIndex := 28, descriptorIndex := 29, attributes := #[] }, { accessFlags := 26, nameIndex := 38, descriptorIndex := 39, attributes := #[] }, { accessFlags := 25, nameIndex := 121, descriptorIndex := 25, attributes := #[] }, { accessFlags := 25, nameIndex := 131, descriptorIndex := 25, attributes := #[] }, { accessFlags := 25, nameIndex := 137, descriptorIndex := 25, attributes := #[] }, { accessFlags := 25, nameIndex := 143, descriptorIndex := 25, attributes := #[] }, { accessFlags := 25, nameIndex := 53, descriptorIndex := 25, attributes := #[] }, { accessFlags := 25, nameIndex := 24, descriptorIndex := 25, attributes := #[] }, { accessFlags := 25, nameIndex := 162, descriptorIndex := 25, attributes := #[] }, { accessFlags := 25, nameIndex := 187, descriptorIndex := 25, attributes := #[] }, { accessFlags := 26, nameIndex := 48, descriptorIndex := 25, attributes := #[] }, { accessFlags := 25, nameIndex := 277, descriptorIndex := 25, attributes := #[] }, { accessFlags := 25, nameIndex := 280, descriptorIndex := 25, attributes := #[] }, { accessFlags := 25, nameIndex := 282, descriptorIndex := 25, attributes := #[] }, { accessFlags := 25, nameIndex := 284, descriptorIndex := 25, attributes := #[] }, { accessFlags := 25, nameIndex := 286, descriptorIndex := 25, attributes := #[] }, { accessFlags := 25, nameIndex := 288, descriptorIndex := 25, attributes := #[] }, { accessFlags := 25, nameIndex := 290, descriptorIndex := 25, attributes := #[] }, { accessFlags := 25, nameIndex := 292, descriptorIndex := 25, attributes := #[] }, { accessFlags := 26, nameIndex := 108, descriptorIndex := 109, attributes := #[] }, { accessFlags := 25, nameIndex := 294, descriptorIndex := 25, attributes := #[] }])
  fields := #[{ name := "U", type := (.object "jdk/internal/misc/Unsafe"), accessFlags := 24, slot := 0, constantValue := 0 }, { name := "BIG_ENDIAN", type := .boolean, accessFlags := 26, slot := 1, constantValue := 0 }, { name := "LOG2_ARRAY_BOOLEAN_INDEX_SCALE", type := .int, accessFlags := 25, slot := 2, constantValue := 0 }, { name := "LOG2_ARRAY_BYTE_INDEX_SCALE", type := .int, accessFlags := 25, slot := 3, constantValue := 0 }, { name := "LOG2_ARRAY_CHAR_INDEX_SCALE", type := .int, accessFlags := 25, slot := 4, constantValue := 0 }, { name := "LOG2_ARRAY_SHORT_INDEX_SCALE", type := .int, accessFlags := 25, slot := 5, constantValue := 0 }, { name := "LOG2_ARRAY_INT_INDEX_SCALE", type := .int, accessFlags := 25, slot := 6, constantValue := 0 }, { name := "LOG2_ARRAY_LONG_INDEX_SCALE", type := .int, accessFlags := 25, slot := 7, constantValue := 0 }, { name := "LOG2_ARRAY_FLOAT_INDEX_SCALE", type := .int, accessFlags := 25, slot := 8, constantValue := 0 }, { name := "LOG2_ARRAY_DOUBLE_INDEX_SCALE", type := .int, accessFlags := 25, slot := 9, constantValue := 0 }, { name := "LOG2_BYTE_BIT_SIZE", type := .int, accessFlags := 26, slot := 10, constantValue := 0 }, { name := "T_BOOLEAN", type := .int, accessFlags := 25, slot := 11, constantValue := 0 }, { name := "T_CHAR", type := .int, accessFlags := 25, slot := 12, constantValue := 0 }, { name := "T_FLOAT", type := .int, accessFlags := 25, slot := 13, constantValue := 0 }, { name := "T_DOUBLE", type := .int, accessFlags := 25, slot := 14, constantValue := 0 }, { name := "T_BYTE", type := .int, accessFlags := 25, slot := 15, constantValue := 0 }, { name := "T_SHORT", type := .int, accessFlags := 25, slot := 16, constantValue := 0 }, { name := "T_INT", type := .int, accessFlags := 25, slot := 17, constantValue := 0 }, { name := "T_LONG", type := .int, accessFlags := 25, slot := 18, constantValue := 0 }, { name := "JLA", type := (.object "jdk/internal/access/JavaLangAccess"), accessFlags := 26, slot := 19, constantValue := 0 }, { name := "SOFT_MAX_ARRAY_LENGTH", type := .int, accessFlags := 25, slot := 20, constantValue := 0 }]
  methods := #[k13m0]
  instanceTypes := #[]
  staticTypes := #[(.object "jdk/internal/misc/Unsafe"), .boolean, .int, .int, .int, .int, .int, .int, .int, .int, .int, .int, .int, .int, .int, .int, .int, .int, .int, (.object "jdk/internal/access/JavaLangAccess"), .int]
  resolved := Array.replicate 378 none
  statics := none }

def pool14 : Array CpInfo := pool [(1, u "java/lang/Cloneable"), (0, .class_ 1), (0, u "java/lang/Object"), (0, .class_ 3)] 3

/-- java/lang/Cloneable -/
def k14 : Class := { plain "java/lang/Cloneable" (some 0) with
  accessFlags := 1537
  interfaces := #[]
  cf := some (fileOf pool14 2 #[] #[] 1537 4 #[] #[])
  fields := #[]
  methods := #[]
  instanceTypes := #[]
  staticTypes := #[]
  resolved := Array.replicate 8 none
  statics := none }

/-- the primitive byte -/
def k15 : Class := { plain "byte" none with kind := .primitive 'B', accessFlags := 0x411 }
/-- [B -/
def k16 : Class := { plain "[B" (some 0) with kind := .array 15 .byte, interfaces := #[14, 2], accessFlags := 1041 }

/-- the primitive char -/
def k17 : Class := { plain "char" none with kind := .primitive 'C', accessFlags := 0x411 }
/-- [C -/
def k18 : Class := { plain "[C" (some 0) with kind := .array 17 .char, interfaces := #[14, 2], accessFlags := 1041 }

/-- the primitive int -/
def k19 : Class := { plain "int" none with kind := .primitive 'I', accessFlags := 0x411 }
/-- [I -/
def k20 : Class := { plain "[I" (some 0) with kind := .array 19 .int, interfaces := #[14, 2], accessFlags := 1041 }

def heap : Heap := #[{ cls := 7, slots := #[.long 0, .int 1, .null, .int 0, .null, .int 0, .int 0], vm := .statics 7 },
  { cls := 12, slots := #[.null, .null, .null], vm := .statics 12 }]
def classes : Array Class := #[k0, k1, k2, k3, k4, k5, k6, k7, k8, k9, k10, k11, k12, k13, k14, k15, k16, k17, k18, k19, k20]
def interned : List (Array UInt16 × Addr) := []
def slotsUsed : Nat := 10
def theMethod : MethodId := ⟨1, 2⟩
def args0 : Array Value := #[.int 5, .int 7, .int 6]
def aboutOver (below : List Frame) : State where
  vm := { classes := classes, interned := interned.toArray }
  heap := heap
  slotsUsed := slotsUsed
  threads := #[{ frames := .invoking theMethod args0 :: below }]
def below0 : List Frame := [.native { method := ⟨0, 0⟩, args := #[] }]
def about1 : State := aboutOver below0
def p0 : Program := .bare "" "" ""
def e0 : Env := launch0.env 0 0 0
theorem w_frames : about1.frames = Frame.invoking theMethod args0 :: below0 := rfl
set_option maxRecDepth 65536 in
theorem w_args : argsFit about1.vm theMethod args0 = true := by decide +kernel
set_option maxRecDepth 65536 in
theorem w_heap : heapFits about1 = true := by decide +kernel
set_option maxRecDepth 65536 in
theorem w_runnable : about1.curStatus? = some .runnable := by decide +kernel
set_option maxRecDepth 65536 in
theorem w_alone : about1.alone = true := by decide +kernel
set_option maxRecDepth 65536 in
theorem w_named : about1.methodNamed? x = some theMethod := by decide +kernel
set_option maxRecDepth 65536 in
theorem w_hears : about1.hears theMethod below0 = true := by decide +kernel
set_option maxRecDepth 65536 in
theorem w_ripe : about1.ripe theMethod args0 below0 = true := by decide +kernel
theorem w_running : about1.status = .running := rfl
set_option maxRecDepth 65536 in
theorem w_room : about1.hasRoom e0.platform room_1 = true :=
  launch0.hasRoom_least _ room_1 (by decide +kernel) (by decide +kernel) (by decide +kernel) (by decide +kernel) (by decide +kernel) (by decide +kernel)
theorem allAtoms_all (ts : List Jvm.Cond) (a : Array Jvm.Value) (st : Jvm.State) : (allAtoms ts).before a st = ts.all (fun c => c.before a st) := by
  induction ts with
  | nil => rfl
  | cons c t ih =>
    show (Jvm.Cond.and c (allAtoms t)).before a st = _
    rw [Jvm.Cond.before_and, ih, List.all_cons]
def words1 : List Jvm.Cond := Jvm.Cond.code x code maxLocals ret :: tables_1
/-- a 'code' word, met by the world's own term for the bytes: nothing is compared byte by byte -/
theorem code_word {y : MethodName} {bytes : ByteArray} {mx : Nat} {rt : Option FieldType} {a : Array Value} {s : State} {m : MethodId} {meth : Method} {c : Code} (h1 : s.methodNamed? y = some m) (h2 : s.vm.method? m = some meth) (h3 : meth.code = some c) (h4 : c.code = bytes)
    (h5 : (c.maxLocals == mx && c.exceptionTable.isEmpty && decide (c.maxStack ≤ mostOperands) && decide (meth.sig.returnType = rt) && !meth.locks && decide (parseMethodDescriptor y.desc = some meth.sig)) = true) : (Jvm.Cond.code y bytes mx rt).before a s = true := by
  simp only [Bool.and_eq_true, beq_iff_eq, Bool.not_eq_true', decide_eq_true_eq] at h5
  obtain ⟨⟨⟨⟨⟨g1, g2⟩, g3⟩, g4⟩, g5⟩, g6⟩ := h5
  simp [Cond.before, Cond.holds, Cond.value, h1, h2, h3, h4, g1, g2, g3, g4, g5, g6]
def isCode : Jvm.Cond → Bool
  | .code _ _ _ _ => true
  | _ => false
theorem all_split {L : List Jvm.Cond} {P : Jvm.Cond → Bool} (h1 : L.all (fun c => isCode c || P c) = true) (h2 : ∀ c ∈ L.filter isCode, P c = true) : L.all P = true := by
  refine List.all_eq_true.mpr fun c hc => ?_
  have h := List.all_eq_true.mp h1 c hc
  rcases Bool.eq_false_or_eq_true (isCode c) with hi | hi
  · exact h2 c (List.mem_filter.mpr ⟨hc, hi⟩)
  · simpa [hi] using h
set_option maxRecDepth 65536 in
theorem w_c0 : (Jvm.Cond.code x code maxLocals ret).before args0 about1 = true := code_word (m := ⟨1, 2⟩) (meth := k1m2) (c := k1c2) (by decide +kernel) rfl rfl rfl (by decide +kernel)
set_option maxRecDepth 65536 in
theorem w_c1 : (Jvm.Cond.code ({ cls := "java/lang/String", name := "<init>", desc := "([C)V" } : Jvm.MethodName) jdk_42_method_3_code (2 : Nat) (Option.none : Option Jvm.ClassFile.FieldType)).before args0 about1 = true := code_word (m := ⟨7, 1⟩) (meth := k7m1) (c := k7c1) (by decide +kernel) rfl rfl rfl (by decide +kernel)
set_option maxRecDepth 65536 in
theorem w_c2 : (Jvm.Cond.code ({ cls := "java/lang/String", name := "<init>", desc := "([CIILjava/lang/Void;)V" } : Jvm.MethodName) jdk_42_method_149_code (6 : Nat) (Option.none : Option Jvm.ClassFile.FieldType)).before args0 about1 = true := code_word (m := ⟨7, 2⟩) (meth := k7m2) (c := k7c2) (by decide +kernel) rfl rfl rfl (by decide +kernel)
set_option maxRecDepth 65536 in
theorem w_c3 : (Jvm.Cond.code ({ cls := "java/lang/Object", name := "<init>", desc := "()V" } : Jvm.MethodName) object_method_1_code (1 : Nat) (Option.none : Option Jvm.ClassFile.FieldType)).before args0 about1 = true := code_word (m := ⟨0, 0⟩) (meth := k0m0) (c := k0c0) (by decide +kernel) rfl rfl rfl (by decide +kernel)
set_option maxRecDepth 65536 in
theorem w_c4 : (Jvm.Cond.code ({ cls := "java/lang/StringUTF16", name := "compress", desc := "([CII)[B" } : Jvm.MethodName) jdk_52_method_16_code (6 : Nat) (Option.some (Jvm.ClassFile.FieldType.array Jvm.ClassFile.FieldType.byte))).before args0 about1 = true := code_word (m := ⟨8, 2⟩) (meth := k8m2) (c := k8c2) (by decide +kernel) rfl rfl rfl (by decide +kernel)
set_option maxRecDepth 65536 in
theorem w_c5 : (Jvm.Cond.code ({ cls := "java/lang/StringUTF16", name := "compress", desc := "([CI[BII)I" } : Jvm.MethodName) jdk_52_method_21_code (7 : Nat) (Option.some Jvm.ClassFile.FieldType.int)).before args0 about1 = true := code_word (m := ⟨8, 3⟩) (meth := k8m3) (c := k8c3) (by decide +kernel) rfl rfl rfl (by decide +kernel)
set_option maxRecDepth 65536 in
theorem w_c6 : (Jvm.Cond.code ({ cls := "java/lang/StringUTF16", name := "coderFromArrayLen", desc := "([BI)B" } : Jvm.MethodName) jdk_52_method_15_code (2 : Nat) (Option.some Jvm.ClassFile.FieldType.byte)).before args0 about1 = true := code_word (m := ⟨8, 1⟩) (meth := k8m1) (c := k8c1) (by decide +kernel) rfl rfl rfl (by decide +kernel)
set_option maxRecDepth 65536 in
theorem w_c7 : (Jvm.Cond.code ({ cls := "com/example/neat_mapper/neatmapper/engine/SameEqualsPinLaw", name := "pick", desc := "(ILjava/lang/Object;Ljava/lang/Object;Ljava/lang/Object;)Ljava/lang/Object;" } : Jvm.MethodName) method_2_code (4 : Nat) (Option.some (Jvm.ClassFile.FieldType.object "java/lang/Object"))).before args0 about1 = true := code_word (m := ⟨1, 1⟩) (meth := k1m1) (c := k1c1) (by decide +kernel) rfl rfl rfl (by decide +kernel)
set_option maxRecDepth 65536 in
theorem w_c8 : (Jvm.Cond.code ({ cls := "com/example/neat_mapper/neatmapper/engine/Same", name := "<init>", desc := "(Ljava/lang/Object;)V" } : Jvm.MethodName) prog_7_method_1_code (2 : Nat) (Option.none : Option Jvm.ClassFile.FieldType)).before args0 about1 = true := code_word (m := ⟨10, 0⟩) (meth := k10m0) (c := k10c0) (by decide +kernel) rfl rfl rfl (by decide +kernel)
set_option maxRecDepth 65536 in
theorem w_c9 : (Jvm.Cond.code ({ cls := "java/lang/Record", name := "<init>", desc := "()V" } : Jvm.MethodName) jdk_30_method_1_code (1 : Nat) (Option.none : Option Jvm.ClassFile.FieldType)).before args0 about1 = true := code_word (m := ⟨9, 0⟩) (meth := k9m0) (c := k9c0) (by decide +kernel) rfl rfl rfl (by decide +kernel)
set_option maxRecDepth 65536 in
theorem w_c10 : (Jvm.Cond.code ({ cls := "com/example/neat_mapper/neatmapper/engine/Same", name := "equals", desc := "(Ljava/lang/Object;)Z" } : Jvm.MethodName) prog_7_method_2_code (3 : Nat) (Option.some Jvm.ClassFile.FieldType.boolean)).before args0 about1 = true := code_word (m := ⟨10, 1⟩) (meth := k10m1) (c := k10c1) (by decide +kernel) rfl rfl rfl (by decide +kernel)
def codes1 : List Jvm.Cond := [Jvm.Cond.code x code maxLocals ret, Jvm.Cond.code ({ cls := "java/lang/String", name := "<init>", desc := "([C)V" } : Jvm.MethodName) jdk_42_method_3_code (2 : Nat) (Option.none : Option Jvm.ClassFile.FieldType), Jvm.Cond.code ({ cls := "java/lang/String", name := "<init>", desc := "([CIILjava/lang/Void;)V" } : Jvm.MethodName) jdk_42_method_149_code (6 : Nat) (Option.none : Option Jvm.ClassFile.FieldType), Jvm.Cond.code ({ cls := "java/lang/Object", name := "<init>", desc := "()V" } : Jvm.MethodName) object_method_1_code (1 : Nat) (Option.none : Option Jvm.ClassFile.FieldType), Jvm.Cond.code ({ cls := "java/lang/StringUTF16", name := "compress", desc := "([CII)[B" } : Jvm.MethodName) jdk_52_method_16_code (6 : Nat) (Option.some (Jvm.ClassFile.FieldType.array Jvm.ClassFile.FieldType.byte)), Jvm.Cond.code ({ cls := "java/lang/StringUTF16", name := "compress", desc := "([CI[BII)I" } : Jvm.MethodName) jdk_52_method_21_code (7 : Nat) (Option.some Jvm.ClassFile.FieldType.int), Jvm.Cond.code ({ cls := "java/lang/StringUTF16", name := "coderFromArrayLen", desc := "([BI)B" } : Jvm.MethodName) jdk_52_method_15_code (2 : Nat) (Option.some Jvm.ClassFile.FieldType.byte), Jvm.Cond.code ({ cls := "com/example/neat_mapper/neatmapper/engine/SameEqualsPinLaw", name := "pick", desc := "(ILjava/lang/Object;Ljava/lang/Object;Ljava/lang/Object;)Ljava/lang/Object;" } : Jvm.MethodName) method_2_code (4 : Nat) (Option.some (Jvm.ClassFile.FieldType.object "java/lang/Object")), Jvm.Cond.code ({ cls := "com/example/neat_mapper/neatmapper/engine/Same", name := "<init>", desc := "(Ljava/lang/Object;)V" } : Jvm.MethodName) prog_7_method_1_code (2 : Nat) (Option.none : Option Jvm.ClassFile.FieldType), Jvm.Cond.code ({ cls := "java/lang/Record", name := "<init>", desc := "()V" } : Jvm.MethodName) jdk_30_method_1_code (1 : Nat) (Option.none : Option Jvm.ClassFile.FieldType), Jvm.Cond.code ({ cls := "com/example/neat_mapper/neatmapper/engine/Same", name := "equals", desc := "(Ljava/lang/Object;)Z" } : Jvm.MethodName) prog_7_method_2_code (3 : Nat) (Option.some Jvm.ClassFile.FieldType.boolean)]
set_option maxRecDepth 65536 in
theorem codes_eq : words1.filter isCode = codes1 := rfl
theorem w_codes : ∀ c ∈ words1.filter isCode, c.before args0 about1 = true := by
  rw [codes_eq]
  intro c hc
  simp only [codes1, List.mem_cons, List.not_mem_nil, or_false] at hc
  rcases hc with rfl | rfl | rfl | rfl | rfl | rfl | rfl | rfl | rfl | rfl | rfl
  · exact w_c0
  · exact w_c1
  · exact w_c2
  · exact w_c3
  · exact w_c4
  · exact w_c5
  · exact w_c6
  · exact w_c7
  · exact w_c8
  · exact w_c9
  · exact w_c10
set_option maxRecDepth 65536 in
theorem w_t1 : (words1.take 24).all (fun c => isCode c || c.before args0 about1) = true := by decide +kernel
set_option maxRecDepth 65536 in
theorem w_t2 : ((words1.drop 24).take 24).all (fun c => isCode c || c.before args0 about1) = true := by decide +kernel
set_option maxRecDepth 65536 in
theorem w_t3 : ((words1.drop 24).drop 24).all (fun c => isCode c || c.before args0 about1) = true := by decide +kernel
theorem w_tables : (allAtoms (Jvm.Cond.code x code maxLocals ret :: tables_1)).before args0 about1 = true := by
  rw [allAtoms_all]
  show words1.all (fun c => c.before args0 about1) = true
  refine all_split ?_ w_codes
  rw [← List.take_append_drop 24 words1, List.all_append, w_t1, ← List.take_append_drop 24 (words1.drop 24), List.all_append, w_t2, w_t3]
  rfl
set_option maxRecDepth 65536 in
theorem w_rest : rest_1_c.before args0 about1 = true := by decide +kernel
set_option maxRecDepth 65536 in
theorem w_case : (Jvm.Cond.and given_1 narrow_1).before args0 about1 = true := by decide +kernel
theorem w_applies : (headSpec (Jvm.Cond.code x code maxLocals ret :: tables_1) room_1).applies x e0.platform about1 = true :=
  (Spec.applies_iff w_frames).mpr ⟨w_running, w_runnable, w_alone, w_named, w_hears, w_ripe, w_room, w_tables⟩
theorem atStart : AtStart classFile x code maxLocals ret World_1 tables_1 room_1 Calls_1 rest_1 Pre_1 launch0 p0 e0 about1 theMethod args0 below0 :=
  ⟨lists_1, trivial, launch0.admits_env _ _ _, launch0.least_env, fairChoices_fair.cas, fairChoices_fair.clock, w_frames, w_args, w_heap, w_applies, trivial, w_rest, w_case⟩
end start1
theorem witness_1 : WitnessClaimed_1 := ⟨start1.p0, start1.e0, start1.about1, start1.theMethod, start1.args0, start1.below0, start1.atStart⟩
end Jvm.Pilot.@@N@@
