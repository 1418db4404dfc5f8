import JvmDerived
import JvmDerived.Pilot.@@N@@Statement
import JvmDerived.Pilot.@@N@@Code
set_option linter.unusedVariables false
set_option linter.unusedSimpArgs false
namespace Jvm.Pilot.@@N@@
namespace GoKit
open Sem ClassFile Op Lib Jvm.Stand Jvm.Free Jvm.LawKit Jvm.RoadKit
/-- how a walk may end: cold (it may have interned) or not -/
def FinE (w : Bool) (s : State) (o : Outcome) (U : State) (L : List Loc) (k n : Nat) : Prop := (w = true ∧ ReturnedEndW s o U L k n) ∨ (w = false ∧ FrameEnd s o U L k n)
/-- every place of the list lies in a cell made since, or in one of ws -/
def Fw (k : Nat) (ws : List Addr) (L : List Loc) : Prop := ∀ y ∈ L, k ≤ y.base ∨ y.base ∈ ws
theorem Fw.app {k : Nat} {ws : List Addr} {L L' : List Loc} (N : Fw k ws L) (N' : Fw k ws L') : Fw k ws (L ++ L') := fun y hy => (List.mem_append.mp hy).elim (N y) (N' y)
theorem Fw.snoc {k : Nat} {ws : List Addr} {L : List Loc} {a : Addr} {i : Nat} (N : Fw k ws L) (q : k ≤ a ∨ a ∈ ws) : Fw k ws (L ++ [⟨a, i⟩]) := N.app fun y hy => by cases List.mem_singleton.mp hy; exact q
theorem Fw.sub {k k' : Nat} {ws ws' : List Addr} {L : List Loc} (N : Fw k ws L) (hk : k' ≤ k) (q : ∀ x ∈ ws, k' ≤ x ∨ x ∈ ws') : Fw k' ws' L := fun y hy => (N y hy).elim (fun z => Or.inl (Nat.le_trans hk z)) (q _)
theorem Fw.of_fr {k : Nat} {ws : List Addr} {L : List Loc} (N : Fr k L) : Fw k ws L := fun y hy => Or.inl (N y hy)
theorem keep_same {s t : State} {L : List Loc} {k n : Nat} {ws : List Addr} (hs : s.sameButNew t L k n) (N : Fw s.heap.size ws L) : Keep s.heap t.heap ws := by
  obtain ⟨-, h1, -, -, -, h2⟩ := hs
  refine ⟨h1, fun x c hx hn => ?_, fun x c hx => ?_⟩
  · obtain ⟨c', e1, e2, e3, e4⟩ := h2 x c hx
    have hlt := (Array.getElem?_eq_some_iff.mp hx).1
    have e5 : c'.slots = c.slots := Array.ext_getElem? fun i => e4 i fun hm => (N _ hm).elim (fun z => Nat.lt_irrefl _ (Nat.lt_of_lt_of_le hlt z)) hn
    rw [e1, e2, e5]
  · obtain ⟨c', e1, e2, e3, -⟩ := h2 x c hx
    exact ⟨c', e1, by rw [e2], by rw [e2], e3⟩
theorem all_le {k : Nat} {ws : List Addr} (q : ∀ x ∈ ws, k ≤ x) : ∀ x ∈ ws, k ≤ x ∨ x ∈ ([] : List Addr) := fun x hx => Or.inl (q x hx)
/-- what is known of the body -/
def Kit (p : Program) (m : MethodId) (meth : Method) (c : Code) (bytes : ByteArray) (maxL : Nat) (ret : Option FieldType) (nm : String) : Prop :=
  p.tables.exec = Jvm.exec ∧ c.code = bytes ∧ c.maxLocals = maxL ∧ meth.sig.returnType = ret ∧ meth.locks = false ∧ meth.name = nm
/-- from the frame g over the heap h (tables: those of s with vm0) the body comes to an end of which Q holds -/
def Go (p : Program) (l : Launch) (e : Env) (R : Room) (s : State) (m : MethodId) (args : Array Value) (below : List Frame) (meth : Method) (c : Code)
    (Z : State) (k0 : Nat) (ws wF : List Addr) (own : String) (Q : Option Value → Heap → Vm → Prop) (w : Bool) (vm0 : Vm) (h : Heap) (ce sl : Nat) (g : JFrame) : Prop :=
  ∀ (T : State) (locs : List Loc), Stand p l e R (s.setVm vm0) m args below meth c T locs ce sl → T.heap = h → Fw k0 ws locs → s.Since vm0 h.size → Z.Warmed39 vm0 → vm0.findClass own = some m.cls → (w = true ∨ vm0 = s.vm) →
    ∃ (U : State) (o : Outcome), Steps p.tables e below (T.setTop g) U ∧ U.status = .running ∧ Ended U below o ∧ ∃ v L, o = .returned v ∧ (Q v U.heap U.vm ∧ Fw k0 wF L) ∧ FinE w s o U L R.cells R.slots
/-- a contract -/
def Con (l : Launch) (y : MethodName) (bytes : ByteArray) (maxL : Nat) (ret : Option FieldType) (wds : List Jvm.Cond) (rm : Room) (Z : State) (as' : Array Value) (h : Heap) (wF : List Addr) (V : Vm → Prop) (Q : Option Value → Heap → Vm → Prop) (w : Bool) : Prop :=
  MetFree l y (head1 (Jvm.Cond.code y bytes maxL ret :: wds) rm) (fun a U => a = as' ∧ Z.Warmed39 U.vm ∧ U.heap = h ∧ V U.vm) (fun _ _ _ _ _ => True) (fun _ U o U' => ∃ v L, o = .returned v ∧ (Q v U'.heap U'.vm ∧ Fw h.size wF L) ∧ FinE w U o U' L rm.cells rm.slots)
section
variable {p : Program} {l : Launch} {e : Env} {R : Room} {s : State} {m : MethodId} {args : Array Value} {below : List Frame} {meth : Method} {c : Code} {Z : State} {k0 : Nat} {ws wF : List Addr} {own : String} {Q : Option Value → Heap → Vm → Prop} {w : Bool} {vm0 : Vm} {h : Heap} {ce sl : Nat}
  {bytes : ByteArray} {maxL : Nat} {ret : Option FieldType} {nm : String} {Ls : Array Slot} {rest st : List Value} {a0 : Array Value}
theorem Con.intro {y : MethodName} {wds : List Jvm.Cond} {rm : Room} {as' : Array Value} {V : Vm → Prop} (hpn : plainName y.cls = true)
    (hgo : ∀ p e s m below meth c, Kit p m meth c bytes maxL ret y.name → V s.vm → s.heap = h → Go p l e rm s m as' below meth c Z h.size [] wF y.cls Q w s.vm h 0 0 (entryFrame m as' maxL)) :
    Con l y bytes maxL ret wds rm Z as' h wF V Q w := by
  refine MetFree.of_bodySF (plainFor_of_name hpn) hisR ?_
  intro p e s m args below meth c s₁ Bd hml0 hP hK
  obtain ⟨rfl, hZ, hh, hV⟩ := hP
  have hown : s.vm.findClass y.cls = some m.cls := findClass_of_methodNamed Bd.named
  have hnm := (name_of_methodNamed Bd.named Bd.method).1
  have e0 : s₁.heap = h := by rw [← hh, Bd.state]; rfl
  exact hgo p e s m below meth c ⟨Bd.exec, Bd.bytes, hml0, Bd.returns, Bd.notSynchronized, hnm⟩ hV hh s₁ [] (Stand.of_body Bd) e0 (fun _ q => nomatch q) ((State.WarmedH.refl s).since _) hZ hown (Or.inr rfl)
theorem Go.pure {g g' : JFrame} (f : ∀ T t, At T m c below → Steps p.tables e below (T.setTop g') t → Steps p.tables e below (T.setTop g) t) (k : Go p l e R s m args below meth c Z k0 ws wF own Q w vm0 h ce sl g') : Go p l e R s m args below meth c Z k0 ws wF own Q w vm0 h ce sl g :=
  fun T locs X eT N hS hZ ho hw => by
    obtain ⟨U, o, hU, r⟩ := k T locs X eT N hS hZ ho hw
    exact ⟨U, o, f T U X.here hU, r⟩
theorem Go.allow {g : JFrame} (a : Addr) (k : Go p l e R s m args below meth c Z k0 (a :: ws) wF own Q w vm0 h ce sl g) : Go p l e R s m args below meth c Z k0 ws wF own Q w vm0 h ce sl g :=
  fun T locs X eT N hS hZ ho hw => k T locs X eT (fun y hy => (N y hy).imp id (List.mem_cons_of_mem _)) hS hZ ho hw
/-- a step that gives a Stand over the same start, the heap grown -/
theorem Go.step {g g' : JFrame} {h' : Heap} {ce' sl' : Nat} (hgr : h.size ≤ h'.size)
    (f : ∀ T locs, Stand p l e R (s.setVm vm0) m args below meth c T locs ce sl → T.heap = h → Fw k0 ws locs → Z.Warmed39 (s.setVm vm0).vm → (s.setVm vm0).vm.findClass own = some m.cls →
      ∃ T' locs', Stand p l e R (s.setVm vm0) m args below meth c T' locs' ce' sl' ∧ T'.heap = h' ∧ Fw k0 ws locs' ∧ ∀ t, Steps p.tables e below (T'.setTop g') t → Steps p.tables e below (T.setTop g) t)
    (k : Go p l e R s m args below meth c Z k0 ws wF own Q w vm0 h' ce' sl' g') : Go p l e R s m args below meth c Z k0 ws wF own Q w vm0 h ce sl g :=
  fun T locs X eT N hS hZ ho hw => by
    obtain ⟨T', locs', X', eT', N', st⟩ := f T locs X eT N hZ ho
    obtain ⟨U, o, hU, r⟩ := k T' locs' X' eT' N' ⟨hS.1, hS.2.mono hgr⟩ hZ ho hw
    exact ⟨U, o, st U hU, r⟩
/-- the same, the new heap behind an existential -/
theorem Go.stepE {g : JFrame} {ce' sl' : Nat} {D : Heap → JFrame → Prop}
    (f : ∀ T locs, Stand p l e R (s.setVm vm0) m args below meth c T locs ce sl → T.heap = h → Fw k0 ws locs → Z.Warmed39 (s.setVm vm0).vm → (s.setVm vm0).vm.findClass own = some m.cls →
      ∃ T' locs' h' g', Stand p l e R (s.setVm vm0) m args below meth c T' locs' ce' sl' ∧ T'.heap = h' ∧ Fw k0 ws locs' ∧ h.size ≤ h'.size ∧ D h' g' ∧ ∀ t, Steps p.tables e below (T'.setTop g') t → Steps p.tables e below (T.setTop g) t)
    (k : ∀ h' g', D h' g' → Go p l e R s m args below meth c Z k0 ws wF own Q w vm0 h' ce' sl' g') : Go p l e R s m args below meth c Z k0 ws wF own Q w vm0 h ce sl g :=
  fun T locs X eT N hS hZ ho hw => by
    obtain ⟨T', locs', h', g', X', eT', N', hgr, hD, st⟩ := f T locs X eT N hZ ho
    obtain ⟨U, o, hU, r⟩ := k h' g' hD T' locs' X' eT' N' ⟨hS.1, hS.2.mono hgr⟩ hZ ho hw
    exact ⟨U, o, st U hU, r⟩
theorem iloadN (K : Kit p m meth c bytes maxL ret nm) {pc : Nat} {k : Fin 4} {v : Int32} (hd : decode bytes pc = .ok (.iload_n k, 1)) (hl : Ls[k.val]? = some (.val (.int v)))  (k : Go p l e R s m args below meth c Z k0 ws wF own Q w vm0 h ce sl (mkF m (pc + 1) Ls (.int v :: st))) : Go p l e R s m args below meth c Z k0 ws wF own Q w vm0 h ce sl (mkF m (pc) Ls (st)) :=
  Go.pure (fun T t A r => XS.iloadN A K.1 rfl (hb K.2.1 hd) hl  r) k
theorem iload (K : Kit p m meth c bytes maxL ret nm) {pc : Nat} {k : Nat} {v : Int32} (hd : decode bytes pc = .ok (.iload k, 2)) (hl : Ls[k]? = some (.val (.int v)))  (k : Go p l e R s m args below meth c Z k0 ws wF own Q w vm0 h ce sl (mkF m (pc + 2) Ls (.int v :: st))) : Go p l e R s m args below meth c Z k0 ws wF own Q w vm0 h ce sl (mkF m (pc) Ls (st)) :=
  Go.pure (fun T t A r => XS.iload A K.1 rfl (hb K.2.1 hd) hl  r) k
theorem lloadN (K : Kit p m meth c bytes maxL ret nm) {pc : Nat} {k : Fin 4} {v : Int64} (hd : decode bytes pc = .ok (.lload_n k, 1)) (hl : Ls[k.val]? = some (.val (.long v)))  (k : Go p l e R s m args below meth c Z k0 ws wF own Q w vm0 h ce sl (mkF m (pc + 1) Ls (.long v :: st))) : Go p l e R s m args below meth c Z k0 ws wF own Q w vm0 h ce sl (mkF m (pc) Ls (st)) :=
  Go.pure (fun T t A r => XT.lloadN A K.1 rfl (hb K.2.1 hd) hl  r) k
theorem lload (K : Kit p m meth c bytes maxL ret nm) {pc : Nat} {k : Nat} {v : Int64} (hd : decode bytes pc = .ok (.lload k, 2)) (hl : Ls[k]? = some (.val (.long v)))  (k : Go p l e R s m args below meth c Z k0 ws wF own Q w vm0 h ce sl (mkF m (pc + 2) Ls (.long v :: st))) : Go p l e R s m args below meth c Z k0 ws wF own Q w vm0 h ce sl (mkF m (pc) Ls (st)) :=
  Go.pure (fun T t A r => XT.lload A K.1 rfl (hb K.2.1 hd) hl  r) k
theorem aloadN (K : Kit p m meth c bytes maxL ret nm) {pc : Nat} {k : Fin 4} {v : Value} (hd : decode bytes pc = .ok (.aload_n k, 1)) (hl : Ls[k.val]? = some (.val (v))) (hv : v.isRef = true) (k : Go p l e R s m args below meth c Z k0 ws wF own Q w vm0 h ce sl (mkF m (pc + 1) Ls (v :: st))) : Go p l e R s m args below meth c Z k0 ws wF own Q w vm0 h ce sl (mkF m (pc) Ls (st)) :=
  Go.pure (fun T t A r => XS.aloadN A K.1 rfl (hb K.2.1 hd) hl hv r) k
theorem aload (K : Kit p m meth c bytes maxL ret nm) {pc : Nat} {k : Nat} {v : Value} (hd : decode bytes pc = .ok (.aload k, 2)) (hl : Ls[k]? = some (.val (v))) (hv : v.isRef = true) (k : Go p l e R s m args below meth c Z k0 ws wF own Q w vm0 h ce sl (mkF m (pc + 2) Ls (v :: st))) : Go p l e R s m args below meth c Z k0 ws wF own Q w vm0 h ce sl (mkF m (pc) Ls (st)) :=
  Go.pure (fun T t A r => XS.aload A K.1 rfl (hb K.2.1 hd) hl hv r) k
theorem istoreN (K : Kit p m meth c bytes maxL ret nm) {pc : Nat} {k : Fin 4} {v : Int32} {l' : Array Slot} (hd : decode bytes pc = .ok (.istore_n k, 1))  (hl : storeLocals Ls k.val (.int v) = some l') (k : Go p l e R s m args below meth c Z k0 ws wF own Q w vm0 h ce sl (mkF m (pc + 1) l' (st))) : Go p l e R s m args below meth c Z k0 ws wF own Q w vm0 h ce sl (mkF m (pc) Ls (.int v :: st)) :=
  Go.pure (fun T t A r => XS.istoreN A K.1 rfl (hb K.2.1 hd) rfl  hl r) k
theorem istore (K : Kit p m meth c bytes maxL ret nm) {pc : Nat} {k : Nat} {v : Int32} {l' : Array Slot} (hd : decode bytes pc = .ok (.istore k, 2))  (hl : storeLocals Ls k (.int v) = some l') (k : Go p l e R s m args below meth c Z k0 ws wF own Q w vm0 h ce sl (mkF m (pc + 2) l' (st))) : Go p l e R s m args below meth c Z k0 ws wF own Q w vm0 h ce sl (mkF m (pc) Ls (.int v :: st)) :=
  Go.pure (fun T t A r => XS.istore A K.1 rfl (hb K.2.1 hd) rfl  hl r) k
theorem lstoreN (K : Kit p m meth c bytes maxL ret nm) {pc : Nat} {k : Fin 4} {v : Int64} {l' : Array Slot} (hd : decode bytes pc = .ok (.lstore_n k, 1))  (hl : storeLocals Ls k.val (.long v) = some l') (k : Go p l e R s m args below meth c Z k0 ws wF own Q w vm0 h ce sl (mkF m (pc + 1) l' (st))) : Go p l e R s m args below meth c Z k0 ws wF own Q w vm0 h ce sl (mkF m (pc) Ls (.long v :: st)) :=
  Go.pure (fun T t A r => XT.lstoreN A K.1 rfl (hb K.2.1 hd) rfl  hl r) k
theorem lstore (K : Kit p m meth c bytes maxL ret nm) {pc : Nat} {k : Nat} {v : Int64} {l' : Array Slot} (hd : decode bytes pc = .ok (.lstore k, 2))  (hl : storeLocals Ls k (.long v) = some l') (k : Go p l e R s m args below meth c Z k0 ws wF own Q w vm0 h ce sl (mkF m (pc + 2) l' (st))) : Go p l e R s m args below meth c Z k0 ws wF own Q w vm0 h ce sl (mkF m (pc) Ls (.long v :: st)) :=
  Go.pure (fun T t A r => XT.lstore A K.1 rfl (hb K.2.1 hd) rfl  hl r) k
theorem astoreN (K : Kit p m meth c bytes maxL ret nm) {pc : Nat} {k : Fin 4} {v : Value} {l' : Array Slot} (hd : decode bytes pc = .ok (.astore_n k, 1)) (hv : v.isRef = true) (hl : storeLocals Ls k.val (v) = some l') (k : Go p l e R s m args below meth c Z k0 ws wF own Q w vm0 h ce sl (mkF m (pc + 1) l' (st))) : Go p l e R s m args below meth c Z k0 ws wF own Q w vm0 h ce sl (mkF m (pc) Ls (v :: st)) :=
  Go.pure (fun T t A r => XS.astoreN A K.1 rfl (hb K.2.1 hd) rfl hv hl r) k
theorem astore (K : Kit p m meth c bytes maxL ret nm) {pc : Nat} {k : Nat} {v : Value} {l' : Array Slot} (hd : decode bytes pc = .ok (.astore k, 2)) (hv : v.isRef = true) (hl : storeLocals Ls k (v) = some l') (k : Go p l e R s m args below meth c Z k0 ws wF own Q w vm0 h ce sl (mkF m (pc + 2) l' (st))) : Go p l e R s m args below meth c Z k0 ws wF own Q w vm0 h ce sl (mkF m (pc) Ls (v :: st)) :=
  Go.pure (fun T t A r => XS.astore A K.1 rfl (hb K.2.1 hd) rfl hv hl r) k
theorem iconst (K : Kit p m meth c bytes maxL ret nm) {pc : Nat} {i : Int} {x : Int32} (hd : decode bytes pc = .ok (.iconst i, 1)) (hv : Int32.ofInt i = x) (k : Go p l e R s m args below meth c Z k0 ws wF own Q w vm0 h ce sl (mkF m (pc + 1) Ls (.int x :: st))) : Go p l e R s m args below meth c Z k0 ws wF own Q w vm0 h ce sl (mkF m (pc) Ls (st)) :=
  Go.pure (fun T t A r => XS.iconst A K.1 rfl (hb K.2.1 hd) r) (hv ▸ k)
theorem bipush (K : Kit p m meth c bytes maxL ret nm) {pc : Nat} {i : Int} {x : Int32} (hd : decode bytes pc = .ok (.bipush i, 2)) (hv : (Int8.ofInt i).toInt32 = x) (k : Go p l e R s m args below meth c Z k0 ws wF own Q w vm0 h ce sl (mkF m (pc + 2) Ls (.int x :: st))) : Go p l e R s m args below meth c Z k0 ws wF own Q w vm0 h ce sl (mkF m (pc) Ls (st)) :=
  Go.pure (fun T t A r => XS.bipush A K.1 rfl (hb K.2.1 hd) r) (hv ▸ k)
theorem sipush (K : Kit p m meth c bytes maxL ret nm) {pc : Nat} {i : Int} {x : Int32} (hd : decode bytes pc = .ok (.sipush i, 3)) (hv : (Int16.ofInt i).toInt32 = x) (k : Go p l e R s m args below meth c Z k0 ws wF own Q w vm0 h ce sl (mkF m (pc + 3) Ls (.int x :: st))) : Go p l e R s m args below meth c Z k0 ws wF own Q w vm0 h ce sl (mkF m (pc) Ls (st)) :=
  Go.pure (fun T t A r => XS.sipush A K.1 rfl (hb K.2.1 hd) r) (hv ▸ k)
theorem lconst (K : Kit p m meth c bytes maxL ret nm) {pc : Nat} {i : Fin 2} {x : Int64} (hd : decode bytes pc = .ok (.lconst i, 1)) (hv : Int64.ofNat i = x) (k : Go p l e R s m args below meth c Z k0 ws wF own Q w vm0 h ce sl (mkF m (pc + 1) Ls (.long x :: st))) : Go p l e R s m args below meth c Z k0 ws wF own Q w vm0 h ce sl (mkF m (pc) Ls (st)) :=
  Go.pure (fun T t A r => XT.lconst A K.1 rfl (hb K.2.1 hd) r) (hv ▸ k)
theorem aconstNull (K : Kit p m meth c bytes maxL ret nm) {pc : Nat}  (hd : decode bytes pc = .ok (.aconst_null, 1))  (k : Go p l e R s m args below meth c Z k0 ws wF own Q w vm0 h ce sl (mkF m (pc + 1) Ls (.null :: st))) : Go p l e R s m args below meth c Z k0 ws wF own Q w vm0 h ce sl (mkF m (pc) Ls (st)) :=
  Go.pure (fun T t A r => XS.aconstNull A K.1 rfl (hb K.2.1 hd)   r) k
theorem iadd (K : Kit p m meth c bytes maxL ret nm) {pc : Nat} {x y : Int32} (hd : decode bytes pc = .ok (.iadd, 1))  (k : Go p l e R s m args below meth c Z k0 ws wF own Q w vm0 h ce sl (mkF m (pc + 1) Ls (.int (x + y) :: rest))) : Go p l e R s m args below meth c Z k0 ws wF own Q w vm0 h ce sl (mkF m (pc) Ls (.int y :: .int x :: rest)) :=
  Go.pure (fun T t A r => XS.iadd A K.1 rfl (hb K.2.1 hd) rfl  r) k
theorem isub (K : Kit p m meth c bytes maxL ret nm) {pc : Nat} {x y : Int32} (hd : decode bytes pc = .ok (.isub, 1))  (k : Go p l e R s m args below meth c Z k0 ws wF own Q w vm0 h ce sl (mkF m (pc + 1) Ls (.int (x - y) :: rest))) : Go p l e R s m args below meth c Z k0 ws wF own Q w vm0 h ce sl (mkF m (pc) Ls (.int y :: .int x :: rest)) :=
  Go.pure (fun T t A r => XS.isub A K.1 rfl (hb K.2.1 hd) rfl  r) k
theorem iand (K : Kit p m meth c bytes maxL ret nm) {pc : Nat} {x y : Int32} (hd : decode bytes pc = .ok (.iand, 1))  (k : Go p l e R s m args below meth c Z k0 ws wF own Q w vm0 h ce sl (mkF m (pc + 1) Ls (.int (x &&& y) :: rest))) : Go p l e R s m args below meth c Z k0 ws wF own Q w vm0 h ce sl (mkF m (pc) Ls (.int y :: .int x :: rest)) :=
  Go.pure (fun T t A r => XS.iand A K.1 rfl (hb K.2.1 hd) rfl  r) k
theorem imul (K : Kit p m meth c bytes maxL ret nm) {pc : Nat} {x y : Int32} (hd : decode bytes pc = .ok (.imul, 1))  (k : Go p l e R s m args below meth c Z k0 ws wF own Q w vm0 h ce sl (mkF m (pc + 1) Ls (.int (x * y) :: rest))) : Go p l e R s m args below meth c Z k0 ws wF own Q w vm0 h ce sl (mkF m (pc) Ls (.int y :: .int x :: rest)) :=
  Go.pure (fun T t A r => XS.imul A K.1 rfl (hb K.2.1 hd) rfl  r) k
theorem idiv (K : Kit p m meth c bytes maxL ret nm) {pc : Nat} {x y : Int32} (hd : decode bytes pc = .ok (.idiv, 1)) (hy : y ≠ 0) (k : Go p l e R s m args below meth c Z k0 ws wF own Q w vm0 h ce sl (mkF m (pc + 1) Ls (.int (x / y) :: rest))) : Go p l e R s m args below meth c Z k0 ws wF own Q w vm0 h ce sl (mkF m (pc) Ls (.int y :: .int x :: rest)) :=
  Go.pure (fun T t A r => XS.idiv A K.1 rfl (hb K.2.1 hd) rfl hy r) k
theorem ixor (K : Kit p m meth c bytes maxL ret nm) {pc : Nat} {x y : Int32} (hd : decode bytes pc = .ok (.ixor, 1))  (k : Go p l e R s m args below meth c Z k0 ws wF own Q w vm0 h ce sl (mkF m (pc + 1) Ls (.int (x ^^^ y) :: rest))) : Go p l e R s m args below meth c Z k0 ws wF own Q w vm0 h ce sl (mkF m (pc) Ls (.int y :: .int x :: rest)) :=
  Go.pure (fun T t A r => XT.ixor A K.1 rfl (hb K.2.1 hd) rfl  r) k
theorem ior (K : Kit p m meth c bytes maxL ret nm) {pc : Nat} {x y : Int32} (hd : decode bytes pc = .ok (.ior, 1))  (k : Go p l e R s m args below meth c Z k0 ws wF own Q w vm0 h ce sl (mkF m (pc + 1) Ls (.int (x ||| y) :: rest))) : Go p l e R s m args below meth c Z k0 ws wF own Q w vm0 h ce sl (mkF m (pc) Ls (.int y :: .int x :: rest)) :=
  Go.pure (fun T t A r => XT.ior A K.1 rfl (hb K.2.1 hd) rfl  r) k
theorem ishl (K : Kit p m meth c bytes maxL ret nm) {pc : Nat} {x y : Int32} (hd : decode bytes pc = .ok (.ishl, 1))  (k : Go p l e R s m args below meth c Z k0 ws wF own Q w vm0 h ce sl (mkF m (pc + 1) Ls (.int (x <<< (y &&& 31)) :: rest))) : Go p l e R s m args below meth c Z k0 ws wF own Q w vm0 h ce sl (mkF m (pc) Ls (.int y :: .int x :: rest)) :=
  Go.pure (fun T t A r => XT.ishl A K.1 rfl (hb K.2.1 hd) rfl  r) k
theorem ishr (K : Kit p m meth c bytes maxL ret nm) {pc : Nat} {x y : Int32} (hd : decode bytes pc = .ok (.ishr, 1))  (k : Go p l e R s m args below meth c Z k0 ws wF own Q w vm0 h ce sl (mkF m (pc + 1) Ls (.int (x >>> (y &&& 31)) :: rest))) : Go p l e R s m args below meth c Z k0 ws wF own Q w vm0 h ce sl (mkF m (pc) Ls (.int y :: .int x :: rest)) :=
  Go.pure (fun T t A r => XT.ishr A K.1 rfl (hb K.2.1 hd) rfl  r) k
theorem iushr (K : Kit p m meth c bytes maxL ret nm) {pc : Nat} {x y : Int32} (hd : decode bytes pc = .ok (.iushr, 1))  (k : Go p l e R s m args below meth c Z k0 ws wF own Q w vm0 h ce sl (mkF m (pc + 1) Ls (.int (XT.ushr x y) :: rest))) : Go p l e R s m args below meth c Z k0 ws wF own Q w vm0 h ce sl (mkF m (pc) Ls (.int y :: .int x :: rest)) :=
  Go.pure (fun T t A r => XT.iushr A K.1 rfl (hb K.2.1 hd) rfl  r) k
theorem irem (K : Kit p m meth c bytes maxL ret nm) {pc : Nat} {x y : Int32} (hd : decode bytes pc = .ok (.irem, 1)) (hy : y ≠ 0) (k : Go p l e R s m args below meth c Z k0 ws wF own Q w vm0 h ce sl (mkF m (pc + 1) Ls (.int (x % y) :: rest))) : Go p l e R s m args below meth c Z k0 ws wF own Q w vm0 h ce sl (mkF m (pc) Ls (.int y :: .int x :: rest)) :=
  fun T locs X eT N hS hZ ho hw => by
    obtain ⟨U, o, hU, r⟩ := k T locs X eT N hS hZ ho hw
    exact ⟨U, o, iremM X K.1 rfl (hb K.2.1 hd) rfl hy hU, r⟩
theorem ineg (K : Kit p m meth c bytes maxL ret nm) {pc : Nat} {x : Int32} (hd : decode bytes pc = .ok (.ineg, 1))  (k : Go p l e R s m args below meth c Z k0 ws wF own Q w vm0 h ce sl (mkF m (pc + 1) Ls (.int (-x) :: rest))) : Go p l e R s m args below meth c Z k0 ws wF own Q w vm0 h ce sl (mkF m (pc) Ls (.int x :: rest)) :=
  Go.pure (fun T t A r => XS.ineg A K.1 rfl (hb K.2.1 hd) rfl  r) k
theorem ladd (K : Kit p m meth c bytes maxL ret nm) {pc : Nat} {x y : Int64} (hd : decode bytes pc = .ok (.ladd, 1))  (k : Go p l e R s m args below meth c Z k0 ws wF own Q w vm0 h ce sl (mkF m (pc + 1) Ls (.long (x + y) :: rest))) : Go p l e R s m args below meth c Z k0 ws wF own Q w vm0 h ce sl (mkF m (pc) Ls (.long y :: .long x :: rest)) :=
  Go.pure (fun T t A r => XT.ladd A K.1 rfl (hb K.2.1 hd) rfl  r) k
theorem lsub (K : Kit p m meth c bytes maxL ret nm) {pc : Nat} {x y : Int64} (hd : decode bytes pc = .ok (.lsub, 1))  (k : Go p l e R s m args below meth c Z k0 ws wF own Q w vm0 h ce sl (mkF m (pc + 1) Ls (.long (x - y) :: rest))) : Go p l e R s m args below meth c Z k0 ws wF own Q w vm0 h ce sl (mkF m (pc) Ls (.long y :: .long x :: rest)) :=
  Go.pure (fun T t A r => XT.lsub A K.1 rfl (hb K.2.1 hd) rfl  r) k
theorem lmul (K : Kit p m meth c bytes maxL ret nm) {pc : Nat} {x y : Int64} (hd : decode bytes pc = .ok (.lmul, 1))  (k : Go p l e R s m args below meth c Z k0 ws wF own Q w vm0 h ce sl (mkF m (pc + 1) Ls (.long (x * y) :: rest))) : Go p l e R s m args below meth c Z k0 ws wF own Q w vm0 h ce sl (mkF m (pc) Ls (.long y :: .long x :: rest)) :=
  Go.pure (fun T t A r => XT.lmul A K.1 rfl (hb K.2.1 hd) rfl  r) k
theorem land (K : Kit p m meth c bytes maxL ret nm) {pc : Nat} {x y : Int64} (hd : decode bytes pc = .ok (.land, 1))  (k : Go p l e R s m args below meth c Z k0 ws wF own Q w vm0 h ce sl (mkF m (pc + 1) Ls (.long (x &&& y) :: rest))) : Go p l e R s m args below meth c Z k0 ws wF own Q w vm0 h ce sl (mkF m (pc) Ls (.long y :: .long x :: rest)) :=
  Go.pure (fun T t A r => XT.land A K.1 rfl (hb K.2.1 hd) rfl  r) k
theorem lor (K : Kit p m meth c bytes maxL ret nm) {pc : Nat} {x y : Int64} (hd : decode bytes pc = .ok (.lor, 1))  (k : Go p l e R s m args below meth c Z k0 ws wF own Q w vm0 h ce sl (mkF m (pc + 1) Ls (.long (x ||| y) :: rest))) : Go p l e R s m args below meth c Z k0 ws wF own Q w vm0 h ce sl (mkF m (pc) Ls (.long y :: .long x :: rest)) :=
  Go.pure (fun T t A r => XT.lor A K.1 rfl (hb K.2.1 hd) rfl  r) k
theorem lxor (K : Kit p m meth c bytes maxL ret nm) {pc : Nat} {x y : Int64} (hd : decode bytes pc = .ok (.lxor, 1))  (k : Go p l e R s m args below meth c Z k0 ws wF own Q w vm0 h ce sl (mkF m (pc + 1) Ls (.long (x ^^^ y) :: rest))) : Go p l e R s m args below meth c Z k0 ws wF own Q w vm0 h ce sl (mkF m (pc) Ls (.long y :: .long x :: rest)) :=
  Go.pure (fun T t A r => XT.lxor A K.1 rfl (hb K.2.1 hd) rfl  r) k
theorem lrem (K : Kit p m meth c bytes maxL ret nm) {pc : Nat} {x y : Int64} (hd : decode bytes pc = .ok (.lrem, 1)) (hy : y ≠ 0) (k : Go p l e R s m args below meth c Z k0 ws wF own Q w vm0 h ce sl (mkF m (pc + 1) Ls (.long (x - (x / y) * y) :: rest))) : Go p l e R s m args below meth c Z k0 ws wF own Q w vm0 h ce sl (mkF m (pc) Ls (.long y :: .long x :: rest)) :=
  Go.pure (fun T t A r => XT.lrem A K.1 rfl (hb K.2.1 hd) rfl hy r) k
theorem lcmp (K : Kit p m meth c bytes maxL ret nm) {pc : Nat} {x y : Int64} (hd : decode bytes pc = .ok (.lcmp, 1))  (k : Go p l e R s m args below meth c Z k0 ws wF own Q w vm0 h ce sl (mkF m (pc + 1) Ls (.int (XT.cmpL x y) :: rest))) : Go p l e R s m args below meth c Z k0 ws wF own Q w vm0 h ce sl (mkF m (pc) Ls (.long y :: .long x :: rest)) :=
  Go.pure (fun T t A r => XT.lcmp A K.1 rfl (hb K.2.1 hd) rfl  r) k
theorem i2l (K : Kit p m meth c bytes maxL ret nm) {pc : Nat} {x : Int32} (hd : decode bytes pc = .ok (.i2l, 1))  (k : Go p l e R s m args below meth c Z k0 ws wF own Q w vm0 h ce sl (mkF m (pc + 1) Ls (.long x.toInt64 :: rest))) : Go p l e R s m args below meth c Z k0 ws wF own Q w vm0 h ce sl (mkF m (pc) Ls (.int x :: rest)) :=
  Go.pure (fun T t A r => XT.i2l A K.1 rfl (hb K.2.1 hd) rfl  r) k
theorem l2i (K : Kit p m meth c bytes maxL ret nm) {pc : Nat} {x : Int64} (hd : decode bytes pc = .ok (.l2i, 1))  (k : Go p l e R s m args below meth c Z k0 ws wF own Q w vm0 h ce sl (mkF m (pc + 1) Ls (.int x.toInt32 :: rest))) : Go p l e R s m args below meth c Z k0 ws wF own Q w vm0 h ce sl (mkF m (pc) Ls (.long x :: rest)) :=
  Go.pure (fun T t A r => XT.l2i A K.1 rfl (hb K.2.1 hd) rfl  r) k
theorem i2b (K : Kit p m meth c bytes maxL ret nm) {pc : Nat} {x : Int32} (hd : decode bytes pc = .ok (.i2b, 1))  (k : Go p l e R s m args below meth c Z k0 ws wF own Q w vm0 h ce sl (mkF m (pc + 1) Ls (.int x.toInt8.toInt32 :: rest))) : Go p l e R s m args below meth c Z k0 ws wF own Q w vm0 h ce sl (mkF m (pc) Ls (.int x :: rest)) :=
  Go.pure (fun T t A r => XT.i2b A K.1 rfl (hb K.2.1 hd) rfl  r) k
theorem i2c (K : Kit p m meth c bytes maxL ret nm) {pc : Nat} {x : Int32} (hd : decode bytes pc = .ok (.i2c, 1))  (k : Go p l e R s m args below meth c Z k0 ws wF own Q w vm0 h ce sl (mkF m (pc + 1) Ls (.int x.toUInt32.toUInt16.toUInt32.toInt32 :: rest))) : Go p l e R s m args below meth c Z k0 ws wF own Q w vm0 h ce sl (mkF m (pc) Ls (.int x :: rest)) :=
  Go.pure (fun T t A r => XT.i2c A K.1 rfl (hb K.2.1 hd) rfl  r) k
theorem dup (K : Kit p m meth c bytes maxL ret nm) {pc : Nat} {x : Value} (hd : decode bytes pc = .ok (.dup, 1)) (hc : x.category = 1) (k : Go p l e R s m args below meth c Z k0 ws wF own Q w vm0 h ce sl (mkF m (pc + 1) Ls (x :: x :: rest))) : Go p l e R s m args below meth c Z k0 ws wF own Q w vm0 h ce sl (mkF m (pc) Ls (x :: rest)) :=
  Go.pure (fun T t A r => XS.dup A K.1 rfl (hb K.2.1 hd) rfl hc r) k
theorem pop (K : Kit p m meth c bytes maxL ret nm) {pc : Nat} {x : Value} (hd : decode bytes pc = .ok (.pop, 1)) (hc : x.category = 1) (k : Go p l e R s m args below meth c Z k0 ws wF own Q w vm0 h ce sl (mkF m (pc + 1) Ls (rest))) : Go p l e R s m args below meth c Z k0 ws wF own Q w vm0 h ce sl (mkF m (pc) Ls (x :: rest)) :=
  Go.pure (fun T t A r => XT.pop A K.1 rfl (hb K.2.1 hd) rfl hc r) k
theorem dupX1 (K : Kit p m meth c bytes maxL ret nm) {pc : Nat} {x y : Value} (hd : decode bytes pc = .ok (.dup_x1, 1)) (hc : x.category = 1) (hc' : y.category = 1) (k : Go p l e R s m args below meth c Z k0 ws wF own Q w vm0 h ce sl (mkF m (pc + 1) Ls (x :: y :: x :: rest))) : Go p l e R s m args below meth c Z k0 ws wF own Q w vm0 h ce sl (mkF m (pc) Ls (x :: y :: rest)) :=
  Go.pure (fun T t A r => XT.dupX1 A K.1 rfl (hb K.2.1 hd) rfl hc hc' r) k
theorem dup2 (K : Kit p m meth c bytes maxL ret nm) {pc : Nat} {x y : Value} (hd : decode bytes pc = .ok (.dup2, 1)) (hc : x.category = 1) (hc' : y.category = 1) (k : Go p l e R s m args below meth c Z k0 ws wF own Q w vm0 h ce sl (mkF m (pc + 1) Ls (x :: y :: x :: y :: rest))) : Go p l e R s m args below meth c Z k0 ws wF own Q w vm0 h ce sl (mkF m (pc) Ls (x :: y :: rest)) :=
  Go.pure (fun T t A r => XT.dup2 A K.1 rfl (hb K.2.1 hd) rfl hc hc' r) k
theorem iinc (K : Kit p m meth c bytes maxL ret nm) {pc : Nat} {k : Nat} {cst : Int} {x y : Int32} {l' : Array Slot} (hd : decode bytes pc = .ok (.iinc k cst, 3)) (hl : Ls[k]? = some (.val (.int x))) (hv : x + Int32.ofInt cst = y) (hl' : storeLocals Ls k (.int y) = some l') (k : Go p l e R s m args below meth c Z k0 ws wF own Q w vm0 h ce sl (mkF m (pc + 3) l' (st))) : Go p l e R s m args below meth c Z k0 ws wF own Q w vm0 h ce sl (mkF m (pc) Ls (st)) :=
  Go.pure (fun T t A r => XS.iinc A K.1 rfl (hb K.2.1 hd) hl (hv ▸ hl') r) k
theorem goto (K : Kit p m meth c bytes maxL ret nm) {pc pc' : Nat} {o : Int} (hd : decode bytes pc = .ok (.goto o, 3)) (hp : 0 ≤ (pc : Int) + o ∧ ((pc : Int) + o).toNat = pc') (k : Go p l e R s m args below meth c Z k0 ws wF own Q w vm0 h ce sl (mkF m (pc') Ls (st))) : Go p l e R s m args below meth c Z k0 ws wF own Q w vm0 h ce sl (mkF m (pc) Ls (st)) :=
  Go.pure (fun T t A r => XS.goto A K.1 rfl rfl (hb K.2.1 hd) hp.1 hp.2 r) k
theorem icmp_eq_y (K : Kit p m meth c bytes maxL ret nm) {pc pc' : Nat} {o : Int} {x y : Int32} (hd : decode bytes pc = .ok (.if_icmp .eq o, 3)) (hp : 0 ≤ (pc : Int) + o ∧ ((pc : Int) + o).toNat = pc') (q : x = y) (k : Go p l e R s m args below meth c Z k0 ws wF own Q w vm0 h ce sl (mkF m (pc') Ls (rest))) : Go p l e R s m args below meth c Z k0 ws wF own Q w vm0 h ce sl (mkF m (pc) Ls (.int y :: .int x :: rest)) :=
  Go.pure (fun T t A r => XS.icmpYes A K.1 rfl rfl (hb K.2.1 hd) rfl (teq q).1 hp.1 hp.2 r) k
theorem icmp_eq_n (K : Kit p m meth c bytes maxL ret nm) {pc : Nat} {o : Int} {x y : Int32} (hd : decode bytes pc = .ok (.if_icmp .eq o, 3)) (q : ¬ x = y) (k : Go p l e R s m args below meth c Z k0 ws wF own Q w vm0 h ce sl (mkF m (pc + 3) Ls (rest))) : Go p l e R s m args below meth c Z k0 ws wF own Q w vm0 h ce sl (mkF m (pc) Ls (.int y :: .int x :: rest)) :=
  Go.pure (fun T t A r => XS.icmpNo A K.1 rfl (hb K.2.1 hd) rfl (feq q).1 r) k
theorem icmp_eq (K : Kit p m meth c bytes maxL ret nm) {pc pc' : Nat} {o : Int} {x y : Int32} (hd : decode bytes pc = .ok (.if_icmp .eq o, 3)) (hp : 0 ≤ (pc : Int) + o ∧ ((pc : Int) + o).toNat = pc') (k1 : x = y → Go p l e R s m args below meth c Z k0 ws wF own Q w vm0 h ce sl (mkF m (pc') Ls (rest))) (k2 : ¬ x = y → Go p l e R s m args below meth c Z k0 ws wF own Q w vm0 h ce sl (mkF m (pc + 3) Ls (rest))) : Go p l e R s m args below meth c Z k0 ws wF own Q w vm0 h ce sl (mkF m (pc) Ls (.int y :: .int x :: rest)) :=
  (Classical.em (x = y)).elim (fun q => icmp_eq_y K hd hp q (k1 q)) (fun q => icmp_eq_n K hd (by first | exact q | exact Classical.not_not.mp q) (k2 (by first | exact q | exact Classical.not_not.mp q)))
theorem if_eq_y (K : Kit p m meth c bytes maxL ret nm) {pc pc' : Nat} {o : Int} {x : Int32} (hd : decode bytes pc = .ok (.ifCond .eq o, 3)) (hp : 0 ≤ (pc : Int) + o ∧ ((pc : Int) + o).toNat = pc') (q : x = (0 : Int32)) (k : Go p l e R s m args below meth c Z k0 ws wF own Q w vm0 h ce sl (mkF m (pc') Ls (rest))) : Go p l e R s m args below meth c Z k0 ws wF own Q w vm0 h ce sl (mkF m (pc) Ls (.int x :: rest)) :=
  Go.pure (fun T t A r => XS.ifYes A K.1 rfl rfl (hb K.2.1 hd) rfl ((if0 _ _).trans (teq q).1) hp.1 hp.2 r) k
theorem if_eq_n (K : Kit p m meth c bytes maxL ret nm) {pc : Nat} {o : Int} {x : Int32} (hd : decode bytes pc = .ok (.ifCond .eq o, 3)) (q : ¬ x = (0 : Int32)) (k : Go p l e R s m args below meth c Z k0 ws wF own Q w vm0 h ce sl (mkF m (pc + 3) Ls (rest))) : Go p l e R s m args below meth c Z k0 ws wF own Q w vm0 h ce sl (mkF m (pc) Ls (.int x :: rest)) :=
  Go.pure (fun T t A r => XS.ifNo A K.1 rfl (hb K.2.1 hd) rfl ((if0 _ _).trans (feq q).1) r) k
theorem if_eq (K : Kit p m meth c bytes maxL ret nm) {pc pc' : Nat} {o : Int} {x : Int32} (hd : decode bytes pc = .ok (.ifCond .eq o, 3)) (hp : 0 ≤ (pc : Int) + o ∧ ((pc : Int) + o).toNat = pc') (k1 : x = (0 : Int32) → Go p l e R s m args below meth c Z k0 ws wF own Q w vm0 h ce sl (mkF m (pc') Ls (rest))) (k2 : ¬ x = (0 : Int32) → Go p l e R s m args below meth c Z k0 ws wF own Q w vm0 h ce sl (mkF m (pc + 3) Ls (rest))) : Go p l e R s m args below meth c Z k0 ws wF own Q w vm0 h ce sl (mkF m (pc) Ls (.int x :: rest)) :=
  (Classical.em (x = (0 : Int32))).elim (fun q => if_eq_y K hd hp q (k1 q)) (fun q => if_eq_n K hd (by first | exact q | exact Classical.not_not.mp q) (k2 (by first | exact q | exact Classical.not_not.mp q)))
theorem icmp_ne_y (K : Kit p m meth c bytes maxL ret nm) {pc pc' : Nat} {o : Int} {x y : Int32} (hd : decode bytes pc = .ok (.if_icmp .ne o, 3)) (hp : 0 ≤ (pc : Int) + o ∧ ((pc : Int) + o).toNat = pc') (q : ¬ x = y) (k : Go p l e R s m args below meth c Z k0 ws wF own Q w vm0 h ce sl (mkF m (pc') Ls (rest))) : Go p l e R s m args below meth c Z k0 ws wF own Q w vm0 h ce sl (mkF m (pc) Ls (.int y :: .int x :: rest)) :=
  Go.pure (fun T t A r => XS.icmpYes A K.1 rfl rfl (hb K.2.1 hd) rfl (feq q).2 hp.1 hp.2 r) k
theorem icmp_ne_n (K : Kit p m meth c bytes maxL ret nm) {pc : Nat} {o : Int} {x y : Int32} (hd : decode bytes pc = .ok (.if_icmp .ne o, 3)) (q : x = y) (k : Go p l e R s m args below meth c Z k0 ws wF own Q w vm0 h ce sl (mkF m (pc + 3) Ls (rest))) : Go p l e R s m args below meth c Z k0 ws wF own Q w vm0 h ce sl (mkF m (pc) Ls (.int y :: .int x :: rest)) :=
  Go.pure (fun T t A r => XS.icmpNo A K.1 rfl (hb K.2.1 hd) rfl (teq q).2 r) k
theorem icmp_ne (K : Kit p m meth c bytes maxL ret nm) {pc pc' : Nat} {o : Int} {x y : Int32} (hd : decode bytes pc = .ok (.if_icmp .ne o, 3)) (hp : 0 ≤ (pc : Int) + o ∧ ((pc : Int) + o).toNat = pc') (k1 : ¬ x = y → Go p l e R s m args below meth c Z k0 ws wF own Q w vm0 h ce sl (mkF m (pc') Ls (rest))) (k2 : x = y → Go p l e R s m args below meth c Z k0 ws wF own Q w vm0 h ce sl (mkF m (pc + 3) Ls (rest))) : Go p l e R s m args below meth c Z k0 ws wF own Q w vm0 h ce sl (mkF m (pc) Ls (.int y :: .int x :: rest)) :=
  (Classical.em (¬ x = y)).elim (fun q => icmp_ne_y K hd hp q (k1 q)) (fun q => icmp_ne_n K hd (by first | exact q | exact Classical.not_not.mp q) (k2 (by first | exact q | exact Classical.not_not.mp q)))
theorem if_ne_y (K : Kit p m meth c bytes maxL ret nm) {pc pc' : Nat} {o : Int} {x : Int32} (hd : decode bytes pc = .ok (.ifCond .ne o, 3)) (hp : 0 ≤ (pc : Int) + o ∧ ((pc : Int) + o).toNat = pc') (q : ¬ x = (0 : Int32)) (k : Go p l e R s m args below meth c Z k0 ws wF own Q w vm0 h ce sl (mkF m (pc') Ls (rest))) : Go p l e R s m args below meth c Z k0 ws wF own Q w vm0 h ce sl (mkF m (pc) Ls (.int x :: rest)) :=
  Go.pure (fun T t A r => XS.ifYes A K.1 rfl rfl (hb K.2.1 hd) rfl ((if0 _ _).trans (feq q).2) hp.1 hp.2 r) k
theorem if_ne_n (K : Kit p m meth c bytes maxL ret nm) {pc : Nat} {o : Int} {x : Int32} (hd : decode bytes pc = .ok (.ifCond .ne o, 3)) (q : x = (0 : Int32)) (k : Go p l e R s m args below meth c Z k0 ws wF own Q w vm0 h ce sl (mkF m (pc + 3) Ls (rest))) : Go p l e R s m args below meth c Z k0 ws wF own Q w vm0 h ce sl (mkF m (pc) Ls (.int x :: rest)) :=
  Go.pure (fun T t A r => XS.ifNo A K.1 rfl (hb K.2.1 hd) rfl ((if0 _ _).trans (teq q).2) r) k
theorem if_ne (K : Kit p m meth c bytes maxL ret nm) {pc pc' : Nat} {o : Int} {x : Int32} (hd : decode bytes pc = .ok (.ifCond .ne o, 3)) (hp : 0 ≤ (pc : Int) + o ∧ ((pc : Int) + o).toNat = pc') (k1 : ¬ x = (0 : Int32) → Go p l e R s m args below meth c Z k0 ws wF own Q w vm0 h ce sl (mkF m (pc') Ls (rest))) (k2 : x = (0 : Int32) → Go p l e R s m args below meth c Z k0 ws wF own Q w vm0 h ce sl (mkF m (pc + 3) Ls (rest))) : Go p l e R s m args below meth c Z k0 ws wF own Q w vm0 h ce sl (mkF m (pc) Ls (.int x :: rest)) :=
  (Classical.em (¬ x = (0 : Int32))).elim (fun q => if_ne_y K hd hp q (k1 q)) (fun q => if_ne_n K hd (by first | exact q | exact Classical.not_not.mp q) (k2 (by first | exact q | exact Classical.not_not.mp q)))
theorem icmp_lt_y (K : Kit p m meth c bytes maxL ret nm) {pc pc' : Nat} {o : Int} {x y : Int32} (hd : decode bytes pc = .ok (.if_icmp .lt o, 3)) (hp : 0 ≤ (pc : Int) + o ∧ ((pc : Int) + o).toNat = pc') (q : x < y) (k : Go p l e R s m args below meth c Z k0 ws wF own Q w vm0 h ce sl (mkF m (pc') Ls (rest))) : Go p l e R s m args below meth c Z k0 ws wF own Q w vm0 h ce sl (mkF m (pc) Ls (.int y :: .int x :: rest)) :=
  Go.pure (fun T t A r => XS.icmpYes A K.1 rfl rfl (hb K.2.1 hd) rfl (tlt q).1 hp.1 hp.2 r) k
theorem icmp_lt_n (K : Kit p m meth c bytes maxL ret nm) {pc : Nat} {o : Int} {x y : Int32} (hd : decode bytes pc = .ok (.if_icmp .lt o, 3)) (q : ¬ x < y) (k : Go p l e R s m args below meth c Z k0 ws wF own Q w vm0 h ce sl (mkF m (pc + 3) Ls (rest))) : Go p l e R s m args below meth c Z k0 ws wF own Q w vm0 h ce sl (mkF m (pc) Ls (.int y :: .int x :: rest)) :=
  Go.pure (fun T t A r => XS.icmpNo A K.1 rfl (hb K.2.1 hd) rfl (flt q).1 r) k
theorem icmp_lt (K : Kit p m meth c bytes maxL ret nm) {pc pc' : Nat} {o : Int} {x y : Int32} (hd : decode bytes pc = .ok (.if_icmp .lt o, 3)) (hp : 0 ≤ (pc : Int) + o ∧ ((pc : Int) + o).toNat = pc') (k1 : x < y → Go p l e R s m args below meth c Z k0 ws wF own Q w vm0 h ce sl (mkF m (pc') Ls (rest))) (k2 : ¬ x < y → Go p l e R s m args below meth c Z k0 ws wF own Q w vm0 h ce sl (mkF m (pc + 3) Ls (rest))) : Go p l e R s m args below meth c Z k0 ws wF own Q w vm0 h ce sl (mkF m (pc) Ls (.int y :: .int x :: rest)) :=
  (Classical.em (x < y)).elim (fun q => icmp_lt_y K hd hp q (k1 q)) (fun q => icmp_lt_n K hd (by first | exact q | exact Classical.not_not.mp q) (k2 (by first | exact q | exact Classical.not_not.mp q)))
theorem if_lt_y (K : Kit p m meth c bytes maxL ret nm) {pc pc' : Nat} {o : Int} {x : Int32} (hd : decode bytes pc = .ok (.ifCond .lt o, 3)) (hp : 0 ≤ (pc : Int) + o ∧ ((pc : Int) + o).toNat = pc') (q : x < (0 : Int32)) (k : Go p l e R s m args below meth c Z k0 ws wF own Q w vm0 h ce sl (mkF m (pc') Ls (rest))) : Go p l e R s m args below meth c Z k0 ws wF own Q w vm0 h ce sl (mkF m (pc) Ls (.int x :: rest)) :=
  Go.pure (fun T t A r => XS.ifYes A K.1 rfl rfl (hb K.2.1 hd) rfl ((if0 _ _).trans (tlt q).1) hp.1 hp.2 r) k
theorem if_lt_n (K : Kit p m meth c bytes maxL ret nm) {pc : Nat} {o : Int} {x : Int32} (hd : decode bytes pc = .ok (.ifCond .lt o, 3)) (q : ¬ x < (0 : Int32)) (k : Go p l e R s m args below meth c Z k0 ws wF own Q w vm0 h ce sl (mkF m (pc + 3) Ls (rest))) : Go p l e R s m args below meth c Z k0 ws wF own Q w vm0 h ce sl (mkF m (pc) Ls (.int x :: rest)) :=
  Go.pure (fun T t A r => XS.ifNo A K.1 rfl (hb K.2.1 hd) rfl ((if0 _ _).trans (flt q).1) r) k
theorem if_lt (K : Kit p m meth c bytes maxL ret nm) {pc pc' : Nat} {o : Int} {x : Int32} (hd : decode bytes pc = .ok (.ifCond .lt o, 3)) (hp : 0 ≤ (pc : Int) + o ∧ ((pc : Int) + o).toNat = pc') (k1 : x < (0 : Int32) → Go p l e R s m args below meth c Z k0 ws wF own Q w vm0 h ce sl (mkF m (pc') Ls (rest))) (k2 : ¬ x < (0 : Int32) → Go p l e R s m args below meth c Z k0 ws wF own Q w vm0 h ce sl (mkF m (pc + 3) Ls (rest))) : Go p l e R s m args below meth c Z k0 ws wF own Q w vm0 h ce sl (mkF m (pc) Ls (.int x :: rest)) :=
  (Classical.em (x < (0 : Int32))).elim (fun q => if_lt_y K hd hp q (k1 q)) (fun q => if_lt_n K hd (by first | exact q | exact Classical.not_not.mp q) (k2 (by first | exact q | exact Classical.not_not.mp q)))
theorem icmp_ge_y (K : Kit p m meth c bytes maxL ret nm) {pc pc' : Nat} {o : Int} {x y : Int32} (hd : decode bytes pc = .ok (.if_icmp .ge o, 3)) (hp : 0 ≤ (pc : Int) + o ∧ ((pc : Int) + o).toNat = pc') (q : ¬ x < y) (k : Go p l e R s m args below meth c Z k0 ws wF own Q w vm0 h ce sl (mkF m (pc') Ls (rest))) : Go p l e R s m args below meth c Z k0 ws wF own Q w vm0 h ce sl (mkF m (pc) Ls (.int y :: .int x :: rest)) :=
  Go.pure (fun T t A r => XS.icmpYes A K.1 rfl rfl (hb K.2.1 hd) rfl (flt q).2.1 hp.1 hp.2 r) k
theorem icmp_ge_n (K : Kit p m meth c bytes maxL ret nm) {pc : Nat} {o : Int} {x y : Int32} (hd : decode bytes pc = .ok (.if_icmp .ge o, 3)) (q : x < y) (k : Go p l e R s m args below meth c Z k0 ws wF own Q w vm0 h ce sl (mkF m (pc + 3) Ls (rest))) : Go p l e R s m args below meth c Z k0 ws wF own Q w vm0 h ce sl (mkF m (pc) Ls (.int y :: .int x :: rest)) :=
  Go.pure (fun T t A r => XS.icmpNo A K.1 rfl (hb K.2.1 hd) rfl (tlt q).2.1 r) k
theorem icmp_ge (K : Kit p m meth c bytes maxL ret nm) {pc pc' : Nat} {o : Int} {x y : Int32} (hd : decode bytes pc = .ok (.if_icmp .ge o, 3)) (hp : 0 ≤ (pc : Int) + o ∧ ((pc : Int) + o).toNat = pc') (k1 : ¬ x < y → Go p l e R s m args below meth c Z k0 ws wF own Q w vm0 h ce sl (mkF m (pc') Ls (rest))) (k2 : x < y → Go p l e R s m args below meth c Z k0 ws wF own Q w vm0 h ce sl (mkF m (pc + 3) Ls (rest))) : Go p l e R s m args below meth c Z k0 ws wF own Q w vm0 h ce sl (mkF m (pc) Ls (.int y :: .int x :: rest)) :=
  (Classical.em (¬ x < y)).elim (fun q => icmp_ge_y K hd hp q (k1 q)) (fun q => icmp_ge_n K hd (by first | exact q | exact Classical.not_not.mp q) (k2 (by first | exact q | exact Classical.not_not.mp q)))
theorem if_ge_y (K : Kit p m meth c bytes maxL ret nm) {pc pc' : Nat} {o : Int} {x : Int32} (hd : decode bytes pc = .ok (.ifCond .ge o, 3)) (hp : 0 ≤ (pc : Int) + o ∧ ((pc : Int) + o).toNat = pc') (q : ¬ x < (0 : Int32)) (k : Go p l e R s m args below meth c Z k0 ws wF own Q w vm0 h ce sl (mkF m (pc') Ls (rest))) : Go p l e R s m args below meth c Z k0 ws wF own Q w vm0 h ce sl (mkF m (pc) Ls (.int x :: rest)) :=
  Go.pure (fun T t A r => XS.ifYes A K.1 rfl rfl (hb K.2.1 hd) rfl ((if0 _ _).trans (flt q).2.1) hp.1 hp.2 r) k
theorem if_ge_n (K : Kit p m meth c bytes maxL ret nm) {pc : Nat} {o : Int} {x : Int32} (hd : decode bytes pc = .ok (.ifCond .ge o, 3)) (q : x < (0 : Int32)) (k : Go p l e R s m args below meth c Z k0 ws wF own Q w vm0 h ce sl (mkF m (pc + 3) Ls (rest))) : Go p l e R s m args below meth c Z k0 ws wF own Q w vm0 h ce sl (mkF m (pc) Ls (.int x :: rest)) :=
  Go.pure (fun T t A r => XS.ifNo A K.1 rfl (hb K.2.1 hd) rfl ((if0 _ _).trans (tlt q).2.1) r) k
theorem if_ge (K : Kit p m meth c bytes maxL ret nm) {pc pc' : Nat} {o : Int} {x : Int32} (hd : decode bytes pc = .ok (.ifCond .ge o, 3)) (hp : 0 ≤ (pc : Int) + o ∧ ((pc : Int) + o).toNat = pc') (k1 : ¬ x < (0 : Int32) → Go p l e R s m args below meth c Z k0 ws wF own Q w vm0 h ce sl (mkF m (pc') Ls (rest))) (k2 : x < (0 : Int32) → Go p l e R s m args below meth c Z k0 ws wF own Q w vm0 h ce sl (mkF m (pc + 3) Ls (rest))) : Go p l e R s m args below meth c Z k0 ws wF own Q w vm0 h ce sl (mkF m (pc) Ls (.int x :: rest)) :=
  (Classical.em (¬ x < (0 : Int32))).elim (fun q => if_ge_y K hd hp q (k1 q)) (fun q => if_ge_n K hd (by first | exact q | exact Classical.not_not.mp q) (k2 (by first | exact q | exact Classical.not_not.mp q)))
theorem icmp_gt_y (K : Kit p m meth c bytes maxL ret nm) {pc pc' : Nat} {o : Int} {x y : Int32} (hd : decode bytes pc = .ok (.if_icmp .gt o, 3)) (hp : 0 ≤ (pc : Int) + o ∧ ((pc : Int) + o).toNat = pc') (q : y < x) (k : Go p l e R s m args below meth c Z k0 ws wF own Q w vm0 h ce sl (mkF m (pc') Ls (rest))) : Go p l e R s m args below meth c Z k0 ws wF own Q w vm0 h ce sl (mkF m (pc) Ls (.int y :: .int x :: rest)) :=
  Go.pure (fun T t A r => XS.icmpYes A K.1 rfl rfl (hb K.2.1 hd) rfl (tlt q).2.2.1 hp.1 hp.2 r) k
theorem icmp_gt_n (K : Kit p m meth c bytes maxL ret nm) {pc : Nat} {o : Int} {x y : Int32} (hd : decode bytes pc = .ok (.if_icmp .gt o, 3)) (q : ¬ y < x) (k : Go p l e R s m args below meth c Z k0 ws wF own Q w vm0 h ce sl (mkF m (pc + 3) Ls (rest))) : Go p l e R s m args below meth c Z k0 ws wF own Q w vm0 h ce sl (mkF m (pc) Ls (.int y :: .int x :: rest)) :=
  Go.pure (fun T t A r => XS.icmpNo A K.1 rfl (hb K.2.1 hd) rfl (flt q).2.2.1 r) k
theorem icmp_gt (K : Kit p m meth c bytes maxL ret nm) {pc pc' : Nat} {o : Int} {x y : Int32} (hd : decode bytes pc = .ok (.if_icmp .gt o, 3)) (hp : 0 ≤ (pc : Int) + o ∧ ((pc : Int) + o).toNat = pc') (k1 : y < x → Go p l e R s m args below meth c Z k0 ws wF own Q w vm0 h ce sl (mkF m (pc') Ls (rest))) (k2 : ¬ y < x → Go p l e R s m args below meth c Z k0 ws wF own Q w vm0 h ce sl (mkF m (pc + 3) Ls (rest))) : Go p l e R s m args below meth c Z k0 ws wF own Q w vm0 h ce sl (mkF m (pc) Ls (.int y :: .int x :: rest)) :=
  (Classical.em (y < x)).elim (fun q => icmp_gt_y K hd hp q (k1 q)) (fun q => icmp_gt_n K hd (by first | exact q | exact Classical.not_not.mp q) (k2 (by first | exact q | exact Classical.not_not.mp q)))
theorem if_gt_y (K : Kit p m meth c bytes maxL ret nm) {pc pc' : Nat} {o : Int} {x : Int32} (hd : decode bytes pc = .ok (.ifCond .gt o, 3)) (hp : 0 ≤ (pc : Int) + o ∧ ((pc : Int) + o).toNat = pc') (q : (0 : Int32) < x) (k : Go p l e R s m args below meth c Z k0 ws wF own Q w vm0 h ce sl (mkF m (pc') Ls (rest))) : Go p l e R s m args below meth c Z k0 ws wF own Q w vm0 h ce sl (mkF m (pc) Ls (.int x :: rest)) :=
  Go.pure (fun T t A r => XS.ifYes A K.1 rfl rfl (hb K.2.1 hd) rfl ((if0 _ _).trans (tlt q).2.2.1) hp.1 hp.2 r) k
theorem if_gt_n (K : Kit p m meth c bytes maxL ret nm) {pc : Nat} {o : Int} {x : Int32} (hd : decode bytes pc = .ok (.ifCond .gt o, 3)) (q : ¬ (0 : Int32) < x) (k : Go p l e R s m args below meth c Z k0 ws wF own Q w vm0 h ce sl (mkF m (pc + 3) Ls (rest))) : Go p l e R s m args below meth c Z k0 ws wF own Q w vm0 h ce sl (mkF m (pc) Ls (.int x :: rest)) :=
  Go.pure (fun T t A r => XS.ifNo A K.1 rfl (hb K.2.1 hd) rfl ((if0 _ _).trans (flt q).2.2.1) r) k
theorem if_gt (K : Kit p m meth c bytes maxL ret nm) {pc pc' : Nat} {o : Int} {x : Int32} (hd : decode bytes pc = .ok (.ifCond .gt o, 3)) (hp : 0 ≤ (pc : Int) + o ∧ ((pc : Int) + o).toNat = pc') (k1 : (0 : Int32) < x → Go p l e R s m args below meth c Z k0 ws wF own Q w vm0 h ce sl (mkF m (pc') Ls (rest))) (k2 : ¬ (0 : Int32) < x → Go p l e R s m args below meth c Z k0 ws wF own Q w vm0 h ce sl (mkF m (pc + 3) Ls (rest))) : Go p l e R s m args below meth c Z k0 ws wF own Q w vm0 h ce sl (mkF m (pc) Ls (.int x :: rest)) :=
  (Classical.em ((0 : Int32) < x)).elim (fun q => if_gt_y K hd hp q (k1 q)) (fun q => if_gt_n K hd (by first | exact q | exact Classical.not_not.mp q) (k2 (by first | exact q | exact Classical.not_not.mp q)))
theorem icmp_le_y (K : Kit p m meth c bytes maxL ret nm) {pc pc' : Nat} {o : Int} {x y : Int32} (hd : decode bytes pc = .ok (.if_icmp .le o, 3)) (hp : 0 ≤ (pc : Int) + o ∧ ((pc : Int) + o).toNat = pc') (q : ¬ y < x) (k : Go p l e R s m args below meth c Z k0 ws wF own Q w vm0 h ce sl (mkF m (pc') Ls (rest))) : Go p l e R s m args below meth c Z k0 ws wF own Q w vm0 h ce sl (mkF m (pc) Ls (.int y :: .int x :: rest)) :=
  Go.pure (fun T t A r => XS.icmpYes A K.1 rfl rfl (hb K.2.1 hd) rfl (flt q).2.2.2 hp.1 hp.2 r) k
theorem icmp_le_n (K : Kit p m meth c bytes maxL ret nm) {pc : Nat} {o : Int} {x y : Int32} (hd : decode bytes pc = .ok (.if_icmp .le o, 3)) (q : y < x) (k : Go p l e R s m args below meth c Z k0 ws wF own Q w vm0 h ce sl (mkF m (pc + 3) Ls (rest))) : Go p l e R s m args below meth c Z k0 ws wF own Q w vm0 h ce sl (mkF m (pc) Ls (.int y :: .int x :: rest)) :=
  Go.pure (fun T t A r => XS.icmpNo A K.1 rfl (hb K.2.1 hd) rfl (tlt q).2.2.2 r) k
theorem icmp_le (K : Kit p m meth c bytes maxL ret nm) {pc pc' : Nat} {o : Int} {x y : Int32} (hd : decode bytes pc = .ok (.if_icmp .le o, 3)) (hp : 0 ≤ (pc : Int) + o ∧ ((pc : Int) + o).toNat = pc') (k1 : ¬ y < x → Go p l e R s m args below meth c Z k0 ws wF own Q w vm0 h ce sl (mkF m (pc') Ls (rest))) (k2 : y < x → Go p l e R s m args below meth c Z k0 ws wF own Q w vm0 h ce sl (mkF m (pc + 3) Ls (rest))) : Go p l e R s m args below meth c Z k0 ws wF own Q w vm0 h ce sl (mkF m (pc) Ls (.int y :: .int x :: rest)) :=
  (Classical.em (¬ y < x)).elim (fun q => icmp_le_y K hd hp q (k1 q)) (fun q => icmp_le_n K hd (by first | exact q | exact Classical.not_not.mp q) (k2 (by first | exact q | exact Classical.not_not.mp q)))
theorem if_le_y (K : Kit p m meth c bytes maxL ret nm) {pc pc' : Nat} {o : Int} {x : Int32} (hd : decode bytes pc = .ok (.ifCond .le o, 3)) (hp : 0 ≤ (pc : Int) + o ∧ ((pc : Int) + o).toNat = pc') (q : ¬ (0 : Int32) < x) (k : Go p l e R s m args below meth c Z k0 ws wF own Q w vm0 h ce sl (mkF m (pc') Ls (rest))) : Go p l e R s m args below meth c Z k0 ws wF own Q w vm0 h ce sl (mkF m (pc) Ls (.int x :: rest)) :=
  Go.pure (fun T t A r => XS.ifYes A K.1 rfl rfl (hb K.2.1 hd) rfl ((if0 _ _).trans (flt q).2.2.2) hp.1 hp.2 r) k
theorem if_le_n (K : Kit p m meth c bytes maxL ret nm) {pc : Nat} {o : Int} {x : Int32} (hd : decode bytes pc = .ok (.ifCond .le o, 3)) (q : (0 : Int32) < x) (k : Go p l e R s m args below meth c Z k0 ws wF own Q w vm0 h ce sl (mkF m (pc + 3) Ls (rest))) : Go p l e R s m args below meth c Z k0 ws wF own Q w vm0 h ce sl (mkF m (pc) Ls (.int x :: rest)) :=
  Go.pure (fun T t A r => XS.ifNo A K.1 rfl (hb K.2.1 hd) rfl ((if0 _ _).trans (tlt q).2.2.2) r) k
theorem if_le (K : Kit p m meth c bytes maxL ret nm) {pc pc' : Nat} {o : Int} {x : Int32} (hd : decode bytes pc = .ok (.ifCond .le o, 3)) (hp : 0 ≤ (pc : Int) + o ∧ ((pc : Int) + o).toNat = pc') (k1 : ¬ (0 : Int32) < x → Go p l e R s m args below meth c Z k0 ws wF own Q w vm0 h ce sl (mkF m (pc') Ls (rest))) (k2 : (0 : Int32) < x → Go p l e R s m args below meth c Z k0 ws wF own Q w vm0 h ce sl (mkF m (pc + 3) Ls (rest))) : Go p l e R s m args below meth c Z k0 ws wF own Q w vm0 h ce sl (mkF m (pc) Ls (.int x :: rest)) :=
  (Classical.em (¬ (0 : Int32) < x)).elim (fun q => if_le_y K hd hp q (k1 q)) (fun q => if_le_n K hd (by first | exact q | exact Classical.not_not.mp q) (k2 (by first | exact q | exact Classical.not_not.mp q)))
theorem ifnull_y (K : Kit p m meth c bytes maxL ret nm) {pc pc' : Nat} {o : Int}  (hd : decode bytes pc = .ok (.ifnull o, 3)) (hp : 0 ≤ (pc : Int) + o ∧ ((pc : Int) + o).toNat = pc') (k : Go p l e R s m args below meth c Z k0 ws wF own Q w vm0 h ce sl (mkF m (pc') Ls (rest))) : Go p l e R s m args below meth c Z k0 ws wF own Q w vm0 h ce sl (mkF m (pc) Ls (.null :: rest)) :=
  Go.pure (fun T t A r => XS.ifnullYes A K.1 rfl rfl (hb K.2.1 hd) rfl hp.1 hp.2 r) k
theorem ifnull_n (K : Kit p m meth c bytes maxL ret nm) {pc : Nat} {o : Int} {b : Addr} (hd : decode bytes pc = .ok (.ifnull o, 3)) (k : Go p l e R s m args below meth c Z k0 ws wF own Q w vm0 h ce sl (mkF m (pc + 3) Ls (rest))) : Go p l e R s m args below meth c Z k0 ws wF own Q w vm0 h ce sl (mkF m (pc) Ls (.ref b :: rest)) :=
  Go.pure (fun T t A r => XS.ifnullNo A K.1 rfl (hb K.2.1 hd) rfl r) k
theorem ifnonnull_y (K : Kit p m meth c bytes maxL ret nm) {pc pc' : Nat} {o : Int} {b : Addr} (hd : decode bytes pc = .ok (.ifnonnull o, 3)) (hp : 0 ≤ (pc : Int) + o ∧ ((pc : Int) + o).toNat = pc') (k : Go p l e R s m args below meth c Z k0 ws wF own Q w vm0 h ce sl (mkF m (pc') Ls (rest))) : Go p l e R s m args below meth c Z k0 ws wF own Q w vm0 h ce sl (mkF m (pc) Ls (.ref b :: rest)) :=
  Go.pure (fun T t A r => XT.ifnonnullYes A K.1 rfl rfl (hb K.2.1 hd) rfl hp.1 hp.2 r) k
theorem ifnonnull_n (K : Kit p m meth c bytes maxL ret nm) {pc : Nat} {o : Int}  (hd : decode bytes pc = .ok (.ifnonnull o, 3)) (k : Go p l e R s m args below meth c Z k0 ws wF own Q w vm0 h ce sl (mkF m (pc + 3) Ls (rest))) : Go p l e R s m args below meth c Z k0 ws wF own Q w vm0 h ce sl (mkF m (pc) Ls (.null :: rest)) :=
  Go.pure (fun T t A r => XT.ifnonnullNo A K.1 rfl (hb K.2.1 hd) rfl r) k
theorem acmp_eq_y (K : Kit p m meth c bytes maxL ret nm) {pc pc' : Nat} {o : Int} {x y : Value} (hd : decode bytes pc = .ok (.if_acmp .eq o, 3)) (hp : 0 ≤ (pc : Int) + o ∧ ((pc : Int) + o).toNat = pc') (r1 : x.isRef = true) (r2 : y.isRef = true) (q : x = y) (k : Go p l e R s m args below meth c Z k0 ws wF own Q w vm0 h ce sl (mkF m (pc') Ls (rest))) : Go p l e R s m args below meth c Z k0 ws wF own Q w vm0 h ce sl (mkF m (pc) Ls (y :: x :: rest)) :=
  Go.pure (fun T t A r => XT.acmpYes A K.1 rfl rfl (hb K.2.1 hd) rfl r1 r2 (decide_eq_true q) hp.1 hp.2 r) k
theorem acmp_eq_n (K : Kit p m meth c bytes maxL ret nm) {pc : Nat} {o : Int} {x y : Value} (hd : decode bytes pc = .ok (.if_acmp .eq o, 3)) (r1 : x.isRef = true) (r2 : y.isRef = true) (q : ¬ x = y) (k : Go p l e R s m args below meth c Z k0 ws wF own Q w vm0 h ce sl (mkF m (pc + 3) Ls (rest))) : Go p l e R s m args below meth c Z k0 ws wF own Q w vm0 h ce sl (mkF m (pc) Ls (y :: x :: rest)) :=
  Go.pure (fun T t A r => XT.acmpNo A K.1 rfl (hb K.2.1 hd) rfl r1 r2 (decide_eq_false q) r) k
theorem acmp_ne_y (K : Kit p m meth c bytes maxL ret nm) {pc pc' : Nat} {o : Int} {x y : Value} (hd : decode bytes pc = .ok (.if_acmp .ne o, 3)) (hp : 0 ≤ (pc : Int) + o ∧ ((pc : Int) + o).toNat = pc') (r1 : x.isRef = true) (r2 : y.isRef = true) (q : ¬ x = y) (k : Go p l e R s m args below meth c Z k0 ws wF own Q w vm0 h ce sl (mkF m (pc') Ls (rest))) : Go p l e R s m args below meth c Z k0 ws wF own Q w vm0 h ce sl (mkF m (pc) Ls (y :: x :: rest)) :=
  Go.pure (fun T t A r => XT.acmpYes A K.1 rfl rfl (hb K.2.1 hd) rfl r1 r2 (decide_eq_true q) hp.1 hp.2 r) k
theorem acmp_ne_n (K : Kit p m meth c bytes maxL ret nm) {pc : Nat} {o : Int} {x y : Value} (hd : decode bytes pc = .ok (.if_acmp .ne o, 3)) (r1 : x.isRef = true) (r2 : y.isRef = true) (q : x = y) (k : Go p l e R s m args below meth c Z k0 ws wF own Q w vm0 h ce sl (mkF m (pc + 3) Ls (rest))) : Go p l e R s m args below meth c Z k0 ws wF own Q w vm0 h ce sl (mkF m (pc) Ls (y :: x :: rest)) :=
  Go.pure (fun T t A r => XT.acmpNo A K.1 rfl (hb K.2.1 hd) rfl r1 r2 (decide_eq_false (fun z => z q)) r) k
theorem ret_core (K : Kit p m meth c bytes maxL ret nm) {g : JFrame} {v : Option Value} (hv : meth.sig.returnType = none → v = none) (hn : ∀ x ∈ ws, x ∈ wF) (hce : ce ≤ R.cells) (hsl : sl ≤ R.slots)
    (f : ∀ (T : State) (locs : List Loc) (fs : List Frame), Stand p l e R (s.setVm vm0) m args below meth c T locs ce sl → (∀ (f : JFrame) (acts : List Action), f.method = m → f.locked = none → f.entered = [] → (doReturn e (T.setTop f) acts v).1 = T.setFrames fs) → Steps p.tables e below (T.setTop g) (T.setFrames fs))
    (hq : ∀ vm1, (s.setVm vm0).WarmedH vm1 → Q v h vm1) : Go p l e R s m args below meth c Z k0 ws wF own Q w vm0 h ce sl g :=
  fun T locs X eT N hS hZ ho hw => by
    have N' : Fw k0 wF locs := fun y hy => (N y hy).imp id (hn _)
    rcases Bool.eq_false_or_eq_true w with hw1 | hw0
    · obtain ⟨fs, h1, h2, h3, h4⟩ := X.leaveW hS (by rw [eT]; exact Nat.le_refl _) (v := v) hv K.2.2.2.2.1
      refine ⟨T.setFrames fs, _, f T locs fs X h1, h2, h3, v, locs, rfl, ⟨?_, N'⟩, Or.inl ⟨hw1, ?_⟩⟩
      · show Q v T.heap T.vm
        rw [eT]; exact hq _ X.warmed
      · exact ⟨h4.1, h4.2.1, h4.2.2.1, h4.2.2.2.mono hce hsl⟩
    · rcases hw with hw | hw
      · rw [hw] at hw0; cases hw0
      subst hw
      obtain ⟨fs, h1, h2, h3, h4, h5⟩ := X.leave (v := v) hv K.2.2.2.2.1
      refine ⟨T.setFrames fs, _, f T locs fs X h1, h2, h3, v, locs, rfl, ⟨?_, N'⟩, Or.inr ⟨hw0, ⟨v, rfl⟩, h4, h5.mono hce hsl⟩⟩
      show Q v T.heap T.vm
      rw [eT]; exact hq _ X.warmed
theorem retV (K : Kit p m meth c bytes maxL none nm) {pc : Nat} (hd : decode bytes pc = .ok (.return_, 1)) (hn : ∀ x ∈ ws, x ∈ wF) (hce : ce ≤ R.cells) (hsl : sl ≤ R.slots) (hq : ∀ vm1, (s.setVm vm0).WarmedH vm1 → Q none h vm1) : Go p l e R s m args below meth c Z k0 ws wF own Q w vm0 h ce sl (mkF m pc Ls []) :=
  ret_core K (fun _ => rfl) hn hce hsl (fun T locs fs X hr => X.returnOut K.1 K.2.2.2.1 (hb K.2.1 hd) hr) hq
theorem retZ (K : Kit p m meth c bytes maxL (some t) nm) (ht : t = .boolean ∨ t = .byte ∨ t = .char ∨ t = .short) {pc : Nat} {z z' : Int32} (hz : nar t z = z') (hd : decode bytes pc = .ok (.ireturn, 1)) (hn : ∀ x ∈ ws, x ∈ wF) (hce : ce ≤ R.cells) (hsl : sl ≤ R.slots) (hq : ∀ vm1, (s.setVm vm0).WarmedH vm1 → Q (some (.int z')) h vm1) : Go p l e R s m args below meth c Z k0 ws wF own Q w vm0 h ce sl (mkF m pc Ls (.int z :: rest)) :=
  ret_core K (v := some (.int z')) (fun h => by rw [K.2.2.2.1] at h; cases h) hn hce hsl (fun T locs fs X hr => retN X K.1 K.2.2.2.1 ht (hb K.2.1 hd) (fun f acts a1 a2 a3 => by rw [hz]; exact hr f acts a1 a2 a3)) hq
theorem retOf (K : Kit p m meth c bytes maxL (some t) nm) {pc : Nat} {i : Instr} {v : Value} (hn' : narrow t v = v)
    (hi : (i = .ireturn ∧ (t = .int ∨ t = .boolean ∨ t = .byte ∨ t = .char ∨ t = .short) ∧ ∃ z, v = .int z) ∨ (i = .lreturn ∧ t = .long ∧ ∃ z, v = .long z) ∨ (i = .dreturn ∧ t = .double ∧ ∃ z, v = .double z) ∨ (i = .freturn ∧ t = .float ∧ ∃ z, v = .float z) ∨ (i = .areturn ∧ t.isReference = true ∧ v.isRef = true))
    (hd : decode bytes pc = .ok (i, 1)) (hn : ∀ x ∈ ws, x ∈ wF) (hce : ce ≤ R.cells) (hsl : sl ≤ R.slots) (hq : ∀ vm1, (s.setVm vm0).WarmedH vm1 → Q (some v) h vm1) : Go p l e R s m args below meth c Z k0 ws wF own Q w vm0 h ce sl (mkF m pc Ls (v :: rest)) :=
  ret_core K (v := some v) (fun h => by rw [K.2.2.2.1] at h; cases h) hn hce hsl (fun T locs fs X hr => retOut X K.1 K.2.2.2.1 hn' hi (hb K.2.1 hd) hr) hq
theorem retI (K : Kit p m meth c bytes maxL (some .int) nm) {pc : Nat} {z : Int32} (hd : decode bytes pc = .ok (.ireturn, 1)) (hn : ∀ x ∈ ws, x ∈ wF) (hce : ce ≤ R.cells) (hsl : sl ≤ R.slots) (hq : ∀ vm1, (s.setVm vm0).WarmedH vm1 → Q (some (.int z)) h vm1) : Go p l e R s m args below meth c Z k0 ws wF own Q w vm0 h ce sl (mkF m pc Ls (.int z :: rest)) :=
  retOf K rfl (Or.inl ⟨rfl, Or.inl rfl, z, rfl⟩) hd hn hce hsl hq
theorem retL (K : Kit p m meth c bytes maxL (some .long) nm) {pc : Nat} {z : Int64} (hd : decode bytes pc = .ok (.lreturn, 1)) (hn : ∀ x ∈ ws, x ∈ wF) (hce : ce ≤ R.cells) (hsl : sl ≤ R.slots) (hq : ∀ vm1, (s.setVm vm0).WarmedH vm1 → Q (some (.long z)) h vm1) : Go p l e R s m args below meth c Z k0 ws wF own Q w vm0 h ce sl (mkF m pc Ls (.long z :: rest)) :=
  retOf K rfl (Or.inr (Or.inl ⟨rfl, rfl, z, rfl⟩)) hd hn hce hsl hq
theorem narrow_ref {t : FieldType} {v : Value} (ht : t.isReference = true) : narrow t v = v := by
  cases t <;> first | rfl | (simp [FieldType.isReference] at ht) | (cases v <;> rfl)
theorem retA (K : Kit p m meth c bytes maxL (some t) nm) (ht : t.isReference = true) {pc : Nat} {v : Value} (hv : v.isRef = true) (hd : decode bytes pc = .ok (.areturn, 1)) (hn : ∀ x ∈ ws, x ∈ wF) (hce : ce ≤ R.cells) (hsl : sl ≤ R.slots) (hq : ∀ vm1, (s.setVm vm0).WarmedH vm1 → Q (some v) h vm1) : Go p l e R s m args below meth c Z k0 ws wF own Q w vm0 h ce sl (mkF m pc Ls (v :: rest)) :=
  retOf K (narrow_ref ht) (Or.inr (Or.inr (Or.inr (Or.inr ⟨rfl, ht, hv⟩)))) hd hn hce hsl hq
theorem getF (K : Kit p m meth c bytes maxL ret nm) {pc idx : Nat} {R0 O n d host : String} (wl : (Jvm.Cond.fieldLink own idx R0 n d).before a0 Z = true ∨ (Jvm.Cond.fieldLinkNest own idx R0 n d host).before a0 Z = true) (via : Via Z R0 O n d) {a : Addr} {v : Value} (F : Fld Z h a O n d v) (hd : decode bytes pc = .ok (.getfield idx, 3)) (k : Go p l e R s m args below meth c Z k0 ws wF own Q w vm0 h ce sl (mkF m (pc + 3) Ls (v :: rest))) : Go p l e R s m args below meth c Z k0 ws wF own Q w vm0 h ce sl (mkF m (pc) Ls (.ref a :: rest)) :=
  Go.step (Nat.le_refl _) (fun T locs X eT N hZ ho => by
    obtain ⟨T', X', e', st⟩ := RoadKit.getF X K.1 hZ ho wl via eT F (g := mkF m pc Ls (.ref a :: rest)) rfl rfl (hb K.2.1 hd)
    exact ⟨T', locs, X', e', N, st⟩) k
theorem getS (K : Kit p m meth c bytes maxL ret nm) {pc idx : Nat} {R0 O n d : String} (wl : (Jvm.Cond.fieldLink own idx R0 n d).before a0 Z = true) (via : Via Z R0 O n d) {v : Value} (F : Sta Z h O n d v) (hd : decode bytes pc = .ok (.getstatic idx, 3)) (k : Go p l e R s m args below meth c Z k0 ws wF own Q w vm0 h ce sl (mkF m (pc + 3) Ls (v :: st))) : Go p l e R s m args below meth c Z k0 ws wF own Q w vm0 h ce sl (mkF m (pc) Ls (st)) :=
  Go.step (Nat.le_refl _) (fun T locs X eT N hZ ho => by
    obtain ⟨T', X', e', st⟩ := RoadKit.getS (host := "") X K.1 hZ ho wl via eT F (g := mkF m pc Ls st) rfl (hb K.2.1 hd)
    exact ⟨T', locs, X', e', N, st⟩) k
theorem putF (K : Kit p m meth c bytes maxL ret nm) {pc idx kk : Nat} {R0 O n d C : String} {ty : FieldType} (wl : (Jvm.Cond.fieldLink own idx R0 n d).before a0 Z = true) (via : Via Z R0 O n d) {a : Addr} {v old : Value} (F : Fld Z h a O n d old) (E : Exa Z h a C)
    (L : (Jvm.Cond.lays C O n d).before a0 Z = true ∨ ((Jvm.Cond.laysFinal C O n d).before a0 Z = true ∧ own = O ∧ nm = "<init>")) (wi : (Jvm.Cond.instantiable C kk).before a0 Z = true) (hty : parseFieldDescriptor d = some ty) (hn' : narrow ty v = v) (hf : fits ty v = true) (hn : k0 ≤ a ∨ a ∈ ws)
    (hd : decode bytes pc = .ok (.putfield idx, 3)) (k : ∀ h', Wr h h' a (RoadKit.slotOf Z O n d) v → Fld Z h' a O n d v → Go p l e R s m args below meth c Z k0 ws wF own Q w vm0 h' ce sl (mkF m (pc + 3) Ls (rest))) : Go p l e R s m args below meth c Z k0 ws wF own Q w vm0 h ce sl (mkF m (pc) Ls (v :: .ref a :: rest)) :=
  fun T locs X eT N hS hZ ho hw => by
    obtain ⟨T', h', X', e', W, st⟩ := RoadKit.putF (host := "") X K.1 hZ ho (Or.inl wl) via eT F E (L.imp id fun q => ⟨q.1, q.2.1, K.2.2.2.2.2.trans q.2.2⟩) wi hty hn' hf (g := mkF m pc Ls (v :: .ref a :: rest)) rfl rfl (hb K.2.1 hd)
    obtain ⟨U, o, hU, r⟩ := k h' W (F.same W) T' _ X' e' (Fw.snoc N hn) ⟨hS.1, hS.2.mono (Nat.le_of_eq W.size.symm)⟩ hZ ho hw
    exact ⟨U, o, st U hU, r⟩
theorem newO (K : Kit p m meth c bytes maxL ret nm) {pc idx n : Nat} {C : String} (wl : (Jvm.Cond.classLink own idx C).before a0 Z = true) (wi : (Jvm.Cond.instantiable C n).before a0 Z = true) (wz : (Jvm.Cond.initialized C).before a0 Z = true)
    (hd : decode bytes pc = .ok (.new idx, 3)) (hc : ce + 1 ≤ R.cells) (hl : sl + n ≤ R.slots)
    (k : ∀ h' a, a = h.size → Ext h h' → Exa Z h' a C → (∀ {O nm d : String} {ty : FieldType}, Laid Z a0 C O nm d → parseFieldDescriptor d = some ty → Fld Z h' a O nm d (defaultValue ty)) → Go p l e R s m args below meth c Z k0 ws wF own Q w vm0 h' (ce + 1) (sl + n) (mkF m (pc + 3) Ls (.ref a :: st))) : Go p l e R s m args below meth c Z k0 ws wF own Q w vm0 h ce sl (mkF m (pc) Ls (st)) :=
  fun T locs X eT N hS hZ ho hw => by
    obtain ⟨T', h', X', e', E, A, D, -, st⟩ := RoadKit.newO X K.1 hZ ho wl wi wz eT (g := mkF m pc Ls st) rfl (hb K.2.1 hd) hc hl
    obtain ⟨U, o, hU, r⟩ := k h' h.size rfl E A (fun {_ _ _ _} => D) T' _ X' e' N ⟨hS.1, hS.2.mono E.1⟩ hZ ho hw
    exact ⟨U, o, st U hU, r⟩
theorem newP (K : Kit p m meth c bytes maxL ret nm) {pc : Nat} {aty : ArrayType} {n : Int32} (wl : (Jvm.Cond.arrayClass (newarray.typeOf aty)).before a0 Z = true) (hd : decode bytes pc = .ok (.newarray aty, 2)) (hn : ¬ n < 0) {cap : Nat} (hcap : n.toNatClampNeg ≤ cap) (hb' : cap * 8 ≤ 536870912) (hc : ce + 1 ≤ R.cells) (hl : sl + cap ≤ R.slots)
    (k : ∀ h' a cA, a = h.size → Ext h h' → Arv Z h' a cA (newarray.typeOf aty) n [] (defaultValue (newarray.typeOf aty)) → Go p l e R s m args below meth c Z k0 ws wF own Q w vm0 h' (ce + 1) (sl + cap) (mkF m (pc + 2) Ls (.ref a :: rest))) : Go p l e R s m args below meth c Z k0 ws wF own Q w vm0 h ce sl (mkF m (pc) Ls (.int n :: rest)) :=
  fun T locs X eT N hS hZ ho hw => by
    obtain ⟨T', h', cA, X', e', E, A, st⟩ := RoadKit.newP X K.1 hZ wl eT (g := mkF m pc Ls (.int n :: rest)) rfl (hb K.2.1 hd) rfl hn hcap hb' hc hl
    obtain ⟨U, o, hU, r⟩ := k h' h.size cA rfl E (Arv.new A hn) T' _ X' e' N ⟨hS.1, hS.2.mono E.1⟩ hZ ho hw
    exact ⟨U, o, st U hU, r⟩
theorem castore (K : Kit p m meth c bytes maxL ret nm) {pc i : Nat} {a : Addr} {kc : ClassId} {z j x : Int32} {vs : List Value} {dv : Value} (A : Arv Z h a kc .char z vs dv) (hj : ¬ j < 0 ∧ j < z) (hi : j.toNatClampNeg = i) (hi' : i < vs.length) (hn : k0 ≤ a ∨ a ∈ ws) (hd : decode bytes pc = .ok (.castore, 1))
    (k : ∀ h', Wr h h' a i (.int (nar .char x)) → Arv Z h' a kc .char z (vs.set i (.int (nar .char x))) dv → Go p l e R s m args below meth c Z k0 ws wF own Q w vm0 h' ce sl (mkF m (pc + 1) Ls (rest))) : Go p l e R s m args below meth c Z k0 ws wF own Q w vm0 h ce sl (mkF m (pc) Ls (.int x :: .int j :: .ref a :: rest)) :=
  fun T locs X eT N hS hZ ho hw => by
    obtain ⟨cl, Ar, q, S, Nz, H, G⟩ := A
    obtain ⟨T', h', X', e', W, st⟩ := RoadKit.stC X K.1 hZ eT Ar (j := j) (inb_of S hj) (g := mkF m pc Ls (.int x :: .int j :: .ref a :: rest)) rfl rfl (hb K.2.1 hd)
    have V := Arv.set Ar q S Nz H G (fits_nar_char _) W i hi hi'
    rw [hi] at W
    obtain ⟨U, o, hU, r⟩ := k h' W V T' _ X' e' (Fw.snoc N hn) ⟨hS.1, hS.2.mono (Nat.le_of_eq W.size.symm)⟩ hZ ho hw
    exact ⟨U, o, st U hU, r⟩
theorem bastore (K : Kit p m meth c bytes maxL ret nm) {pc i : Nat} {a : Addr} {kc : ClassId} {z j x : Int32} {vs : List Value} {dv : Value} (A : Arv Z h a kc .byte z vs dv) (hj : ¬ j < 0 ∧ j < z) (hi : j.toNatClampNeg = i) (hi' : i < vs.length) (hn : k0 ≤ a ∨ a ∈ ws) (hd : decode bytes pc = .ok (.bastore, 1))
    (k : ∀ h', Wr h h' a i (.int (nar .byte x)) → Arv Z h' a kc .byte z (vs.set i (.int (nar .byte x))) dv → Go p l e R s m args below meth c Z k0 ws wF own Q w vm0 h' ce sl (mkF m (pc + 1) Ls (rest))) : Go p l e R s m args below meth c Z k0 ws wF own Q w vm0 h ce sl (mkF m (pc) Ls (.int x :: .int j :: .ref a :: rest)) :=
  fun T locs X eT N hS hZ ho hw => by
    obtain ⟨cl, Ar, q, S, Nz, H, G⟩ := A
    obtain ⟨T', h', X', e', W, st⟩ := RoadKit.stB X K.1 hZ eT Ar (j := j) (inb_of S hj) (g := mkF m pc Ls (.int x :: .int j :: .ref a :: rest)) rfl rfl (hb K.2.1 hd)
    have V := Arv.set Ar q S Nz H G (fits_nar_byte _) W i hi hi'
    rw [hi] at W
    obtain ⟨U, o, hU, r⟩ := k h' W V T' _ X' e' (Fw.snoc N hn) ⟨hS.1, hS.2.mono (Nat.le_of_eq W.size.symm)⟩ hZ ho hw
    exact ⟨U, o, st U hU, r⟩
theorem iastore (K : Kit p m meth c bytes maxL ret nm) {pc i : Nat} {a : Addr} {kc : ClassId} {z j x : Int32} {vs : List Value} {dv : Value} (A : Arv Z h a kc .int z vs dv) (hj : ¬ j < 0 ∧ j < z) (hi : j.toNatClampNeg = i) (hi' : i < vs.length) (hn : k0 ≤ a ∨ a ∈ ws) (hd : decode bytes pc = .ok (.iastore, 1))
    (k : ∀ h', Wr h h' a i (.int x) → Arv Z h' a kc .int z (vs.set i (.int x)) dv → Go p l e R s m args below meth c Z k0 ws wF own Q w vm0 h' ce sl (mkF m (pc + 1) Ls (rest))) : Go p l e R s m args below meth c Z k0 ws wF own Q w vm0 h ce sl (mkF m (pc) Ls (.int x :: .int j :: .ref a :: rest)) :=
  fun T locs X eT N hS hZ ho hw => by
    obtain ⟨cl, Ar, q, S, Nz, H, G⟩ := A
    obtain ⟨T', h', X', e', W, st⟩ := RoadKit.stI X K.1 hZ eT Ar (j := j) (inb_of S hj) (g := mkF m pc Ls (.int x :: .int j :: .ref a :: rest)) rfl rfl (hb K.2.1 hd)
    have V := Arv.set Ar q S Nz H G rfl W i hi hi'
    rw [hi] at W
    obtain ⟨U, o, hU, r⟩ := k h' W V T' _ X' e' (Fw.snoc N hn) ⟨hS.1, hS.2.mono (Nat.le_of_eq W.size.symm)⟩ hZ ho hw
    exact ⟨U, o, st U hU, r⟩
theorem caload (K : Kit p m meth c bytes maxL ret nm) {pc : Nat} {a : Addr} {kc : ClassId} {z j : Int32} {vs : List Value} {dv v : Value} (A : Arv Z h a kc .char z vs dv) (hj : ¬ j < 0 ∧ j < z) (hv : vs.getD j.toNatClampNeg dv = v) (hd : decode bytes pc = .ok (.caload, 1)) (k : Go p l e R s m args below meth c Z k0 ws wF own Q w vm0 h ce sl (mkF m (pc + 1) Ls (v :: rest))) : Go p l e R s m args below meth c Z k0 ws wF own Q w vm0 h ce sl (mkF m (pc) Ls (.int j :: .ref a :: rest)) :=
  Go.step (Nat.le_refl _) (fun T locs X eT N hZ ho => by
    obtain ⟨cl, Ar, q, S, Nz, H, G⟩ := A
    exact ⟨T, locs, X, eT, N, fun t r => X.caload K.1 (j := j) (v := v) (by rw [eT]; exact Ar.1) (State.isArrayOf_alike hZ.alike Ar.2.1) Ar.2.2 (inb_of S hj) (H.at (inb_of S hj) hv) (g := mkF m pc Ls (.int j :: .ref a :: rest)) rfl rfl (hb K.2.1 hd) t r⟩) k
theorem iaload (K : Kit p m meth c bytes maxL ret nm) {pc : Nat} {a : Addr} {kc : ClassId} {z j : Int32} {vs : List Value} {dv v : Value} (A : Arv Z h a kc .int z vs dv) (hj : ¬ j < 0 ∧ j < z) (hv : vs.getD j.toNatClampNeg dv = v) (hd : decode bytes pc = .ok (.iaload, 1)) (k : Go p l e R s m args below meth c Z k0 ws wF own Q w vm0 h ce sl (mkF m (pc + 1) Ls (v :: rest))) : Go p l e R s m args below meth c Z k0 ws wF own Q w vm0 h ce sl (mkF m (pc) Ls (.int j :: .ref a :: rest)) :=
  Go.step (Nat.le_refl _) (fun T locs X eT N hZ ho => by
    obtain ⟨cl, Ar, q, S, Nz, H, G⟩ := A
    exact ⟨T, locs, X, eT, N, fun t r => X.iaload K.1 (j := j) (v := v) (by rw [eT]; exact Ar.1) (State.isArrayOf_alike hZ.alike Ar.2.1) Ar.2.2 (inb_of S hj) (H.at (inb_of S hj) hv) (g := mkF m pc Ls (.int j :: .ref a :: rest)) rfl rfl (hb K.2.1 hd) t r⟩) k
theorem baload (K : Kit p m meth c bytes maxL ret nm) {pc : Nat} {a : Addr} {kc : ClassId} {z j : Int32} {vs : List Value} {dv v : Value} (A : Arv Z h a kc .byte z vs dv) (hj : ¬ j < 0 ∧ j < z) (hv : vs.getD j.toNatClampNeg dv = v) (hd : decode bytes pc = .ok (.baload, 1)) (k : Go p l e R s m args below meth c Z k0 ws wF own Q w vm0 h ce sl (mkF m (pc + 1) Ls (v :: rest))) : Go p l e R s m args below meth c Z k0 ws wF own Q w vm0 h ce sl (mkF m (pc) Ls (.int j :: .ref a :: rest)) :=
  Go.step (Nat.le_refl _) (fun T locs X eT N hZ ho => by
    obtain ⟨cl, Ar, q, S, Nz, H, G⟩ := A
    exact ⟨T, locs, X, eT, N, fun t r => X.baloadBytes K.1 (j := j) (v := v) (by rw [eT]; exact Ar.1) (State.isArrayOf_alike hZ.alike Ar.2.1) Ar.2.2 (inb_of S hj) (H.at (inb_of S hj) hv) (g := mkF m pc Ls (.int j :: .ref a :: rest)) rfl rfl (hb K.2.1 hd) t r⟩) k
theorem arrlen (K : Kit p m meth c bytes maxL ret nm) {pc : Nat} {a : Addr} {kc : ClassId} {ty : FieldType} {z : Int32} {vs : List Value} {dv : Value} (A : Arv Z h a kc ty z vs dv) (hd : decode bytes pc = .ok (.arraylength, 1)) (k : Go p l e R s m args below meth c Z k0 ws wF own Q w vm0 h ce sl (mkF m (pc + 1) Ls (.int z :: rest))) : Go p l e R s m args below meth c Z k0 ws wF own Q w vm0 h ce sl (mkF m (pc) Ls (.ref a :: rest)) :=
  Go.step (Nat.le_refl _) (fun T locs X eT N hZ ho => by
    obtain ⟨cl, Ar, q, S, Nz, H, G⟩ := A
    exact ⟨T, locs, X, eT, N, fun t r => X.arraylength K.1 (by rw [eT]; exact Ar.1) (State.isArrayOf_alike hZ.alike Ar.2.1) (g := mkF m pc Ls (.ref a :: rest)) rfl rfl (hb K.2.1 hd) t (by rw [len_of S Nz]; exact r)⟩) k
theorem instY (K : Kit p m meth c bytes maxL ret nm) {pc idx : Nat} {C : String} (wl : (Jvm.Cond.classLink own idx C).before a0 Z = true) {a : Addr} (I : Ins Z h a C true) (hd : decode bytes pc = .ok (.instanceof idx, 3)) (k : Go p l e R s m args below meth c Z k0 ws wF own Q w vm0 h ce sl (mkF m (pc + 3) Ls (.int 1 :: rest))) : Go p l e R s m args below meth c Z k0 ws wF own Q w vm0 h ce sl (mkF m (pc) Ls (.ref a :: rest)) :=
  Go.step (Nat.le_refl _) (fun T locs X eT N hZ ho => by
    obtain ⟨T', X', e', st⟩ := RoadKit.instY X K.1 hZ ho wl eT I (g := mkF m pc Ls (.ref a :: rest)) rfl rfl (hb K.2.1 hd)
    exact ⟨T', locs, X', e', N, st⟩) k
theorem instNo (K : Kit p m meth c bytes maxL ret nm) {pc idx : Nat} {C D : String} (wl : (Jvm.Cond.classLink own idx C).before a0 Z = true) {a : Addr} (E : Exa Z h a D) (I : ∃ c t, Z.vm.findClass D = some c ∧ Z.vm.findClass C = some t ∧ Z.vm.assignable c t = false) (hd : decode bytes pc = .ok (.instanceof idx, 3)) (k : Go p l e R s m args below meth c Z k0 ws wF own Q w vm0 h ce sl (mkF m (pc + 3) Ls (.int 0 :: rest))) : Go p l e R s m args below meth c Z k0 ws wF own Q w vm0 h ce sl (mkF m (pc) Ls (.ref a :: rest)) :=
  Go.step (Nat.le_refl _) (fun T locs X eT N hZ ho => by
    obtain ⟨T', X', e', st⟩ := RoadKit.instNo X K.1 hZ ho wl eT E I (g := mkF m pc Ls (.ref a :: rest)) rfl rfl (hb K.2.1 hd)
    exact ⟨T', locs, X', e', N, st⟩) k
theorem instNull (K : Kit p m meth c bytes maxL ret nm) {pc idx : Nat} (hd : decode bytes pc = .ok (.instanceof idx, 3)) (k : Go p l e R s m args below meth c Z k0 ws wF own Q w vm0 h ce sl (mkF m (pc + 3) Ls (.int 0 :: rest))) : Go p l e R s m args below meth c Z k0 ws wF own Q w vm0 h ce sl (mkF m (pc) Ls (.null :: rest)) :=
  Go.step (Nat.le_refl _) (fun T locs X eT N hZ ho => ⟨T, locs, X, eT, N, fun t r => X.instanceofNull K.1 (g := mkF m pc Ls (.null :: rest)) rfl rfl (hb K.2.1 hd) t r⟩) k
theorem castY (K : Kit p m meth c bytes maxL ret nm) {pc idx : Nat} {C : String} (wl : (Jvm.Cond.classLink own idx C).before a0 Z = true) {a : Addr} (I : Ins Z h a C true) (hd : decode bytes pc = .ok (.checkcast idx, 3)) (k : Go p l e R s m args below meth c Z k0 ws wF own Q w vm0 h ce sl (mkF m (pc + 3) Ls (.ref a :: rest))) : Go p l e R s m args below meth c Z k0 ws wF own Q w vm0 h ce sl (mkF m (pc) Ls (.ref a :: rest)) :=
  Go.step (Nat.le_refl _) (fun T locs X eT N hZ ho => by
    obtain ⟨T', X', e', st⟩ := RoadKit.castY X K.1 hZ ho wl eT I (g := mkF m pc Ls (.ref a :: rest)) rfl rfl (hb K.2.1 hd)
    exact ⟨T', locs, X', e', N, st⟩) k
theorem castNull (K : Kit p m meth c bytes maxL ret nm) {pc idx : Nat} (hd : decode bytes pc = .ok (.checkcast idx, 3)) (k : Go p l e R s m args below meth c Z k0 ws wF own Q w vm0 h ce sl (mkF m (pc + 3) Ls (.null :: rest))) : Go p l e R s m args below meth c Z k0 ws wF own Q w vm0 h ce sl (mkF m (pc) Ls (.null :: rest)) :=
  Go.step (Nat.le_refl _) (fun T locs X eT N hZ ho => ⟨T, locs, X, eT, N, fun t r => X.checkcastNull K.1 (g := mkF m pc Ls (.null :: rest)) rfl rfl (hb K.2.1 hd) t r⟩) k
theorem initO (K : Kit p m meth c bytes maxL ret nm) {pc idx : Nat} (w1 : (Jvm.Cond.methodLink own idx Lib.objectInit).before a0 Z = true) (w2 : (Jvm.Cond.instanceMethod Lib.objectInit).before a0 Z = true) (w3 : (Jvm.Cond.code Lib.objectInit ⟨#[0xb1]⟩ 1 none).before a0 Z = true) {a : Addr} (hsz : Ls.size = maxL) (hd : decode bytes pc = .ok (.invokespecial idx, 3))
    (hf : 1 ≤ R.frames) (hl : (rest.map fun v => v.category).sum + 12 ≤ R.locals) (k : Go p l e R s m args below meth c Z k0 ws wF own Q w vm0 h ce sl (mkF m (pc + 3) Ls (rest))) : Go p l e R s m args below meth c Z k0 ws wF own Q w vm0 h ce sl (mkF m (pc) Ls (.ref a :: rest)) :=
  Go.step (Nat.le_refl _) (fun T locs X eT N hZ ho => by
    obtain ⟨T', X', e', st⟩ := RoadKit.initO X K.1 hZ ho w1 w2 w3 eT (g := mkF m pc Ls (.ref a :: rest)) rfl (by rw [K.2.2.1]; exact hsz) rfl (hb K.2.1 hd) hf (W := (rest.map fun v => v.category).sum) (by show 2 * 0 + _ ≤ _; omega) hl
    exact ⟨T', locs, X', e', N, st⟩) k
theorem ldcInt (K : Kit p m meth c bytes maxL ret nm) {pc idx : Nat} {v : Int32} (wl : (Jvm.Cond.constant own idx v).before a0 Z = true) (hd : decode bytes pc = .ok (.ldc idx, 2)) (k : Go p l e R s m args below meth c Z k0 ws wF own Q w vm0 h ce sl (mkF m (pc + 2) Ls (.int v :: st))) : Go p l e R s m args below meth c Z k0 ws wF own Q w vm0 h ce sl (mkF m (pc) Ls (st)) :=
  Go.step (Nat.le_refl _) (fun T locs X eT N hZ ho => ⟨T, locs, X, eT, N, fun t r => X.ldcInt K.1 ho (mvT hZ wl) (g := mkF m pc Ls st) rfl (hb K.2.1 hd) t r⟩) k
theorem ldc2Long (K : Kit p m meth c bytes maxL ret nm) {pc idx : Nat} {v : Int64} (wl : (Jvm.Cond.constantLong own idx v).before a0 Z = true) (hd : decode bytes pc = .ok (.ldc2_w idx, 3)) (k : Go p l e R s m args below meth c Z k0 ws wF own Q w vm0 h ce sl (mkF m (pc + 3) Ls (.long v :: st))) : Go p l e R s m args below meth c Z k0 ws wF own Q w vm0 h ce sl (mkF m (pc) Ls (st)) :=
  Go.step (Nat.le_refl _) (fun T locs X eT N hZ ho => ⟨T, locs, X, eT, N, fun t r => X.ldc2Long K.1 ho (mvT hZ wl) (g := mkF m pc Ls st) rfl (hb K.2.1 hd) t r⟩) k
/-- a payer's two ends, as RoadKit's backOf and the String laws have them -/
def BK (l : Launch) (R : Room) (p : Program) (e : Env) (below : List Frame) (s : State) (args : Array Value) (y : MethodName) (len W : Nat) (as' : Array Value) (h : Heap) (rc rs : Nat) (Qf : Option Value → Heap → List Loc → Prop) : Prop :=
  Back l R p e below s args y len W (fun A a => a = as' ∧ A.U.heap = h ∧ A.cells + rc ≤ R.cells ∧ A.slots + rs ≤ R.slots) (fun A _ v B => ∃ L, Qf v B.U.heap L ∧ B.locs = A.locs ++ L ∧ B.cells = A.cells + rc ∧ B.slots = A.slots + rs)
def BKS (l : Launch) (R : Room) (p : Program) (e : Env) (below : List Frame) (s : State) (args : Array Value) (y : MethodName) (len W : Nat) (as' : Array Value) (h : Heap) (rc rs : Nat) (V : Vm → Prop) (Qf : Option Value → Heap → Vm → List Loc → Prop) : Prop :=
  BackS l R p e below s args y len W (fun A a => a = as' ∧ A.U.heap = h ∧ V A.U.vm ∧ A.cells + rc ≤ R.cells ∧ A.slots + rs ≤ R.slots) (fun A _ v B => ∃ L, Qf v B.U.heap B.U.vm L ∧ B.locs = A.locs ++ L ∧ B.cells = A.cells + rc ∧ B.slots = A.slots + rs)
theorem Con.bk {y : MethodName} {by' : ByteArray} {mL : Nat} {rt : Option FieldType} {rm : Room} {as' : Array Value} {h : Heap} {Qc : Option Value → Heap → Vm → Prop} (C : Con l y by' mL rt [] rm Z as' h wF (fun _ => True) Qc false) {len W : Nat} (hZ : Z.Warmed39 s.vm)
    (wc : (Jvm.Cond.code y by' mL rt).before a0 Z = true) (wz : (Jvm.Cond.initialized y.cls).before a0 Z = true) (hf : rm.frames + 1 ≤ R.frames) (hl : W + (mL + 11) + rm.locals ≤ R.locals) :
    BK l R p e below s args y len W as' h rm.cells rm.slots (fun v h' L => (∃ vm, Qc v h' vm) ∧ Fw h.size wF L ∧ Keep h h' wF) :=
  backOf (Q := fun v h' L => (∃ vm, Qc v h' vm) ∧ Fw h.size wF L ∧ Keep h h' wF) (fun p' e' ha hc hk s' m' a' b' hf' happ hP hK => by
    obtain ⟨n, o, h1, h2, h3, v, L, r1, ⟨r2, r3⟩, r4⟩ := C p' e' ha hc hk s' m' a' b' hf' happ ⟨hP.1, hP.2.1, hP.2.2, trivial⟩ hK
    have eh := hP.2.2
    subst eh
    rcases r4 with r4 | r4
    · exact nomatch r4.1
    exact ⟨n, o, h1, h2, h3, v, L, r1, ⟨⟨_, r2⟩, r3, by have q := keep_same r4.2.2.2 r3; exact q⟩, r4.2⟩) hZ wc wz hf hl
theorem Con.bks {y : MethodName} {by' : ByteArray} {mL : Nat} {rt : Option FieldType} {rm : Room} {as' : Array Value} {h : Heap} {V : Vm → Prop} {Qc : Option Value → Heap → Vm → Prop} (C : Con l y by' mL rt [] rm Z as' h wF V Qc true) {len W : Nat} (hZ : Z.Warmed39 s.vm)
    (wc : (Jvm.Cond.code y by' mL rt).before a0 Z = true) (wz : (Jvm.Cond.initialized y.cls).before a0 Z = true) (hf : rm.frames + 1 ≤ R.frames) (hl : W + (mL + 11) + rm.locals ≤ R.locals) :
    BKS l R p e below s args y len W as' h rm.cells rm.slots V (fun v h' vm L => Qc v h' vm ∧ Fw h.size wF L ∧ Keep h h' wF) :=
  BackS.of_freeW (bytes := by') (maxL := mL) (ret := rt) (E := fun _ first o t L k n => k = rm.cells ∧ n = rm.slots ∧ ∃ v, o = .returned v ∧ Qc v t.heap t.vm ∧ Fw h.size wF L) C hf hl
    (fun m' meth' c' A a Y hp => have hU : Z.Warmed39 A.U.vm := wtrans hZ Y.warmed
      ⟨by show (Jvm.Cond.and _ .tt).before a A.U = true; rw [Jvm.Cond.before_and, mv hU wc]; rfl, mv hU wc, mv hU wz, hp.2.2.2.1, hp.2.2.2.2⟩)
    (fun m' meth' c' A a g mk Y hp => ⟨hp.1, wtrans hZ Y.warmed, hp.2.1, hp.2.2.1⟩) (fun _ _ _ _ _ _ _ _ _ => trivial)
    (fun a first o t q => by
      obtain ⟨v, L, r1, ⟨r2, r3⟩, r4⟩ := q
      exact ⟨L, _, _, r4.elim (fun q => q.2) (fun q => nomatch q.1), rfl, rfl, v, r1, r2, r3⟩)
    (fun m' meth' c' A a g mk v t L k n Y hp _ hR q => by
      obtain ⟨e1, e2, v', e3, e4, e5⟩ := q
      have eh : (A.U.calling g mk a).heap = h := hp.2.1
      have K : Keep (A.U.calling g mk a).heap t.heap wF := by have q := keep_same hR.2.2.2 (ws := wF) (by rw [eh]; exact e5); exact q
      rw [eh] at K
      cases e3; subst e1 e2; exact ⟨L, ⟨e4, e5, K⟩, rfl, rfl, rfl⟩)
theorem callS (K : Kit p m meth c bytes maxL ret nm) {pc idx : Nat} {y : MethodName} {as' : Array Value} {rc rs : Nat} {Qf : Option Value → Heap → List Loc → Prop} {by' : ByteArray} {mL : Nat} {rt : Option FieldType} (wl : (Jvm.Cond.methodLink own idx y).before a0 Z = true) (wt : (Jvm.Cond.static y).before a0 Z = true) (wz : (Jvm.Cond.initialized y.cls).before a0 Z = true) (wc : (Jvm.Cond.code y by' mL rt).before a0 Z = true) (hy : y.cls ≠ "java/lang/invoke/MethodHandle" ∧ y.cls ≠ "java/lang/invoke/VarHandle")  (hK : Z.Warmed39 (s.setVm vm0).vm → BK l R p e below (s.setVm vm0) args y 3 (rest.map fun v => v.category).sum as' h rc rs Qf)
    {argsL : List Value} (has : as' = argsL.toArray) (hst : st = argsL.reverse ++ rest) (hlen : ∀ sig, parseMethodDescriptor y.desc = some sig → argsL.length = sig.parameters.length) (hsz : Ls.size = maxL) (hd : decode bytes pc = .ok (.invokestatic idx, 3)) (hce : ce + rc ≤ R.cells) (hsl : sl + rs ≤ R.slots) (hfr : ∀ v h' L, Qf v h' L → Fw k0 ws L ∧ h.size ≤ h'.size)
    (k : ∀ v h' L, Qf v h' L → Go p l e R s m args below meth c Z k0 ws wF own Q w vm0 h' (ce + rc) (sl + rs) (mkF m (pc + 3) Ls (v.toList ++ rest))) : Go p l e R s m args below meth c Z k0 ws wF own Q w vm0 h ce sl (mkF m (pc) Ls (st)) :=
  fun T locs X eT N hS hZ ho hw => by
    subst has hst
    obtain ⟨v, vm1, ⟨T', L', c', s'⟩, hW1, X', ⟨L, hQ, q1, q2, q3⟩, st⟩ := Jvm.LawKit.callS X K.1 ho (mvT hZ wl) (mvT hZ wt) (mvT hZ wz) (mvT hZ wc) hy (hK hZ) (g := mkF m pc Ls (argsL.reverse ++ rest)) rfl (by rw [K.2.2.1]; exact hsz) (argsL := argsL) (rest := rest) hlen rfl (by show 2 * 0 + _ ≤ _; omega) (hb K.2.1 hd) (fun _ _ => ⟨rfl, eT, hce, hsl⟩)
    dsimp only [Pt.U, Pt.locs, Pt.cells, Pt.slots] at X' q1 q2 q3 st hQ
    subst q1 q2 q3
    obtain ⟨U, o, hU, r⟩ := k v T'.heap L hQ T' _ X' rfl (Fw.app N (hfr _ _ _ hQ).1) ⟨hS.1, hS.2.mono (hfr _ _ _ hQ).2⟩ hZ ho hw
    exact ⟨U, o, st U hU, r⟩
theorem callSS (K : Kit p m meth c bytes maxL ret nm) {pc idx : Nat} {y : MethodName} {as' : Array Value} {rc rs : Nat} {V : Vm → Prop} {Qf : Option Value → Heap → Vm → List Loc → Prop} {by' : ByteArray} {mL : Nat} {rt : Option FieldType} (wl : (Jvm.Cond.methodLink own idx y).before a0 Z = true) (wt : (Jvm.Cond.static y).before a0 Z = true) (wz : (Jvm.Cond.initialized y.cls).before a0 Z = true) (wc : (Jvm.Cond.code y by' mL rt).before a0 Z = true) (hy : y.cls ≠ "java/lang/invoke/MethodHandle" ∧ y.cls ≠ "java/lang/invoke/VarHandle")  (hw1 : w = true) (hV : ∀ vm1, (s.setVm vm0).WarmedH vm1 → V vm1) (hK : Z.Warmed39 (s.setVm vm0).vm → BKS l R p e below (s.setVm vm0) args y 3 (rest.map fun v => v.category).sum as' h rc rs V Qf)
    {argsL : List Value} (has : as' = argsL.toArray) (hst : st = argsL.reverse ++ rest) (hlen : ∀ sig, parseMethodDescriptor y.desc = some sig → argsL.length = sig.parameters.length) (hsz : Ls.size = maxL) (hd : decode bytes pc = .ok (.invokestatic idx, 3)) (hce : ce + rc ≤ R.cells) (hsl : sl + rs ≤ R.slots) (hfr : ∀ v h' vm L, Qf v h' vm L → Fw k0 ws L)
    (k : ∀ v h' vm1 L, Qf v h' vm1 L → h.size ≤ h'.size → (s.setVm vm0).Warmed39 vm1 → Go p l e R s m args below meth c Z k0 ws wF own Q w vm1 h' (ce + rc) (sl + rs) (mkF m (pc + 3) Ls (v.toList ++ rest))) : Go p l e R s m args below meth c Z k0 ws wF own Q w vm0 h ce sl (mkF m (pc) Ls (st)) :=
  fun T locs X eT N hS hZ ho hw => by
    subst has hst
    obtain ⟨v, vm1, ⟨T', L', c', s'⟩, hW1, X', hS2, hgr, ⟨L, hQ, q1, q2, q3⟩, st⟩ := callSS X K.1 ho (mvT hZ wl) (mvT hZ wt) (mvT hZ wz) (mvT hZ wc) hy (hK hZ) (g := mkF m pc Ls (argsL.reverse ++ rest)) rfl (by rw [K.2.2.1]; exact hsz) (argsL := argsL) (rest := rest) hlen rfl (by show 2 * 0 + _ ≤ _; omega) (hb K.2.1 hd) (fun vm1 hv => ⟨rfl, eT, hV vm1 hv, hce, hsl⟩)
    dsimp only [Pt.U, Pt.locs, Pt.cells, Pt.slots] at X' q1 q2 q3 st hQ hS2 hgr
    subst q1 q2 q3
    rw [eT] at hgr
    obtain ⟨U, o, hU, r⟩ := k v T'.heap T'.vm L hQ hgr hS2.1 T' _ X' rfl (Fw.app N (hfr _ _ _ _ hQ)) (hS.trans hS2 hgr) (State.Warmed39.trans (t := s.setVm vm0) hZ hS2.1) ((hS2.1.alike.findClass _ _).trans ho) (Or.inl hw1)
    exact ⟨U, o, st.trans hU, r⟩
theorem callI (K : Kit p m meth c bytes maxL ret nm) {pc idx : Nat} {y : MethodName} {as' : Array Value} {rc rs : Nat} {Qf : Option Value → Heap → List Loc → Prop} {by' : ByteArray} {mL : Nat} (hy1 : y.name = "<init>") (wl : (Jvm.Cond.methodLink own idx y).before a0 Z = true) (wt : (Jvm.Cond.instanceMethod y).before a0 Z = true) (wc : (Jvm.Cond.code y by' mL none).before a0 Z = true) (hy : y.cls ≠ "java/lang/invoke/MethodHandle" ∧ y.cls ≠ "java/lang/invoke/VarHandle") {a : Addr}  (hK : Z.Warmed39 (s.setVm vm0).vm → BK l R p e below (s.setVm vm0) args y 3 (rest.map fun v => v.category).sum as' h rc rs Qf)
    {argsL : List Value} (has : as' = (.ref a :: argsL).toArray) (hst : st = argsL.reverse ++ .ref a :: rest) (hlen : ∀ sig, parseMethodDescriptor y.desc = some sig → argsL.length = sig.parameters.length) (hsz : Ls.size = maxL) (hd : decode bytes pc = .ok (.invokespecial idx, 3)) (hce : ce + rc ≤ R.cells) (hsl : sl + rs ≤ R.slots) (hfr : ∀ v h' L, Qf v h' L → Fw k0 ws L ∧ h.size ≤ h'.size)
    (k : ∀ v h' L, Qf v h' L → Go p l e R s m args below meth c Z k0 ws wF own Q w vm0 h' (ce + rc) (sl + rs) (mkF m (pc + 3) Ls (v.toList ++ rest))) : Go p l e R s m args below meth c Z k0 ws wF own Q w vm0 h ce sl (mkF m (pc) Ls (st)) :=
  fun T locs X eT N hS hZ ho hw => by
    subst has hst
    obtain ⟨v, vm1, ⟨T', L', c', s'⟩, hW1, X', ⟨L, hQ, q1, q2, q3⟩, st⟩ := X.specialBack K.1 hy1 ho (mvT hZ wl) (mvT hZ wt) (mvT hZ wc) hy (hK hZ) (g := mkF m pc Ls (argsL.reverse ++ .ref a :: rest)) rfl (by rw [K.2.2.1]; exact hsz) (Steps.refl _) (a := a) (argsL := argsL) (rest := rest) hlen rfl (by show 2 * 0 + _ ≤ _; omega) (hb K.2.1 hd) (fun _ _ => ⟨rfl, eT, hce, hsl⟩)
    dsimp only [Pt.U, Pt.locs, Pt.cells, Pt.slots] at X' q1 q2 q3 st hQ
    subst q1 q2 q3
    obtain ⟨U, o, hU, r⟩ := k v T'.heap L hQ T' _ X' rfl (Fw.app N (hfr _ _ _ hQ).1) ⟨hS.1, hS.2.mono (hfr _ _ _ hQ).2⟩ hZ ho hw
    exact ⟨U, o, st.trans hU, r⟩
theorem callIS (K : Kit p m meth c bytes maxL ret nm) {pc idx : Nat} {y : MethodName} {as' : Array Value} {rc rs : Nat} {V : Vm → Prop} {Qf : Option Value → Heap → Vm → List Loc → Prop} {by' : ByteArray} {mL : Nat} (hy1 : y.name = "<init>") (wl : (Jvm.Cond.methodLink own idx y).before a0 Z = true) (wt : (Jvm.Cond.instanceMethod y).before a0 Z = true) (wc : (Jvm.Cond.code y by' mL none).before a0 Z = true) (hy : y.cls ≠ "java/lang/invoke/MethodHandle" ∧ y.cls ≠ "java/lang/invoke/VarHandle") {a : Addr}  (hw1 : w = true) (hV : ∀ vm1, (s.setVm vm0).WarmedH vm1 → V vm1) (hK : Z.Warmed39 (s.setVm vm0).vm → BKS l R p e below (s.setVm vm0) args y 3 (rest.map fun v => v.category).sum as' h rc rs V Qf)
    {argsL : List Value} (has : as' = (.ref a :: argsL).toArray) (hst : st = argsL.reverse ++ .ref a :: rest) (hlen : ∀ sig, parseMethodDescriptor y.desc = some sig → argsL.length = sig.parameters.length) (hsz : Ls.size = maxL) (hd : decode bytes pc = .ok (.invokespecial idx, 3)) (hce : ce + rc ≤ R.cells) (hsl : sl + rs ≤ R.slots) (hfr : ∀ v h' vm L, Qf v h' vm L → Fw k0 ws L)
    (k : ∀ v h' vm1 L, Qf v h' vm1 L → h.size ≤ h'.size → (s.setVm vm0).Warmed39 vm1 → Go p l e R s m args below meth c Z k0 ws wF own Q w vm1 h' (ce + rc) (sl + rs) (mkF m (pc + 3) Ls (v.toList ++ rest))) : Go p l e R s m args below meth c Z k0 ws wF own Q w vm0 h ce sl (mkF m (pc) Ls (st)) :=
  fun T locs X eT N hS hZ ho hw => by
    subst has hst
    obtain ⟨v, vm1, ⟨T', L', c', s'⟩, hW1, X', hS2, hgr, ⟨L, hQ, q1, q2, q3⟩, st⟩ := X.specialBackS K.1 hy1 ho (mvT hZ wl) (mvT hZ wt) (mvT hZ wc) hy (hK hZ) (g := mkF m pc Ls (argsL.reverse ++ .ref a :: rest)) rfl (by rw [K.2.2.1]; exact hsz) (Steps.refl _) (a := a) (argsL := argsL) (rest := rest) hlen rfl (by show 2 * 0 + _ ≤ _; omega) (hb K.2.1 hd) (fun vm1 hv => ⟨rfl, eT, hV vm1 hv, hce, hsl⟩)
    dsimp only [Pt.U, Pt.locs, Pt.cells, Pt.slots] at X' q1 q2 q3 st hQ hS2 hgr
    subst q1 q2 q3
    rw [eT] at hgr
    obtain ⟨U, o, hU, r⟩ := k v T'.heap T'.vm L hQ hgr hS2.1 T' _ X' rfl (Fw.app N (hfr _ _ _ _ hQ)) (hS.trans hS2 hgr) (State.Warmed39.trans (t := s.setVm vm0) hZ hS2.1) ((hS2.1.alike.findClass _ _).trans ho) (Or.inl hw1)
    exact ⟨U, o, st.trans hU, r⟩
theorem callV (K : Kit p m meth c bytes maxL ret nm) {pc idx : Nat} {y : MethodName} {as' : Array Value} {rc rs : Nat} {Qf : Option Value → Heap → List Loc → Prop} {z : MethodName} {C : String} (wl : (Jvm.Cond.methodLink own idx y).before a0 Z = true) (wd : (Jvm.Cond.declares y).before a0 Z = true) (nf : NotFace (s.setVm vm0) y ∨ ((Jvm.Cond.selects y.cls y y).before a0 Z = true)) (wt : (Jvm.Cond.selects C y z).before a0 Z = true) (wc : (Jvm.Cond.instanceMethod z).before a0 Z = true) (hy : y.cls ≠ "java/lang/invoke/MethodHandle" ∧ y.cls ≠ "java/lang/invoke/VarHandle") {a : Addr} (E : Exa Z h a C)  (hK : Z.Warmed39 (s.setVm vm0).vm → BK l R p e below (s.setVm vm0) args z 3 (rest.map fun v => v.category).sum as' h rc rs Qf)
    {argsL : List Value} (has : as' = (.ref a :: argsL).toArray) (hst : st = argsL.reverse ++ .ref a :: rest) (hlen : ∀ sig, parseMethodDescriptor y.desc = some sig → argsL.length = sig.parameters.length) (hsz : Ls.size = maxL) (hd : decode bytes pc = .ok (.invokevirtual idx, 3)) (hce : ce + rc ≤ R.cells) (hsl : sl + rs ≤ R.slots) (hfr : ∀ v h' L, Qf v h' L → Fw k0 ws L ∧ h.size ≤ h'.size)
    (k : ∀ v h' L, Qf v h' L → Go p l e R s m args below meth c Z k0 ws wF own Q w vm0 h' (ce + rc) (sl + rs) (mkF m (pc + 3) Ls (v.toList ++ rest))) : Go p l e R s m args below meth c Z k0 ws wF own Q w vm0 h ce sl (mkF m (pc) Ls (st)) :=
  fun T locs X eT N hS hZ ho hw => by
    subst has hst
    obtain ⟨cq, kq, qa, qb, qc⟩ := isOf (s := s.setVm vm0) hZ eT E
    have nf' : NotFace (s.setVm vm0) y := nf.elim id (fun q => notFace_of_selects (args := #[]) (mvT hZ q))
    obtain ⟨v, vm1, ⟨T', L', c', s'⟩, hW1, X', ⟨L, hQ, q1, q2, q3⟩, st⟩ := X.virtualBack K.1 ho (mvT hZ wl) (mvT hZ wd) nf' (mvT hZ wt) (mvT hZ wc) hy (hK hZ) qa qc (g := mkF m pc Ls (argsL.reverse ++ .ref a :: rest)) rfl (by rw [K.2.2.1]; exact hsz) (Steps.refl _) (argsL := argsL) (rest := rest) hlen rfl (by show 2 * 0 + _ ≤ _; omega) (hb K.2.1 hd) (fun _ _ => ⟨rfl, eT, hce, hsl⟩)
    dsimp only [Pt.U, Pt.locs, Pt.cells, Pt.slots] at X' q1 q2 q3 st hQ
    subst q1 q2 q3
    obtain ⟨U, o, hU, r⟩ := k v T'.heap L hQ T' _ X' rfl (Fw.app N (hfr _ _ _ hQ).1) ⟨hS.1, hS.2.mono (hfr _ _ _ hQ).2⟩ hZ ho hw
    exact ⟨U, o, st.trans hU, r⟩
theorem callVS (K : Kit p m meth c bytes maxL ret nm) {pc idx : Nat} {y : MethodName} {as' : Array Value} {rc rs : Nat} {V : Vm → Prop} {Qf : Option Value → Heap → Vm → List Loc → Prop} {z : MethodName} {C : String} (wl : (Jvm.Cond.methodLink own idx y).before a0 Z = true) (wd : (Jvm.Cond.declares y).before a0 Z = true) (nf : NotFace (s.setVm vm0) y ∨ ((Jvm.Cond.selects y.cls y y).before a0 Z = true)) (wt : (Jvm.Cond.selects C y z).before a0 Z = true) (wc : (Jvm.Cond.instanceMethod z).before a0 Z = true) (hy : y.cls ≠ "java/lang/invoke/MethodHandle" ∧ y.cls ≠ "java/lang/invoke/VarHandle") {a : Addr} (E : Exa Z h a C)  (hw1 : w = true) (hV : ∀ vm1, (s.setVm vm0).WarmedH vm1 → V vm1) (hK : Z.Warmed39 (s.setVm vm0).vm → BKS l R p e below (s.setVm vm0) args z 3 (rest.map fun v => v.category).sum as' h rc rs V Qf)
    {argsL : List Value} (has : as' = (.ref a :: argsL).toArray) (hst : st = argsL.reverse ++ .ref a :: rest) (hlen : ∀ sig, parseMethodDescriptor y.desc = some sig → argsL.length = sig.parameters.length) (hsz : Ls.size = maxL) (hd : decode bytes pc = .ok (.invokevirtual idx, 3)) (hce : ce + rc ≤ R.cells) (hsl : sl + rs ≤ R.slots) (hfr : ∀ v h' vm L, Qf v h' vm L → Fw k0 ws L)
    (k : ∀ v h' vm1 L, Qf v h' vm1 L → h.size ≤ h'.size → (s.setVm vm0).Warmed39 vm1 → Go p l e R s m args below meth c Z k0 ws wF own Q w vm1 h' (ce + rc) (sl + rs) (mkF m (pc + 3) Ls (v.toList ++ rest))) : Go p l e R s m args below meth c Z k0 ws wF own Q w vm0 h ce sl (mkF m (pc) Ls (st)) :=
  fun T locs X eT N hS hZ ho hw => by
    subst has hst
    obtain ⟨cq, kq, qa, qb, qc⟩ := isOf (s := s.setVm vm0) hZ eT E
    have nf' : NotFace (s.setVm vm0) y := nf.elim id (fun q => notFace_of_selects (args := #[]) (mvT hZ q))
    obtain ⟨v, vm1, ⟨T', L', c', s'⟩, hW1, X', hS2, hgr, ⟨L, hQ, q1, q2, q3⟩, st⟩ := X.virtualBackS K.1 ho (mvT hZ wl) (mvT hZ wd) nf' (mvT hZ wt) (mvT hZ wc) hy (hK hZ) qa qc (g := mkF m pc Ls (argsL.reverse ++ .ref a :: rest)) rfl (by rw [K.2.2.1]; exact hsz) (Steps.refl _) (argsL := argsL) (rest := rest) hlen rfl (by show 2 * 0 + _ ≤ _; omega) (hb K.2.1 hd) (fun vm1 hv => ⟨rfl, eT, hV vm1 hv, hce, hsl⟩)
    dsimp only [Pt.U, Pt.locs, Pt.cells, Pt.slots] at X' q1 q2 q3 st hQ hS2 hgr
    subst q1 q2 q3
    rw [eT] at hgr
    obtain ⟨U, o, hU, r⟩ := k v T'.heap T'.vm L hQ hgr hS2.1 T' _ X' rfl (Fw.app N (hfr _ _ _ _ hQ)) (hS.trans hS2 hgr) (State.Warmed39.trans (t := s.setVm vm0) hZ hS2.1) ((hS2.1.alike.findClass _ _).trans ho) (Or.inl hw1)
    exact ⟨U, o, st.trans hU, r⟩
theorem callF (K : Kit p m meth c bytes maxL ret nm) {pc idx : Nat} {y : MethodName} {as' : Array Value} {rc rs : Nat} {Qf : Option Value → Heap → List Loc → Prop} {z : MethodName} {C : String} {cnt : Nat} (wl : (Jvm.Cond.methodLink own idx y).before a0 Z = true) (wd : (Jvm.Cond.declares y).before a0 Z = true) (wf : (Jvm.Cond.interfaceMethod y.cls y.cls y.name y.desc).before a0 Z = true) (wt : (Jvm.Cond.selects C y z).before a0 Z = true) (wc : (Jvm.Cond.instanceMethod z).before a0 Z = true) (wp : (Jvm.Cond.publicMethod z).before a0 Z = true) (wu : (Jvm.Cond.unhidden C y.name y.desc).before a0 Z = true) (wk : (Jvm.Cond.castable C y.cls).before a0 Z = true) (hy : y.cls ≠ "java/lang/invoke/MethodHandle" ∧ y.cls ≠ "java/lang/invoke/VarHandle") {a : Addr} (E : Exa Z h a C)  (hK : Z.Warmed39 (s.setVm vm0).vm → BK l R p e below (s.setVm vm0) args z 5 (rest.map fun v => v.category).sum as' h rc rs Qf)
    {argsL : List Value} (has : as' = (.ref a :: argsL).toArray) (hst : st = argsL.reverse ++ .ref a :: rest) (hlen : ∀ sig, parseMethodDescriptor y.desc = some sig → argsL.length = sig.parameters.length) (hsz : Ls.size = maxL) (hd : decode bytes pc = .ok (.invokeinterface idx cnt, 5)) (hce : ce + rc ≤ R.cells) (hsl : sl + rs ≤ R.slots) (hfr : ∀ v h' L, Qf v h' L → Fw k0 ws L ∧ h.size ≤ h'.size)
    (k : ∀ v h' L, Qf v h' L → Go p l e R s m args below meth c Z k0 ws wF own Q w vm0 h' (ce + rc) (sl + rs) (mkF m (pc + 5) Ls (v.toList ++ rest))) : Go p l e R s m args below meth c Z k0 ws wF own Q w vm0 h ce sl (mkF m (pc) Ls (st)) :=
  fun T locs X eT N hS hZ ho hw => by
    subst has hst
    obtain ⟨cq, kq, qa, qb, qc⟩ := isOf (s := s.setVm vm0) hZ eT E
    obtain ⟨v, vm1, ⟨T', L', c', s'⟩, hW1, X', ⟨L, hQ, q1, q2, q3⟩, st⟩ := X.interfaceBack K.1 ho (mvT hZ wl) (mvT hZ wd) (mvT hZ wf (by simp [Cond.onTables, Cond.keepsFace, Cond.keeps, Cond.faceAtom, hy])) (mvT hZ wt) (mvT hZ wc) (mvT hZ wp) (mvT hZ wu) (mvT hZ wk) hy (hK hZ) qa qb qc (g := mkF m pc Ls (argsL.reverse ++ .ref a :: rest)) rfl (by rw [K.2.2.1]; exact hsz) (Steps.refl _) (argsL := argsL) (rest := rest) hlen rfl (by show 2 * 0 + _ ≤ _; omega) (hb K.2.1 hd) (fun _ _ => ⟨rfl, eT, hce, hsl⟩)
    dsimp only [Pt.U, Pt.locs, Pt.cells, Pt.slots] at X' q1 q2 q3 st hQ
    subst q1 q2 q3
    obtain ⟨U, o, hU, r⟩ := k v T'.heap L hQ T' _ X' rfl (Fw.app N (hfr _ _ _ hQ).1) ⟨hS.1, hS.2.mono (hfr _ _ _ hQ).2⟩ hZ ho hw
    exact ⟨U, o, st.trans hU, r⟩
theorem ib_warm {vm1 : Vm} {Ts : List String} (I : IB Z vm0 Ts) (hW : (s.setVm vm0).WarmedH vm1) : IB Z vm1 Ts := by
  obtain ⟨more, h1, h2⟩ := I
  exact ⟨more, by rw [hW.interned_eq]; exact h1, h2⟩
/-- ldc of a String constant whose text the walk reads -/
theorem ldcT (K : Kit p m meth c bytes maxL ret nm) (hw1 : w = true) {pc idx : Nat} {text : String} {Ts : List String} {n0 : Nat} {h00 : Heap} (hsh : s.heap = h00) (hk0 : k0 = h00.size) (O : Old Z n0 h00) (hws : ws = []) (wl : (Jvm.Cond.stringLink own idx text).before a0 Z = true) (wS : ∀ a ∈ Bundle.stringAtoms, a.before a0 Z = true) (I : IB Z vm0 Ts) (hnot : text ∉ Ts) (hh : Jvm.Lit.constHeld Z own idx) (hcw : Jvm.Lit.compactW.before a0 Z = true)
    {vs : List Value} {z : Int32} (ht : (∀ c ∈ text.toList, c.toNat < 256) ∧ text.toList.map (fun c => Value.int (Jvm.Lit.byteI c.toNat.toUInt16)) = vs) (hz : ¬ z < 0) (hl : z.toNatClampNeg = vs.length)
    (hd : decode bytes pc = .ok (.ldc idx, 2)) {n : Nat} (hn : 4 * text.toList.length ≤ n) (hbig : n ≤ 536870912) (hc : ce + 2 ≤ R.cells) (hl' : sl + (n + 4) ≤ R.slots)
    (k : ∀ h' vm1 a b kb, Ext h h' → Exa Z h' a "java/lang/String" → Fld Z h' a "java/lang/String" "coder" "B" (.int 0) → Fld Z h' a "java/lang/String" "value" "[B" (.ref b) → Arv Z h' b kb .byte z vs (.int 0) → IB Z vm1 (text :: Ts) → Lit (s.setVm vm1) own idx a → Go p l e R s m args below meth c Z k0 ws wF own Q w vm1 h' (ce + 2) (sl + (n + 4)) (mkF m (pc + 2) Ls (.ref a :: st))) : Go p l e R s m args below meth c Z k0 ws wF own Q w vm0 h ce sl (mkF m (pc) Ls (st)) :=
  fun T locs X eT N hS hZ ho hw => by
    subst hsh hk0 hws
    have N' : Fr s.heap.size locs := fun y hy => (N y hy).elim id (fun z => nomatch z)
    obtain ⟨a, T', h', k1, b, kb, X', e', E, hS', hk1, hZ', ho', r1, r2, r3, r4, r5, r6, r7, r8, st⟩ := ldcSVL X K.1 hZ ho wl wS eT hS (Nat.le_refl _) N' (fun b cl hb => O.2.2 b cl hb) I hnot hh hcw ht hz hl (g := mkF m pc Ls st) rfl (hb K.2.1 hd) hn hbig hc hl'
    obtain ⟨U, o, hU, r⟩ := k h' T'.vm a b kb E r1 r2 r3 r4 r7 r8 T' _ X' e' N ⟨hS'.1, hS'.2.mono hk1⟩ hZ' ho' (Or.inl hw1)
    exact ⟨U, o, st U hU, r⟩
theorem ldcA (K : Kit p m meth c bytes maxL ret nm) {pc idx : Nat} {text : String} {a : Addr} (wl : (Jvm.Cond.stringLink own idx text).before a0 Z = true) (L : Lit (s.setVm vm0) own idx a) (hd : decode bytes pc = .ok (.ldc idx, 2)) (k : Go p l e R s m args below meth c Z k0 ws wF own Q w vm0 h ce sl (mkF m (pc + 2) Ls (.ref a :: st))) : Go p l e R s m args below meth c Z k0 ws wF own Q w vm0 h ce sl (mkF m (pc) Ls (st)) :=
  Go.step (Nat.le_refl _) (fun T locs X eT N hZ ho => ⟨T, locs, X, eT, N, fun t r => ldcAgain X K.1 hZ ho wl L (g := mkF m pc Ls st) rfl (hb K.2.1 hd) t r⟩) k
/-- ldc of a String constant whose text nobody reads -/
theorem ldcN (K : Kit p m meth c bytes maxL ret nm) (hw1 : w = true) {pc idx : Nat} {text : String} (wl : (Jvm.Cond.stringLink own idx text).before a0 Z = true) (wS : ∀ a ∈ Bundle.stringAtoms, a.before a0 Z = true) (hd : decode bytes pc = .ok (.ldc idx, 2)) {n : Nat} (hn : 4 * text.toList.length ≤ n) (hbig : n ≤ 536870912) (hc : ce + 2 ≤ R.cells) (hl' : sl + (n + 4) ≤ R.slots)
    (k : ∀ h' vm1 a, Ext h h' → Go p l e R s m args below meth c Z k0 ws wF own Q w vm1 h' (ce + 2) (sl + (n + 4)) (mkF m (pc + 2) Ls (.ref a :: st))) : Go p l e R s m args below meth c Z k0 ws wF own Q w vm0 h ce sl (mkF m (pc) Ls (st)) :=
  fun T locs X eT N hS hZ ho hw => by
    obtain ⟨a, T', h', k1, X', e', E, hS', hk1, hZ', ho', st⟩ := ldcS X K.1 hZ ho wl wS eT hS (Nat.le_refl _) (g := mkF m pc Ls st) rfl (hb K.2.1 hd) hn hbig hc hl'
    obtain ⟨U, o, hU, r⟩ := k h' T'.vm a E T' _ X' e' N ⟨hS'.1, hS'.2.mono hk1⟩ hZ' ho' (Or.inl hw1)
    exact ⟨U, o, st U hU, r⟩
end
open Jvm Jvm.ClassFile Sem Op Lib Jvm.Free Jvm.Stand Jvm.LawKit Jvm.RoadKit
theorem ane {a b : Nat} (h : ¬ a = b) : (a : Addr) ≠ b := h
theorem fits_isRef {t : FieldType} {v : Value} (ht : t.isReference = true) (h : v.isRef = true) : fits t v = true := by
  cases t <;> cases v <;> first | rfl | (exact absurd ht (by decide)) | (exact absurd h (by simp [Value.isRef]))
theorem cat_ref (a : Addr) : (Value.ref a).category = 1 := rfl
theorem cat_int (a : Int32) : (Value.int a).category = 1 := rfl
theorem cat_long (a : Int64) : (Value.long a).category = 2 := rfl
theorem cat_null : Value.null.category = 1 := rfl
theorem cat_isRef {v : Value} (h : v.isRef = true) : v.category = 1 := by
  cases v <;> first | rfl | (simp [Value.isRef] at h)
theorem i2c_id {x : Int32} (h0 : ¬ x < 0) (h1 : ¬ (65535 : Int32) < x) : x.toUInt32.toUInt16.toUInt32.toInt32 = x := by
  have := c_i2c x
  have a0 : (0 : Int32).toInt = 0 := by decide
  have a1 : (65535 : Int32).toInt = 65535 := by decide
  rw [Int32.lt_iff_toInt_lt] at h0 h1
  apply Int32.toInt_inj.mp
  omega
theorem mask_rng (x : Int32) (m : Int32) (hm : 0 ≤ m.toInt) : ¬ (x &&& m) < 0 ∧ ¬ m < (x &&& m) := by
  have := c_and x m hm
  have a0 : (0 : Int32).toInt = 0 := by decide
  rw [Int32.lt_iff_toInt_lt, Int32.lt_iff_toInt_lt]
  omega
theorem nar_char_id {x : Int32} (h0 : ¬ x < 0) (h1 : ¬ (65535 : Int32) < x) : nar .char x = x := i2c_id h0 h1
theorem nle {a b c : Int32} (h : ¬ b < a) (hbc : ¬ c < b) : ¬ c < a := by
  rw [Int32.lt_iff_toInt_lt] at *; omega
theorem ch255 (x : Int32) : nar .char ((x &&& 255).toUInt32.toUInt16.toUInt32.toInt32) = x &&& 255 := by
  have := mask_rng x 255 (by decide)
  rw [i2c_mask]
  exact nar_char_id this.1 (nle this.2 (by decide))
theorem and3 (x : Int32) : x &&& 3 = 0 ∨ x &&& 3 = 1 ∨ x &&& 3 = 2 ∨ x &&& 3 = 3 := by
  have h := c_and x 3 (by decide)
  have a3 : (3 : Int32).toInt = 3 := by decide
  rw [a3] at h
  have : (x &&& 3).toInt = 0 ∨ (x &&& 3).toInt = 1 ∨ (x &&& 3).toInt = 2 ∨ (x &&& 3).toInt = 3 := by omega
  rcases this with q | q | q | q
  · exact Or.inl (Int32.toInt_inj.mp (q.trans (by decide)))
  · exact Or.inr (Or.inl (Int32.toInt_inj.mp (q.trans (by decide))))
  · exact Or.inr (Or.inr (Or.inl (Int32.toInt_inj.mp (q.trans (by decide)))))
  · exact Or.inr (Or.inr (Or.inr (Int32.toInt_inj.mp (q.trans (by decide)))))
theorem oN_int {a : Nat} (ha : a < 2147483648) : (Int32.ofNat a).toInt = a := by
  rw [Int32.toInt_ofNat_of_lt (by simpa using ha)]
theorem oN_lt {a b : Nat} (ha : a < 2147483648) (hb : b < 2147483648) : Int32.ofNat a < Int32.ofNat b ↔ a < b := by
  rw [Int32.lt_iff_toInt_lt, oN_int ha, oN_int hb]; omega
theorem oN_nn {a : Nat} (ha : a < 2147483648) : ¬ Int32.ofNat a < 0 := by
  rw [Int32.lt_iff_toInt_lt, oN_int ha]; have : (0 : Int32).toInt = 0 := by decide
  omega
theorem oN_clamp {a : Nat} (ha : a < 2147483648) : (Int32.ofNat a).toNatClampNeg = a := by
  rw [Int32.toNatClampNeg, oN_int ha]; rfl
theorem oN_eq {a b : Nat} (ha : a < 2147483648) (hb : b < 2147483648) : Int32.ofNat a = Int32.ofNat b ↔ a = b :=
  ⟨fun h => by have := congrArg Int32.toInt h; rw [oN_int ha, oN_int hb] at this; omega, fun h => by rw [h]⟩
theorem oN_succ (a : Nat) : Int32.ofNat a + 1 = Int32.ofNat (a + 1) := (Int32.ofNat_add a 1).symm
theorem oN_shl (a : Nat) : Int32.ofNat a <<< ((1 : Int32) &&& 31) = Int32.ofNat (2 * a) := by
  rw [show ((1 : Int32) &&& 31) = 1 by decide]
  apply Int32.toBitVec_inj.mp
  simp [Int32.toBitVec_shiftLeft]
  apply BitVec.eq_of_toNat_eq
  simp [BitVec.toNat_shiftLeft, Nat.shiftLeft_eq]
  omega
theorem oN_pred {a : Nat} (h : 0 < a) : Int32.ofNat a - 1 = Int32.ofNat (a - 1) := by
  obtain ⟨b, rfl⟩ : ∃ b, a = b + 1 := ⟨a - 1, by omega⟩
  rw [← oN_succ]; simp
theorem i2c_rng (x : Int32) : ¬ x.toUInt32.toUInt16.toUInt32.toInt32 < 0 ∧ ¬ (65535 : Int32) < x.toUInt32.toUInt16.toUInt32.toInt32 := by
  have h := c_i2c x
  have a0 : (0 : Int32).toInt = 0 := by decide
  have a1 : (65535 : Int32).toInt = 65535 := by decide
  rw [Int32.lt_iff_toInt_lt, Int32.lt_iff_toInt_lt]
  omega
theorem nar_i2c (x : Int32) : nar .char x.toUInt32.toUInt16.toUInt32.toInt32 = x.toUInt32.toUInt16.toUInt32.toInt32 := i2c_id (i2c_rng x).1 (i2c_rng x).2
theorem nar_i2b (x : Int32) : nar .byte x.toInt8.toInt32 = x.toInt8.toInt32 := by
  show x.toInt8.toInt32.toInt8.toInt32 = x.toInt8.toInt32
  simp
theorem oN_sub {a b : Nat} (h : b ≤ a) : Int32.ofNat a - Int32.ofNat b = Int32.ofNat (a - b) := by
  obtain ⟨c, rfl⟩ : ∃ c, a = c + b := ⟨a - b, by omega⟩
  rw [Int32.ofNat_add]; simp
theorem oN_dec (a : Nat) : Int32.ofNat (a + 1) + Int32.ofInt (-1) = Int32.ofNat a := by
  rw [Int32.ofNat_add, Int32.add_assoc]
  rw [show Int32.ofNat 1 + Int32.ofInt (-1) = 0 by decide]; simp
theorem le_lt {x : Int32} (a b : Int32) (h : a.toInt + 1 = b.toInt) : ¬ a < x ↔ x < b := by
  rw [Int32.lt_iff_toInt_lt, Int32.lt_iff_toInt_lt]; omega
theorem getD_int (cs : List Int32) (i : Nat) : (cs.map Value.int).getD i (.int 0) = .int (cs.getD i 0) := by
  simp only [List.getD, List.getElem?_map]
  cases cs[i]? <;> rfl
def b2i (b : Bool) : Int32 := if b then 1 else 0
theorem b2i_nar (b : Bool) : nar .boolean (b2i b) = b2i b := by cases b <;> decide
end GoKit
end Jvm.Pilot.@@N@@
/- laws to paste: Road.lenW, Road.codOf, Road.wide_lo, Road.wide_hi, pair_says, chr8_lo8, shr1, shr0 (cut by pick.py; bodies as the Statement names them) -/
namespace Jvm.Pilot.@@N@@
namespace StrChars
open Jvm Sem ClassFile Op Lib Jvm.Stand Jvm.Free.XT Jvm.Free.ALB Jvm.Free.JM Jvm.Free
open Jvm.Lib.Cold (StaticIs)
/-- a char array whose places are chars -/
def Ch (a : Addr) (A : Cell) (U : State) : Prop := Arr .char a A U ∧ Typed .char A
theorem Ch.mv {a : Addr} {A : Cell} {U U' : State} (h : Ch a A U) (hal : U.vm.Alike U'.vm) (hh : U'.heap = U.heap) : Ch a A U' := ⟨h.1.mv hal hh, h.2⟩
theorem Ch.keep {a : Addr} {A : Cell} {U U' : State} (h : Ch a A U) (hal : U.vm.Alike U'.vm) (hk : U'.heap[a]? = some A) : Ch a A U' := ⟨h.1.keep hal hk, h.2⟩
/-- what place i of a char[]'s cell holds -/
def cv (A : Cell) (i : Nat) : Int32 := match A.slots[i]? with | some (.int x) => x | _ => 0
theorem Ch.get {a : Addr} {A : Cell} {U : State} (h : Ch a A U) {i : Nat} (hi : i < A.slots.size) : A.slots[i]? = some (.int (cv A i)) := by
  have e := Array.getElem?_eq_getElem hi
  have f := h.2 i _ e
  unfold cv; rw [e]
  generalize A.slots[i] = v at f
  cases v <;> simp [fits] at f ⊢
/-- the byte that i2b leaves of a char -/
def lo8 (x : Int32) : Int32 := x.toInt8.toInt32
theorem fits_lo8 (y : Int32) : fits .byte (.int (lo8 y)) = true := by
  have h1 := y.toInt8.le_toInt
  have h2 := y.toInt8.toInt_lt
  simp only [lo8, fits, Bool.and_eq_true, decide_eq_true_eq, Int32.le_iff_toInt_le, Int8.toInt_toInt32, show (-128 : Int32).toInt = -128 from by decide, show (127 : Int32).toInt = 127 from by decide]
  omega
/-- A' is A but that each place j of lo .. hi - 1 holds f j -/
def Laid (A A' : Cell) (lo hi : Nat) (f : Nat → Value) : Prop := A'.cls = A.cls ∧ A'.vm = A.vm ∧ A'.slots.size = A.slots.size ∧ ∀ i, A'.slots[i]? = if lo ≤ i ∧ i < hi then some (f i) else A.slots[i]?
theorem Laid.zero (A : Cell) (lo : Nat) (f : Nat → Value) : Laid A A lo (lo + 0) f := ⟨rfl, rfl, rfl, fun i => by rw [if_neg (by omega)]⟩
theorem Laid.step {A Ak : Cell} {lo k : Nat} {f : Nat → Value} {v : Value} (h : Laid A Ak lo k f) (hlo : lo ≤ k) (hk : k < Ak.slots.size) (hv : v = f k) : Laid A (Ak.setSlot k v) lo (k + 1) f := by
  refine ⟨h.1, h.2.1, by simpa [Cell.setSlot] using h.2.2.1, fun i => ?_⟩
  by_cases e : k = i
  · subst e; rw [Cell.slots_setSlot_self v hk, if_pos (by omega), hv]
  · rw [Cell.slots_setSlot_ne v e, h.2.2.2 i]
    by_cases q : lo ≤ i ∧ i < k
    · rw [if_pos q, if_pos (by omega)]
    · rw [if_neg q, if_neg (by omega)]
def U16 : String := "java/lang/StringUTF16"
namespace Cmp5
def yN : MethodName := ⟨"java/lang/StringUTF16", "compress", "([CI[BII)I"⟩
abbrev yB : ByteArray := jdk_52_method_21_code
theorem d0 : decode yB 0 = .ok (.iconst 0, 1) := by decide +kernel
theorem d1 : decode yB 1 = .ok (.istore 5, 2) := by decide +kernel
theorem d3 : decode yB 3 = .ok (.iload 5, 2) := by decide +kernel
theorem d5 : decode yB 5 = .ok (.iload 4, 2) := by decide +kernel
theorem d7 : decode yB 7 = .ok (.if_icmp (.ge) 37, 3) := by decide +kernel
theorem d10 : decode yB 10 = .ok (.aload_n 0, 1) := by decide +kernel
theorem d11 : decode yB 11 = .ok (.iload_n 1, 1) := by decide +kernel
theorem d12 : decode yB 12 = .ok (.caload, 1) := by decide +kernel
theorem d13 : decode yB 13 = .ok (.istore 6, 2) := by decide +kernel
theorem d15 : decode yB 15 = .ok (.iload 6, 2) := by decide +kernel
theorem d17 : decode yB 17 = .ok (.sipush 255, 3) := by decide +kernel
theorem d20 : decode yB 20 = .ok (.if_icmp (.le) 6, 3) := by decide +kernel
theorem d26 : decode yB 26 = .ok (.aload_n 2, 1) := by decide +kernel
theorem d27 : decode yB 27 = .ok (.iload_n 3, 1) := by decide +kernel
theorem d28 : decode yB 28 = .ok (.iload 6, 2) := by decide +kernel
theorem d30 : decode yB 30 = .ok (.i2b, 1) := by decide +kernel
theorem d31 : decode yB 31 = .ok (.bastore, 1) := by decide +kernel
theorem d32 : decode yB 32 = .ok (.iinc 1 1, 3) := by decide +kernel
theorem d35 : decode yB 35 = .ok (.iinc 3 1, 3) := by decide +kernel
theorem d38 : decode yB 38 = .ok (.iinc 5 1, 3) := by decide +kernel
theorem d41 : decode yB 41 = .ok (.goto (-38), 3) := by decide +kernel
theorem d44 : decode yB 44 = .ok (.iload 4, 2) := by decide +kernel
theorem d46 : decode yB 46 = .ok (.ireturn, 1) := by decide +kernel
def site : List Cond := []
def tab : Cond := tabOf yN yB 7 (some .int) site
def P (b : Addr) (A : Cell) (d : Addr) (B : Cell) (o q len : Nat) (args : Array Value) (s : State) : Prop := args = #[.ref b, .int (Int32.ofNat o), .ref d, .int (Int32.ofNat q), .int (Int32.ofNat len)] ∧ Ch b A s ∧ Arr .byte d B s ∧ b ≠ d ∧ o + len ≤ A.slots.size ∧ q + len ≤ B.slots.size ∧ ∀ i, i < len → ¬ 255 < cv A (o + i)
def E (b : Addr) (A : Cell) (d : Addr) (B : Cell) (o q len : Nat) (r : Option Value) (s u : State) : Prop := r = some (.int (Int32.ofNat len)) ∧ ∃ B', Put d B' s u ∧ Laid B B' q (q + len) (fun j => Value.int (lo8 (cv A (o + (j - q)))))
/-- no char of the range above 255: len; the places written hold each char's low byte -/
theorem law (l : Launch) (b : Addr) (A : Cell) (d : Addr) (B : Cell) (o q len : Nat) : Law l yN 5 5 0 0 yB 7 (some .int) site (P b A d B o q len) (E b A d B o q len) (copyLocs d q len) 0 0 := by
  refine Law.of_walk (plainFor_of_name (by decide +kernel)) (by decide +kernel) (by decide +kernel) (by decide) (fun _ _ h => by rw [h.1]; rfl) (fun _ U U' hal hh h => ⟨h.1, h.2.1.mv hal hh, h.2.2.1.mv hal hh, h.2.2.2⟩) (fun r U U' V V' h1 hal h2 h => ⟨h.1, h.2.elim fun B' q => ⟨B', q.1.mv h1 h2, q.2⟩⟩) ?_
  intro p e s m args below meth c s₁ X0 hexec hbytes hml hret hlk hnm hown hh0 W hP
  obtain ⟨rfl, hA, hB, hne, l1, l2, hp⟩ := hP
  have c1 : Steps p.tables e below (s₁.setTop (entryFrame m #[.ref b, .int (Int32.ofNat o), .ref d, .int (Int32.ofNat q), .int (Int32.ofNat len)] 7)) (s₁.setTop (mkF m 0 #[.val (.ref b), .val (.int (Int32.ofNat o)), .val (.ref d), .val (.int (Int32.ofNat q)), .val (.int (Int32.ofNat len)), .unset, .unset] [])) := entry rfl
  have hA0 := hA.1.mv X0.warmed.alike hh0
  have hB0 := hB.mv X0.warmed.alike hh0
  have a31 := hA.1.2.2.2
  have c2 : Steps p.tables e below (s₁.setTop (entryFrame m #[.ref b, .int (Int32.ofNat o), .ref d, .int (Int32.ofNat q), .int (Int32.ofNat len)] 7)) (s₁.setTop (mkF m 3 #[.val (.ref b), .val (.int (Int32.ofNat o)), .val (.ref d), .val (.int (Int32.ofNat q)), .val (.int (Int32.ofNat len)), .val (.int 0), .unset] [])) := c1.trans (by
    refine iconstV X0.here hexec rfl 0 (hb hbytes d0) (by decide) ?_
    refine XS.istore X0.here hexec rfl (hb hbytes d1) rfl rfl ?_
    exact Steps.refl _)
  have loop : ∀ (r i : Nat), i + r = len → ∀ (z : Slot), (z = .unset ∨ ∃ w, z = .val w ∧ w.category = 1) → ∀ (Tl : State) (Bk : Cell), Stand p l e { frames := 0, locals := 0, cells := 0, slots := 0 } s m #[.ref b, .int (Int32.ofNat o), .ref d, .int (Int32.ofNat q), .int (Int32.ofNat len)] below meth c Tl ([] ++ copyLocs d q i) 0 0 → Put d Bk s₁ Tl → Laid B Bk q (q + i) (fun j => Value.int (lo8 (cv A (o + (j - q))))) →
      Steps p.tables e below (s₁.setTop (entryFrame m #[.ref b, .int (Int32.ofNat o), .ref d, .int (Int32.ofNat q), .int (Int32.ofNat len)] 7)) (Tl.setTop (mkF m 3 #[.val (.ref b), .val (.int (Int32.ofNat (o + i))), .val (.ref d), .val (.int (Int32.ofNat (q + i))), .val (.int (Int32.ofNat len)), .val (.int (Int32.ofNat i)), z] [])) → ∃ (T' : State) (B' : Cell) (z' : Slot), Stand p l e { frames := 0, locals := 0, cells := 0, slots := 0 } s m #[.ref b, .int (Int32.ofNat o), .ref d, .int (Int32.ofNat q), .int (Int32.ofNat len)] below meth c T' ([] ++ copyLocs d q len) 0 0 ∧ Put d B' s₁ T' ∧ Laid B B' q (q + len) (fun j => Value.int (lo8 (cv A (o + (j - q))))) ∧
      Steps p.tables e below (s₁.setTop (entryFrame m #[.ref b, .int (Int32.ofNat o), .ref d, .int (Int32.ofNat q), .int (Int32.ofNat len)] 7)) (T'.setTop (mkF m 3 #[.val (.ref b), .val (.int (Int32.ofNat (o + len))), .val (.ref d), .val (.int (Int32.ofNat (q + len))), .val (.int (Int32.ofNat len)), .val (.int (Int32.ofNat len)), z'] [])) := by
    intro r
    induction r with
    | zero =>
      intro i hi z hz Tl Bk Xl pl fl cl
      have hil : i = len := by omega
      rw [hil] at Xl fl cl
      exact ⟨Tl, Bk, z, Xl, pl, fl, cl⟩
    | succ r ih =>
      intro i hi z hz Tl Bk Xl pl fl cl
      have all := X0.warmed.alike.symm.trans Xl.warmed.alike
      have hAl := hA0.keep all (pl.other hne hA0.1)
      have hBk := hB0.like all pl.1 fl.1 fl.2.1 fl.2.2.1
      have hlt : q + i < Bk.slots.size := by rw [fl.2.2.1]; omega
      have c3 : Steps p.tables e below (s₁.setTop (entryFrame m #[.ref b, .int (Int32.ofNat o), .ref d, .int (Int32.ofNat q), .int (Int32.ofNat len)] 7)) (Tl.setTop (mkF m 12 #[.val (.ref b), .val (.int (Int32.ofNat (o + i))), .val (.ref d), .val (.int (Int32.ofNat (q + i))), .val (.int (Int32.ofNat len)), .val (.int (Int32.ofNat i)), z] [.int (Int32.ofNat (o + i)), .ref b])) := cl.trans (by
        refine XS.iload Xl.here hexec rfl (hb hbytes d3) rfl ?_
        refine XS.iload Xl.here hexec rfl (hb hbytes d5) rfl ?_
        refine XS.icmpNo Xl.here hexec rfl (hb hbytes d7) rfl (ii_ge_f (lt32 (by omega) (by omega))) ?_
        refine XS.aloadN Xl.here hexec rfl (hb hbytes d10) rfl rfl ?_
        refine XS.iloadN Xl.here hexec rfl (hb hbytes d11) rfl ?_
        exact Steps.refl _)
      have c4 : Steps p.tables e below (s₁.setTop (entryFrame m #[.ref b, .int (Int32.ofNat o), .ref d, .int (Int32.ofNat q), .int (Int32.ofNat len)] 7)) (Tl.setTop (mkF m 13 #[.val (.ref b), .val (.int (Int32.ofNat (o + i))), .val (.ref d), .val (.int (Int32.ofNat (q + i))), .val (.int (Int32.ofNat len)), .val (.int (Int32.ofNat i)), z] [.int (cv A (o + i))])) := c3.trans (by
        refine Xl.aget hexec hAl rfl (hA.get (i := o + i) (by omega)) rfl rfl (hb hbytes d12) ?_
        exact Steps.refl _)
      have c5 : Steps p.tables e below (s₁.setTop (entryFrame m #[.ref b, .int (Int32.ofNat o), .ref d, .int (Int32.ofNat q), .int (Int32.ofNat len)] 7)) (Tl.setTop (mkF m 15 #[.val (.ref b), .val (.int (Int32.ofNat (o + i))), .val (.ref d), .val (.int (Int32.ofNat (q + i))), .val (.int (Int32.ofNat len)), .val (.int (Int32.ofNat i)), .val (.int (cv A (o + i)))] [])) := c4.trans (by
        refine XS.istoreS Xl.here hexec rfl (hb hbytes d13) rfl rfl hz ?_
        exact Steps.refl _)
      have c6 : Steps p.tables e below (s₁.setTop (entryFrame m #[.ref b, .int (Int32.ofNat o), .ref d, .int (Int32.ofNat q), .int (Int32.ofNat len)] 7)) (Tl.setTop (mkF m 31 #[.val (.ref b), .val (.int (Int32.ofNat (o + i))), .val (.ref d), .val (.int (Int32.ofNat (q + i))), .val (.int (Int32.ofNat len)), .val (.int (Int32.ofNat i)), .val (.int (cv A (o + i)))] [.int (lo8 (cv A (o + i))), .int (Int32.ofNat (q + i)), .ref d])) := c5.trans (by
        refine XS.iload Xl.here hexec rfl (hb hbytes d15) rfl ?_
        refine sipushV Xl.here hexec rfl 255 (hb hbytes d17) (by decide) ?_
        refine XS.icmpYes Xl.here hexec rfl (pc0 := 20) rfl (hb hbytes d20) rfl (ii_le_t (hp i (by omega))) (by decide) rfl ?_
        refine XS.aloadN Xl.here hexec rfl (hb hbytes d26) rfl rfl ?_
        refine XS.iloadN Xl.here hexec rfl (hb hbytes d27) rfl ?_
        refine XS.iload Xl.here hexec rfl (hb hbytes d28) rfl ?_
        refine i2b Xl.here hexec rfl (hb hbytes d30) rfl ?_
        exact Steps.refl _)
      obtain ⟨T7, X7, p7, st7⟩ := Xl.aput hexec hBk rfl hlt rfl (fits_lo8 (cv A (o + i))) (g := (mkF m 31 #[.val (.ref b), .val (.int (Int32.ofNat (o + i))), .val (.ref d), .val (.int (Int32.ofNat (q + i))), .val (.int (Int32.ofNat len)), .val (.int (Int32.ofNat i)), .val (.int (cv A (o + i)))] [.int (lo8 (cv A (o + i))), .int (Int32.ofNat (q + i)), .ref d])) rfl (rest := []) rfl (hb hbytes d31)
      have c8 : Steps p.tables e below (s₁.setTop (entryFrame m #[.ref b, .int (Int32.ofNat o), .ref d, .int (Int32.ofNat q), .int (Int32.ofNat len)] 7)) (T7.setTop (mkF m 32 #[.val (.ref b), .val (.int (Int32.ofNat (o + i))), .val (.ref d), .val (.int (Int32.ofNat (q + i))), .val (.int (Int32.ofNat len)), .val (.int (Int32.ofNat i)), .val (.int (cv A (o + i)))] [])) := c6.trans (st7 _ (Steps.refl _))
      have c9 : Steps p.tables e below (s₁.setTop (entryFrame m #[.ref b, .int (Int32.ofNat o), .ref d, .int (Int32.ofNat q), .int (Int32.ofNat len)] 7)) (T7.setTop (mkF m 3 #[.val (.ref b), .val (.int (Int32.ofNat (o + i) + 1)), .val (.ref d), .val (.int (Int32.ofNat (q + i) + 1)), .val (.int (Int32.ofNat len)), .val (.int (Int32.ofNat i + 1)), .val (.int (cv A (o + i)))] [])) := c8.trans (by
        refine iincV X7.here hexec rfl 1 (hb hbytes d32) (by decide) rfl rfl ?_
        refine iincV X7.here hexec rfl 1 (hb hbytes d35) (by decide) rfl rfl ?_
        refine iincV X7.here hexec rfl 1 (hb hbytes d38) (by decide) rfl rfl ?_
        refine XS.goto X7.here hexec rfl (pc0 := 41) rfl (hb hbytes d41) (by decide) rfl ?_
        exact Steps.refl _)
      have c10 : Steps p.tables e below (s₁.setTop (entryFrame m #[.ref b, .int (Int32.ofNat o), .ref d, .int (Int32.ofNat q), .int (Int32.ofNat len)] 7)) (T7.setTop (mkF m 3 #[.val (.ref b), .val (.int (Int32.ofNat (o + (i + 1)))), .val (.ref d), .val (.int (Int32.ofNat (q + (i + 1)))), .val (.int (Int32.ofNat len)), .val (.int (Int32.ofNat (i + 1))), .val (.int (cv A (o + i)))] [])) := by
        have := c9
        rw [succ32, succ32, succ32] at this
        exact this
      exact ih (i + 1) (by omega) _ (Or.inr ⟨_, rfl, rfl⟩) T7 _ (by rw [copyLocs_step, ← List.append_assoc]; exact X7) (pl.trans p7) (fl.step (by omega) hlt (by simp)) c10
  obtain ⟨T9, B9, z9, X9, p9, f9, g9⟩ := loop len 0 (by omega) .unset (Or.inl rfl) s₁ B (by simpa [copyLocs] using X0) ⟨hB0.1, fun _ _ => rfl, rfl⟩ (Laid.zero _ _ _) c2
  have c11 : Steps p.tables e below (s₁.setTop (entryFrame m #[.ref b, .int (Int32.ofNat o), .ref d, .int (Int32.ofNat q), .int (Int32.ofNat len)] 7)) (T9.setTop (mkF m 46 #[.val (.ref b), .val (.int (Int32.ofNat (o + len))), .val (.ref d), .val (.int (Int32.ofNat (q + len))), .val (.int (Int32.ofNat len)), .val (.int (Int32.ofNat len)), z9] [.int (Int32.ofNat len)])) := g9.trans (by
    refine XS.iload X9.here hexec rfl (hb hbytes d3) rfl ?_
    refine XS.iload X9.here hexec rfl (hb hbytes d5) rfl ?_
    refine XS.icmpYes X9.here hexec rfl (pc0 := 7) rfl (hb hbytes d7) rfl (ii_ge_t (nlt32 (by omega) (Nat.le_refl _))) (by decide) rfl ?_
    refine XS.iload X9.here hexec rfl (hb hbytes d44) rfl ?_
    exact Steps.refl _)
  exact ⟨T9, some (.int (Int32.ofNat len)), _, _, _, X9, by simp, rfl, rfl, (fun h => by cases h), ⟨rfl, B9, p9.from hh0, f9⟩, fun fs hl => c11.trans (X9.ireturnOut hexec hret rfl (Or.inl rfl) (hb hbytes d46) hl)⟩
end Cmp5
namespace Cmp3
def yN : MethodName := ⟨"java/lang/StringUTF16", "compress", "([CII)[B"⟩
abbrev yB : ByteArray := jdk_52_method_16_code
theorem d0 : decode yB 0 = .ok (.iload_n 2, 1) := by decide +kernel
theorem d1 : decode yB 1 = .ok (.newarray .byte, 2) := by decide +kernel
theorem d3 : decode yB 3 = .ok (.astore_n 3, 1) := by decide +kernel
theorem d4 : decode yB 4 = .ok (.aload_n 0, 1) := by decide +kernel
theorem d5 : decode yB 5 = .ok (.iload_n 1, 1) := by decide +kernel
theorem d6 : decode yB 6 = .ok (.aload_n 3, 1) := by decide +kernel
theorem d7 : decode yB 7 = .ok (.iconst 0, 1) := by decide +kernel
theorem d8 : decode yB 8 = .ok (.iload_n 2, 1) := by decide +kernel
theorem d9 : decode yB 9 = .ok (.invokestatic 115, 3) := by decide +kernel
theorem d12 : decode yB 12 = .ok (.istore 4, 2) := by decide +kernel
theorem d14 : decode yB 14 = .ok (.iload 4, 2) := by decide +kernel
theorem d16 : decode yB 16 = .ok (.iload_n 2, 1) := by decide +kernel
theorem d17 : decode yB 17 = .ok (.if_icmp (.eq) 40, 3) := by decide +kernel
theorem d57 : decode yB 57 = .ok (.aload_n 3, 1) := by decide +kernel
theorem d58 : decode yB 58 = .ok (.areturn, 1) := by decide +kernel
def site : List Cond := [.arrayClass .byte, Cmp5.tab] ++ staticW U16 115 Cmp5.yN
def tab : Cond := tabOf yN yB 6 (some (.array .byte)) site
def P (b : Addr) (A : Cell) (o len : Nat) (args : Array Value) (s : State) : Prop := args = #[.ref b, .int (Int32.ofNat o), .int (Int32.ofNat len)] ∧ Ch b A s ∧ o + len ≤ A.slots.size ∧ len ≤ 536870912 ∧ ∀ i, i < len → ¬ 255 < cv A (o + i)
def E (b : Addr) (A : Cell) (o len : Nat) (r : Option Value) (s u : State) : Prop := NewArr .byte "[B" len (fun j => .int (lo8 (cv A (o + j)))) r s u ∧ u.heap.size = s.heap.size + 1
/-- no char of the range above 255: a new byte[] of their low bytes -/
theorem law (l : Launch) (b : Addr) (A : Cell) (o len : Nat) : Law l yN 3 3 1 18 yB 6 (some (.array .byte)) site (P b A o len) (E b A o len) [] 1 len := by
  refine Law.of_walk (plainFor_of_name (by decide +kernel)) (by decide +kernel) (by decide +kernel) (by decide) (fun _ _ h => by rw [h.1]; rfl) (fun _ U U' hal hh h => ⟨h.1, h.2.1.mv hal hh, h.2.2⟩) (fun r U U' V V' h1 hal h2 h => ⟨NewArr.mv r U U' V V' h1 hal h2 h.1, by rw [h1, h2]; exact h.2⟩) ?_
  intro p e s m args below meth c s₁ X0 hexec hbytes hml hret hlk hnm hown hh0 W hP
  obtain ⟨rfl, hA, l1, l2, hp⟩ := hP
  have a31 := hA.1.2.2.2
  have c1 : Steps p.tables e below (s₁.setTop (entryFrame m #[.ref b, .int (Int32.ofNat o), .int (Int32.ofNat len)] 6)) (s₁.setTop (mkF m 0 #[.val (.ref b), .val (.int (Int32.ofNat o)), .val (.int (Int32.ofNat len)), .unset, .unset, .unset] [])) := entry rfl
  have c2 : Steps p.tables e below (s₁.setTop (entryFrame m #[.ref b, .int (Int32.ofNat o), .int (Int32.ofNat len)] 6)) (s₁.setTop (mkF m 1 #[.val (.ref b), .val (.int (Int32.ofNat o)), .val (.int (Int32.ofNat len)), .unset, .unset, .unset] [.int (Int32.ofNat len)])) := c1.trans (by
    refine XS.iloadN X0.here hexec rfl (hb hbytes d0) rfl ?_
    exact Steps.refl _)
  obtain ⟨T3, B3, X3, ba3, bs3, bv3, bh3, bf3, st3⟩ := X0.anew hexec (atype := .byte) (wk W (.arrayClass .byte)) rfl (by show len * 1 ≤ _; omega) (by omega) (g := (mkF m 1 #[.val (.ref b), .val (.int (Int32.ofNat o)), .val (.int (Int32.ofNat len)), .unset, .unset, .unset] [.int (Int32.ofNat len)])) rfl (hb hbytes d1) (rest := []) rfl (Nat.le_refl _) (by show 0 + len ≤ len; omega)
  rw [hh0] at ba3 st3
  have kp3 : XT.Kept s T3 := (XT.Kept.of_eq hh0).push bh3
  have hA3 := hA.keep X3.warmed.alike (kp3 _ _ hA.1.1)
  have hne : b ≠ s.heap.size := hA.1.ne
  have c4 : Steps p.tables e below (s₁.setTop (entryFrame m #[.ref b, .int (Int32.ofNat o), .int (Int32.ofNat len)] 6)) (T3.setTop (mkF m 3 #[.val (.ref b), .val (.int (Int32.ofNat o)), .val (.int (Int32.ofNat len)), .unset, .unset, .unset] [.ref s.heap.size])) := c2.trans (st3 _ (Steps.refl _))
  have c5 : Steps p.tables e below (s₁.setTop (entryFrame m #[.ref b, .int (Int32.ofNat o), .int (Int32.ofNat len)] 6)) (T3.setTop (mkF m 9 #[.val (.ref b), .val (.int (Int32.ofNat o)), .val (.int (Int32.ofNat len)), .val (.ref s.heap.size), .unset, .unset] [.int (Int32.ofNat len), .int 0, .ref s.heap.size, .int (Int32.ofNat o), .ref b])) := c4.trans (by
    refine XS.astoreN X3.here hexec rfl (hb hbytes d3) rfl rfl rfl ?_
    refine XS.aloadN X3.here hexec rfl (hb hbytes d4) rfl rfl ?_
    refine XS.iloadN X3.here hexec rfl (hb hbytes d5) rfl ?_
    refine XS.aloadN X3.here hexec rfl (hb hbytes d6) rfl rfl ?_
    refine iconstV X3.here hexec rfl 0 (hb hbytes d7) (by decide) ?_
    refine XS.iloadN X3.here hexec rfl (hb hbytes d8) rfl ?_
    exact Steps.refl _)
  obtain ⟨v6, T6, X6, E6, g6⟩ := X3.callS hexec (Cmp5.law l b A s.heap.size B3 o 0 len) hown (wks W (staticW U16 115 Cmp5.yN)) (wk W Cmp5.tab) (W := 0) (Nat.le_of_ble_eq_true rfl) (Nat.le_of_ble_eq_true rfl) (Nat.le_refl _) (by show 0 + len + 0 ≤ len; omega) (g := (mkF m 9 #[.val (.ref b), .val (.int (Int32.ofNat o)), .val (.int (Int32.ofNat len)), .val (.ref s.heap.size), .unset, .unset] [.int (Int32.ofNat len), .int (Int32.ofNat 0), .ref s.heap.size, .int (Int32.ofNat o), .ref b])) rfl (by rw [hml]; rfl) c5 (argsL := [.ref b, .int (Int32.ofNat o), .ref s.heap.size, .int (Int32.ofNat 0), .int (Int32.ofNat len)]) (rest := []) rfl rfl (by show 2 * 0 + 0 ≤ _; decide) (hb hbytes d9) (⟨rfl, hA3, ba3, hne, l1, by rw [bs3]; simp, hp⟩)
  obtain ⟨rfl, B6, p6, f6⟩ := E6
  have c7 : Steps p.tables e below (s₁.setTop (entryFrame m #[.ref b, .int (Int32.ofNat o), .int (Int32.ofNat len)] 6)) (T6.setTop (mkF m 12 #[.val (.ref b), .val (.int (Int32.ofNat o)), .val (.int (Int32.ofNat len)), .val (.ref s.heap.size), .unset, .unset] [.int (Int32.ofNat len)])) := g6
  have c8 : Steps p.tables e below (s₁.setTop (entryFrame m #[.ref b, .int (Int32.ofNat o), .int (Int32.ofNat len)] 6)) (T6.setTop (mkF m 58 #[.val (.ref b), .val (.int (Int32.ofNat o)), .val (.int (Int32.ofNat len)), .val (.ref s.heap.size), .val (.int (Int32.ofNat len)), .unset] [.ref s.heap.size])) := c7.trans (by
    refine XS.istore X6.here hexec rfl (hb hbytes d12) rfl rfl ?_
    refine XS.iload X6.here hexec rfl (hb hbytes d14) rfl ?_
    refine XS.iloadN X6.here hexec rfl (hb hbytes d16) rfl ?_
    refine XS.icmpYes X6.here hexec rfl (pc0 := 17) rfl (hb hbytes d17) rfl (ii_eq_t rfl) (by decide) rfl ?_
    refine XS.aloadN X6.here hexec rfl (hb hbytes d57) rfl rfl ?_
    exact Steps.refl _)
  have X8 := X6.wide (L' := []) (cells' := 1) (slots' := len) (fun x hx hlt => by
    simp only [List.nil_append, copyLocs, List.mem_map, List.mem_range] at hx
    obtain ⟨i, -, rfl⟩ := hx
    exact absurd hlt (Nat.lt_irrefl _)) (Nat.le_refl _) (by omega)
  exact ⟨T6, some (.ref s.heap.size), _, _, _, X8, rfl, rfl, rfl, (fun h => by cases h), ⟨⟨rfl, B6, ba3.like (X3.warmed.alike.symm.trans X6.warmed.alike) p6.1 f6.1 f6.2.1 f6.2.2.1, f6.2.1.trans bv3, by rw [X6.warmed.alike.findClass, f6.1]; exact bf3, by rw [f6.2.2.1, bs3]; simp, fun j hj => by rw [f6.2.2.2 j, if_pos (by omega)]; rfl, kp3.put p6 (Nat.le_refl _)⟩, by rw [p6.2.2, bh3, hh0]; simp⟩, fun fs hl => c8.trans (X8.areturnOut hexec rfl hret rfl (hb hbytes d58) hl)⟩
end Cmp3
namespace CodL
def yN : MethodName := ⟨"java/lang/StringUTF16", "coderFromArrayLen", "([BI)B"⟩
abbrev yB : ByteArray := jdk_52_method_15_code
theorem d0 : decode yB 0 = .ok (.iload_n 1, 1) := by decide +kernel
theorem d1 : decode yB 1 = .ok (.aload_n 0, 1) := by decide +kernel
theorem d2 : decode yB 2 = .ok (.arraylength, 1) := by decide +kernel
theorem d3 : decode yB 3 = .ok (.isub, 1) := by decide +kernel
theorem d4 : decode yB 4 = .ok (.bipush 31, 2) := by decide +kernel
theorem d6 : decode yB 6 = .ok (.iushr, 1) := by decide +kernel
theorem d7 : decode yB 7 = .ok (.i2b, 1) := by decide +kernel
theorem d8 : decode yB 8 = .ok (.ireturn, 1) := by decide +kernel
def site : List Cond := []
def tab : Cond := tabOf yN yB 2 (some .byte) site
def P (d : Addr) (B : Cell) (args : Array Value) (s : State) : Prop := args = #[.ref d, .int (Int32.ofNat B.slots.size)] ∧ Arr .byte d B s
def E (r : Option Value) (s u : State) : Prop := XT.PureE (some (.int 0)) r s u
/-- an array as long as the number of chars: LATIN1 -/
theorem law (l : Launch) (d : Addr) (B : Cell) : Law l yN 2 2 0 0 yB 2 (some .byte) site (P d B) E [] 0 0 := by
  refine Law.of_walk (plainFor_of_name (by decide +kernel)) (by decide +kernel) (by decide +kernel) (by decide) (fun _ _ h => by rw [h.1]; rfl) (fun _ U U' hal hh h => ⟨h.1, h.2.mv hal hh⟩) (fun r U U' V V' h1 hal h2 h => XT.PureE.mv r U U' V V' h1 hal h2 h) ?_
  intro p e s m args below meth c s₁ X0 hexec hbytes hml hret hlk hnm hown hh0 W hP
  obtain ⟨rfl, hB⟩ := hP
  have hB0 := hB.mv X0.warmed.alike hh0
  have c1 : Steps p.tables e below (s₁.setTop (entryFrame m #[.ref d, .int (Int32.ofNat B.slots.size)] 2)) (s₁.setTop (mkF m 0 #[.val (.ref d), .val (.int (Int32.ofNat B.slots.size))] [])) := entry rfl
  have c2 : Steps p.tables e below (s₁.setTop (entryFrame m #[.ref d, .int (Int32.ofNat B.slots.size)] 2)) (s₁.setTop (mkF m 2 #[.val (.ref d), .val (.int (Int32.ofNat B.slots.size))] [.ref d, .int (Int32.ofNat B.slots.size)])) := c1.trans (by
    refine XS.iloadN X0.here hexec rfl (hb hbytes d0) rfl ?_
    refine XS.aloadN X0.here hexec rfl (hb hbytes d1) rfl rfl ?_
    exact Steps.refl _)
  have c3 : Steps p.tables e below (s₁.setTop (entryFrame m #[.ref d, .int (Int32.ofNat B.slots.size)] 2)) (s₁.setTop (mkF m 8 #[.val (.ref d), .val (.int (Int32.ofNat B.slots.size))] [.int (lo8 (ushr (Int32.ofNat B.slots.size - Int32.ofNat B.slots.size) 31))])) := c2.trans (by
    refine X0.alen hexec hB0 rfl rfl (hb hbytes d2) ?_
    refine XS.isub X0.here hexec rfl (hb hbytes d3) rfl ?_
    refine bipushV X0.here hexec rfl 31 (hb hbytes d4) (by decide) ?_
    refine iushr X0.here hexec rfl (hb hbytes d6) rfl ?_
    refine i2b X0.here hexec rfl (hb hbytes d7) rfl ?_
    exact Steps.refl _)
  have e0 : lo8 (ushr (Int32.ofNat B.slots.size - Int32.ofNat B.slots.size) 31) = 0 := by rw [Int32.sub_self]; decide
  rw [e0] at c3
  exact ⟨s₁, some (.int 0), _, _, _, X0, rfl, rfl, rfl, (fun h => by cases h), ⟨rfl, hh0⟩, fun fs hl => c3.trans (X0.ireturnOut hexec hret rfl (Or.inr (Or.inr (Or.inl rfl))) (hb hbytes d8) hl)⟩
end CodL
/-- the String at a is Latin-1 over a new byte[] (the heap's one new cell): the low bytes of the len chars of A from o on; every cell but a is kept -/
def Got (a : Addr) (D : Cell) (fV fC : Field) (A : Cell) (o len : Nat) (r : Option Value) (s u : State) : Prop := r = none ∧ ∃ D' V : Cell, Blank "java/lang/String" a D' u ∧ Same D D' [fV.slot, fC.slot] ∧ D'.slots[fV.slot]? = some (.ref s.heap.size) ∧ D'.slots[fC.slot]? = some (.int 0) ∧ Arr .byte s.heap.size V u ∧ V.vm = .none ∧ u.vm.findClass "[B" = some V.cls ∧ V.slots.size = len ∧ (∀ j, j < len → V.slots[j]? = some (.int (lo8 (cv A (o + j))))) ∧ (∀ (y : Addr) (c : Cell), y ≠ a → s.heap[y]? = some c → u.heap[y]? = some c) ∧ u.heap.size = s.heap.size + 1
theorem Got.mv {a : Addr} {D A : Cell} {fV fC : Field} {o len : Nat} : ∀ r (U U' V V' : State), U'.heap = U.heap → V.vm.Alike V'.vm → V'.heap = V.heap → Got a D fV fC A o len r U V → Got a D fV fC A o len r U' V' :=
  fun r U U' V V' h1 hal h2 ⟨e0, D', X, a1, a2, a3, a4, a5, a6, a7, a8, a9, a10, a11⟩ => ⟨e0, D', X, a1.mv hal h2, a2, by rw [h1]; exact a3, a4, by rw [h1]; exact a5.mv hal h2, a6, by rw [hal.findClass]; exact a7, a8, a9, by rw [h1, h2]; exact a10, by rw [h1, h2]; exact a11⟩
namespace New4
def yN : MethodName := ⟨"java/lang/String", "<init>", "([CIILjava/lang/Void;)V"⟩
abbrev yB : ByteArray := jdk_42_method_149_code
theorem d0 : decode yB 0 = .ok (.aload_n 0, 1) := by decide +kernel
theorem d1 : decode yB 1 = .ok (.invokespecial 1, 3) := by decide +kernel
theorem d4 : decode yB 4 = .ok (.iload_n 3, 1) := by decide +kernel
theorem d5 : decode yB 5 = .ok (.ifCond (.ne) 22, 3) := by decide +kernel
theorem d27 : decode yB 27 = .ok (.getstatic 38, 3) := by decide +kernel
theorem d30 : decode yB 30 = .ok (.ifCond (.eq) 28, 3) := by decide +kernel
theorem d33 : decode yB 33 = .ok (.aload_n 1, 1) := by decide +kernel
theorem d34 : decode yB 34 = .ok (.iload_n 2, 1) := by decide +kernel
theorem d35 : decode yB 35 = .ok (.iload_n 3, 1) := by decide +kernel
theorem d36 : decode yB 36 = .ok (.invokestatic 177, 3) := by decide +kernel
theorem d39 : decode yB 39 = .ok (.astore 5, 2) := by decide +kernel
theorem d41 : decode yB 41 = .ok (.aload_n 0, 1) := by decide +kernel
theorem d42 : decode yB 42 = .ok (.aload 5, 2) := by decide +kernel
theorem d44 : decode yB 44 = .ok (.iload_n 3, 1) := by decide +kernel
theorem d45 : decode yB 45 = .ok (.invokestatic 47, 3) := by decide +kernel
theorem d48 : decode yB 48 = .ok (.putfield 15, 3) := by decide +kernel
theorem d51 : decode yB 51 = .ok (.aload_n 0, 1) := by decide +kernel
theorem d52 : decode yB 52 = .ok (.aload 5, 2) := by decide +kernel
theorem d54 : decode yB 54 = .ok (.putfield 9, 3) := by decide +kernel
theorem d57 : decode yB 57 = .ok (.return_, 1) := by decide +kernel
def site : List Cond := [.fieldLink "java/lang/String" 38 "java/lang/String" "COMPACT_STRINGS" "Z", Cmp3.tab, CodL.tab, .laysFinal "java/lang/String" "java/lang/String" "value" "[B", .fieldLink "java/lang/String" 9 "java/lang/String" "value" "[B", .laysFinal "java/lang/String" "java/lang/String" "coder" "B", .fieldLink "java/lang/String" 15 "java/lang/String" "coder" "B"] ++ objW "java/lang/String" 1 ++ staticW "java/lang/String" 177 Cmp3.yN ++ staticW "java/lang/String" 47 CodL.yN
def tab : Cond := tabOf yN yB 6 none site
def P (a : Addr) (D : Cell) (fV fC : Field) (b : Addr) (A : Cell) (z : Int32) (o len : Nat) (args : Array Value) (s : State) : Prop := args = #[.ref a, .ref b, .int (Int32.ofNat o), .int (Int32.ofNat len), .null] ∧ Blank "java/lang/String" a D s ∧ Found "java/lang/String" "value" "[B" fV s ∧ Found "java/lang/String" "coder" "B" fC s ∧ Ch b A s ∧ StaticIs s "java/lang/String" "COMPACT_STRINGS" "Z" (.int z) ∧ ¬ z = 0 ∧ 0 < len ∧ o + len ≤ A.slots.size ∧ len ≤ 536870912 ∧ ∀ i, i < len → ¬ 255 < cv A (o + i)
def E (a : Addr) (D : Cell) (fV fC : Field) (A : Cell) (o len : Nat) (r : Option Value) (s u : State) : Prop := Got a D fV fC A o len r s u
/-- len > 0, no char of the range above 255: a Latin-1 String of their low bytes -/
theorem law (l : Launch) (a : Addr) (D : Cell) (fV fC : Field) (b : Addr) (A : Cell) (z : Int32) (o len : Nat) : Law l yN 5 4 2 35 yB 6 none site (P a D fV fC b A z o len) (E a D fV fC A o len) [⟨a, fC.slot⟩, ⟨a, fV.slot⟩] 1 len := by
  refine Law.of_walk (plainFor_of_name (by decide +kernel)) (by decide +kernel) (by decide +kernel) (by decide) (fun _ _ h => by rw [h.1]; rfl) (fun _ U U' hal hh h => ⟨h.1, h.2.1.mv hal hh, h.2.2.1.al hal, h.2.2.2.1.al hal, h.2.2.2.2.1.mv hal hh, h.2.2.2.2.2.1.there hal hh, h.2.2.2.2.2.2⟩) (fun r U U' V V' h1 hal h2 h => Got.mv r U U' V V' h1 hal h2 h) ?_
  intro p e s m args below meth c s₁ X0 hexec hbytes hml hret hlk hnm hown hh0 W hP
  obtain ⟨rfl, hB, f1, f2, hA, s1, hz, l0, l1, l2, hp⟩ := hP
  have a31 := hA.1.2.2.2
  have c1 : Steps p.tables e below (s₁.setTop (entryFrame m #[.ref a, .ref b, .int (Int32.ofNat o), .int (Int32.ofNat len), .null] 6)) (s₁.setTop (mkF m 0 #[.val (.ref a), .val (.ref b), .val (.int (Int32.ofNat o)), .val (.int (Int32.ofNat len)), .val .null, .unset] [])) := entry rfl
  have c2 : Steps p.tables e below (s₁.setTop (entryFrame m #[.ref a, .ref b, .int (Int32.ofNat o), .int (Int32.ofNat len), .null] 6)) (s₁.setTop (mkF m 1 #[.val (.ref a), .val (.ref b), .val (.int (Int32.ofNat o)), .val (.int (Int32.ofNat len)), .val .null, .unset] [.ref a])) := c1.trans (by
    refine XS.aloadN X0.here hexec rfl (hb hbytes d0) rfl rfl ?_
    exact Steps.refl _)
  obtain ⟨T3, X3, q3, st3⟩ := X0.oinit hexec hown (wks W (objW "java/lang/String" 1)) (g := (mkF m 1 #[.val (.ref a), .val (.ref b), .val (.int (Int32.ofNat o)), .val (.int (Int32.ofNat len)), .val .null, .unset] [.ref a])) rfl (by rw [hml]; rfl) (rest := []) rfl (hb hbytes d1) (W := 0) (by show 2 * 0 + 0 ≤ _; decide) (Nat.le_of_ble_eq_true rfl) (Nat.le_of_ble_eq_true rfl)
  have hh3 := q3.trans hh0
  have c4 : Steps p.tables e below (s₁.setTop (entryFrame m #[.ref a, .ref b, .int (Int32.ofNat o), .int (Int32.ofNat len), .null] 6)) (T3.setTop (mkF m 27 #[.val (.ref a), .val (.ref b), .val (.int (Int32.ofNat o)), .val (.int (Int32.ofNat len)), .val .null, .unset] [])) := (c2.trans (st3 _ (Steps.refl _))).trans (by
    refine XS.iloadN X3.here hexec rfl (hb hbytes d4) rfl ?_
    refine XS.ifYes X3.here hexec rfl (pc0 := 5) rfl (hb hbytes d5) rfl (i0_ne_t (nz32 (by omega) l0)) (by decide) rfl ?_
    exact Steps.refl _)
  obtain ⟨T5, X5, q5, st5⟩ := X3.sget hexec hown (wk W (.fieldLink "java/lang/String" 38 "java/lang/String" "COMPACT_STRINGS" "Z")) s1 (fun _ _ h => by rw [hh3]; exact h) (g := (mkF m 27 #[.val (.ref a), .val (.ref b), .val (.int (Int32.ofNat o)), .val (.int (Int32.ofNat len)), .val .null, .unset] [])) rfl (hb hbytes d27)
  have hh5 := q5.trans hh3
  have c6 : Steps p.tables e below (s₁.setTop (entryFrame m #[.ref a, .ref b, .int (Int32.ofNat o), .int (Int32.ofNat len), .null] 6)) (T5.setTop (mkF m 30 #[.val (.ref a), .val (.ref b), .val (.int (Int32.ofNat o)), .val (.int (Int32.ofNat len)), .val .null, .unset] [.int z])) := c4.trans (st5 _ (Steps.refl _))
  have c7 : Steps p.tables e below (s₁.setTop (entryFrame m #[.ref a, .ref b, .int (Int32.ofNat o), .int (Int32.ofNat len), .null] 6)) (T5.setTop (mkF m 36 #[.val (.ref a), .val (.ref b), .val (.int (Int32.ofNat o)), .val (.int (Int32.ofNat len)), .val .null, .unset] [.int (Int32.ofNat len), .int (Int32.ofNat o), .ref b])) := c6.trans (by
    refine XS.ifNo X5.here hexec rfl (hb hbytes d30) rfl (i0_eq_f hz) ?_
    refine XS.aloadN X5.here hexec rfl (hb hbytes d33) rfl rfl ?_
    refine XS.iloadN X5.here hexec rfl (hb hbytes d34) rfl ?_
    refine XS.iloadN X5.here hexec rfl (hb hbytes d35) rfl ?_
    exact Steps.refl _)
  obtain ⟨v8, T8, X8, E8, g8⟩ := X5.callS hexec (Cmp3.law l b A o len) hown (wks W (staticW "java/lang/String" 177 Cmp3.yN)) (wk W Cmp3.tab) (W := 0) (Nat.le_of_ble_eq_true rfl) (Nat.le_of_ble_eq_true rfl) (Nat.le_refl _) (by show 0 + len ≤ len; omega) (g := (mkF m 36 #[.val (.ref a), .val (.ref b), .val (.int (Int32.ofNat o)), .val (.int (Int32.ofNat len)), .val .null, .unset] [.int (Int32.ofNat len), .int (Int32.ofNat o), .ref b])) rfl (by rw [hml]; rfl) c7 (argsL := [.ref b, .int (Int32.ofNat o), .int (Int32.ofNat len)]) (rest := []) rfl rfl (by show 2 * 0 + 0 ≤ _; decide) (hb hbytes d36) (⟨rfl, hA.mv X5.warmed.alike hh5, l1, l2, hp⟩)
  obtain ⟨e8, z8⟩ := E8
  obtain ⟨rfl, N, n1, n2, n3, n4, n5, n6⟩ := NewArr.mv _ T5 s _ _ hh5.symm (Vm.Alike.refl _) rfl e8
  rw [hh5] at z8
  have hB1 := hB.keep X8.warmed.alike (n6 _ _ hB.1)
  have hne : s.heap.size ≠ a := (Nat.ne_of_lt (Array.getElem?_eq_some_iff.mp hB.1).1).symm
  have c9 : Steps p.tables e below (s₁.setTop (entryFrame m #[.ref a, .ref b, .int (Int32.ofNat o), .int (Int32.ofNat len), .null] 6)) (T8.setTop (mkF m 39 #[.val (.ref a), .val (.ref b), .val (.int (Int32.ofNat o)), .val (.int (Int32.ofNat len)), .val .null, .unset] [.ref s.heap.size])) := g8
  have c10 : Steps p.tables e below (s₁.setTop (entryFrame m #[.ref a, .ref b, .int (Int32.ofNat o), .int (Int32.ofNat len), .null] 6)) (T8.setTop (mkF m 45 #[.val (.ref a), .val (.ref b), .val (.int (Int32.ofNat o)), .val (.int (Int32.ofNat len)), .val .null, .val (.ref s.heap.size)] [.int (Int32.ofNat N.slots.size), .ref s.heap.size, .ref a])) := by
    have hc : Steps p.tables e below (s₁.setTop (entryFrame m #[.ref a, .ref b, .int (Int32.ofNat o), .int (Int32.ofNat len), .null] 6)) (T8.setTop (mkF m 45 #[.val (.ref a), .val (.ref b), .val (.int (Int32.ofNat o)), .val (.int (Int32.ofNat len)), .val .null, .val (.ref s.heap.size)] [.int (Int32.ofNat len), .ref s.heap.size, .ref a])) := c9.trans (by
      refine XS.astore X8.here hexec rfl (hb hbytes d39) rfl rfl rfl ?_
      refine XS.aloadN X8.here hexec rfl (hb hbytes d41) rfl rfl ?_
      refine XS.aload X8.here hexec rfl (hb hbytes d42) rfl rfl ?_
      refine XS.iloadN X8.here hexec rfl (hb hbytes d44) rfl ?_
      exact Steps.refl _)
    rw [n4]; exact hc
  obtain ⟨v11, T11, X11, E11, g11⟩ := X8.callS hexec (CodL.law l s.heap.size N) hown (wks W (staticW "java/lang/String" 47 CodL.yN)) (wk W CodL.tab) (W := 1) (Nat.le_of_ble_eq_true rfl) (Nat.le_of_ble_eq_true rfl) (Nat.le_refl _) (by show 0 + len + 0 ≤ len; omega) (g := (mkF m 45 #[.val (.ref a), .val (.ref b), .val (.int (Int32.ofNat o)), .val (.int (Int32.ofNat len)), .val .null, .val (.ref s.heap.size)] [.int (Int32.ofNat N.slots.size), .ref s.heap.size, .ref a])) rfl (by rw [hml]; rfl) c10 (argsL := [.ref s.heap.size, .int (Int32.ofNat N.slots.size)]) (rest := [.ref a]) rfl rfl (by show 2 * 0 + (1 + 0) ≤ _; decide) (hb hbytes d45) (⟨rfl, n1⟩)
  obtain ⟨rfl, q11⟩ := E11
  have hB11 := hB1.mv (X8.warmed.alike.symm.trans X11.warmed.alike) q11
  have c12 : Steps p.tables e below (s₁.setTop (entryFrame m #[.ref a, .ref b, .int (Int32.ofNat o), .int (Int32.ofNat len), .null] 6)) (T11.setTop (mkF m 48 #[.val (.ref a), .val (.ref b), .val (.int (Int32.ofNat o)), .val (.int (Int32.ofNat len)), .val .null, .val (.ref s.heap.size)] [.int 0, .ref a])) := g11
  obtain ⟨T13, X13, p13, bl13, sl13, st13⟩ := X11.finit hexec hown (wk W (.fieldLink "java/lang/String" 15 "java/lang/String" "coder" "B")) (Or.inr ⟨_, (wk W (.laysFinal "java/lang/String" "java/lang/String" "coder" "B"))⟩) (Or.inl ⟨rfl, hnm⟩) f2 (Or.inl rfl) hB11 (t := .byte) (by decide +kernel) rfl (g := (mkF m 48 #[.val (.ref a), .val (.ref b), .val (.int (Int32.ofNat o)), .val (.int (Int32.ofNat len)), .val .null, .val (.ref s.heap.size)] [.int 0, .ref a])) rfl (rest := []) rfl (hb hbytes d48)
  have c14 : Steps p.tables e below (s₁.setTop (entryFrame m #[.ref a, .ref b, .int (Int32.ofNat o), .int (Int32.ofNat len), .null] 6)) (T13.setTop (mkF m 54 #[.val (.ref a), .val (.ref b), .val (.int (Int32.ofNat o)), .val (.int (Int32.ofNat len)), .val .null, .val (.ref s.heap.size)] [.ref s.heap.size, .ref a])) := (c12.trans (st13 _ (Steps.refl _))).trans (by
    refine XS.aloadN X13.here hexec rfl (hb hbytes d51) rfl rfl ?_
    refine XS.aload X13.here hexec rfl (hb hbytes d52) rfl rfl ?_
    exact Steps.refl _)
  obtain ⟨T15, X15, p15, bl15, sl15, st15⟩ := X13.finit hexec hown (wk W (.fieldLink "java/lang/String" 9 "java/lang/String" "value" "[B")) (Or.inr ⟨_, (wk W (.laysFinal "java/lang/String" "java/lang/String" "value" "[B"))⟩) (Or.inl ⟨rfl, hnm⟩) f1 (Or.inl rfl) bl13 (t := (.array .byte)) (by decide +kernel) rfl (g := (mkF m 54 #[.val (.ref a), .val (.ref b), .val (.int (Int32.ofNat o)), .val (.int (Int32.ofNat len)), .val .null, .val (.ref s.heap.size)] [.ref s.heap.size, .ref a])) rfl (rest := []) rfl (hb hbytes d54)
  have c16 : Steps p.tables e below (s₁.setTop (entryFrame m #[.ref a, .ref b, .int (Int32.ofNat o), .int (Int32.ofNat len), .null] 6)) (T15.setTop (mkF m 57 #[.val (.ref a), .val (.ref b), .val (.int (Int32.ofNat o)), .val (.int (Int32.ofNat len)), .val .null, .val (.ref s.heap.size)] [])) := c14.trans (st15 _ (Steps.refl _))
  have ap := apart (Or.inr ⟨_, (wk W (.laysFinal "java/lang/String" "java/lang/String" "value" "[B"))⟩) (Or.inr ⟨_, (wk W (.laysFinal "java/lang/String" "java/lang/String" "coder" "B"))⟩) f1 f2 (t₁ := .array .byte) (t₂ := .byte) (by decide +kernel) (by decide +kernel) (by decide)
  have al := X8.warmed.alike.symm.trans X15.warmed.alike
  have n7 : T11.heap[s.heap.size]? = some N := by rw [q11]; exact n1.1
  exact ⟨T15, none, _, _, _, X15, by simp, rfl, by omega, (fun _ => rfl), ⟨rfl, _, N, bl15, ((Same.refl D _).set _ (by simp)).set _ (by simp), sl15, (Cell.slots_setSlot_ne _ ap).trans sl13, n1.keep al (p15.other hne (p13.other hne n7)), n2, by rw [al.findClass]; exact n3, n4, n5, fun y c h1 h2 => p15.other h1 (p13.other h1 (by rw [q11]; exact n6 y c h2)), by rw [p15.2.2, p13.2.2, q11]; exact z8⟩, fun fs hl => c16.trans (X15.returnOut hexec hret (hb hbytes d57) hl)⟩
end New4
namespace New1
def yN : MethodName := ⟨"java/lang/String", "<init>", "([C)V"⟩
abbrev yB : ByteArray := jdk_42_method_3_code
theorem d0 : decode yB 0 = .ok (.aload_n 0, 1) := by decide +kernel
theorem d1 : decode yB 1 = .ok (.aload_n 1, 1) := by decide +kernel
theorem d2 : decode yB 2 = .ok (.iconst 0, 1) := by decide +kernel
theorem d3 : decode yB 3 = .ok (.aload_n 1, 1) := by decide +kernel
theorem d4 : decode yB 4 = .ok (.arraylength, 1) := by decide +kernel
theorem d5 : decode yB 5 = .ok (.aconst_null, 1) := by decide +kernel
theorem d6 : decode yB 6 = .ok (.invokespecial 27, 3) := by decide +kernel
theorem d9 : decode yB 9 = .ok (.return_, 1) := by decide +kernel
def site : List Cond := [New4.tab] ++ initW "java/lang/String" 27 New4.yN
def tab : Cond := tabOf yN yB 2 none site
def P (a : Addr) (D : Cell) (fV fC : Field) (b : Addr) (A : Cell) (z : Int32) (args : Array Value) (s : State) : Prop := args = #[.ref a, .ref b] ∧ Blank "java/lang/String" a D s ∧ Found "java/lang/String" "value" "[B" fV s ∧ Found "java/lang/String" "coder" "B" fC s ∧ Ch b A s ∧ StaticIs s "java/lang/String" "COMPACT_STRINGS" "Z" (.int z) ∧ ¬ z = 0 ∧ 0 < A.slots.size ∧ A.slots.size ≤ 536870912 ∧ ∀ i, i < A.slots.size → ¬ 255 < cv A i
def E (a : Addr) (D : Cell) (fV fC : Field) (A : Cell) (r : Option Value) (s u : State) : Prop := Got a D fV fC A 0 A.slots.size r s u
/-- new String(chars), not empty, no char above 255: a Latin-1 String of their low bytes -/
theorem law (l : Launch) (a : Addr) (D : Cell) (fV fC : Field) (b : Addr) (A : Cell) (z : Int32) : Law l yN 2 1 3 52 yB 2 none site (P a D fV fC b A z) (E a D fV fC A) [⟨a, fC.slot⟩, ⟨a, fV.slot⟩] 1 A.slots.size := by
  refine Law.of_walk (plainFor_of_name (by decide +kernel)) (by decide +kernel) (by decide +kernel) (by decide) (fun _ _ h => by rw [h.1]; rfl) (fun _ U U' hal hh h => ⟨h.1, h.2.1.mv hal hh, h.2.2.1.al hal, h.2.2.2.1.al hal, h.2.2.2.2.1.mv hal hh, h.2.2.2.2.2.1.there hal hh, h.2.2.2.2.2.2⟩) (fun r U U' V V' h1 hal h2 h => Got.mv r U U' V V' h1 hal h2 h) ?_
  intro p e s m args below meth c s₁ X0 hexec hbytes hml hret hlk hnm hown hh0 W hP
  obtain ⟨rfl, hB, f1, f2, hA, s1, hz, l0, l2, hp⟩ := hP
  have c1 : Steps p.tables e below (s₁.setTop (entryFrame m #[.ref a, .ref b] 2)) (s₁.setTop (mkF m 0 #[.val (.ref a), .val (.ref b)] [])) := entry rfl
  have c2 : Steps p.tables e below (s₁.setTop (entryFrame m #[.ref a, .ref b] 2)) (s₁.setTop (mkF m 6 #[.val (.ref a), .val (.ref b)] [.null, .int (Int32.ofNat A.slots.size), .int 0, .ref b, .ref a])) := c1.trans (by
    refine XS.aloadN X0.here hexec rfl (hb hbytes d0) rfl rfl ?_
    refine XS.aloadN X0.here hexec rfl (hb hbytes d1) rfl rfl ?_
    refine iconstV X0.here hexec rfl 0 (hb hbytes d2) (by decide) ?_
    refine XS.aloadN X0.here hexec rfl (hb hbytes d3) rfl rfl ?_
    refine X0.alen hexec (hA.1.mv X0.warmed.alike hh0) rfl rfl (hb hbytes d4) ?_
    refine XS.aconstNull X0.here hexec rfl (hb hbytes d5) ?_
    exact Steps.refl _)
  obtain ⟨v3, T3, X3, E3, g3⟩ := X0.callN hexec (New4.law l a D fV fC b A z 0 A.slots.size) rfl hown (wks W (initW "java/lang/String" 27 New4.yN)) (W New4.tab (by simp only [site, List.mem_cons, List.mem_append, true_or, or_true])) (W := 0) (Nat.le_of_ble_eq_true rfl) (Nat.le_of_ble_eq_true rfl) (Nat.le_refl _) (by show 0 + A.slots.size ≤ A.slots.size; omega) (g := (mkF m 6 #[.val (.ref a), .val (.ref b)] [.null, .int (Int32.ofNat A.slots.size), .int (Int32.ofNat 0), .ref b, .ref a])) rfl (by rw [hml]; rfl) c2 (argsL := [.ref b, .int (Int32.ofNat 0), .int (Int32.ofNat A.slots.size), .null]) (rest := []) rfl rfl (by show 2 * 0 + 0 ≤ _; decide) (hb hbytes d6) (⟨rfl, hB.mv X0.warmed.alike hh0, f1.al X0.warmed.alike, f2.al X0.warmed.alike, hA.mv X0.warmed.alike hh0, s1.there X0.warmed.alike hh0, hz, l0, by omega, l2, fun i hi => by rw [Nat.zero_add]; exact hp i hi⟩)
  have e0 := Got.mv _ s₁ s _ _ hh0.symm (Vm.Alike.refl _) rfl E3
  obtain rfl := e0.1
  have c4 : Steps p.tables e below (s₁.setTop (entryFrame m #[.ref a, .ref b] 2)) (T3.setTop (mkF m 9 #[.val (.ref a), .val (.ref b)] [])) := g3
  exact ⟨T3, none, _, _, _, X3, by simp, rfl, by omega, (fun _ => rfl), e0, fun fs hl => c4.trans (X3.returnOut hexec hret (hb hbytes d9) hl)⟩
theorem pays {l : Launch} {R : Room} {p : Program} {e : Env} {below : List Frame} {s : State} {sargs : Array Value} {len W : Nat} (a : Addr) (D : Cell) (fV fC : Field) (b : Addr) (A : Cell) (z : Int32) (htab : tab.before sargs s = true) (hfr : 4 ≤ R.frames) (hlo : W + 65 ≤ R.locals) :
    Back l R p e below s sargs yN len W (fun A₁ a₁ => A₁.cells + 1 ≤ R.cells ∧ A₁.slots + A.slots.size ≤ R.slots ∧ P a D fV fC b A z a₁ A₁.U) (fun A₁ _ v₁ B₁ => E a D fV fC A v₁ A₁.U B₁.U ∧ B₁.locs = A₁.locs ++ [⟨a, fC.slot⟩, ⟨a, fV.slot⟩] ∧ B₁.cells = A₁.cells + 1 ∧ B₁.slots = A₁.slots + A.slots.size) :=
  (law l a D fV fC b A z).pays htab hfr (by omega)
end New1
/-- the byte, read back as charAt reads it, is the char -/
theorem lo8_mask {x : Int32} (h0 : ¬ x < 0) (h1 : ¬ 255 < x) : lo8 x &&& 255 = x := by
  have t : ∀ k : Fin 256, lo8 (Int32.ofNat k.val) &&& 255 = Int32.ofNat k.val := by decide +kernel
  rw [Int32.lt_iff_toInt_lt] at h0 h1
  have e0 : (0 : Int32).toInt = 0 := rfl
  have e1 : (255 : Int32).toInt = 255 := rfl
  obtain ⟨k, hk⟩ : ∃ k : Nat, x.toInt = k := ⟨x.toInt.toNat, by omega⟩
  have hx : x = Int32.ofNat k := Int32.toInt_inj.mp (by rw [hk, Int32.toInt_ofNat_small (by omega)])
  rw [hx]
  exact t ⟨k, by omega⟩
end StrChars
namespace StrChars.Road
open Jvm Sem ClassFile Op Lib Jvm.Stand Jvm.Free Jvm.Free.XT
open Jvm.Lib.Cold (StaticIs)
abbrev ST : String := "java/lang/String"
/-- every table word that New1's law asks, flat -/
abbrev words : List Jvm.Cond := [.code New1.yN New1.yB 2 none, .initialized ST, .methodLink ST 27 New4.yN, .instanceMethod New4.yN,
  .code New4.yN New4.yB 6 none, .fieldLink ST 38 ST "COMPACT_STRINGS" "Z", .laysFinal ST ST "value" "[B", .fieldLink ST 9 ST "value" "[B", .laysFinal ST ST "coder" "B", .fieldLink ST 15 ST "coder" "B",
  .methodLink ST 1 Lib.objectInit, .instanceMethod Lib.objectInit, .code Lib.objectInit ⟨#[0xb1]⟩ 1 none, .methodLink ST 177 Cmp3.yN, .static Cmp3.yN, .methodLink ST 47 CodL.yN, .static CodL.yN,
  .code Cmp3.yN Cmp3.yB 6 (some (.array .byte)), .initialized U16, .arrayClass .byte, .methodLink U16 115 Cmp5.yN, .static Cmp5.yN, .code Cmp5.yN Cmp5.yB 7 (some .int), .code CodL.yN CodL.yB 2 (some .byte)]
theorem tab_of {a : Array Value} {s : State} (h : ∀ w ∈ words, w.before a s = true) : New1.tab.before a s = true := by
  have h5 : Cmp5.tab.before a s = true := unparts (wk h (.code Cmp5.yN Cmp5.yB 7 (some .int))) (wks h (.initialized Cmp5.yN.cls :: Cmp5.site))
  have hc : CodL.tab.before a s = true := unparts (wk h (.code CodL.yN CodL.yB 2 (some .byte))) (wks h (.initialized CodL.yN.cls :: CodL.site))
  have q5 : ∀ w ∈ Cmp5.tab :: words, w.before a s = true := fun w hw => (List.mem_cons.mp hw).elim (fun e => e ▸ h5) (h w)
  have h3 : Cmp3.tab.before a s = true := unparts (wk q5 (.code Cmp3.yN Cmp3.yB 6 (some (.array .byte)))) (wks q5 (.initialized Cmp3.yN.cls :: Cmp3.site))
  have q3 : ∀ w ∈ Cmp3.tab :: CodL.tab :: words, w.before a s = true := fun w hw => (List.mem_cons.mp hw).elim (fun e => e ▸ h3) fun hw => (List.mem_cons.mp hw).elim (fun e => e ▸ hc) (h w)
  have h4 : New4.tab.before a s = true := unparts (wk q3 (.code New4.yN New4.yB 6 none)) (wks q3 (.initialized New4.yN.cls :: New4.site))
  have q4 : ∀ w ∈ New4.tab :: words, w.before a s = true := fun w hw => (List.mem_cons.mp hw).elim (fun e => e ▸ h4) (h w)
  exact unparts (wk q4 (.code New1.yN New1.yB 2 none)) (wks q4 (.initialized New1.yN.cls :: New1.site))
/-- the words ride from the start Z to the walk's own state -/
theorem moved {Z s : State} {a0 args : Array Value} (hZ : Z.Warmed39 s.vm) (hw : ∀ d ∈ words, d.before a0 Z = true) : ∀ d ∈ words, d.before args s = true := fun d hd => by
  have q := hw d hd
  have t : ∀ d ∈ words, d = .arrayClass .byte ∨ (d.onTables && d.keepsFace) = true := by decide +kernel
  rcases t d hd with rfl | t
  · exact RoadKit.mvA hZ q
  · exact RoadKit.mv hZ q t
/-- WHAT COMES BACK, over the tables of the start Z: h the heap at the call, h' behind it -/
def Q (Z : State) (x : Addr) (A : Cell) (h : Heap) (v : Option Value) (h' : Heap) (L : List Loc) : Prop := v = none ∧ (∀ y ∈ L, y.base = x) ∧ RoadKit.Keep h h' [x] ∧ h'.size = h.size + 1 ∧ RoadKit.Exa Z h' x ST ∧ RoadKit.Fld Z h' x ST "value" "[B" (.ref h.size) ∧ RoadKit.Fld Z h' x ST "coder" "B" (.int 0) ∧
  (∃ V : Cell, RoadKit.Arr Z h' h.size V .byte ∧ V.vm = .none ∧ Z.vm.findClass "[B" = some V.cls ∧ V.slots.size = A.slots.size ∧ ∀ j, j < A.slots.size → V.slots[j]? = some (.int (lo8 (cv A j)))) ∧
  ∀ (O n d : String) (w : Value), RoadKit.Fld Z h x O n d w → RoadKit.slotOf Z O n d ≠ RoadKit.slotOf Z ST "value" "[B" → RoadKit.slotOf Z O n d ≠ RoadKit.slotOf Z ST "coder" "B" → RoadKit.Fld Z h' x O n d w
/-- **new String(chars) AT A CALL, IN THE ROAD'S FORM**: for specialBack behind newO: x the fresh String, b the char[] with the cell A -/
theorem back {p : Program} {l : Launch} {e : Env} {R : Room} {s : State} {args : Array Value} {below : List Frame} {len W : Nat} {Z : State} {a0 : Array Value} {h : Heap} (hZ : Z.Warmed39 s.vm) (hw : ∀ d ∈ words, d.before a0 Z = true) {kI : Nat} (wi : (Jvm.Cond.instantiable ST kI).before a0 Z = true)
    {x b : Addr} {A : Cell} {z : Int32} {v0 c0 : Value} (E : RoadKit.Exa Z h x ST) (V : RoadKit.Fld Z h x ST "value" "[B" v0) (C : RoadKit.Fld Z h x ST "coder" "B" c0) (K : RoadKit.Arr Z h b A .char) (hty : Typed .char A) (S : RoadKit.Sta Z h ST "COMPACT_STRINGS" "Z" (.int z)) (hz : ¬ z = 0)
    (l0 : 0 < A.slots.size) (l2 : A.slots.size ≤ 536870912) (hp : ∀ i, i < A.slots.size → ¬ 255 < cv A i) (hfr : 4 ≤ R.frames) (hlo : W + 65 ≤ R.locals) :
    Back l R p e below s args New1.yN len W (fun P a => a = #[.ref x, .ref b] ∧ P.U.heap = h ∧ P.cells + 1 ≤ R.cells ∧ P.slots + A.slots.size ≤ R.slots)
      (fun P _ v B => ∃ L, Q Z x A h v B.U.heap L ∧ B.locs = P.locs ++ L ∧ B.cells = P.cells + 1 ∧ B.slots = P.slots + A.slots.size) := by
  intro m meth c P g ig mk a X hg hsize hdg hW hn hp'
  obtain ⟨rfl, rfl, r1, r2⟩ := hp'
  have al : Z.vm.Alike P.U.vm := hZ.alike.trans X.warmed.alike
  obtain ⟨D, cfV, kV, iV, fV, hD, gV, stV, knV, obV, asV, slV⟩ := id V
  obtain ⟨D', cfC, kC, iC, fC, hD', gC, stC, -, -, asC, slC⟩ := id C
  cases hD.symm.trans hD'
  obtain ⟨D2, kD, e1, e2, e3, e4, e5⟩ := id E
  cases hD.symm.trans e1
  obtain ⟨c2, k2, i1, i2, i3, -⟩ := Cond.instantiable_spec wi
  cases e2.symm.trans i1
  cases e3.symm.trans i2
  obtain ⟨kU, u1, u2⟩ := al.2.2 _ _ e3
  have hB : Blank ST x D P.U := ⟨hD, ⟨knV, fun q hq => by rw [hq] at obV; cases obV⟩, by rw [al.findClass]; exact e2, kU, u1, by rw [u2]; exact i3, by rw [u2]; exact e5 i3⟩
  have F1 : Found ST "value" "[B" fV P.U := ⟨SBG.found_only al ⟨cfV, kV, iV, gV⟩, stV⟩
  have F2 : Found ST "coder" "B" fC P.U := ⟨SBG.found_only al ⟨cfC, kC, iC, gC⟩, stC⟩
  have hA : Ch b A P.U := ⟨⟨K.1, State.isArrayOf_alike al K.2.1, K.2.2, by omega⟩, hty⟩
  have hS : StaticIs P.U ST "COMPACT_STRINGS" "Z" (.int z) := by
    obtain ⟨cfS, iS, kS, fS, st, cS, t1, t2, t3, t4, t5, t6, t7⟩ := S
    exact StaticIs.there (s := { Z with heap := P.U.heap }) ⟨cfS, iS, kS, fS, st, cS, t1, t2, t3, t4, t5, (fun q => by rw [q] at t6; cases t6), t7⟩ al rfl
  obtain ⟨v, B, X', ⟨⟨hv, E', V', q1, q2, q3, q4, q5, q6, q7, q8, q9, q10, q11⟩, hl, hc, hs⟩, st⟩ := New1.pays x D fV fC b A z (tab_of (moved hZ hw)) hfr hlo m meth c P g ig mk _ X hg hsize hdg hW hn ⟨r1, r2, rfl, hB, F1, F2, hA, hS, hz, l0, l2, hp⟩
  have al' : Z.vm.Alike B.U.vm := hZ.alike.trans X'.warmed.alike
  have hsz : E'.slots.size = D.slots.size := by
    obtain ⟨-, -, -, kB, w1, w2, w3⟩ := q1
    obtain ⟨kB', y1, y2⟩ := al'.2.2 _ _ e3
    rw [q2.2.1] at w1
    cases w1.symm.trans y1
    rw [w3, e5 i3, y2]
  refine ⟨v, B, X', ⟨_, ⟨hv, ?_, ⟨by omega, fun y cy hy hn' => q10 y cy (by simpa using hn') hy, fun y cy hy => ?_⟩, q11, ⟨E', _, q1.1, by rw [q2.2.1]; exact e2, by rw [q2.2.1]; exact e3, by rw [q2.1]; exact obV, fun _ => by rw [hsz]; exact e5 i3⟩,
    ⟨E', cfV, kV, iV, fV, q1.1, gV, stV, by rw [q2.1]; exact knV, by rw [q2.1]; exact obV, by rw [q2.2.1]; exact asV, q3⟩, ⟨E', cfC, kC, iC, fC, q1.1, gC, stC, by rw [q2.1]; exact knV, by rw [q2.1]; exact obV, by rw [q2.2.1]; exact asC, q4⟩,
    ⟨V', ⟨q5.1, State.isArrayOf_alike al'.symm q5.2.1, q5.2.2.1⟩, q6, by rw [← al'.findClass]; exact q7, q8, fun j hj => by have := q9 j hj; rwa [Nat.zero_add] at this⟩, fun O n d w F n1 n2 => ?_⟩, hl, hc, hs⟩, st⟩
  · intro y hy
    simp only [List.mem_cons, List.not_mem_nil, or_false] at hy
    rcases hy with rfl | rfl <;> rfl
  · by_cases q : y = x
    · subst q
      cases hD.symm.trans hy
      exact ⟨E', q1.1, q2.2.1, q2.1, hsz⟩
    · exact ⟨cy, q10 y cy q hy, rfl, rfl, rfl⟩
  · obtain ⟨D3, cf, k, i, f, g1, g2, g3, g4, g5, g6, g7⟩ := F
    cases hD.symm.trans g1
    simp only [RoadKit.slotOf, g2, gV, gC, Option.map_some, Option.getD_some] at n1 n2
    exact ⟨E', cf, k, i, f, q1.1, g2, g3, by rw [q2.1]; exact g4, by rw [q2.1]; exact g5, by rw [q2.2.1]; exact g6, by rw [q2.2.2 f.slot (by simp [n1, n2])]; exact g7⟩
end StrChars.Road
namespace StrChars.Road
open Jvm Sem ClassFile Op Lib Jvm.Stand Jvm.Free Jvm.Free.XT
/-- WHAT COMES BACK, the byte[] as a list of values -/
def QA (Z : State) (x : Addr) (zn : Int32) (cs : List Int32) (h : Heap) (v : Option Value) (h' : Heap) (L : List Loc) : Prop := v = none ∧ (∀ y ∈ L, y.base = x) ∧ RoadKit.Keep h h' [x] ∧ h'.size = h.size + 1 ∧ RoadKit.Exa Z h' x ST ∧ RoadKit.Fld Z h' x ST "value" "[B" (.ref h.size) ∧ RoadKit.Fld Z h' x ST "coder" "B" (.int 0) ∧
  (∃ kb, Z.vm.findClass "[B" = some kb ∧ RoadKit.Arv Z h' h.size kb .byte zn (cs.map fun c => .int (lo8 c)) (.int 0)) ∧
  ∀ (O n d : String) (w : Value), RoadKit.Fld Z h x O n d w → RoadKit.slotOf Z O n d ≠ RoadKit.slotOf Z ST "value" "[B" → RoadKit.slotOf Z O n d ≠ RoadKit.slotOf Z ST "coder" "B" → RoadKit.Fld Z h' x O n d w
/-- **new String(chars) AT A CALL, THE ARRAYS AS LISTS**: the char[] at b holds cs, not empty, no char above 255 -/
theorem backArv {p : Program} {l : Launch} {e : Env} {R : Room} {s : State} {args : Array Value} {below : List Frame} {len W : Nat} {Z : State} {a0 : Array Value} {h : Heap} (hZ : Z.Warmed39 s.vm) (hw : ∀ d ∈ words, d.before a0 Z = true) {kI : Nat} (wi : (Jvm.Cond.instantiable ST kI).before a0 Z = true)
    {x b : Addr} {k : ClassId} {zn z : Int32} {cs : List Int32} {dv v0 c0 : Value} (E : RoadKit.Exa Z h x ST) (V : RoadKit.Fld Z h x ST "value" "[B" v0) (C : RoadKit.Fld Z h x ST "coder" "B" c0) (K : RoadKit.Arv Z h b k .char zn (cs.map Value.int) dv) (S : RoadKit.Sta Z h ST "COMPACT_STRINGS" "Z" (.int z)) (hz : ¬ z = 0)
    (hlen : zn.toNatClampNeg = cs.length) (h0 : 0 < cs.length) (hbig : cs.length ≤ 536870912) (hall : ∀ c ∈ cs, ¬ 255 < c) (hfr : 4 ≤ R.frames) (hlo : W + 65 ≤ R.locals) :
    Back l R p e below s args New1.yN len W (fun P a => a = #[.ref x, .ref b] ∧ P.U.heap = h ∧ P.cells + 1 ≤ R.cells ∧ P.slots + cs.length ≤ R.slots)
      (fun P _ v B => ∃ L, QA Z x zn cs h v B.U.heap L ∧ B.locs = P.locs ++ L ∧ B.cells = P.cells + 1 ∧ B.slots = P.slots + cs.length) := by
  obtain ⟨A, K1, K2, K3, K4, K5, K6⟩ := K
  have e : A.slots.size = cs.length := K3.trans hlen
  have hat : ∀ (i : Nat) (hi : i < cs.length), A.slots[i]? = some (.int cs[i]) := fun i hi => by rw [K5 i (by omega)]; simp [List.getD_eq_getElem?_getD, hi]
  have hcv : ∀ (i : Nat) (hi : i < cs.length), cv A i = cs[i] := fun i hi => by unfold cv; rw [hat i hi]
  have hty : Typed .char A := fun i v hv => by
    have hi : i < A.slots.size := (Array.getElem?_eq_some_iff.mp hv).1
    have q := K5 i hi
    rw [hv] at q
    rw [Option.some.inj q]
    exact K6 i hi
  refine Back.mono (back hZ hw wi E V C K1 hty S hz (by omega) (by omega) (fun i hi => by rw [hcv i (by omega)]; exact hall _ (List.getElem_mem _)) hfr hlo) (fun P a hp => ⟨hp.1, hp.2.1, hp.2.2.1, by rw [e]; exact hp.2.2.2⟩) (fun P a v B hp hq => ?_)
  obtain ⟨L, ⟨q1, q2, q3, q4, q5, q6, q7, ⟨V', v1, v2, v3, v4, v5⟩, q9⟩, hl, hc, hs⟩ := hq
  refine ⟨L, ⟨q1, q2, q3, q4, q5, q6, q7, ⟨V'.cls, v3, V', v1, rfl, by rw [v4, e, hlen], K4, fun i hi => ?_, fun i hi => ?_⟩, q9⟩, hl, hc, by rw [hs, e]⟩
  · have hi' : i < cs.length := by omega
    rw [v5 i (by omega), hcv i hi']; simp [List.getD_eq_getElem?_getD, hi']
  · have hi' : i < cs.length := by omega
    simp only [List.getD_eq_getElem?_getD, List.getElem?_map, List.getElem?_eq_getElem hi', Option.map_some, Option.getD_some]
    exact fits_lo8 _
end StrChars.Road
namespace StrChars.Road
open Jvm Sem ClassFile Op Lib Jvm.Stand Jvm.Free Jvm.Free.XT
/-- WHAT COMES BACK, in the writer's own shape -/
def QV (Z : State) (x : Addr) (N : Int32) (bs : List Int32) (h : Heap) (n0 : Nat) (v : Option Value) (h' : Heap) (L : List Loc) : Prop := v = none ∧ RoadKit.Fr n0 L ∧ RoadKit.Keep h h' [x] ∧ RoadKit.Exa Z h' x ST ∧ RoadKit.Fld Z h' x ST "coder" "B" (.int 0) ∧
  ∃ (t : Addr) (kb : ClassId), n0 ≤ t ∧ h.size ≤ t ∧ ¬ t = x ∧ RoadKit.Fld Z h' x ST "value" "[B" (.ref t) ∧ RoadKit.Arv Z h' t kb .byte N (bs.map Value.int) (.int 0)
/-- **new String(chars) AT A CALL, FOR THE WRITER**: a char[] of n known ints, each 0 to 255 -/
theorem backV {p : Program} {l : Launch} {e : Env} {R : Room} {s : State} {args : Array Value} {below : List Frame} {len W : Nat} {Z : State} {a0 : Array Value} {h : Heap} (hZ : Z.Warmed39 s.vm) (hw : ∀ d ∈ words, d.before a0 Z = true) {kI : Nat} (wi : (Jvm.Cond.instantiable ST kI).before a0 Z = true)
    {x b : Addr} {kC : ClassId} {cs bs : List Int32} {d v0 c0 : Value} {z N : Int32} {n n0 : Nat} (hx0 : n0 ≤ x) (hh0 : n0 ≤ h.size) (E : RoadKit.Exa Z h x ST) (V : RoadKit.Fld Z h x ST "value" "[B" v0) (C : RoadKit.Fld Z h x ST "coder" "B" c0) (K : RoadKit.Arv Z h b kC .char N (cs.map Value.int) d) (S : RoadKit.Sta Z h ST "COMPACT_STRINGS" "Z" (.int z)) (hz : ¬ z = 0)
    (hn : cs.length = n) (hN : N = Int32.ofNat n) (l0 : 0 < n) (l2 : n ≤ 4000) (hp : ∀ c ∈ cs, ¬ c < 0 ∧ ¬ (255 : Int32) < c) (hb : bs = cs.map (fun c => c.toInt8.toInt32)) (hfr : 4 ≤ R.frames) (hlo : W + 65 ≤ R.locals) :
    Back l R p e below s args (⟨"java/lang/String", "<init>", "([C)V"⟩ : MethodName) len W (fun P a => a = #[.ref x, .ref b] ∧ P.U.heap = h ∧ P.cells + 1 ≤ R.cells ∧ P.slots + n ≤ R.slots)
      (fun P _ v B => ∃ L, QV Z x N bs h n0 v B.U.heap L ∧ B.locs = P.locs ++ L ∧ B.cells = P.cells + 1 ∧ B.slots = P.slots + n) := by
  subst hn hN hb
  refine Back.mono (backArv hZ hw wi E V C K S hz (n32 (by omega)) l0 (by omega) (fun c hc => (hp c hc).2) hfr hlo) (fun P a hp => hp) (fun P a v B hp hq => ?_)
  obtain ⟨L, ⟨q1, q2, q3, q4, q5, q6, q7, ⟨kb, v1, v2⟩, q9⟩, hl, hc, hs⟩ := hq
  exact ⟨L, ⟨q1, fun y hy => by rw [q2 y hy]; exact hx0, q3, q5, q7, h.size, kb, hh0, Nat.le_refl _, Nat.ne_of_gt E.lt, q6, by rw [List.map_map]; exact v2⟩, hl, hc, hs⟩
end StrChars.Road
namespace StrChars
open Jvm Sem ClassFile Op Lib Jvm.Stand Jvm.Free.XT Jvm.Free.ALB Jvm.Free.JM Jvm.Free
open Jvm.Lib.Cold (StaticIs)
def hi8 (x : Int32) : Int32 := lo8 (x >>> ((8 : Int32) &&& 31))
/-- what StringUTF16.getChar makes of two bytes -/
def pairCh (u v : Int32) : Int32 := (((u &&& 255) <<< ((0 : Int32) &&& 31)) ||| ((v &&& 255) <<< ((8 : Int32) &&& 31))).toUInt32.toUInt16.toUInt32.toInt32
theorem shr0 (c : Int32) : c >>> ((0 : Int32) &&& 31) = c := by
  have e : ((0 : Int32) &&& 31) = 0 := by decide
  rw [e]
  apply Int32.toBitVec_inj.mp
  rw [Int32.toBitVec_shiftRight]
  have e1 : ((0 : Int32).toBitVec.smod 32) = 0#32 := by decide
  rw [e1, BitVec.sshiftRight_eq']
  exact BitVec.sshiftRight_zero
theorem lo8_and (x : Int32) : (lo8 x &&& 255).toBitVec.toNat = x.toBitVec.toNat % 256 := by
  have h : (lo8 x).toBitVec = (x.toBitVec.signExtend 8).signExtend 32 := by rw [lo8, Int8.toBitVec_toInt32, Int32.toBitVec_toInt8]
  rw [Int32.toBitVec_and, BitVec.toNat_and, h]
  have e : ((x.toBitVec.signExtend 8).signExtend 32).toNat % 256 = x.toBitVec.toNat % 256 := by
    rw [BitVec.toNat_signExtend]
    have hlt := x.toBitVec.isLt
    simp only [BitVec.toNat_setWidth, BitVec.toNat_signExtend]
    split <;> split <;> omega
  rw [← e]
  exact Nat.and_two_pow_sub_one_eq_mod _ 8
theorem pair_says {c : Int32} (h0 : ¬ c < 0) (h1 : ¬ 65535 < c) : pairCh (lo8 c) (hi8 c) = c := by
  rw [Int32.lt_iff_toInt_lt] at h0 h1
  have e0 : (0 : Int32).toInt = 0 := rfl
  have e1 : (65535 : Int32).toInt = 65535 := rfl
  have hc : c.toInt = c.toBitVec.toNat := by
    have := c.toBitVec.isLt
    have e : c.toInt = c.toBitVec.toInt := rfl
    rw [e] at h0 h1
    rw [e]
    rw [BitVec.toInt_eq_toNat_cond] at h0 h1 ⊢
    split at h0 <;> split <;> omega
  have hn : c.toBitVec.toNat < 65536 := by omega
  have a1 := lo8_and c
  have a2 : (hi8 c &&& 255).toBitVec.toNat = c.toBitVec.toNat / 256 := by
    rw [hi8, lo8_and]
    have e : ((8 : Int32) &&& 31) = 8 := by decide
    rw [e, Int32.toBitVec_shiftRight]
    have e2 : ((8 : Int32).toBitVec.smod 32) = 8#32 := by decide
    rw [e2, BitVec.sshiftRight_eq', BitVec.toNat_sshiftRight_of_msb_false (by rw [BitVec.msb_eq_false_iff_two_mul_lt]; omega)]
    show c.toBitVec.toNat >>> 8 % 256 = _
    rw [Nat.shiftRight_eq_div_pow]
    omega
  unfold pairCh
  apply Int32.toBitVec_inj.mp
  apply BitVec.eq_of_toNat_eq
  have f0 : ((0 : Int32) &&& 31) = 0 := by decide
  have f8 : ((8 : Int32) &&& 31) = 8 := by decide
  rw [f0, f8]
  have g : (((lo8 c &&& 255) <<< (0 : Int32)) ||| ((hi8 c &&& 255) <<< (8 : Int32))).toBitVec.toNat = c.toBitVec.toNat := by
    rw [Int32.toBitVec_or, Int32.toBitVec_shiftLeft, Int32.toBitVec_shiftLeft]
    have s0 : ((0 : Int32).toBitVec.smod 32) = 0#32 := by decide
    have s8 : ((8 : Int32).toBitVec.smod 32) = 8#32 := by decide
    rw [s0, s8, BitVec.toNat_or]
    simp only [BitVec.shiftLeft_eq', BitVec.toNat_shiftLeft, a1, a2]
    show (c.toBitVec.toNat % 256) <<< 0 % 2 ^ 32 ||| (c.toBitVec.toNat / 256) <<< 8 % 2 ^ 32 = _
    rw [Nat.shiftLeft_zero, Nat.mod_eq_of_lt (show c.toBitVec.toNat % 256 < 2 ^ 32 by omega), Nat.mod_eq_of_lt (show (c.toBitVec.toNat / 256) <<< 8 < 2 ^ 32 by rw [Nat.shiftLeft_eq]; omega), Nat.or_comm, ← Nat.shiftLeft_add_eq_or_of_lt (by omega), Nat.shiftLeft_eq]
    omega
  show BitVec.toNat (((((lo8 c &&& 255) <<< (0 : Int32)) ||| ((hi8 c &&& 255) <<< (8 : Int32))).toBitVec.setWidth 16).setWidth 32) = _
  rw [BitVec.toNat_setWidth, BitVec.toNat_setWidth, g]
  omega
end StrChars
namespace StrChars
open Jvm Sem ClassFile Op Lib Jvm.Stand Jvm.Free.XT Jvm.Free.ALB Jvm.Free.JM Jvm.Free
open Jvm.Lib.Cold (StaticIs)
theorem shr1 {n : Nat} (h : 2 * n < 2 ^ 31) : Int32.ofNat (2 * n) >>> ((1 : Int32) &&& 31) = Int32.ofNat n := by
  have e : ((1 : Int32) &&& 31) = 1 := by decide
  rw [e]
  apply Int32.toBitVec_inj.mp
  rw [Int32.toBitVec_shiftRight]
  have e1 : ((1 : Int32).toBitVec.smod 32) = 1#32 := by decide
  have hm : (BitVec.ofNat 32 (2 * n)).toNat = 2 * n := by rw [BitVec.toNat_ofNat, Nat.mod_eq_of_lt (by omega)]
  rw [e1, BitVec.sshiftRight_eq']
  apply BitVec.eq_of_toNat_eq
  show ((BitVec.ofNat 32 (2 * n)).sshiftRight 1).toNat = (BitVec.ofNat 32 n).toNat
  rw [BitVec.toNat_sshiftRight_of_msb_false (by rw [BitVec.msb_eq_false_iff_two_mul_lt, hm]; omega), hm, BitVec.toNat_ofNat, Nat.shiftRight_eq_div_pow]
  omega
/-- charAt's cast of a byte read back -/
def chr8 (u : Int32) : Int32 := (u &&& 255).toUInt32.toUInt16.toUInt32.toInt32
theorem chr8_lo8 {c : Int32} (h0 : ¬ c < 0) (h1 : ¬ 255 < c) : chr8 (lo8 c) = c := by
  have t : ∀ k : Fin 256, (Int32.ofNat k.val).toUInt32.toUInt16.toUInt32.toInt32 = Int32.ofNat k.val := by decide +kernel
  unfold chr8
  rw [lo8_mask h0 h1]
  rw [Int32.lt_iff_toInt_lt] at h0 h1
  have e0 : (0 : Int32).toInt = 0 := rfl
  have e1 : (255 : Int32).toInt = 255 := rfl
  obtain ⟨k, hk⟩ : ∃ k : Nat, c.toInt = k := ⟨c.toInt.toNat, by omega⟩
  have hx : c = Int32.ofNat k := Int32.toInt_inj.mp (by rw [hk, Int32.toInt_ofNat_small (by omega)])
  rw [hx]
  exact t ⟨k, by omega⟩
/-- the array's cell V codes the n chars f 0 .. f (n - 1) by the coder cd, as the JDK does: coder 1 just where some char is above 255 -/
def Cod (cd : Int32) (n : Nat) (f : Nat → Int32) (V : Cell) : Prop := (cd = 0 ∧ V.slots.size = n ∧ ∀ j, j < n → V.slots[j]? = some (.int (lo8 (f j))) ∧ ¬ 255 < f j) ∨ (cd = 1 ∧ V.slots.size = 2 * n ∧ (∀ j, j < n → V.slots[2 * j]? = some (.int (lo8 (f j))) ∧ V.slots[2 * j + 1]? = some (.int (hi8 (f j)))) ∧ ∃ j, j < n ∧ 255 < f j)
theorem Cod.cd {cd : Int32} {n : Nat} {f : Nat → Int32} {V : Cell} (h : Cod cd n f V) : cd = 0 ∨ cd = 1 := h.imp (fun q => q.1) fun q => q.1
theorem Cod.len {cd : Int32} {n : Nat} {f : Nat → Int32} {V : Cell} (h : Cod cd n f V) (hs : V.slots.size < 2 ^ 31) : Int32.ofNat V.slots.size >>> (cd &&& 31) = Int32.ofNat n := by
  rcases h with ⟨rfl, h, -⟩ | ⟨rfl, h, -⟩
  · rw [shr0, h]
  · rw [h, shr1 (by omega)]
/-- **x is a String of the n chars f 0 .. f (n - 1)**, Latin-1 or UTF-16; its array at t has the cell V -/
def Txt (x t : Addr) (V : Cell) (cd : Int32) (n : Nat) (f : Nat → Int32) (U : State) : Prop := Exact "java/lang/String" x U ∧ Has x "java/lang/String" "value" "[B" (.ref t) U ∧ Has x "java/lang/String" "coder" "B" (.int cd) U ∧ XT.Arr .byte t V U ∧ Cod cd n f V ∧ ∀ j, j < n → ¬ f j < 0 ∧ ¬ 65535 < f j
theorem Txt.mv {x t : Addr} {V : Cell} {cd : Int32} {n : Nat} {f : Nat → Int32} {U U' : State} (h : Txt x t V cd n f U) (hal : U.vm.Alike U'.vm) (hh : U'.heap = U.heap) : Txt x t V cd n f U' := ⟨h.1.mv hal hh, h.2.1.mv hal hh, h.2.2.1.mv hal hh, h.2.2.2.1.mv hal hh, h.2.2.2.2⟩
namespace Cdr
def yN : MethodName := ⟨"java/lang/String", "coder", "()B"⟩
abbrev yB : ByteArray := jdk_42_method_152_code
theorem d0 : decode yB 0 = .ok (.getstatic 38, 3) := by decide +kernel
theorem d3 : decode yB 3 = .ok (.ifCond (.eq) 10, 3) := by decide +kernel
theorem d6 : decode yB 6 = .ok (.aload_n 0, 1) := by decide +kernel
theorem d7 : decode yB 7 = .ok (.getfield 15, 3) := by decide +kernel
theorem d10 : decode yB 10 = .ok (.goto 4, 3) := by decide +kernel
theorem d14 : decode yB 14 = .ok (.ireturn, 1) := by decide +kernel
def site : List Cond := [.fieldLink "java/lang/String" 38 "java/lang/String" "COMPACT_STRINGS" "Z", .fieldLink "java/lang/String" 15 "java/lang/String" "coder" "B"]
def tab : Cond := tabOf yN yB 1 (some .byte) site
def P (x : Addr) (cd z : Int32) (args : Array Value) (s : State) : Prop := args = #[.ref x] ∧ Has x "java/lang/String" "coder" "B" (.int cd) s ∧ (cd = 0 ∨ cd = 1) ∧ StaticIs s "java/lang/String" "COMPACT_STRINGS" "Z" (.int z) ∧ ¬ z = 0
def E (cd : Int32) (r : Option Value) (s u : State) : Prop := XT.PureE (some (.int cd)) r s u
theorem law (l : Launch) (x : Addr) (cd z : Int32) : Law l yN 1 0 0 0 yB 1 (some .byte) site (P x cd z) (E cd) [] 0 0 := by
  refine Law.of_walk (plainFor_of_name (by decide +kernel)) (by decide +kernel) (by decide +kernel) (by decide) (fun _ _ h => by rw [h.1]; rfl) (fun _ U U' hal hh h => ⟨h.1, h.2.1.mv hal hh, h.2.2.1, h.2.2.2.1.there hal hh, h.2.2.2.2⟩) (fun r U U' V V' h1 hal h2 h => XT.PureE.mv r U U' V V' h1 hal h2 h) ?_
  intro p e s m args below meth c s₁ X0 hexec hbytes hml hret hlk hnm hown hh0 W hP
  obtain ⟨rfl, hx, hc, s1, hz⟩ := hP
  have c1 : Steps p.tables e below (s₁.setTop (entryFrame m #[.ref x] 1)) (s₁.setTop (mkF m 0 #[.val (.ref x)] [])) := entry rfl
  obtain ⟨T2, X2, q2, st2⟩ := X0.sget hexec hown (wk W (.fieldLink "java/lang/String" 38 "java/lang/String" "COMPACT_STRINGS" "Z")) s1 (fun _ _ h => by rw [hh0]; exact h) (g := (mkF m 0 #[.val (.ref x)] [])) rfl (hb hbytes d0)
  have hh2 := q2.trans hh0
  have c3 : Steps p.tables e below (s₁.setTop (entryFrame m #[.ref x] 1)) (T2.setTop (mkF m 7 #[.val (.ref x)] [.ref x])) := (c1.trans (st2 _ (Steps.refl _))).trans (by
    refine XS.ifNo X2.here hexec rfl (hb hbytes d3) rfl (i0_eq_f hz) ?_
    refine XS.aloadN X2.here hexec rfl (hb hbytes d6) rfl rfl ?_
    exact Steps.refl _)
  obtain ⟨T4, X4, q4, st4⟩ := X2.hget hexec hown (wk W (.fieldLink "java/lang/String" 15 "java/lang/String" "coder" "B")) (hx.mv X2.warmed.alike hh2) (g := (mkF m 7 #[.val (.ref x)] [.ref x])) rfl (rest := []) rfl (hb hbytes d7)
  have c5 : Steps p.tables e below (s₁.setTop (entryFrame m #[.ref x] 1)) (T4.setTop (mkF m 14 #[.val (.ref x)] [.int cd])) := (c3.trans (st4 _ (Steps.refl _))).trans (by
    refine XS.goto X4.here hexec rfl (pc0 := 10) rfl (hb hbytes d10) (by decide) rfl ?_
    exact Steps.refl _)
  exact ⟨T4, some (.int cd), _, _, _, X4, rfl, rfl, rfl, (fun h => by cases h), ⟨rfl, q4.trans hh2⟩, fun fs hl => c5.trans (X4.ireturnOut hexec hret (by rcases hc with rfl | rfl <;> rfl) (Or.inr (Or.inr (Or.inl rfl))) (hb hbytes d14) hl)⟩
end Cdr
namespace Len
def yN : MethodName := ⟨"java/lang/String", "length", "()I"⟩
abbrev yB : ByteArray := jdk_42_method_54_code
theorem d0 : decode yB 0 = .ok (.aload_n 0, 1) := by decide +kernel
theorem d1 : decode yB 1 = .ok (.getfield 9, 3) := by decide +kernel
theorem d4 : decode yB 4 = .ok (.arraylength, 1) := by decide +kernel
theorem d5 : decode yB 5 = .ok (.aload_n 0, 1) := by decide +kernel
theorem d6 : decode yB 6 = .ok (.invokevirtual 335, 3) := by decide +kernel
theorem d9 : decode yB 9 = .ok (.ishr, 1) := by decide +kernel
theorem d10 : decode yB 10 = .ok (.ireturn, 1) := by decide +kernel
def site : List Cond := [.fieldLink "java/lang/String" 9 "java/lang/String" "value" "[B", Cdr.tab] ++ virtW "java/lang/String" 335 "java/lang/String" Cdr.yN Cdr.yN
def tab : Cond := tabOf yN yB 1 (some .int) site
def P (x t : Addr) (V : Cell) (cd : Int32) (n : Nat) (f : Nat → Int32) (z : Int32) (args : Array Value) (s : State) : Prop := args = #[.ref x] ∧ Txt x t V cd n f s ∧ StaticIs s "java/lang/String" "COMPACT_STRINGS" "Z" (.int z) ∧ ¬ z = 0
def E (n : Nat) (r : Option Value) (s u : State) : Prop := XT.PureE (some (.int (Int32.ofNat n))) r s u
/-- length() of a String of n chars, in either coding -/
theorem law (l : Launch) (x t : Addr) (V : Cell) (cd : Int32) (n : Nat) (f : Nat → Int32) (z : Int32) : Law l yN 1 0 1 13 yB 1 (some .int) site (P x t V cd n f z) (E n) [] 0 0 := by
  refine Law.of_walk (plainFor_of_name (by decide +kernel)) (by decide +kernel) (by decide +kernel) (by decide) (fun _ _ h => by rw [h.1]; rfl) (fun _ U U' hal hh h => ⟨h.1, h.2.1.mv hal hh, h.2.2.1.there hal hh, h.2.2.2⟩) (fun r U U' V V' h1 hal h2 h => XT.PureE.mv r U U' V V' h1 hal h2 h) ?_
  intro p e s m args below meth c s₁ X0 hexec hbytes hml hret hlk hnm hown hh0 W hP
  obtain ⟨rfl, hx, s1, hz⟩ := hP
  have v31 := hx.2.2.2.1.2.2.2
  have c1 : Steps p.tables e below (s₁.setTop (entryFrame m #[.ref x] 1)) (s₁.setTop (mkF m 1 #[.val (.ref x)] [.ref x])) := Steps.trans (entry rfl) (by
    show Steps p.tables e below (s₁.setTop (mkF m 0 #[.val (.ref x)] [])) _
    refine XS.aloadN X0.here hexec rfl (hb hbytes d0) rfl rfl ?_
    exact Steps.refl _)
  obtain ⟨T2, X2, q2, st2⟩ := X0.hget hexec hown (wk W (.fieldLink "java/lang/String" 9 "java/lang/String" "value" "[B")) (hx.mv X0.warmed.alike hh0).2.1 (g := (mkF m 1 #[.val (.ref x)] [.ref x])) rfl (rest := []) rfl (hb hbytes d1)
  have hh2 := q2.trans hh0
  have hx2 := hx.mv X2.warmed.alike hh2
  have c3 : Steps p.tables e below (s₁.setTop (entryFrame m #[.ref x] 1)) (T2.setTop (mkF m 6 #[.val (.ref x)] [.ref x, .int (Int32.ofNat V.slots.size)])) := (c1.trans (st2 _ (Steps.refl _))).trans (by
    refine X2.alen hexec hx2.2.2.2.1 rfl rfl (hb hbytes d4) ?_
    refine XS.aloadN X2.here hexec rfl (hb hbytes d5) rfl rfl ?_
    exact Steps.refl _)
  obtain ⟨v4, T4, X4, E4, g4⟩ := X2.callV hexec (Cdr.law l x cd z) hown (wks W (virtW "java/lang/String" 335 "java/lang/String" Cdr.yN Cdr.yN)) rfl (by decide) (wk W Cdr.tab) (W := 1) (Nat.le_of_ble_eq_true rfl) (Nat.le_of_ble_eq_true rfl) (Nat.le_refl _) (Nat.le_refl _) (hx2.1.fc X2.warmed.alike) hx2.1.is (g := (mkF m 6 #[.val (.ref x)] [.ref x, .int (Int32.ofNat V.slots.size)])) rfl (by rw [hml]; rfl) c3 (argsL := []) (rest := [.int (Int32.ofNat V.slots.size)]) rfl rfl (by show 2 * 0 + (1 + 0) ≤ _; decide) (hb hbytes d6) (⟨rfl, hx2.2.2.1, hx.2.2.2.2.1.cd, s1.there X2.warmed.alike hh2, hz⟩)
  obtain ⟨rfl, q4⟩ := E4
  have c5 : Steps p.tables e below (s₁.setTop (entryFrame m #[.ref x] 1)) (T4.setTop (mkF m 10 #[.val (.ref x)] [.int (Int32.ofNat V.slots.size >>> (cd &&& 31))])) := Steps.trans g4 (by
    refine ishr X4.here hexec rfl (hb hbytes d9) rfl ?_
    exact Steps.refl _)
  rw [hx.2.2.2.2.1.len v31] at c5
  exact ⟨T4, some (.int (Int32.ofNat n)), _, _, _, X4, rfl, rfl, rfl, (fun h => by cases h), ⟨rfl, q4.trans hh2⟩, fun fs hl => c5.trans (X4.ireturnOut hexec hret rfl (Or.inl rfl) (hb hbytes d10) hl)⟩
theorem pays {l : Launch} {R : Room} {p : Program} {e : Env} {below : List Frame} {s : State} {sargs : Array Value} {len W : Nat} (x t : Addr) (V : Cell) (cd : Int32) (n : Nat) (f : Nat → Int32) (z : Int32) (htab : tab.before sargs s = true) (hfr : 2 ≤ R.frames) (hlo : W + 25 ≤ R.locals) :
    Back l R p e below s sargs yN len W (fun A₁ a₁ => A₁.cells + 0 ≤ R.cells ∧ A₁.slots + 0 ≤ R.slots ∧ P x t V cd n f z a₁ A₁.U) (fun A₁ _ v₁ B₁ => E n v₁ A₁.U B₁.U ∧ B₁.locs = A₁.locs ++ [] ∧ B₁.cells = A₁.cells + 0 ∧ B₁.slots = A₁.slots + 0) :=
  (law l x t V cd n f z).pays htab hfr (by omega)
end Len
end StrChars
namespace StrChars.Road
open Jvm Sem ClassFile Op Lib Jvm.Stand Jvm.Free Jvm.Free.XT
open Jvm.Lib.Cold (StaticIs)
theorem consq {a : Array Value} {s : State} {c : Jvm.Cond} {L : List Jvm.Cond} (h0 : c.before a s = true) (h : ∀ w ∈ L, w.before a s = true) : ∀ w ∈ c :: L, w.before a s = true := fun w hw => (List.mem_cons.mp hw).elim (fun e => e ▸ h0) (h w)
/-- the words of String.length(), either coding -/
abbrev wordsLen : List Jvm.Cond := [.code Len.yN Len.yB 1 (some .int), .initialized ST, .fieldLink ST 9 ST "value" "[B", .fieldLink ST 38 ST "COMPACT_STRINGS" "Z", .fieldLink ST 15 ST "coder" "B", .code Cdr.yN Cdr.yB 1 (some .byte), .methodLink ST 335 Cdr.yN, .declares Cdr.yN, .selects ST Cdr.yN Cdr.yN, .instanceMethod Cdr.yN]
theorem tabLen_of {a : Array Value} {s : State} (h : ∀ w ∈ wordsLen, w.before a s = true) : Len.tab.before a s = true := by
  have hc : Cdr.tab.before a s = true := unparts (wk h (.code Cdr.yN Cdr.yB 1 (some .byte))) (wks h (.initialized Cdr.yN.cls :: Cdr.site))
  have q := consq hc h
  exact unparts (wk q (.code Len.yN Len.yB 1 (some .int))) (wks q (.initialized Len.yN.cls :: Len.site))
theorem movedLen {Z s : State} {a0 args : Array Value} (hZ : Z.Warmed39 s.vm) (hw : ∀ d ∈ wordsLen, d.before a0 Z = true) : ∀ d ∈ wordsLen, d.before args s = true := fun d hd => by
  have q := hw d hd
  have t : ∀ d ∈ wordsLen, d = .arrayClass .byte ∨ (d.onTables && d.keepsFace) = true := by decide +kernel
  rcases t d hd with rfl | t
  · exact RoadKit.mvA hZ q
  · exact RoadKit.mv hZ q t
/-- the bytes of the chars cs, low before high -/
def wideBytes : List Int32 → List Value
  | [] => []
  | c :: cs => .int (lo8 c) :: .int (hi8 c) :: wideBytes cs
theorem wide_lo (d : Value) : ∀ (cs : List Int32) (j : Nat), j < cs.length → (wideBytes cs).getD (2 * j) d = .int (lo8 (cs.getD j 0))
  | [], j, h => absurd h (Nat.not_lt_zero j)
  | c :: cs, 0, _ => rfl
  | c :: cs, j + 1, h => by
    have q := wide_lo d cs j (by simpa using h)
    rw [show 2 * (j + 1) = 2 * j + 1 + 1 from by omega]
    simpa [wideBytes] using q
theorem wide_hi (d : Value) : ∀ (cs : List Int32) (j : Nat), j < cs.length → (wideBytes cs).getD (2 * j + 1) d = .int (hi8 (cs.getD j 0))
  | [], j, h => absurd h (Nat.not_lt_zero j)
  | c :: cs, 0, _ => rfl
  | c :: cs, j + 1, h => by
    have q := wide_hi d cs j (by simpa using h)
    rw [show 2 * (j + 1) + 1 = 2 * j + 1 + 1 + 1 from by omega]
    simpa [wideBytes] using q
theorem low_at (d : Value) (cs : List Int32) (j : Nat) (h : j < cs.length) : (cs.map fun c => Value.int (lo8 c)).getD j d = .int (lo8 (cs.getD j 0)) := by
  simp [List.getD_eq_getElem?_getD, h]
/-- an array of N2 bytes vs codes the chars cs by the coder cd -/
def CodA (cs : List Int32) (cd N2 : Int32) (vs : List Value) : Prop := (cd = 0 ∧ N2 = Int32.ofNat cs.length ∧ vs = (cs.map fun c => Value.int (lo8 c)) ∧ ∀ c ∈ cs, ¬ 255 < c) ∨ (cd = 1 ∧ N2 = Int32.ofNat (2 * cs.length) ∧ vs = wideBytes cs ∧ ∃ c ∈ cs, 255 < c)
theorem CodA.cod {cs : List Int32} {cd N2 : Int32} {vs : List Value} {V : Cell} (h : CodA cs cd N2 vs) (hn : 2 * cs.length < 2 ^ 31) (hs : V.slots.size = N2.toNatClampNeg) (hv : RoadKit.Has V vs (.int 0)) : Cod cd cs.length (fun j => cs.getD j 0) V := by
  rcases h with ⟨rfl, rfl, rfl, h⟩ | ⟨rfl, rfl, rfl, c, hc, hw⟩
  · rw [n32 (by omega)] at hs
    exact Or.inl ⟨rfl, hs, fun j hj => ⟨by rw [hv j (by omega), low_at _ _ _ hj], by
      have e : cs.getD j 0 = cs[j] := by simp [List.getD_eq_getElem?_getD, hj]
      show ¬ 255 < cs.getD j 0
      rw [e]; exact h _ (List.getElem_mem _)⟩⟩
  · rw [n32 (by omega)] at hs
    obtain ⟨j, hj, rfl⟩ := List.getElem_of_mem hc
    exact Or.inr ⟨rfl, hs, fun j hj => ⟨by rw [hv _ (by omega), wide_lo _ _ _ hj], by rw [hv _ (by omega), wide_hi _ _ _ hj]⟩, j, hj, by
      have e : cs.getD j 0 = cs[j] := by simp [List.getD_eq_getElem?_getD, hj]
      show 255 < cs.getD j 0
      rw [e]; exact hw⟩
/-- an object of exactly java/lang/String, its two fields found: as the laws ask it -/
theorem strObj {Z U : State} {a0 : Array Value} {kI : Nat} (wi : (Jvm.Cond.instantiable ST kI).before a0 Z = true) (al : Z.vm.Alike U.vm) {x : Addr} {v0 c0 : Value} (E : RoadKit.Exa Z U.heap x ST) (V : RoadKit.Fld Z U.heap x ST "value" "[B" v0) (C : RoadKit.Fld Z U.heap x ST "coder" "B" c0) :
    ∃ (D : Cell) (fV fC : Field), Blank ST x D U ∧ Found ST "value" "[B" fV U ∧ Found ST "coder" "B" fC U ∧ D.slots[fV.slot]? = some v0 ∧ D.slots[fC.slot]? = some c0 ∧ RoadKit.slotOf Z ST "value" "[B" = fV.slot ∧ RoadKit.slotOf Z ST "coder" "B" = fC.slot := by
  obtain ⟨D, cfV, kV, iV, fV, hD, gV, stV, knV, obV, asV, slV⟩ := V
  obtain ⟨D', cfC, kC, iC, fC, hD', gC, stC, -, -, asC, slC⟩ := C
  cases hD.symm.trans hD'
  obtain ⟨D2, kD, e1, e2, e3, e4, e5⟩ := E
  cases hD.symm.trans e1
  obtain ⟨c2, k2, i1, i2, i3, -⟩ := Cond.instantiable_spec wi
  cases e2.symm.trans i1
  cases e3.symm.trans i2
  obtain ⟨kU, u1, u2⟩ := al.2.2 _ _ e3
  exact ⟨D, fV, fC, ⟨hD, ⟨knV, fun q hq => by rw [hq] at obV; cases obV⟩, by rw [al.findClass]; exact e2, kU, u1, by rw [u2]; exact i3, by rw [u2]; exact e5 i3⟩, ⟨SBG.found_only al ⟨cfV, kV, iV, gV⟩, stV⟩, ⟨SBG.found_only al ⟨cfC, kC, iC, gC⟩, stC⟩, slV, slC, by simp [RoadKit.slotOf, gV], by simp [RoadKit.slotOf, gC]⟩
theorem sta_is {Z U : State} (al : Z.vm.Alike U.vm) {C n d : String} {v : Value} (S : RoadKit.Sta Z U.heap C n d v) : StaticIs U C n d v := by
  obtain ⟨cfS, iS, kS, fS, st, cS, t1, t2, t3, t4, t5, t6, t7⟩ := S
  exact StaticIs.there (s := { Z with heap := U.heap }) ⟨cfS, iS, kS, fS, st, cS, t1, t2, t3, t4, t5, (fun q => by rw [q] at t6; cases t6), t7⟩ al rfl
/-- **length() OF SUCH A STRING** -/
theorem lenW {p : Program} {l : Launch} {e : Env} {R : Room} {s : State} {args : Array Value} {below : List Frame} {len W : Nat} {Z : State} {a0 : Array Value} {h : Heap} (hZ : Z.Warmed39 s.vm) (hw : ∀ d ∈ wordsLen, d.before a0 Z = true) {kI : Nat} (wi : (Jvm.Cond.instantiable ST kI).before a0 Z = true)
    {x t : Addr} {kb : ClassId} {cs : List Int32} {cd N2 z : Int32} {vs : List Value} (E : RoadKit.Exa Z h x ST) (V : RoadKit.Fld Z h x ST "value" "[B" (.ref t)) (C : RoadKit.Fld Z h x ST "coder" "B" (.int cd)) (K : RoadKit.Arv Z h t kb .byte N2 vs (.int 0)) (hc : CodA cs cd N2 vs) (hb : ∀ c ∈ cs, ¬ c < 0 ∧ ¬ (65535 : Int32) < c)
    (S : RoadKit.Sta Z h ST "COMPACT_STRINGS" "Z" (.int z)) (hz : ¬ z = 0) (l2 : cs.length ≤ 4000) (hfr : 2 ≤ R.frames) (hlo : W + 25 ≤ R.locals) :
    Back l R p e below s args (⟨"java/lang/String", "length", "()I"⟩ : MethodName) len W (fun P a => a = #[.ref x] ∧ P.U.heap = h ∧ P.cells + 0 ≤ R.cells ∧ P.slots + 0 ≤ R.slots)
      (fun P _ v B => ∃ L, (v = some (.int (Int32.ofNat cs.length)) ∧ L = [] ∧ B.U.heap = h) ∧ B.locs = P.locs ++ L ∧ B.cells = P.cells + 0 ∧ B.slots = P.slots + 0) := by
  obtain ⟨A, K1, K2, K3, K4, K5, K6⟩ := K
  have hcod := hc.cod (by omega) K3 K5
  intro m meth c P g ig mk a X hg hsize hdg hW hn hp'
  obtain ⟨rfl, rfl, r1, r2⟩ := hp'
  have al : Z.vm.Alike P.U.vm := hZ.alike.trans X.warmed.alike
  obtain ⟨D, fV, fC, hB, F1, F2, g1, g2, -, -⟩ := strObj wi al E V C
  have hx : Txt x t A cd cs.length (fun j => cs.getD j 0) P.U := ⟨⟨_, hB.2.2.1, D, hB.1, rfl, by cases q : D.vm <;> first | rfl | exact absurd q (hB.2.1.2 _)⟩, Has.of hB F1 g1, Has.of hB F2 g2, ⟨K1.1, State.isArrayOf_alike al K1.2.1, K1.2.2, by rcases hcod with ⟨-, q, -⟩ | ⟨-, q, -⟩ <;> omega⟩, hcod, fun j hj => by
    have e : cs.getD j 0 = cs[j] := by simp [List.getD_eq_getElem?_getD, hj]
    show ¬ cs.getD j 0 < 0 ∧ ¬ 65535 < cs.getD j 0
    rw [e]; exact hb _ (List.getElem_mem _)⟩
  obtain ⟨v, B, X', ⟨⟨hv, hh⟩, hl, hk, hs⟩, st⟩ := Len.pays x t A cd cs.length (fun j => cs.getD j 0) z (tabLen_of (movedLen hZ hw)) hfr hlo m meth c P g ig mk _ X hg hsize hdg hW hn ⟨r1, r2, rfl, hx, sta_is al S, hz⟩
  exact ⟨v, B, X', ⟨[], ⟨hv, rfl, hh⟩, hl, hk, hs⟩, st⟩
end StrChars.Road
namespace StrChars.Road
open Jvm Sem ClassFile Op Lib Jvm.Stand Jvm.Free Jvm.Free.XT
open Jvm.Lib.Cold (StaticIs)
/-- what backV says of its String, as the contracts of this text ask it: cs's low bytes, coder 0 -/
theorem codOf {cs : List Int32} {n : Nat} (hn : cs.length = n) (hb : ∀ c ∈ cs, ¬ 255 < c) : CodA cs 0 (Int32.ofNat n) ((cs.map lo8).map Value.int) := Or.inl ⟨rfl, by rw [hn], by simp [List.map_map, Function.comp_def], hb⟩
end StrChars.Road
end Jvm.Pilot.@@N@@
namespace Jvm.Pilot.@@N@@
namespace GoKit
open Sem ClassFile Op Lib Jvm.Stand Jvm.Free Jvm.LawKit Jvm.RoadKit
section
variable {Z : State} {h h' : Heap} {a t : Nat} {cs ds : List Int32} {ws : List Addr} {x : Nat} {sl : Nat} {v : Value}
/-- the String at a, its byte[] at t, spells cs -/
def Str (Z : State) (h : Heap) (a t : Nat) (cs : List Int32) : Prop := ∃ (kb : ClassId) (cd N2 : Int32) (vs : List Value), Exa Z h a "java/lang/String" ∧ Fld Z h a "java/lang/String" "value" "[B" (.ref t) ∧ Fld Z h a "java/lang/String" "coder" "B" (.int cd) ∧ Arv Z h t kb .byte N2 vs (.int 0) ∧ StrChars.Road.CodA cs cd N2 vs ∧ (∀ c ∈ cs, ¬ c < 0 ∧ ¬ (65535 : Int32) < c) ∧ cs.length ≤ 4000
theorem Str.ext (S : Str Z h a t cs) (E : Ext h h') : Str Z h' a t cs := by
  obtain ⟨kb, cd, N2, vs, r1, r2, r3, r4, r⟩ := S
  exact ⟨kb, cd, N2, vs, r1.ext E, r2.ext E, r3.ext E, r4.ext E, r⟩
theorem Str.other (S : Str Z h a t cs) (W : Wr h h' x sl v) (q1 : a ≠ x) (q2 : t ≠ x) : Str Z h' a t cs := by
  obtain ⟨kb, cd, N2, vs, r1, r2, r3, r4, r⟩ := S
  exact ⟨kb, cd, N2, vs, r1.wr W, r2.other W (Or.inl q1), r3.other W (Or.inl q1), r4.other W q2, r⟩
theorem Str.keep (S : Str Z h a t cs) (K : Keep h h' ws) (q1 : a ∉ ws) (q2 : t ∉ ws) : Str Z h' a t cs := by
  obtain ⟨kb, cd, N2, vs, r1, r2, r3, r4, r⟩ := S
  exact ⟨kb, cd, N2, vs, r1.keep K, r2.keep K q1, r3.keep K q1, r4.keep K q2, r⟩
theorem Str.exa (S : Str Z h a t cs) : Exa Z h a "java/lang/String" := by obtain ⟨_, _, _, _, r, -⟩ := S; exact r
theorem Str.lt (S : Str Z h a t cs) : a < h.size ∧ t < h.size := by obtain ⟨_, _, _, _, r1, _, _, r4, -⟩ := S; exact ⟨r1.lt, r4.lt⟩
theorem Str.latin {kb : ClassId} {N2 : Int32} {vs : List Value} (E : Exa Z h a "java/lang/String") (V : Fld Z h a "java/lang/String" "value" "[B" (.ref t)) (C : Fld Z h a "java/lang/String" "coder" "B" (.int 0)) (A : Arv Z h t kb .byte N2 vs (.int 0)) (hN : N2 = Int32.ofNat cs.length) (hv : vs = cs.map fun c => Value.int (StrChars.lo8 c)) (hp : ∀ c ∈ cs, ¬ c < 0 ∧ ¬ (255 : Int32) < c) (hl : cs.length ≤ 4000) : Str Z h a t cs :=
  ⟨kb, 0, N2, vs, E, V, C, A, Or.inl ⟨rfl, hN, hv, fun c hc => (hp c hc).2⟩, fun c hc => ⟨(hp c hc).1, nle (hp c hc).2 (by decide)⟩, hl⟩
variable {p : Program} {l : Launch} {e : Env} {R : Room} {s : State} {args : Array Value} {below : List Frame} {len W : Nat} {a0 : Array Value}
theorem Str.bkLen (hZ : Z.Warmed39 s.vm) (hw : ∀ d ∈ StrChars.Road.wordsLen, d.before a0 Z = true) {kI : Nat} (wi : (Jvm.Cond.instantiable "java/lang/String" kI).before a0 Z = true) {z : Int32} (T : Str Z h a t cs) (S : Sta Z h "java/lang/String" "COMPACT_STRINGS" "Z" (.int z)) (hz : ¬ z = 0) (hfr : 2 ≤ R.frames) (hlo : W + 25 ≤ R.locals) :
    BK l R p e below s args (⟨"java/lang/String", "length", "()I"⟩ : MethodName) len W #[.ref a] h 0 0 (fun v h' L => v = some (.int (Int32.ofNat cs.length)) ∧ L = [] ∧ h' = h) := by
  obtain ⟨kb, cd, N2, vs, r1, r2, r3, r4, r5, r6, r7⟩ := T
  exact StrChars.Road.lenW hZ hw wi r1 r2 r3 r4 r5 r6 S hz r7 hfr hlo
end
end GoKit
end Jvm.Pilot.@@N@@
namespace Jvm.Pilot.@@N@@
open Jvm Jvm.ClassFile Sem Op Lib Jvm.Free Jvm.Stand Jvm.LawKit Jvm.RoadKit Bundle Jvm.Pilot.@@N@@.Jvm.D
open GoKit
theorem pn_0 : plainName "java/lang/StringUTF16" = true := by first | (simp [plainName, overriddenIn]; done) | decide +kernel
theorem pn_1 : plainName "jdk/internal/util/Preconditions" = true := by first | (simp [plainName, overriddenIn]; done) | decide +kernel
theorem pn_2 : plainName "java/lang/String" = true := by first | (simp [plainName, overriddenIn]; done) | decide +kernel
theorem pn_3 : plainName "java/lang/StringLatin1" = true := by first | (simp [plainName, overriddenIn]; done) | decide +kernel
theorem pn_4 : plainName "com/example/neat_mapper/neatmapper/jpql/SourcePositionOfPinLaw" = true := by first | (simp [plainName, overriddenIn]; done) | decide +kernel
theorem pn_5 : plainName "java/lang/Character" = true := by first | (simp [plainName, overriddenIn]; done) | decide +kernel
theorem pn_6 : plainName "java/util/Objects" = true := by first | (simp [plainName, overriddenIn]; done) | decide +kernel
theorem pn_7 : plainName "java/lang/Record" = true := by first | (simp [plainName, overriddenIn]; done) | decide +kernel
theorem pn_8 : plainName "com/example/neat_mapper/neatmapper/jpql/SourcePosition" = true := by first | (simp [plainName, overriddenIn]; done) | decide +kernel
theorem pd_0 : parseMethodDescriptor "(IILjava/util/function/BiFunction;)I" = some ⟨[.int, .int, (.object "java/util/function/BiFunction")], some .int⟩ := by decide +kernel
theorem pd_1 : parseMethodDescriptor "([B)I" = some ⟨[(.array .byte)], some .int⟩ := by decide +kernel
theorem pd_2 : parseMethodDescriptor "(II)V" = some ⟨[.int, .int], none⟩ := by decide +kernel
theorem pd_3 : parseMethodDescriptor "(I[B)V" = some ⟨[.int, (.array .byte)], none⟩ := by decide +kernel
theorem pd_4 : parseMethodDescriptor "([BI)C" = some ⟨[(.array .byte), .int], some .char⟩ := by decide +kernel
theorem pd_5 : parseMethodDescriptor "()Z" = some ⟨[], some .boolean⟩ := by decide +kernel
theorem pd_6 : parseMethodDescriptor "(I)I" = some ⟨[.int], some .int⟩ := by decide +kernel
theorem pd_7 : parseMethodDescriptor "(I)[B" = some ⟨[.int], some (.array .byte)⟩ := by decide +kernel
theorem pd_8 : parseMethodDescriptor "([BII)V" = some ⟨[(.array .byte), .int, .int], none⟩ := by decide +kernel
theorem pd_9 : parseMethodDescriptor "([CI[BII)I" = some ⟨[(.array .char), .int, (.array .byte), .int, .int], some .int⟩ := by decide +kernel
theorem pd_10 : parseMethodDescriptor "([CII)[B" = some ⟨[(.array .char), .int, .int], some (.array .byte)⟩ := by decide +kernel
theorem pd_11 : parseMethodDescriptor "([BI)B" = some ⟨[(.array .byte), .int], some .byte⟩ := by decide +kernel
theorem pd_12 : parseMethodDescriptor "([CIILjava/lang/Void;)V" = some ⟨[(.array .char), .int, .int, (.object "java/lang/Void")], none⟩ := by decide +kernel
theorem pd_13 : parseMethodDescriptor "([CI)Z" = some ⟨[(.array .char), .int], some .boolean⟩ := by decide +kernel
theorem pd_14 : parseMethodDescriptor "(C)Z" = some ⟨[.char], some .boolean⟩ := by decide +kernel
theorem pd_15 : parseMethodDescriptor "(IIILjava/util/function/BiFunction;)I" = some ⟨[.int, .int, .int, (.object "java/util/function/BiFunction")], some .int⟩ := by decide +kernel
theorem pd_16 : parseMethodDescriptor "()I" = some ⟨[], some .int⟩ := by decide +kernel
theorem pd_17 : parseMethodDescriptor "(III)I" = some ⟨[.int, .int, .int], some .int⟩ := by decide +kernel
theorem pd_18 : parseMethodDescriptor "(I)C" = some ⟨[.int], some .char⟩ := by decide +kernel
theorem pd_19 : parseMethodDescriptor "()V" = some ⟨[], none⟩ := by decide +kernel
theorem pd_20 : parseMethodDescriptor "(Ljava/lang/Object;Ljava/lang/String;)Ljava/lang/Object;" = some ⟨[(.object "java/lang/Object"), (.object "java/lang/String")], some (.object "java/lang/Object")⟩ := by decide +kernel
theorem pd_21 : parseMethodDescriptor "(Ljava/lang/CharSequence;II)I" = some ⟨[(.object "java/lang/CharSequence"), .int, .int], some .int⟩ := by decide +kernel
theorem pd_22 : parseMethodDescriptor "([C)V" = some ⟨[(.array .char)], none⟩ := by decide +kernel
theorem pd_23 : parseMethodDescriptor "([CII)I" = some ⟨[(.array .char), .int, .int], some .int⟩ := by decide +kernel
theorem pd_24 : parseMethodDescriptor "([CIII)I" = some ⟨[(.array .char), .int, .int, .int], some .int⟩ := by decide +kernel
theorem pd_25 : parseMethodDescriptor "(Ljava/lang/String;I)Lcom/example/neat_mapper/neatmapper/jpql/SourcePosition;" = some ⟨[(.object "java/lang/String"), .int], some (.object "com/example/neat_mapper/neatmapper/jpql/SourcePosition")⟩ := by decide +kernel
theorem d22_0 : decode prog_43_method_1_code 0 = .ok (.aload_n 0, 1) := by decide +kernel
theorem d22_1 : decode prog_43_method_1_code 1 = .ok (.invokespecial 1, 3) := by decide +kernel
theorem d22_4 : decode prog_43_method_1_code 4 = .ok (.iload_n 1, 1) := by decide +kernel
theorem d22_5 : decode prog_43_method_1_code 5 = .ok (.iconst 1, 1) := by decide +kernel
theorem d22_6 : decode prog_43_method_1_code 6 = .ok (.if_icmp .lt 8, 3) := by decide +kernel
theorem d22_9 : decode prog_43_method_1_code 9 = .ok (.iload_n 2, 1) := by decide +kernel
theorem d22_10 : decode prog_43_method_1_code 10 = .ok (.iconst 1, 1) := by decide +kernel
theorem d22_11 : decode prog_43_method_1_code 11 = .ok (.if_icmp .ge 18, 3) := by decide +kernel
theorem d22_29 : decode prog_43_method_1_code 29 = .ok (.aload_n 0, 1) := by decide +kernel
theorem d22_30 : decode prog_43_method_1_code 30 = .ok (.iload_n 1, 1) := by decide +kernel
theorem d22_31 : decode prog_43_method_1_code 31 = .ok (.putfield 16, 3) := by decide +kernel
theorem d22_34 : decode prog_43_method_1_code 34 = .ok (.aload_n 0, 1) := by decide +kernel
theorem d22_35 : decode prog_43_method_1_code 35 = .ok (.iload_n 2, 1) := by decide +kernel
theorem d22_36 : decode prog_43_method_1_code 36 = .ok (.putfield 22, 3) := by decide +kernel
theorem d22_39 : decode prog_43_method_1_code 39 = .ok (.return_, 1) := by decide +kernel
theorem d25_0 : decode prog_43_method_7_code 0 = .ok (.aload_n 0, 1) := by decide +kernel
theorem d25_1 : decode prog_43_method_7_code 1 = .ok (.getfield 22, 3) := by decide +kernel
theorem d25_4 : decode prog_43_method_7_code 4 = .ok (.ireturn, 1) := by decide +kernel
theorem d24_0 : decode prog_43_method_6_code 0 = .ok (.aload_n 0, 1) := by decide +kernel
theorem d24_1 : decode prog_43_method_6_code 1 = .ok (.getfield 16, 3) := by decide +kernel
theorem d24_4 : decode prog_43_method_6_code 4 = .ok (.ireturn, 1) := by decide +kernel
theorem d15_0 : decode prog_43_method_2_code 0 = .ok (.aload_n 0, 1) := by decide +kernel
theorem d15_1 : decode prog_43_method_2_code 1 = .ok (.ldc 25, 2) := by decide +kernel
theorem d15_3 : decode prog_43_method_2_code 3 = .ok (.invokestatic 27, 3) := by decide +kernel
theorem d15_6 : decode prog_43_method_2_code 6 = .ok (.pop, 1) := by decide +kernel
theorem d15_7 : decode prog_43_method_2_code 7 = .ok (.iload_n 1, 1) := by decide +kernel
theorem d15_8 : decode prog_43_method_2_code 8 = .ok (.ifCond .lt 11, 3) := by decide +kernel
theorem d15_11 : decode prog_43_method_2_code 11 = .ok (.iload_n 1, 1) := by decide +kernel
theorem d15_12 : decode prog_43_method_2_code 12 = .ok (.aload_n 0, 1) := by decide +kernel
theorem d15_13 : decode prog_43_method_2_code 13 = .ok (.invokevirtual 33, 3) := by decide +kernel
theorem d15_16 : decode prog_43_method_2_code 16 = .ok (.if_icmp .le 21, 3) := by decide +kernel
theorem d15_37 : decode prog_43_method_2_code 37 = .ok (.iload_n 1, 1) := by decide +kernel
theorem d15_38 : decode prog_43_method_2_code 38 = .ok (.ifCond .le 49, 3) := by decide +kernel
theorem d15_41 : decode prog_43_method_2_code 41 = .ok (.iload_n 1, 1) := by decide +kernel
theorem d15_42 : decode prog_43_method_2_code 42 = .ok (.aload_n 0, 1) := by decide +kernel
theorem d15_43 : decode prog_43_method_2_code 43 = .ok (.invokevirtual 33, 3) := by decide +kernel
theorem d15_46 : decode prog_43_method_2_code 46 = .ok (.if_icmp .ge 41, 3) := by decide +kernel
theorem d15_49 : decode prog_43_method_2_code 49 = .ok (.aload_n 0, 1) := by decide +kernel
theorem d15_50 : decode prog_43_method_2_code 50 = .ok (.iload_n 1, 1) := by decide +kernel
theorem d15_51 : decode prog_43_method_2_code 51 = .ok (.iconst 1, 1) := by decide +kernel
theorem d15_52 : decode prog_43_method_2_code 52 = .ok (.isub, 1) := by decide +kernel
theorem d15_53 : decode prog_43_method_2_code 53 = .ok (.invokevirtual 40, 3) := by decide +kernel
theorem d15_56 : decode prog_43_method_2_code 56 = .ok (.invokestatic 44, 3) := by decide +kernel
theorem d15_59 : decode prog_43_method_2_code 59 = .ok (.ifCond .eq 28, 3) := by decide +kernel
theorem d15_62 : decode prog_43_method_2_code 62 = .ok (.aload_n 0, 1) := by decide +kernel
theorem d15_63 : decode prog_43_method_2_code 63 = .ok (.iload_n 1, 1) := by decide +kernel
theorem d15_64 : decode prog_43_method_2_code 64 = .ok (.invokevirtual 40, 3) := by decide +kernel
theorem d15_67 : decode prog_43_method_2_code 67 = .ok (.invokestatic 50, 3) := by decide +kernel
theorem d15_70 : decode prog_43_method_2_code 70 = .ok (.ifCond .eq 17, 3) := by decide +kernel
theorem d15_87 : decode prog_43_method_2_code 87 = .ok (.iconst 1, 1) := by decide +kernel
theorem d15_88 : decode prog_43_method_2_code 88 = .ok (.istore_n 2, 1) := by decide +kernel
theorem d15_89 : decode prog_43_method_2_code 89 = .ok (.iconst 0, 1) := by decide +kernel
theorem d15_90 : decode prog_43_method_2_code 90 = .ok (.istore_n 3, 1) := by decide +kernel
theorem d15_91 : decode prog_43_method_2_code 91 = .ok (.iconst 0, 1) := by decide +kernel
theorem d15_92 : decode prog_43_method_2_code 92 = .ok (.istore 4, 2) := by decide +kernel
theorem d15_94 : decode prog_43_method_2_code 94 = .ok (.iload 4, 2) := by decide +kernel
theorem d15_96 : decode prog_43_method_2_code 96 = .ok (.iload_n 1, 1) := by decide +kernel
theorem d15_97 : decode prog_43_method_2_code 97 = .ok (.if_icmp .ge 82, 3) := by decide +kernel
theorem d15_100 : decode prog_43_method_2_code 100 = .ok (.aload_n 0, 1) := by decide +kernel
theorem d15_101 : decode prog_43_method_2_code 101 = .ok (.iload 4, 2) := by decide +kernel
theorem d15_103 : decode prog_43_method_2_code 103 = .ok (.invokevirtual 40, 3) := by decide +kernel
theorem d15_106 : decode prog_43_method_2_code 106 = .ok (.istore 5, 2) := by decide +kernel
theorem d15_108 : decode prog_43_method_2_code 108 = .ok (.iload 5, 2) := by decide +kernel
theorem d15_110 : decode prog_43_method_2_code 110 = .ok (.bipush 13, 2) := by decide +kernel
theorem d15_112 : decode prog_43_method_2_code 112 = .ok (.if_icmp .ne 31, 3) := by decide +kernel
theorem d15_115 : decode prog_43_method_2_code 115 = .ok (.iload 4, 2) := by decide +kernel
theorem d15_117 : decode prog_43_method_2_code 117 = .ok (.iconst 1, 1) := by decide +kernel
theorem d15_118 : decode prog_43_method_2_code 118 = .ok (.iadd, 1) := by decide +kernel
theorem d15_119 : decode prog_43_method_2_code 119 = .ok (.aload_n 0, 1) := by decide +kernel
theorem d15_120 : decode prog_43_method_2_code 120 = .ok (.invokevirtual 33, 3) := by decide +kernel
theorem d15_123 : decode prog_43_method_2_code 123 = .ok (.if_icmp .ge 20, 3) := by decide +kernel
theorem d15_126 : decode prog_43_method_2_code 126 = .ok (.aload_n 0, 1) := by decide +kernel
theorem d15_127 : decode prog_43_method_2_code 127 = .ok (.iload 4, 2) := by decide +kernel
theorem d15_129 : decode prog_43_method_2_code 129 = .ok (.iconst 1, 1) := by decide +kernel
theorem d15_130 : decode prog_43_method_2_code 130 = .ok (.iadd, 1) := by decide +kernel
theorem d15_131 : decode prog_43_method_2_code 131 = .ok (.invokevirtual 40, 3) := by decide +kernel
theorem d15_134 : decode prog_43_method_2_code 134 = .ok (.bipush 10, 2) := by decide +kernel
theorem d15_136 : decode prog_43_method_2_code 136 = .ok (.if_icmp .ne 7, 3) := by decide +kernel
theorem d15_139 : decode prog_43_method_2_code 139 = .ok (.iconst 1, 1) := by decide +kernel
theorem d15_140 : decode prog_43_method_2_code 140 = .ok (.goto 4, 3) := by decide +kernel
theorem d15_143 : decode prog_43_method_2_code 143 = .ok (.iconst 0, 1) := by decide +kernel
theorem d15_144 : decode prog_43_method_2_code 144 = .ok (.istore 6, 2) := by decide +kernel
theorem d15_146 : decode prog_43_method_2_code 146 = .ok (.iload 5, 2) := by decide +kernel
theorem d15_148 : decode prog_43_method_2_code 148 = .ok (.bipush 10, 2) := by decide +kernel
theorem d15_150 : decode prog_43_method_2_code 150 = .ok (.if_icmp .eq 15, 3) := by decide +kernel
theorem d15_153 : decode prog_43_method_2_code 153 = .ok (.iload 5, 2) := by decide +kernel
theorem d15_155 : decode prog_43_method_2_code 155 = .ok (.bipush 13, 2) := by decide +kernel
theorem d15_157 : decode prog_43_method_2_code 157 = .ok (.if_icmp .ne 16, 3) := by decide +kernel
theorem d15_160 : decode prog_43_method_2_code 160 = .ok (.iload 6, 2) := by decide +kernel
theorem d15_162 : decode prog_43_method_2_code 162 = .ok (.ifCond .ne 11, 3) := by decide +kernel
theorem d15_165 : decode prog_43_method_2_code 165 = .ok (.iinc 2 1, 3) := by decide +kernel
theorem d15_168 : decode prog_43_method_2_code 168 = .ok (.iload 4, 2) := by decide +kernel
theorem d15_170 : decode prog_43_method_2_code 170 = .ok (.iconst 1, 1) := by decide +kernel
theorem d15_171 : decode prog_43_method_2_code 171 = .ok (.iadd, 1) := by decide +kernel
theorem d15_172 : decode prog_43_method_2_code 172 = .ok (.istore_n 3, 1) := by decide +kernel
theorem d15_173 : decode prog_43_method_2_code 173 = .ok (.iinc 4 1, 3) := by decide +kernel
theorem d15_176 : decode prog_43_method_2_code 176 = .ok (.goto (-82), 3) := by decide +kernel
theorem d15_179 : decode prog_43_method_2_code 179 = .ok (.aload_n 0, 1) := by decide +kernel
theorem d15_180 : decode prog_43_method_2_code 180 = .ok (.iload_n 3, 1) := by decide +kernel
theorem d15_181 : decode prog_43_method_2_code 181 = .ok (.iload_n 1, 1) := by decide +kernel
theorem d15_182 : decode prog_43_method_2_code 182 = .ok (.invokestatic 56, 3) := by decide +kernel
theorem d15_185 : decode prog_43_method_2_code 185 = .ok (.iconst 1, 1) := by decide +kernel
theorem d15_186 : decode prog_43_method_2_code 186 = .ok (.iadd, 1) := by decide +kernel
theorem d15_187 : decode prog_43_method_2_code 187 = .ok (.istore 4, 2) := by decide +kernel
theorem d15_189 : decode prog_43_method_2_code 189 = .ok (.new 17, 3) := by decide +kernel
theorem d15_192 : decode prog_43_method_2_code 192 = .ok (.dup, 1) := by decide +kernel
theorem d15_193 : decode prog_43_method_2_code 193 = .ok (.iload_n 2, 1) := by decide +kernel
theorem d15_194 : decode prog_43_method_2_code 194 = .ok (.iload 4, 2) := by decide +kernel
theorem d15_196 : decode prog_43_method_2_code 196 = .ok (.invokespecial 60, 3) := by decide +kernel
theorem d15_199 : decode prog_43_method_2_code 199 = .ok (.areturn, 1) := by decide +kernel
theorem d13_0 : decode method_6_code 0 = .ok (.iload_n 1, 1) := by decide +kernel
theorem d13_1 : decode method_6_code 1 = .ok (.iload_n 2, 1) := by decide +kernel
theorem d13_2 : decode method_6_code 2 = .ok (.if_icmp .ge 15, 3) := by decide +kernel
theorem d13_5 : decode method_6_code 5 = .ok (.aload_n 0, 1) := by decide +kernel
theorem d13_6 : decode method_6_code 6 = .ok (.iload_n 1, 1) := by decide +kernel
theorem d13_7 : decode method_6_code 7 = .ok (.invokestatic 11, 3) := by decide +kernel
theorem d13_10 : decode method_6_code 10 = .ok (.ifCond .eq 7, 3) := by decide +kernel
theorem d13_13 : decode method_6_code 13 = .ok (.iconst 1, 1) := by decide +kernel
theorem d13_14 : decode method_6_code 14 = .ok (.goto 4, 3) := by decide +kernel
theorem d13_17 : decode method_6_code 17 = .ok (.iconst 0, 1) := by decide +kernel
theorem d13_18 : decode method_6_code 18 = .ok (.ireturn, 1) := by decide +kernel
theorem d1_0 : decode method_2_code 0 = .ok (.iload_n 0, 1) := by decide +kernel
theorem d1_1 : decode method_2_code 1 = .ok (.iconst 3, 1) := by decide +kernel
theorem d1_2 : decode method_2_code 2 = .ok (.iand, 1) := by decide +kernel
theorem d1_3 : decode method_2_code 3 = .ok (.istore_n 1, 1) := by decide +kernel
theorem d1_4 : decode method_2_code 4 = .ok (.iload_n 1, 1) := by decide +kernel
theorem d1_5 : decode method_2_code 5 = .ok (.ifCond .ne 6, 3) := by decide +kernel
theorem d1_8 : decode method_2_code 8 = .ok (.bipush 10, 2) := by decide +kernel
theorem d1_10 : decode method_2_code 10 = .ok (.ireturn, 1) := by decide +kernel
theorem d1_11 : decode method_2_code 11 = .ok (.iload_n 1, 1) := by decide +kernel
theorem d1_12 : decode method_2_code 12 = .ok (.iconst 1, 1) := by decide +kernel
theorem d1_13 : decode method_2_code 13 = .ok (.if_icmp .ne 6, 3) := by decide +kernel
theorem d1_16 : decode method_2_code 16 = .ok (.bipush 13, 2) := by decide +kernel
theorem d1_18 : decode method_2_code 18 = .ok (.ireturn, 1) := by decide +kernel
theorem d1_19 : decode method_2_code 19 = .ok (.iload_n 1, 1) := by decide +kernel
theorem d1_20 : decode method_2_code 20 = .ok (.iconst 2, 1) := by decide +kernel
theorem d1_21 : decode method_2_code 21 = .ok (.if_icmp .ne 15, 3) := by decide +kernel
theorem d1_24 : decode method_2_code 24 = .ok (.ldc 7, 2) := by decide +kernel
theorem d1_26 : decode method_2_code 26 = .ok (.iload_n 0, 1) := by decide +kernel
theorem d1_27 : decode method_2_code 27 = .ok (.iconst 2, 1) := by decide +kernel
theorem d1_28 : decode method_2_code 28 = .ok (.iushr, 1) := by decide +kernel
theorem d1_29 : decode method_2_code 29 = .ok (.sipush 2047, 3) := by decide +kernel
theorem d1_32 : decode method_2_code 32 = .ok (.iand, 1) := by decide +kernel
theorem d1_33 : decode method_2_code 33 = .ok (.iadd, 1) := by decide +kernel
theorem d1_34 : decode method_2_code 34 = .ok (.i2c, 1) := by decide +kernel
theorem d1_35 : decode method_2_code 35 = .ok (.ireturn, 1) := by decide +kernel
theorem d1_36 : decode method_2_code 36 = .ok (.iload_n 0, 1) := by decide +kernel
theorem d1_37 : decode method_2_code 37 = .ok (.bipush 16, 2) := by decide +kernel
theorem d1_39 : decode method_2_code 39 = .ok (.iushr, 1) := by decide +kernel
theorem d1_40 : decode method_2_code 40 = .ok (.i2c, 1) := by decide +kernel
theorem d1_41 : decode method_2_code 41 = .ok (.ireturn, 1) := by decide +kernel
theorem d27_0 : decode method_5_code 0 = .ok (.aload_n 0, 1) := by decide +kernel
theorem d27_1 : decode method_5_code 1 = .ok (.iload_n 1, 1) := by decide +kernel
theorem d27_2 : decode method_5_code 2 = .ok (.caload, 1) := by decide +kernel
theorem d27_3 : decode method_5_code 3 = .ok (.bipush 10, 2) := by decide +kernel
theorem d27_5 : decode method_5_code 5 = .ok (.if_icmp .ne 5, 3) := by decide +kernel
theorem d27_8 : decode method_5_code 8 = .ok (.iconst 1, 1) := by decide +kernel
theorem d27_9 : decode method_5_code 9 = .ok (.ireturn, 1) := by decide +kernel
theorem d27_10 : decode method_5_code 10 = .ok (.aload_n 0, 1) := by decide +kernel
theorem d27_11 : decode method_5_code 11 = .ok (.iload_n 1, 1) := by decide +kernel
theorem d27_12 : decode method_5_code 12 = .ok (.caload, 1) := by decide +kernel
theorem d27_13 : decode method_5_code 13 = .ok (.bipush 13, 2) := by decide +kernel
theorem d27_15 : decode method_5_code 15 = .ok (.if_icmp .eq 5, 3) := by decide +kernel
theorem d27_18 : decode method_5_code 18 = .ok (.iconst 0, 1) := by decide +kernel
theorem d27_19 : decode method_5_code 19 = .ok (.ireturn, 1) := by decide +kernel
theorem d27_20 : decode method_5_code 20 = .ok (.iload_n 1, 1) := by decide +kernel
theorem d27_21 : decode method_5_code 21 = .ok (.iconst 3, 1) := by decide +kernel
theorem d27_22 : decode method_5_code 22 = .ok (.if_icmp .ne 5, 3) := by decide +kernel
theorem d27_25 : decode method_5_code 25 = .ok (.iconst 1, 1) := by decide +kernel
theorem d27_26 : decode method_5_code 26 = .ok (.ireturn, 1) := by decide +kernel
theorem d27_27 : decode method_5_code 27 = .ok (.aload_n 0, 1) := by decide +kernel
theorem d27_28 : decode method_5_code 28 = .ok (.iload_n 1, 1) := by decide +kernel
theorem d27_29 : decode method_5_code 29 = .ok (.iconst 1, 1) := by decide +kernel
theorem d27_30 : decode method_5_code 30 = .ok (.iadd, 1) := by decide +kernel
theorem d27_31 : decode method_5_code 31 = .ok (.caload, 1) := by decide +kernel
theorem d27_32 : decode method_5_code 32 = .ok (.bipush 10, 2) := by decide +kernel
theorem d27_34 : decode method_5_code 34 = .ok (.if_icmp .eq 7, 3) := by decide +kernel
theorem d27_37 : decode method_5_code 37 = .ok (.iconst 1, 1) := by decide +kernel
theorem d27_38 : decode method_5_code 38 = .ok (.goto 4, 3) := by decide +kernel
theorem d27_41 : decode method_5_code 41 = .ok (.iconst 0, 1) := by decide +kernel
theorem d27_42 : decode method_5_code 42 = .ok (.ireturn, 1) := by decide +kernel
theorem d26_0 : decode method_3_code 0 = .ok (.iload_n 0, 1) := by decide +kernel
theorem d26_1 : decode method_3_code 1 = .ok (.ldc 7, 2) := by decide +kernel
theorem d26_3 : decode method_3_code 3 = .ok (.if_icmp .lt 13, 3) := by decide +kernel
theorem d26_6 : decode method_3_code 6 = .ok (.iload_n 0, 1) := by decide +kernel
theorem d26_7 : decode method_3_code 7 = .ok (.ldc 8, 2) := by decide +kernel
theorem d26_9 : decode method_3_code 9 = .ok (.if_icmp .gt 7, 3) := by decide +kernel
theorem d26_12 : decode method_3_code 12 = .ok (.iconst 1, 1) := by decide +kernel
theorem d26_13 : decode method_3_code 13 = .ok (.goto 4, 3) := by decide +kernel
theorem d26_16 : decode method_3_code 16 = .ok (.iconst 0, 1) := by decide +kernel
theorem d26_17 : decode method_3_code 17 = .ok (.ireturn, 1) := by decide +kernel
theorem d37_0 : decode method_4_code 0 = .ok (.iload_n 0, 1) := by decide +kernel
theorem d37_1 : decode method_4_code 1 = .ok (.ldc 9, 2) := by decide +kernel
theorem d37_3 : decode method_4_code 3 = .ok (.if_icmp .lt 13, 3) := by decide +kernel
theorem d37_6 : decode method_4_code 6 = .ok (.iload_n 0, 1) := by decide +kernel
theorem d37_7 : decode method_4_code 7 = .ok (.ldc 10, 2) := by decide +kernel
theorem d37_9 : decode method_4_code 9 = .ok (.if_icmp .gt 7, 3) := by decide +kernel
theorem d37_12 : decode method_4_code 12 = .ok (.iconst 1, 1) := by decide +kernel
theorem d37_13 : decode method_4_code 13 = .ok (.goto 4, 3) := by decide +kernel
theorem d37_16 : decode method_4_code 16 = .ok (.iconst 0, 1) := by decide +kernel
theorem d37_17 : decode method_4_code 17 = .ok (.ireturn, 1) := by decide +kernel
theorem d14_0 : decode method_7_code 0 = .ok (.iload_n 1, 1) := by decide +kernel
theorem d14_1 : decode method_7_code 1 = .ok (.iload_n 2, 1) := by decide +kernel
theorem d14_2 : decode method_7_code 2 = .ok (.if_icmp .lt 34, 3) := by decide +kernel
theorem d14_5 : decode method_7_code 5 = .ok (.iload_n 1, 1) := by decide +kernel
theorem d14_6 : decode method_7_code 6 = .ok (.iconst 1, 1) := by decide +kernel
theorem d14_7 : decode method_7_code 7 = .ok (.iadd, 1) := by decide +kernel
theorem d14_8 : decode method_7_code 8 = .ok (.iload_n 3, 1) := by decide +kernel
theorem d14_9 : decode method_7_code 9 = .ok (.if_icmp .ge 27, 3) := by decide +kernel
theorem d14_12 : decode method_7_code 12 = .ok (.aload_n 0, 1) := by decide +kernel
theorem d14_13 : decode method_7_code 13 = .ok (.iload_n 1, 1) := by decide +kernel
theorem d14_14 : decode method_7_code 14 = .ok (.caload, 1) := by decide +kernel
theorem d14_15 : decode method_7_code 15 = .ok (.invokestatic 17, 3) := by decide +kernel
theorem d14_18 : decode method_7_code 18 = .ok (.ifCond .eq 18, 3) := by decide +kernel
theorem d14_21 : decode method_7_code 21 = .ok (.aload_n 0, 1) := by decide +kernel
theorem d14_22 : decode method_7_code 22 = .ok (.iload_n 1, 1) := by decide +kernel
theorem d14_23 : decode method_7_code 23 = .ok (.iconst 1, 1) := by decide +kernel
theorem d14_24 : decode method_7_code 24 = .ok (.iadd, 1) := by decide +kernel
theorem d14_25 : decode method_7_code 25 = .ok (.caload, 1) := by decide +kernel
theorem d14_26 : decode method_7_code 26 = .ok (.invokestatic 21, 3) := by decide +kernel
theorem d14_29 : decode method_7_code 29 = .ok (.ifCond .eq 7, 3) := by decide +kernel
theorem d14_32 : decode method_7_code 32 = .ok (.iconst 1, 1) := by decide +kernel
theorem d14_33 : decode method_7_code 33 = .ok (.goto 4, 3) := by decide +kernel
theorem d14_36 : decode method_7_code 36 = .ok (.iconst 0, 1) := by decide +kernel
theorem d14_37 : decode method_7_code 37 = .ok (.ireturn, 1) := by decide +kernel
theorem d19_0 : decode jdk_89_method_33_code 0 = .ok (.iload_n 1, 1) := by decide +kernel
theorem d19_1 : decode jdk_89_method_33_code 1 = .ok (.iload_n 2, 1) := by decide +kernel
theorem d19_2 : decode jdk_89_method_33_code 2 = .ok (.aload_n 0, 1) := by decide +kernel
theorem d19_3 : decode jdk_89_method_33_code 3 = .ok (.invokeinterface 92 1, 5) := by decide +kernel
theorem d19_8 : decode jdk_89_method_33_code 8 = .ok (.invokestatic 139, 3) := by decide +kernel
theorem d19_11 : decode jdk_89_method_33_code 11 = .ok (.pop, 1) := by decide +kernel
theorem d19_12 : decode jdk_89_method_33_code 12 = .ok (.iload_n 2, 1) := by decide +kernel
theorem d19_13 : decode jdk_89_method_33_code 13 = .ok (.iload_n 1, 1) := by decide +kernel
theorem d19_14 : decode jdk_89_method_33_code 14 = .ok (.isub, 1) := by decide +kernel
theorem d19_15 : decode jdk_89_method_33_code 15 = .ok (.istore_n 3, 1) := by decide +kernel
theorem d19_16 : decode jdk_89_method_33_code 16 = .ok (.iload_n 1, 1) := by decide +kernel
theorem d19_17 : decode jdk_89_method_33_code 17 = .ok (.istore 4, 2) := by decide +kernel
theorem d19_19 : decode jdk_89_method_33_code 19 = .ok (.iload 4, 2) := by decide +kernel
theorem d19_21 : decode jdk_89_method_33_code 21 = .ok (.iload_n 2, 1) := by decide +kernel
theorem d19_22 : decode jdk_89_method_33_code 22 = .ok (.if_icmp .ge 49, 3) := by decide +kernel
theorem d19_25 : decode jdk_89_method_33_code 25 = .ok (.aload_n 0, 1) := by decide +kernel
theorem d19_26 : decode jdk_89_method_33_code 26 = .ok (.iload 4, 2) := by decide +kernel
theorem d19_28 : decode jdk_89_method_33_code 28 = .ok (.iinc 4 1, 3) := by decide +kernel
theorem d19_31 : decode jdk_89_method_33_code 31 = .ok (.invokeinterface 86 2, 5) := by decide +kernel
theorem d19_36 : decode jdk_89_method_33_code 36 = .ok (.invokestatic 78, 3) := by decide +kernel
theorem d19_39 : decode jdk_89_method_33_code 39 = .ok (.ifCond .eq (-20), 3) := by decide +kernel
theorem d19_42 : decode jdk_89_method_33_code 42 = .ok (.iload 4, 2) := by decide +kernel
theorem d19_44 : decode jdk_89_method_33_code 44 = .ok (.iload_n 2, 1) := by decide +kernel
theorem d19_45 : decode jdk_89_method_33_code 45 = .ok (.if_icmp .ge (-26), 3) := by decide +kernel
theorem d19_48 : decode jdk_89_method_33_code 48 = .ok (.aload_n 0, 1) := by decide +kernel
theorem d19_49 : decode jdk_89_method_33_code 49 = .ok (.iload 4, 2) := by decide +kernel
theorem d19_51 : decode jdk_89_method_33_code 51 = .ok (.invokeinterface 86 2, 5) := by decide +kernel
theorem d19_56 : decode jdk_89_method_33_code 56 = .ok (.invokestatic 82, 3) := by decide +kernel
theorem d19_59 : decode jdk_89_method_33_code 59 = .ok (.ifCond .eq (-40), 3) := by decide +kernel
theorem d19_62 : decode jdk_89_method_33_code 62 = .ok (.iinc 3 (-1), 3) := by decide +kernel
theorem d19_65 : decode jdk_89_method_33_code 65 = .ok (.iinc 4 1, 3) := by decide +kernel
theorem d19_68 : decode jdk_89_method_33_code 68 = .ok (.goto (-49), 3) := by decide +kernel
theorem d19_71 : decode jdk_89_method_33_code 71 = .ok (.iload_n 3, 1) := by decide +kernel
theorem d19_72 : decode jdk_89_method_33_code 72 = .ok (.ireturn, 1) := by decide +kernel
theorem d35_0 : decode jdk_89_method_14_code 0 = .ok (.iload_n 0, 1) := by decide +kernel
theorem d35_1 : decode jdk_89_method_14_code 1 = .ok (.ldc 75, 2) := by decide +kernel
theorem d35_3 : decode jdk_89_method_14_code 3 = .ok (.if_icmp .lt 13, 3) := by decide +kernel
theorem d35_6 : decode jdk_89_method_14_code 6 = .ok (.iload_n 0, 1) := by decide +kernel
theorem d35_7 : decode jdk_89_method_14_code 7 = .ok (.ldc 76, 2) := by decide +kernel
theorem d35_9 : decode jdk_89_method_14_code 9 = .ok (.if_icmp .ge 7, 3) := by decide +kernel
theorem d35_12 : decode jdk_89_method_14_code 12 = .ok (.iconst 1, 1) := by decide +kernel
theorem d35_13 : decode jdk_89_method_14_code 13 = .ok (.goto 4, 3) := by decide +kernel
theorem d35_16 : decode jdk_89_method_14_code 16 = .ok (.iconst 0, 1) := by decide +kernel
theorem d35_17 : decode jdk_89_method_14_code 17 = .ok (.ireturn, 1) := by decide +kernel
theorem d38_0 : decode jdk_89_method_15_code 0 = .ok (.iload_n 0, 1) := by decide +kernel
theorem d38_1 : decode jdk_89_method_15_code 1 = .ok (.ldc 76, 2) := by decide +kernel
theorem d38_3 : decode jdk_89_method_15_code 3 = .ok (.if_icmp .lt 13, 3) := by decide +kernel
theorem d38_6 : decode jdk_89_method_15_code 6 = .ok (.iload_n 0, 1) := by decide +kernel
theorem d38_7 : decode jdk_89_method_15_code 7 = .ok (.ldc 77, 2) := by decide +kernel
theorem d38_9 : decode jdk_89_method_15_code 9 = .ok (.if_icmp .ge 7, 3) := by decide +kernel
theorem d38_12 : decode jdk_89_method_15_code 12 = .ok (.iconst 1, 1) := by decide +kernel
theorem d38_13 : decode jdk_89_method_15_code 13 = .ok (.goto 4, 3) := by decide +kernel
theorem d38_16 : decode jdk_89_method_15_code 16 = .ok (.iconst 0, 1) := by decide +kernel
theorem d38_17 : decode jdk_89_method_15_code 17 = .ok (.ireturn, 1) := by decide +kernel
theorem d23_0 : decode jdk_30_method_1_code 0 = .ok (.aload_n 0, 1) := by decide +kernel
theorem d23_1 : decode jdk_30_method_1_code 1 = .ok (.invokespecial 1, 3) := by decide +kernel
theorem d23_4 : decode jdk_30_method_1_code 4 = .ok (.return_, 1) := by decide +kernel
theorem d2_0 : decode jdk_42_method_3_code 0 = .ok (.aload_n 0, 1) := by decide +kernel
theorem d2_1 : decode jdk_42_method_3_code 1 = .ok (.aload_n 1, 1) := by decide +kernel
theorem d2_2 : decode jdk_42_method_3_code 2 = .ok (.iconst 0, 1) := by decide +kernel
theorem d2_3 : decode jdk_42_method_3_code 3 = .ok (.aload_n 1, 1) := by decide +kernel
theorem d2_4 : decode jdk_42_method_3_code 4 = .ok (.arraylength, 1) := by decide +kernel
theorem d2_5 : decode jdk_42_method_3_code 5 = .ok (.aconst_null, 1) := by decide +kernel
theorem d2_6 : decode jdk_42_method_3_code 6 = .ok (.invokespecial 27, 3) := by decide +kernel
theorem d2_9 : decode jdk_42_method_3_code 9 = .ok (.return_, 1) := by decide +kernel
theorem d3_0 : decode jdk_42_method_149_code 0 = .ok (.aload_n 0, 1) := by decide +kernel
theorem d3_1 : decode jdk_42_method_149_code 1 = .ok (.invokespecial 1, 3) := by decide +kernel
theorem d3_4 : decode jdk_42_method_149_code 4 = .ok (.iload_n 3, 1) := by decide +kernel
theorem d3_5 : decode jdk_42_method_149_code 5 = .ok (.ifCond .ne 22, 3) := by decide +kernel
theorem d3_27 : decode jdk_42_method_149_code 27 = .ok (.getstatic 38, 3) := by decide +kernel
theorem d3_30 : decode jdk_42_method_149_code 30 = .ok (.ifCond .eq 28, 3) := by decide +kernel
theorem d3_33 : decode jdk_42_method_149_code 33 = .ok (.aload_n 1, 1) := by decide +kernel
theorem d3_34 : decode jdk_42_method_149_code 34 = .ok (.iload_n 2, 1) := by decide +kernel
theorem d3_35 : decode jdk_42_method_149_code 35 = .ok (.iload_n 3, 1) := by decide +kernel
theorem d3_36 : decode jdk_42_method_149_code 36 = .ok (.invokestatic 177, 3) := by decide +kernel
theorem d3_39 : decode jdk_42_method_149_code 39 = .ok (.astore 5, 2) := by decide +kernel
theorem d3_41 : decode jdk_42_method_149_code 41 = .ok (.aload_n 0, 1) := by decide +kernel
theorem d3_42 : decode jdk_42_method_149_code 42 = .ok (.aload 5, 2) := by decide +kernel
theorem d3_44 : decode jdk_42_method_149_code 44 = .ok (.iload_n 3, 1) := by decide +kernel
theorem d3_45 : decode jdk_42_method_149_code 45 = .ok (.invokestatic 47, 3) := by decide +kernel
theorem d3_48 : decode jdk_42_method_149_code 48 = .ok (.putfield 15, 3) := by decide +kernel
theorem d3_51 : decode jdk_42_method_149_code 51 = .ok (.aload_n 0, 1) := by decide +kernel
theorem d3_52 : decode jdk_42_method_149_code 52 = .ok (.aload 5, 2) := by decide +kernel
theorem d3_54 : decode jdk_42_method_149_code 54 = .ok (.putfield 9, 3) := by decide +kernel
theorem d3_57 : decode jdk_42_method_149_code 57 = .ok (.return_, 1) := by decide +kernel
theorem d28_0 : decode jdk_42_method_56_code 0 = .ok (.aload_n 0, 1) := by decide +kernel
theorem d28_1 : decode jdk_42_method_56_code 1 = .ok (.invokevirtual 492, 3) := by decide +kernel
theorem d28_4 : decode jdk_42_method_56_code 4 = .ok (.ifCond .eq 12, 3) := by decide +kernel
theorem d28_7 : decode jdk_42_method_56_code 7 = .ok (.aload_n 0, 1) := by decide +kernel
theorem d28_8 : decode jdk_42_method_56_code 8 = .ok (.getfield 9, 3) := by decide +kernel
theorem d28_11 : decode jdk_42_method_56_code 11 = .ok (.iload_n 1, 1) := by decide +kernel
theorem d28_12 : decode jdk_42_method_56_code 12 = .ok (.invokestatic 495, 3) := by decide +kernel
theorem d28_15 : decode jdk_42_method_56_code 15 = .ok (.ireturn, 1) := by decide +kernel
theorem d28_16 : decode jdk_42_method_56_code 16 = .ok (.aload_n 0, 1) := by decide +kernel
theorem d28_17 : decode jdk_42_method_56_code 17 = .ok (.getfield 9, 3) := by decide +kernel
theorem d28_20 : decode jdk_42_method_56_code 20 = .ok (.iload_n 1, 1) := by decide +kernel
theorem d28_21 : decode jdk_42_method_56_code 21 = .ok (.invokestatic 498, 3) := by decide +kernel
theorem d28_24 : decode jdk_42_method_56_code 24 = .ok (.ireturn, 1) := by decide +kernel
theorem d33_0 : decode jdk_42_method_155_code 0 = .ok (.iload_n 0, 1) := by decide +kernel
theorem d33_1 : decode jdk_42_method_155_code 1 = .ok (.iload_n 1, 1) := by decide +kernel
theorem d33_2 : decode jdk_42_method_155_code 2 = .ok (.getstatic 1053, 3) := by decide +kernel
theorem d33_5 : decode jdk_42_method_155_code 5 = .ok (.invokestatic 1059, 3) := by decide +kernel
theorem d33_8 : decode jdk_42_method_155_code 8 = .ok (.pop, 1) := by decide +kernel
theorem d33_9 : decode jdk_42_method_155_code 9 = .ok (.return_, 1) := by decide +kernel
theorem d29_0 : decode jdk_42_method_154_code 0 = .ok (.getstatic 38, 3) := by decide +kernel
theorem d29_3 : decode jdk_42_method_154_code 3 = .ok (.ifCond .eq 14, 3) := by decide +kernel
theorem d29_6 : decode jdk_42_method_154_code 6 = .ok (.aload_n 0, 1) := by decide +kernel
theorem d29_7 : decode jdk_42_method_154_code 7 = .ok (.getfield 15, 3) := by decide +kernel
theorem d29_10 : decode jdk_42_method_154_code 10 = .ok (.ifCond .ne 7, 3) := by decide +kernel
theorem d29_13 : decode jdk_42_method_154_code 13 = .ok (.iconst 1, 1) := by decide +kernel
theorem d29_14 : decode jdk_42_method_154_code 14 = .ok (.goto 4, 3) := by decide +kernel
theorem d29_17 : decode jdk_42_method_154_code 17 = .ok (.iconst 0, 1) := by decide +kernel
theorem d29_18 : decode jdk_42_method_154_code 18 = .ok (.ireturn, 1) := by decide +kernel
theorem d36_0 : decode jdk_43_method_2_code 0 = .ok (.iload_n 1, 1) := by decide +kernel
theorem d36_1 : decode jdk_43_method_2_code 1 = .ok (.aload_n 0, 1) := by decide +kernel
theorem d36_2 : decode jdk_43_method_2_code 2 = .ok (.arraylength, 1) := by decide +kernel
theorem d36_3 : decode jdk_43_method_2_code 3 = .ok (.invokestatic 9, 3) := by decide +kernel
theorem d36_6 : decode jdk_43_method_2_code 6 = .ok (.aload_n 0, 1) := by decide +kernel
theorem d36_7 : decode jdk_43_method_2_code 7 = .ok (.iload_n 1, 1) := by decide +kernel
theorem d36_8 : decode jdk_43_method_2_code 8 = .ok (.baload, 1) := by decide +kernel
theorem d36_9 : decode jdk_43_method_2_code 9 = .ok (.sipush 255, 3) := by decide +kernel
theorem d36_12 : decode jdk_43_method_2_code 12 = .ok (.iand, 1) := by decide +kernel
theorem d36_13 : decode jdk_43_method_2_code 13 = .ok (.i2c, 1) := by decide +kernel
theorem d36_14 : decode jdk_43_method_2_code 14 = .ok (.ireturn, 1) := by decide +kernel
theorem d30_0 : decode jdk_52_method_83_code 0 = .ok (.iload_n 1, 1) := by decide +kernel
theorem d30_1 : decode jdk_52_method_83_code 1 = .ok (.aload_n 0, 1) := by decide +kernel
theorem d30_2 : decode jdk_52_method_83_code 2 = .ok (.invokestatic 67, 3) := by decide +kernel
theorem d30_5 : decode jdk_52_method_83_code 5 = .ok (.aload_n 0, 1) := by decide +kernel
theorem d30_6 : decode jdk_52_method_83_code 6 = .ok (.iload_n 1, 1) := by decide +kernel
theorem d30_7 : decode jdk_52_method_83_code 7 = .ok (.invokestatic 71, 3) := by decide +kernel
theorem d30_10 : decode jdk_52_method_83_code 10 = .ok (.ireturn, 1) := by decide +kernel
theorem d31_0 : decode jdk_52_method_91_code 0 = .ok (.iload_n 0, 1) := by decide +kernel
theorem d31_1 : decode jdk_52_method_91_code 1 = .ok (.aload_n 1, 1) := by decide +kernel
theorem d31_2 : decode jdk_52_method_91_code 2 = .ok (.invokestatic 48, 3) := by decide +kernel
theorem d31_5 : decode jdk_52_method_91_code 5 = .ok (.invokestatic 414, 3) := by decide +kernel
theorem d31_8 : decode jdk_52_method_91_code 8 = .ok (.return_, 1) := by decide +kernel
theorem d12_0 : decode jdk_52_method_15_code 0 = .ok (.iload_n 1, 1) := by decide +kernel
theorem d12_1 : decode jdk_52_method_15_code 1 = .ok (.aload_n 0, 1) := by decide +kernel
theorem d12_2 : decode jdk_52_method_15_code 2 = .ok (.arraylength, 1) := by decide +kernel
theorem d12_3 : decode jdk_52_method_15_code 3 = .ok (.isub, 1) := by decide +kernel
theorem d12_4 : decode jdk_52_method_15_code 4 = .ok (.bipush 31, 2) := by decide +kernel
theorem d12_6 : decode jdk_52_method_15_code 6 = .ok (.iushr, 1) := by decide +kernel
theorem d12_7 : decode jdk_52_method_15_code 7 = .ok (.i2b, 1) := by decide +kernel
theorem d12_8 : decode jdk_52_method_15_code 8 = .ok (.ireturn, 1) := by decide +kernel
theorem d5_0 : decode jdk_52_method_16_code 0 = .ok (.iload_n 2, 1) := by decide +kernel
theorem d5_1 : decode jdk_52_method_16_code 1 = .ok (.newarray .byte, 2) := by decide +kernel
theorem d5_3 : decode jdk_52_method_16_code 3 = .ok (.astore_n 3, 1) := by decide +kernel
theorem d5_4 : decode jdk_52_method_16_code 4 = .ok (.aload_n 0, 1) := by decide +kernel
theorem d5_5 : decode jdk_52_method_16_code 5 = .ok (.iload_n 1, 1) := by decide +kernel
theorem d5_6 : decode jdk_52_method_16_code 6 = .ok (.aload_n 3, 1) := by decide +kernel
theorem d5_7 : decode jdk_52_method_16_code 7 = .ok (.iconst 0, 1) := by decide +kernel
theorem d5_8 : decode jdk_52_method_16_code 8 = .ok (.iload_n 2, 1) := by decide +kernel
theorem d5_9 : decode jdk_52_method_16_code 9 = .ok (.invokestatic 115, 3) := by decide +kernel
theorem d5_12 : decode jdk_52_method_16_code 12 = .ok (.istore 4, 2) := by decide +kernel
theorem d5_14 : decode jdk_52_method_16_code 14 = .ok (.iload 4, 2) := by decide +kernel
theorem d5_16 : decode jdk_52_method_16_code 16 = .ok (.iload_n 2, 1) := by decide +kernel
theorem d5_17 : decode jdk_52_method_16_code 17 = .ok (.if_icmp .eq 40, 3) := by decide +kernel
theorem d5_20 : decode jdk_52_method_16_code 20 = .ok (.aload_n 0, 1) := by decide +kernel
theorem d5_21 : decode jdk_52_method_16_code 21 = .ok (.iload_n 1, 1) := by decide +kernel
theorem d5_22 : decode jdk_52_method_16_code 22 = .ok (.iload_n 2, 1) := by decide +kernel
theorem d5_23 : decode jdk_52_method_16_code 23 = .ok (.invokestatic 119, 3) := by decide +kernel
theorem d5_26 : decode jdk_52_method_16_code 26 = .ok (.astore 5, 2) := by decide +kernel
theorem d5_28 : decode jdk_52_method_16_code 28 = .ok (.aload 5, 2) := by decide +kernel
theorem d5_30 : decode jdk_52_method_16_code 30 = .ok (.iload 4, 2) := by decide +kernel
theorem d5_32 : decode jdk_52_method_16_code 32 = .ok (.invokestatic 71, 3) := by decide +kernel
theorem d5_35 : decode jdk_52_method_16_code 35 = .ok (.sipush 255, 3) := by decide +kernel
theorem d5_38 : decode jdk_52_method_16_code 38 = .ok (.if_icmp .gt 16, 3) := by decide +kernel
theorem d5_54 : decode jdk_52_method_16_code 54 = .ok (.aload 5, 2) := by decide +kernel
theorem d5_56 : decode jdk_52_method_16_code 56 = .ok (.areturn, 1) := by decide +kernel
theorem d5_57 : decode jdk_52_method_16_code 57 = .ok (.aload_n 3, 1) := by decide +kernel
theorem d5_58 : decode jdk_52_method_16_code 58 = .ok (.areturn, 1) := by decide +kernel
theorem d6_0 : decode jdk_52_method_21_code 0 = .ok (.iconst 0, 1) := by decide +kernel
theorem d6_1 : decode jdk_52_method_21_code 1 = .ok (.istore 5, 2) := by decide +kernel
theorem d6_3 : decode jdk_52_method_21_code 3 = .ok (.iload 5, 2) := by decide +kernel
theorem d6_5 : decode jdk_52_method_21_code 5 = .ok (.iload 4, 2) := by decide +kernel
theorem d6_7 : decode jdk_52_method_21_code 7 = .ok (.if_icmp .ge 37, 3) := by decide +kernel
theorem d6_10 : decode jdk_52_method_21_code 10 = .ok (.aload_n 0, 1) := by decide +kernel
theorem d6_11 : decode jdk_52_method_21_code 11 = .ok (.iload_n 1, 1) := by decide +kernel
theorem d6_12 : decode jdk_52_method_21_code 12 = .ok (.caload, 1) := by decide +kernel
theorem d6_13 : decode jdk_52_method_21_code 13 = .ok (.istore 6, 2) := by decide +kernel
theorem d6_15 : decode jdk_52_method_21_code 15 = .ok (.iload 6, 2) := by decide +kernel
theorem d6_17 : decode jdk_52_method_21_code 17 = .ok (.sipush 255, 3) := by decide +kernel
theorem d6_20 : decode jdk_52_method_21_code 20 = .ok (.if_icmp .le 6, 3) := by decide +kernel
theorem d6_23 : decode jdk_52_method_21_code 23 = .ok (.iload 5, 2) := by decide +kernel
theorem d6_25 : decode jdk_52_method_21_code 25 = .ok (.ireturn, 1) := by decide +kernel
theorem d6_26 : decode jdk_52_method_21_code 26 = .ok (.aload_n 2, 1) := by decide +kernel
theorem d6_27 : decode jdk_52_method_21_code 27 = .ok (.iload_n 3, 1) := by decide +kernel
theorem d6_28 : decode jdk_52_method_21_code 28 = .ok (.iload 6, 2) := by decide +kernel
theorem d6_30 : decode jdk_52_method_21_code 30 = .ok (.i2b, 1) := by decide +kernel
theorem d6_31 : decode jdk_52_method_21_code 31 = .ok (.bastore, 1) := by decide +kernel
theorem d6_32 : decode jdk_52_method_21_code 32 = .ok (.iinc 1 1, 3) := by decide +kernel
theorem d6_35 : decode jdk_52_method_21_code 35 = .ok (.iinc 3 1, 3) := by decide +kernel
theorem d6_38 : decode jdk_52_method_21_code 38 = .ok (.iinc 5 1, 3) := by decide +kernel
theorem d6_41 : decode jdk_52_method_21_code 41 = .ok (.goto (-38), 3) := by decide +kernel
theorem d6_44 : decode jdk_52_method_21_code 44 = .ok (.iload 4, 2) := by decide +kernel
theorem d6_46 : decode jdk_52_method_21_code 46 = .ok (.ireturn, 1) := by decide +kernel
theorem d11_0 : decode jdk_52_method_5_code 0 = .ok (.getstatic 44, 3) := by decide +kernel
theorem d11_3 : decode jdk_52_method_5_code 3 = .ok (.ifCond .ne 25, 3) := by decide +kernel
theorem d11_28 : decode jdk_52_method_5_code 28 = .ok (.iload_n 1, 1) := by decide +kernel
theorem d11_29 : decode jdk_52_method_5_code 29 = .ok (.iconst 1, 1) := by decide +kernel
theorem d11_30 : decode jdk_52_method_5_code 30 = .ok (.ishl, 1) := by decide +kernel
theorem d11_31 : decode jdk_52_method_5_code 31 = .ok (.istore_n 1, 1) := by decide +kernel
theorem d11_32 : decode jdk_52_method_5_code 32 = .ok (.aload_n 0, 1) := by decide +kernel
theorem d11_33 : decode jdk_52_method_5_code 33 = .ok (.iload_n 1, 1) := by decide +kernel
theorem d11_34 : decode jdk_52_method_5_code 34 = .ok (.iinc 1 1, 3) := by decide +kernel
theorem d11_37 : decode jdk_52_method_5_code 37 = .ok (.baload, 1) := by decide +kernel
theorem d11_38 : decode jdk_52_method_5_code 38 = .ok (.sipush 255, 3) := by decide +kernel
theorem d11_41 : decode jdk_52_method_5_code 41 = .ok (.iand, 1) := by decide +kernel
theorem d11_42 : decode jdk_52_method_5_code 42 = .ok (.getstatic 59, 3) := by decide +kernel
theorem d11_45 : decode jdk_52_method_5_code 45 = .ok (.ishl, 1) := by decide +kernel
theorem d11_46 : decode jdk_52_method_5_code 46 = .ok (.aload_n 0, 1) := by decide +kernel
theorem d11_47 : decode jdk_52_method_5_code 47 = .ok (.iload_n 1, 1) := by decide +kernel
theorem d11_48 : decode jdk_52_method_5_code 48 = .ok (.baload, 1) := by decide +kernel
theorem d11_49 : decode jdk_52_method_5_code 49 = .ok (.sipush 255, 3) := by decide +kernel
theorem d11_52 : decode jdk_52_method_5_code 52 = .ok (.iand, 1) := by decide +kernel
theorem d11_53 : decode jdk_52_method_5_code 53 = .ok (.getstatic 63, 3) := by decide +kernel
theorem d11_56 : decode jdk_52_method_5_code 56 = .ok (.ishl, 1) := by decide +kernel
theorem d11_57 : decode jdk_52_method_5_code 57 = .ok (.ior, 1) := by decide +kernel
theorem d11_58 : decode jdk_52_method_5_code 58 = .ok (.i2c, 1) := by decide +kernel
theorem d11_59 : decode jdk_52_method_5_code 59 = .ok (.ireturn, 1) := by decide +kernel
theorem d32_0 : decode jdk_52_method_6_code 0 = .ok (.aload_n 0, 1) := by decide +kernel
theorem d32_1 : decode jdk_52_method_6_code 1 = .ok (.arraylength, 1) := by decide +kernel
theorem d32_2 : decode jdk_52_method_6_code 2 = .ok (.iconst 1, 1) := by decide +kernel
theorem d32_3 : decode jdk_52_method_6_code 3 = .ok (.ishr, 1) := by decide +kernel
theorem d32_4 : decode jdk_52_method_6_code 4 = .ok (.ireturn, 1) := by decide +kernel
theorem d8_0 : decode jdk_52_method_2_code 0 = .ok (.iload_n 0, 1) := by decide +kernel
theorem d8_1 : decode jdk_52_method_2_code 1 = .ok (.invokestatic 11, 3) := by decide +kernel
theorem d8_4 : decode jdk_52_method_2_code 4 = .ok (.newarray .byte, 2) := by decide +kernel
theorem d8_6 : decode jdk_52_method_2_code 6 = .ok (.areturn, 1) := by decide +kernel
theorem d9_0 : decode jdk_52_method_3_code 0 = .ok (.iload_n 0, 1) := by decide +kernel
theorem d9_1 : decode jdk_52_method_3_code 1 = .ok (.ifCond .ge 11, 3) := by decide +kernel
theorem d9_12 : decode jdk_52_method_3_code 12 = .ok (.iload_n 0, 1) := by decide +kernel
theorem d9_13 : decode jdk_52_method_3_code 13 = .ok (.ldc 20, 2) := by decide +kernel
theorem d9_15 : decode jdk_52_method_3_code 15 = .ok (.if_icmp .lt 40, 3) := by decide +kernel
theorem d9_55 : decode jdk_52_method_3_code 55 = .ok (.iload_n 0, 1) := by decide +kernel
theorem d9_56 : decode jdk_52_method_3_code 56 = .ok (.iconst 1, 1) := by decide +kernel
theorem d9_57 : decode jdk_52_method_3_code 57 = .ok (.ishl, 1) := by decide +kernel
theorem d9_58 : decode jdk_52_method_3_code 58 = .ok (.ireturn, 1) := by decide +kernel
theorem d10_0 : decode jdk_52_method_4_code 0 = .ok (.getstatic 44, 3) := by decide +kernel
theorem d10_3 : decode jdk_52_method_4_code 3 = .ok (.ifCond .ne 25, 3) := by decide +kernel
theorem d10_28 : decode jdk_52_method_4_code 28 = .ok (.iload_n 1, 1) := by decide +kernel
theorem d10_29 : decode jdk_52_method_4_code 29 = .ok (.iconst 1, 1) := by decide +kernel
theorem d10_30 : decode jdk_52_method_4_code 30 = .ok (.ishl, 1) := by decide +kernel
theorem d10_31 : decode jdk_52_method_4_code 31 = .ok (.istore_n 1, 1) := by decide +kernel
theorem d10_32 : decode jdk_52_method_4_code 32 = .ok (.aload_n 0, 1) := by decide +kernel
theorem d10_33 : decode jdk_52_method_4_code 33 = .ok (.iload_n 1, 1) := by decide +kernel
theorem d10_34 : decode jdk_52_method_4_code 34 = .ok (.iinc 1 1, 3) := by decide +kernel
theorem d10_37 : decode jdk_52_method_4_code 37 = .ok (.iload_n 2, 1) := by decide +kernel
theorem d10_38 : decode jdk_52_method_4_code 38 = .ok (.getstatic 59, 3) := by decide +kernel
theorem d10_41 : decode jdk_52_method_4_code 41 = .ok (.ishr, 1) := by decide +kernel
theorem d10_42 : decode jdk_52_method_4_code 42 = .ok (.i2b, 1) := by decide +kernel
theorem d10_43 : decode jdk_52_method_4_code 43 = .ok (.bastore, 1) := by decide +kernel
theorem d10_44 : decode jdk_52_method_4_code 44 = .ok (.aload_n 0, 1) := by decide +kernel
theorem d10_45 : decode jdk_52_method_4_code 45 = .ok (.iload_n 1, 1) := by decide +kernel
theorem d10_46 : decode jdk_52_method_4_code 46 = .ok (.iload_n 2, 1) := by decide +kernel
theorem d10_47 : decode jdk_52_method_4_code 47 = .ok (.getstatic 63, 3) := by decide +kernel
theorem d10_50 : decode jdk_52_method_4_code 50 = .ok (.ishr, 1) := by decide +kernel
theorem d10_51 : decode jdk_52_method_4_code 51 = .ok (.i2b, 1) := by decide +kernel
theorem d10_52 : decode jdk_52_method_4_code 52 = .ok (.bastore, 1) := by decide +kernel
theorem d10_53 : decode jdk_52_method_4_code 53 = .ok (.return_, 1) := by decide +kernel
theorem d7_0 : decode jdk_52_method_14_code 0 = .ok (.iload_n 2, 1) := by decide +kernel
theorem d7_1 : decode jdk_52_method_14_code 1 = .ok (.invokestatic 107, 3) := by decide +kernel
theorem d7_4 : decode jdk_52_method_14_code 4 = .ok (.astore_n 3, 1) := by decide +kernel
theorem d7_5 : decode jdk_52_method_14_code 5 = .ok (.iconst 0, 1) := by decide +kernel
theorem d7_6 : decode jdk_52_method_14_code 6 = .ok (.istore 4, 2) := by decide +kernel
theorem d7_8 : decode jdk_52_method_14_code 8 = .ok (.iload 4, 2) := by decide +kernel
theorem d7_10 : decode jdk_52_method_14_code 10 = .ok (.iload_n 2, 1) := by decide +kernel
theorem d7_11 : decode jdk_52_method_14_code 11 = .ok (.if_icmp .ge 21, 3) := by decide +kernel
theorem d7_14 : decode jdk_52_method_14_code 14 = .ok (.aload_n 3, 1) := by decide +kernel
theorem d7_15 : decode jdk_52_method_14_code 15 = .ok (.iload 4, 2) := by decide +kernel
theorem d7_17 : decode jdk_52_method_14_code 17 = .ok (.aload_n 0, 1) := by decide +kernel
theorem d7_18 : decode jdk_52_method_14_code 18 = .ok (.iload_n 1, 1) := by decide +kernel
theorem d7_19 : decode jdk_52_method_14_code 19 = .ok (.caload, 1) := by decide +kernel
theorem d7_20 : decode jdk_52_method_14_code 20 = .ok (.invokestatic 111, 3) := by decide +kernel
theorem d7_23 : decode jdk_52_method_14_code 23 = .ok (.iinc 1 1, 3) := by decide +kernel
theorem d7_26 : decode jdk_52_method_14_code 26 = .ok (.iinc 4 1, 3) := by decide +kernel
theorem d7_29 : decode jdk_52_method_14_code 29 = .ok (.goto (-21), 3) := by decide +kernel
theorem d7_32 : decode jdk_52_method_14_code 32 = .ok (.aload_n 3, 1) := by decide +kernel
theorem d7_33 : decode jdk_52_method_14_code 33 = .ok (.areturn, 1) := by decide +kernel
theorem d20_0 : decode jdk_31_method_18_code 0 = .ok (.iload_n 0, 1) := by decide +kernel
theorem d20_1 : decode jdk_31_method_18_code 1 = .ok (.iload_n 1, 1) := by decide +kernel
theorem d20_2 : decode jdk_31_method_18_code 2 = .ok (.iload_n 2, 1) := by decide +kernel
theorem d20_3 : decode jdk_31_method_18_code 3 = .ok (.aconst_null, 1) := by decide +kernel
theorem d20_4 : decode jdk_31_method_18_code 4 = .ok (.invokestatic 111, 3) := by decide +kernel
theorem d20_7 : decode jdk_31_method_18_code 7 = .ok (.ireturn, 1) := by decide +kernel
theorem d16_0 : decode jdk_31_method_11_code 0 = .ok (.aload_n 0, 1) := by decide +kernel
theorem d16_1 : decode jdk_31_method_11_code 1 = .ok (.ifnonnull 12, 3) := by decide +kernel
theorem d16_13 : decode jdk_31_method_11_code 13 = .ok (.aload_n 0, 1) := by decide +kernel
theorem d16_14 : decode jdk_31_method_11_code 14 = .ok (.areturn, 1) := by decide +kernel
theorem d21_0 : decode jdk_41_method_12_code 0 = .ok (.iload_n 0, 1) := by decide +kernel
theorem d21_1 : decode jdk_41_method_12_code 1 = .ok (.ifCond .lt 13, 3) := by decide +kernel
theorem d21_4 : decode jdk_41_method_12_code 4 = .ok (.iload_n 0, 1) := by decide +kernel
theorem d21_5 : decode jdk_41_method_12_code 5 = .ok (.iload_n 1, 1) := by decide +kernel
theorem d21_6 : decode jdk_41_method_12_code 6 = .ok (.if_icmp .gt 8, 3) := by decide +kernel
theorem d21_9 : decode jdk_41_method_12_code 9 = .ok (.iload_n 1, 1) := by decide +kernel
theorem d21_10 : decode jdk_41_method_12_code 10 = .ok (.iload_n 2, 1) := by decide +kernel
theorem d21_11 : decode jdk_41_method_12_code 11 = .ok (.if_icmp .le 11, 3) := by decide +kernel
theorem d21_22 : decode jdk_41_method_12_code 22 = .ok (.iload_n 0, 1) := by decide +kernel
theorem d21_23 : decode jdk_41_method_12_code 23 = .ok (.ireturn, 1) := by decide +kernel
theorem d34_0 : decode jdk_41_method_11_code 0 = .ok (.iload_n 0, 1) := by decide +kernel
theorem d34_1 : decode jdk_41_method_11_code 1 = .ok (.ifCond .lt 8, 3) := by decide +kernel
theorem d34_4 : decode jdk_41_method_11_code 4 = .ok (.iload_n 0, 1) := by decide +kernel
theorem d34_5 : decode jdk_41_method_11_code 5 = .ok (.iload_n 1, 1) := by decide +kernel
theorem d34_6 : decode jdk_41_method_11_code 6 = .ok (.if_icmp .lt 10, 3) := by decide +kernel
theorem d34_16 : decode jdk_41_method_11_code 16 = .ok (.iload_n 0, 1) := by decide +kernel
theorem d34_17 : decode jdk_41_method_11_code 17 = .ok (.ireturn, 1) := by decide +kernel
def Base (Z : State) (z0 : Int32) (fm : Value) : Prop := Sta Z Z.heap "java/lang/String" "COMPACT_STRINGS" "Z" (.int z0) ∧ (¬ z0 = 0) ∧ Sta Z Z.heap "java/lang/StringUTF16" "$assertionsDisabled" "Z" (.int 1) ∧ Sta Z Z.heap "java/lang/StringUTF16" "HI_BYTE_SHIFT" "I" (.int 0) ∧ Sta Z Z.heap "java/lang/StringUTF16" "LO_BYTE_SHIFT" "I" (.int 8) ∧ Sta Z Z.heap "jdk/internal/util/Preconditions" "SIOOBE_FORMATTER" "Ljava/util/function/BiFunction;" fm ∧ fm.isRef = true
theorem Base.s0 {Z : State} {z0 : Int32} {fm : Value} (h : Base Z z0 fm) : Sta Z Z.heap "java/lang/String" "COMPACT_STRINGS" "Z" (.int z0) := h.1
theorem Base.hz {Z : State} {z0 : Int32} {fm : Value} (h : Base Z z0 fm) : ¬ z0 = 0 := h.2.1
theorem Base.s1 {Z : State} {z0 : Int32} {fm : Value} (h : Base Z z0 fm) : Sta Z Z.heap "java/lang/StringUTF16" "$assertionsDisabled" "Z" (.int 1) := h.2.2.1
theorem Base.s2 {Z : State} {z0 : Int32} {fm : Value} (h : Base Z z0 fm) : Sta Z Z.heap "java/lang/StringUTF16" "HI_BYTE_SHIFT" "I" (.int 0) := h.2.2.2.1
theorem Base.s3 {Z : State} {z0 : Int32} {fm : Value} (h : Base Z z0 fm) : Sta Z Z.heap "java/lang/StringUTF16" "LO_BYTE_SHIFT" "I" (.int 8) := h.2.2.2.2.1
theorem Base.s4 {Z : State} {z0 : Int32} {fm : Value} (h : Base Z z0 fm) : Sta Z Z.heap "jdk/internal/util/Preconditions" "SIOOBE_FORMATTER" "Ljava/util/function/BiFunction;" fm := h.2.2.2.2.2.1
theorem Base.rf {Z : State} {z0 : Int32} {fm : Value} (h : Base Z z0 fm) : fm.isRef = true := h.2.2.2.2.2.2
theorem getD_lo {cs : List Int32} {i : Nat} (hi : i < cs.length) : (cs.map fun c => Value.int (StrChars.lo8 c)).getD i (.int 0) = .int (StrChars.lo8 (cs.getD i 0)) := by
  simp [List.getD, List.getElem?_eq_getElem hi]
theorem getD_rng {cs : List Int32} {P : Int32 → Prop} (h : ∀ c ∈ cs, P c) {i : Nat} (hi : i < cs.length) : P (cs.getD i 0) := by
  have : cs.getD i 0 = cs[i] := by simp [List.getD, List.getElem?_eq_getElem hi]
  rw [this]; exact h _ (List.getElem_mem hi)
theorem cod_fit {cs : List Int32} {cd N2 : Int32} {vs : List Value} (h : StrChars.Road.CodA cs cd N2 vs) : narrow .byte (.int cd) = .int cd ∧ fits .byte (.int cd) = true := by
  rcases h with ⟨rfl, -⟩ | ⟨rfl, -⟩ <;> exact ⟨rfl, by decide⟩
def dF (v : Int32) : Int32 := if v &&& 3 = 0 then 10 else if v &&& 3 = 1 then 13 else if v &&& 3 = 2 then ((55296 : Int32) + (XT.ushr v 2 &&& 2047)).toUInt32.toUInt16.toUInt32.toInt32 else (XT.ushr v 16).toUInt32.toUInt16.toUInt32.toInt32
theorem dF_rng (v : Int32) : ¬ dF v < 0 ∧ ¬ (65535 : Int32) < dF v := by
  unfold dF
  split
  · decide
  split
  · decide
  split
  · exact i2c_rng _
  · exact i2c_rng _
theorem dF_nar (v : Int32) : nar .char (dF v) = dF v := nar_char_id (dF_rng v).1 (dF_rng v).2
def hiB (c : Int32) : Bool := decide (¬ c < 55296) && decide (c < 56320)
def loB (c : Int32) : Bool := decide (¬ c < 56320) && decide (c < 57344)
def brkB (cs : List Int32) (i : Nat) : Bool := decide (cs.getD i 0 = 10) || (decide (cs.getD i 0 = 13) && !(decide (i + 1 < cs.length) && decide (cs.getD (i + 1) 0 = 10)))
def prB (cs : List Int32) (i : Nat) : Bool := hiB (cs.getD i 0) && loB (cs.getD (i + 1) 0)
theorem hi_lo {c : Int32} (h : hiB c = true) (h' : loB c = true) : False := by
  simp only [hiB, loB, Bool.and_eq_true, decide_eq_true_eq] at h h'
  exact h'.1 h.2
theorem pr_pr (cs : List Int32) (i : Nat) : ¬ (prB cs i = true ∧ prB cs (i + 1) = true) := by
  intro ⟨h, h'⟩
  simp only [prB, Bool.and_eq_true] at h h'
  exact hi_lo h'.1 h.2
def lineN (e : Nat → Bool) : Nat → Nat
  | 0 => 1
  | i + 1 => if e i then lineN e i + 1 else lineN e i
def startN (e : Nat → Bool) : Nat → Nat
  | 0 => 0
  | i + 1 => if e i then i + 1 else startN e i
def prN (P : Nat → Bool) (k : Nat) : Nat → Nat → Nat
  | 0, _ => 0
  | d + 1, i => if i < k then (if i + 1 < k then (if P i then prN P k d (i + 2) + 1 else prN P k d (i + 1)) else prN P k d (i + 1)) else 0
theorem startN_le (e : Nat → Bool) : ∀ k, startN e k ≤ k
  | 0 => Nat.le_refl _
  | k + 1 => by have := startN_le e k; simp only [startN]; split <;> omega
theorem lineN_ge (e : Nat → Bool) : ∀ k, 1 ≤ lineN e k ∧ lineN e k ≤ k + 1
  | 0 => ⟨Nat.le_refl _, Nat.le_refl _⟩
  | k + 1 => by have := lineN_ge e k; simp only [lineN]; split <;> omega
theorem prN_le (P : Nat → Bool) (k : Nat) : ∀ d i, prN P k d i ≤ k - i
  | 0, i => by simp [prN]
  | d + 1, i => by
    have h1 := prN_le P k d (i + 1); have h2 := prN_le P k d (i + 2)
    simp only [prN]; split
    · split
      · split <;> omega
      · omega
    · omega
def colN (e P : Nat → Bool) (k : Nat) : Nat := k - startN e k - prN P k (k - startN e k) (startN e k) + 1
theorem lineN_congr {e e' : Nat → Bool} : ∀ k, (∀ i, i < k → e i = e' i) → lineN e k = lineN e' k
  | 0, _ => rfl
  | k + 1, h => by simp only [lineN]; rw [h k (by omega), lineN_congr k fun i hi => h i (by omega)]
theorem startN_congr {e e' : Nat → Bool} : ∀ k, (∀ i, i < k → e i = e' i) → startN e k = startN e' k
  | 0, _ => rfl
  | k + 1, h => by simp only [startN]; rw [h k (by omega), startN_congr k fun i hi => h i (by omega)]
theorem prN_congr {P P' : Nat → Bool} {k : Nat} (h : ∀ i, i + 1 < k → P i = P' i) : ∀ d i, prN P k d i = prN P' k d i
  | 0, _ => rfl
  | d + 1, i => by
    simp only [prN]; rw [prN_congr h d (i + 1), prN_congr h d (i + 2)]
    by_cases q : i + 1 < k
    · rw [h i q]
    · simp [q]
def bI (e : Nat → Bool) (k : Nat) (i : Nat) : Int32 := b2i (decide (Int32.ofNat i < Int32.ofNat k) && e i)
def stI (b0 b1 b2 b3 : Int32) : Int32 := if b3 = 1 then 4 else if b2 = 1 then 3 else if b1 = 1 then 2 else if b0 = 1 then 1 else 0
def pI (P : Nat → Bool) (k : Nat) (s : Int32) (j : Nat) : Int32 := b2i (decide (¬ Int32.ofNat j < s) && (decide (Int32.ofNat (j + 1) < Int32.ofNat k) && P j))
def good (e P : Nat → Bool) (k : Nat) : Bool :=
  let s := stI (bI e k 0) (bI e k 1) (bI e k 2) (bI e k 3)
  decide (Int32.ofNat (lineN e k) = 1 + bI e k 0 + bI e k 1 + bI e k 2 + bI e k 3) && decide (Int32.ofNat (colN e P k) = 1 + (Int32.ofNat k - s) - pI P k s 0 - pI P k s 1 - pI P k s 2)
def tab (a b c d : Bool) : Nat → Bool
  | 0 => a
  | 1 => b
  | 2 => c
  | _ => d
theorem good_all : ∀ e0 e1 e2 e3 p0 p1 p2 : Bool, ∀ k : Fin 5, !(p0 && p1) && !(p1 && p2) → good (tab e0 e1 e2 e3) (tab p0 p1 p2 false) k.val = true := by decide +kernel
theorem tab_eq (e : Nat → Bool) {i : Nat} (hi : i < 4) : e i = tab (e 0) (e 1) (e 2) (e 3) i := by
  match i, hi with
  | 0, _ => rfl
  | 1, _ => rfl
  | 2, _ => rfl
  | 3, _ => rfl
theorem tab_eq3 (e : Nat → Bool) {i : Nat} (hi : i < 3) : e i = tab (e 0) (e 1) (e 2) false i := by
  match i, hi with
  | 0, _ => rfl
  | 1, _ => rfl
  | 2, _ => rfl
theorem plain (e P : Nat → Bool) (hP : ∀ i, ¬ (P i = true ∧ P (i + 1) = true)) (k : Nat) (hk : k ≤ 4) :
    Int32.ofNat (lineN e k) = 1 + bI e k 0 + bI e k 1 + bI e k 2 + bI e k 3 ∧ Int32.ofNat (colN e P k) = 1 + (Int32.ofNat k - stI (bI e k 0) (bI e k 1) (bI e k 2) (bI e k 3)) - pI P k (stI (bI e k 0) (bI e k 1) (bI e k 2) (bI e k 3)) 0 - pI P k (stI (bI e k 0) (bI e k 1) (bI e k 2) (bI e k 3)) 1 - pI P k (stI (bI e k 0) (bI e k 1) (bI e k 2) (bI e k 3)) 2 := by
  have h := good_all (e 0) (e 1) (e 2) (e 3) (P 0) (P 1) (P 2) ⟨k, by omega⟩ (by
    have h0 : ¬ (P 0 = true ∧ P 1 = true) := hP 0
    have h1 : ¬ (P 1 = true ∧ P 2 = true) := hP 1
    clear hP
    revert h0 h1
    cases P 0 <;> cases P 1 <;> cases P 2 <;> simp)
  have q1 : lineN (tab (e 0) (e 1) (e 2) (e 3)) k = lineN e k := lineN_congr k fun i hi => (tab_eq e (by omega)).symm
  have q2 : startN (tab (e 0) (e 1) (e 2) (e 3)) k = startN e k := startN_congr k fun i hi => (tab_eq e (by omega)).symm
  have q3 : ∀ d i, prN (tab (P 0) (P 1) (P 2) false) k d i = prN P k d i := prN_congr fun i hi => (tab_eq3 P (by omega)).symm
  simp only [good, Bool.and_eq_true, decide_eq_true_eq, colN, q1, q2, q3] at h
  exact h
theorem idx_k (x : Int32) : ∃ k : Nat, k ≤ 4 ∧ (x &&& 2147483647) % 5 = Int32.ofNat k := by
  have h := c_and x 2147483647 (by decide)
  have a5 : (5 : Int32).toInt = 5 := by decide
  have a6 : (2147483647 : Int32).toInt = 2147483647 := by decide
  have e : ((x &&& 2147483647) % 5).toInt = (x &&& 2147483647).toInt % 5 := by
    rw [Int32.toInt_mod, a5, Int.tmod_eq_emod_of_nonneg (by omega)]
  refine ⟨((x &&& 2147483647) % 5).toInt.toNat, by omega, ?_⟩
  apply Int32.toInt_inj.mp
  rw [oN_int (by omega)]
  omega
set_option maxRecDepth 65536 in
set_option maxHeartbeats 40000000 in
theorem c_len16 (l : Launch) (Z : State) (a0 : Array Value) (hw : ∀ d ∈ tables_1, d.before a0 Z = true) (a1 : Nat) (k1 : ClassId) (z1 : Int32) (vs1 : List Value) (h0 : Heap) (A1 : Arv Z h0 a1 k1 .byte z1 vs1 (.int 0)) :
    Con l (⟨"java/lang/StringUTF16", "length", "([B)I"⟩ : MethodName) jdk_52_method_6_code 1 (some .int) [] ({ frames := 0, cells := 0, slots := 0, locals := 0 } : Room) Z #[(.ref a1)] h0 [] (fun _ => True) (fun v h _ => v = some (.int (z1 >>> ((1 : Int32) &&& 31))) ∧ h = h0) false := by
  refine Con.intro pn_0 ?_
  intro p e s m below meth c K hV hsh
  have ef : entryFrame m #[(.ref a1)] 1 = (mkF m 0 #[.val (.ref a1)] []) := (by first | (simp [entryFrame, mkF, argsToLocals, cat_ref, cat_int, cat_long, cat_null]; done) | rfl)
  rw [ef]
  refine GoKit.aloadN (pc := 0) K d32_0 rfl rfl ?_
  refine GoKit.arrlen (pc := 1) K A1 d32_1 ?_
  refine GoKit.iconst (pc := 2) (x := (1 : Int32)) K d32_2 rfl ?_
  refine GoKit.ishr (pc := 3) K d32_3 ?_
  exact GoKit.retI (pc := 4) K d32_4 (by simp) (by decide) (by decide) (fun _ _ => ⟨rfl, rfl⟩)
set_option maxRecDepth 65536 in
set_option maxHeartbeats 40000000 in
theorem c_pchk (l : Launch) (Z : State) (a0 : Array Value) (hw : ∀ d ∈ tables_1, d.before a0 Z = true) (p1 p2 : Int32) (fm : Value) (rf : fm.isRef = true) (h0 : Heap) (h1 : ¬ p1 < 0) (h2 : p1 < p2) :
    Con l (⟨"jdk/internal/util/Preconditions", "checkIndex", "(IILjava/util/function/BiFunction;)I"⟩ : MethodName) jdk_41_method_11_code 3 (some .int) [] ({ frames := 0, cells := 0, slots := 0, locals := 0 } : Room) Z #[(.int p1), (.int p2), fm] h0 [] (fun _ => True) (fun v h _ => v = some (.int p1) ∧ h = h0) false := by
  refine Con.intro pn_1 ?_
  intro p e s m below meth c K hV hsh
  have ef : entryFrame m #[(.int p1), (.int p2), fm] 3 = (mkF m 0 #[.val (.int p1), .val (.int p2), .val fm] []) := (by first | (simp [entryFrame, mkF, argsToLocals, cat_ref, cat_int, cat_long, cat_null, (cat_isRef rf)]; done) | rfl)
  rw [ef]
  refine GoKit.iloadN (pc := 0) K d34_0 rfl ?_
  refine GoKit.if_lt_n (pc := 1) K d34_1  h1 ?_
  refine GoKit.iloadN (pc := 4) K d34_4 rfl ?_
  refine GoKit.iloadN (pc := 5) K d34_5 rfl ?_
  refine GoKit.icmp_lt_y (pc := 6) (pc' := 16) K d34_6 (by decide)  h2 ?_
  refine GoKit.iloadN (pc := 16) K d34_16 rfl ?_
  exact GoKit.retI (pc := 17) K d34_17 (by simp) (by decide) (by decide) (fun _ _ => ⟨rfl, rfl⟩)
set_option maxRecDepth 65536 in
set_option maxHeartbeats 40000000 in
theorem c_schk (l : Launch) (Z : State) (a0 : Array Value) (hw : ∀ d ∈ tables_1, d.before a0 Z = true) (p1 p2 : Int32) (h0 : Heap) (n0 : Nat) (O0 : Old Z n0 h0) (z0 : Int32) (fm : Value) (B0 : Base Z z0 fm) (h1 : ¬ p1 < 0) (h2 : p1 < p2) :
    Con l (⟨"java/lang/String", "checkIndex", "(II)V"⟩ : MethodName) jdk_42_method_155_code 2 none [] ({ frames := 1, cells := 0, slots := 0, locals := 14 } : Room) Z #[(.int p1), (.int p2)] h0 [] (fun _ => True) (fun v h _ => v = none ∧ h = h0) false := by
  refine Con.intro pn_2 ?_
  intro p e s m below meth c K hV hsh
  have ef : entryFrame m #[(.int p1), (.int p2)] 2 = (mkF m 0 #[.val (.int p1), .val (.int p2)] []) := (by first | (simp [entryFrame, mkF, argsToLocals, cat_ref, cat_int, cat_long, cat_null]; done) | rfl)
  rw [ef]
  have hn0 : n0 ≤ h0.size := by rw [← O0.1]; exact O0.2.1
  refine GoKit.iloadN (pc := 0) K d33_0 rfl ?_
  refine GoKit.iloadN (pc := 1) K d33_1 rfl ?_
  refine GoKit.getS (pc := 2) (a0 := a0) K (hw _ (List.mem_of_getElem? (i := 153) rfl)) Via.refl (B0.s4.ext O0.2) d33_2 ?_
  refine GoKit.callS (pc := 5) (a0 := a0) (argsL := [(.int p1), (.int p2), fm]) (rest := []) K (hw _ (List.mem_of_getElem? (i := 154) rfl)) (hw _ (List.mem_of_getElem? (i := 155) rfl)) (hw _ (List.mem_of_getElem? (i := 98) rfl)) (hw _ (List.mem_of_getElem? (i := 156) rfl)) (by decide) (fun hZ => Con.bk (a0 := a0) (c_pchk l Z a0 hw p1 p2 fm B0.rf h0 h1 h2) hZ (hw _ (List.mem_of_getElem? (i := 156) rfl)) (hw _ (List.mem_of_getElem? (i := 98) rfl)) (by decide) (Nat.le_of_ble_eq_true rfl)) rfl rfl (lenOf pd_0 rfl) rfl d33_5 (by decide) (by decide) (fun _ _ _ q => ⟨Fw.sub q.2.1 (by omega) (fun x hx => nomatch hx), q.2.2.1⟩) ?_
  intro v101 h102 L104 q103
  obtain ⟨⟨vm105, rfl, e106⟩, -, -⟩ := q103
  replace e106 := e106.symm; subst e106
  show Go _ _ _ _ _ _ _ _ _ _ _ _ _ _ _ _ _ _ _ _ _ (mkF m 8 #[.val (.int p1), .val (.int p2)] [(.int p1)])
  refine GoKit.pop (pc := 8) K d33_8 rfl ?_
  exact GoKit.retV (pc := 9) K d33_9 (by simp) (by decide) (by decide) (fun _ _ => ⟨rfl, rfl⟩)
set_option maxRecDepth 65536 in
set_option maxHeartbeats 40000000 in
theorem c_uchk (l : Launch) (Z : State) (a0 : Array Value) (hw : ∀ d ∈ tables_1, d.before a0 Z = true) (p1 : Int32) (a1 : Nat) (k1 : ClassId) (z1 : Int32) (vs1 : List Value) (h0 : Heap) (n0 : Nat) (O0 : Old Z n0 h0) (z0 : Int32) (fm : Value) (B0 : Base Z z0 fm) (A1 : Arv Z h0 a1 k1 .byte z1 vs1 (.int 0)) (h1 : ¬ p1 < 0) (h2 : p1 < (z1 >>> ((1 : Int32) &&& 31))) :
    Con l (⟨"java/lang/StringUTF16", "checkIndex", "(I[B)V"⟩ : MethodName) jdk_52_method_91_code 2 none [] ({ frames := 2, cells := 0, slots := 0, locals := 27 } : Room) Z #[(.int p1), (.ref a1)] h0 [] (fun _ => True) (fun v h _ => v = none ∧ h = h0) false := by
  refine Con.intro pn_0 ?_
  intro p e s m below meth c K hV hsh
  have ef : entryFrame m #[(.int p1), (.ref a1)] 2 = (mkF m 0 #[.val (.int p1), .val (.ref a1)] []) := (by first | (simp [entryFrame, mkF, argsToLocals, cat_ref, cat_int, cat_long, cat_null]; done) | rfl)
  rw [ef]
  have hn0 : n0 ≤ h0.size := by rw [← O0.1]; exact O0.2.1
  refine GoKit.iloadN (pc := 0) K d31_0 rfl ?_
  refine GoKit.aloadN (pc := 1) K d31_1 rfl rfl ?_
  refine GoKit.callS (pc := 2) (a0 := a0) (argsL := [(.ref a1)]) (rest := [(.int p1)]) K (hw _ (List.mem_of_getElem? (i := 147) rfl)) (hw _ (List.mem_of_getElem? (i := 148) rfl)) (hw _ (List.mem_of_getElem? (i := 23) rfl)) (hw _ (List.mem_of_getElem? (i := 149) rfl)) (by decide) (fun hZ => Con.bk (a0 := a0) (c_len16 l Z a0 hw a1 k1 z1 vs1 h0 A1) hZ (hw _ (List.mem_of_getElem? (i := 149) rfl)) (hw _ (List.mem_of_getElem? (i := 23) rfl)) (by decide) (Nat.le_of_ble_eq_true rfl)) rfl rfl (lenOf pd_1 rfl) rfl d31_2 (by decide) (by decide) (fun _ _ _ q => ⟨Fw.sub q.2.1 (by omega) (fun x hx => nomatch hx), q.2.2.1⟩) ?_
  intro v101 h102 L104 q103
  obtain ⟨⟨vm105, rfl, e106⟩, -, -⟩ := q103
  replace e106 := e106.symm; subst e106
  show Go _ _ _ _ _ _ _ _ _ _ _ _ _ _ _ _ _ _ _ _ _ (mkF m 5 #[.val (.int p1), .val (.ref a1)] [(.int (z1 >>> ((1 : Int32) &&& 31))), (.int p1)])
  refine GoKit.callS (pc := 5) (a0 := a0) (argsL := [(.int p1), (.int (z1 >>> ((1 : Int32) &&& 31)))]) (rest := []) K (hw _ (List.mem_of_getElem? (i := 150) rfl)) (hw _ (List.mem_of_getElem? (i := 151) rfl)) (hw _ (List.mem_of_getElem? (i := 9) rfl)) (hw _ (List.mem_of_getElem? (i := 152) rfl)) (by decide) (fun hZ => Con.bk (a0 := a0) (c_schk l Z a0 hw p1 (z1 >>> ((1 : Int32) &&& 31)) h0 n0 O0 z0 fm B0 h1 h2) hZ (hw _ (List.mem_of_getElem? (i := 152) rfl)) (hw _ (List.mem_of_getElem? (i := 9) rfl)) (by decide) (Nat.le_of_ble_eq_true rfl)) rfl rfl (lenOf pd_2 rfl) rfl d31_5 (by decide) (by decide) (fun _ _ _ q => ⟨Fw.sub q.2.1 (by omega) (fun x hx => nomatch hx), q.2.2.1⟩) ?_
  intro v107 h108 L110 q109
  obtain ⟨⟨vm111, rfl, e112⟩, -, -⟩ := q109
  replace e112 := e112.symm; subst e112
  show Go _ _ _ _ _ _ _ _ _ _ _ _ _ _ _ _ _ _ _ _ _ (mkF m 8 #[.val (.int p1), .val (.ref a1)] [])
  exact GoKit.retV (pc := 8) K d31_8 (by simp) (by decide) (by decide) (fun _ _ => ⟨rfl, rfl⟩)
set_option maxRecDepth 65536 in
set_option maxHeartbeats 40000000 in
theorem c_getC (l : Launch) (Z : State) (a0 : Array Value) (hw : ∀ d ∈ tables_1, d.before a0 Z = true) (a1 : Nat) (i n : Nat) (k1 : ClassId) (vs1 : List Value) (u1 u2 : Int32) (h0 : Heap) (n0 : Nat) (O0 : Old Z n0 h0) (z0 : Int32) (fm : Value) (B0 : Base Z z0 fm) (A1 : Arv Z h0 a1 k1 .byte (Int32.ofNat (2 * n)) vs1 (.int 0)) (hi : i < n) (hn : n ≤ 4000) (hu1 : vs1.getD (2 * i) (.int 0) = .int u1) (hu2 : vs1.getD (2 * i + 1) (.int 0) = .int u2) :
    Con l (⟨"java/lang/StringUTF16", "getChar", "([BI)C"⟩ : MethodName) jdk_52_method_5_code 2 (some .char) [] ({ frames := 0, cells := 0, slots := 0, locals := 0 } : Room) Z #[(.ref a1), (.int (Int32.ofNat i))] h0 [] (fun _ => True) (fun v h _ => v = some (.int (StrChars.pairCh u1 u2)) ∧ h = h0) false := by
  refine Con.intro pn_0 ?_
  intro p e s m below meth c K hV hsh
  have ef : entryFrame m #[(.ref a1), (.int (Int32.ofNat i))] 2 = (mkF m 0 #[.val (.ref a1), .val (.int (Int32.ofNat i))] []) := (by first | (simp [entryFrame, mkF, argsToLocals, cat_ref, cat_int, cat_long, cat_null]; done) | rfl)
  rw [ef]
  have hn0 : n0 ≤ h0.size := by rw [← O0.1]; exact O0.2.1
  refine GoKit.getS (pc := 0) (a0 := a0) K (hw _ (List.mem_of_getElem? (i := 42) rfl)) Via.refl (B0.s1.ext O0.2) d11_0 ?_
  refine GoKit.if_ne_y (pc := 3) (pc' := 28) K d11_3 (by decide)  (by decide) ?_
  refine GoKit.iloadN (pc := 28) K d11_28 rfl ?_
  refine GoKit.iconst (pc := 29) (x := (1 : Int32)) K d11_29 rfl ?_
  refine GoKit.ishl (pc := 30) K d11_30 ?_
  rw [oN_shl]
  show Go _ _ _ _ _ _ _ _ _ _ _ _ _ _ _ _ _ _ _ _ _ (mkF m 31 #[.val (.ref a1), .val (.int (Int32.ofNat i))] [(.int (Int32.ofNat (2 * i)))])
  refine GoKit.istoreN (pc := 31) (l' := #[.val (.ref a1), .val (.int (Int32.ofNat (2 * i)))]) K d11_31 rfl ?_
  refine GoKit.aloadN (pc := 32) K d11_32 rfl rfl ?_
  refine GoKit.iloadN (pc := 33) K d11_33 rfl ?_
  refine GoKit.iinc (pc := 34) (y := (Int32.ofNat (2 * i + 1))) (l' := #[.val (.ref a1), .val (.int (Int32.ofNat (2 * i + 1)))]) K d11_34 rfl (oN_succ _) rfl ?_
  refine GoKit.baload (pc := 37) (v := .int u1) K A1 ⟨oN_nn (by omega), (oN_lt (by omega) (by omega)).mpr (by omega)⟩ (by rw [oN_clamp (by omega)]; exact hu1) d11_37 ?_
  refine GoKit.sipush (pc := 38) (x := (255 : Int32)) K d11_38 rfl ?_
  refine GoKit.iand (pc := 41) K d11_41 ?_
  refine GoKit.getS (pc := 42) (a0 := a0) K (hw _ (List.mem_of_getElem? (i := 43) rfl)) Via.refl (B0.s2.ext O0.2) d11_42 ?_
  refine GoKit.ishl (pc := 45) K d11_45 ?_
  refine GoKit.aloadN (pc := 46) K d11_46 rfl rfl ?_
  refine GoKit.iloadN (pc := 47) K d11_47 rfl ?_
  refine GoKit.baload (pc := 48) (v := .int u2) K A1 ⟨oN_nn (by omega), (oN_lt (by omega) (by omega)).mpr (by omega)⟩ (by rw [oN_clamp (by omega)]; exact hu2) d11_48 ?_
  refine GoKit.sipush (pc := 49) (x := (255 : Int32)) K d11_49 rfl ?_
  refine GoKit.iand (pc := 52) K d11_52 ?_
  refine GoKit.getS (pc := 53) (a0 := a0) K (hw _ (List.mem_of_getElem? (i := 44) rfl)) Via.refl (B0.s3.ext O0.2) d11_53 ?_
  refine GoKit.ishl (pc := 56) K d11_56 ?_
  refine GoKit.ior (pc := 57) K d11_57 ?_
  refine GoKit.i2c (pc := 58) K d11_58 ?_
  exact GoKit.retZ (pc := 59) K (by simp) (z' := StrChars.pairCh u1 u2) (nar_i2c _) d11_59 (by simp) (by decide) (by decide) (fun _ _ => ⟨rfl, rfl⟩)
set_option maxRecDepth 65536 in
set_option maxHeartbeats 40000000 in
theorem c_ucha (l : Launch) (Z : State) (a0 : Array Value) (hw : ∀ d ∈ tables_1, d.before a0 Z = true) (a1 : Nat) (i n : Nat) (k1 : ClassId) (vs1 : List Value) (u1 u2 : Int32) (h0 : Heap) (n0 : Nat) (O0 : Old Z n0 h0) (z0 : Int32) (fm : Value) (B0 : Base Z z0 fm) (A1 : Arv Z h0 a1 k1 .byte (Int32.ofNat (2 * n)) vs1 (.int 0)) (hi : i < n) (hn : n ≤ 4000) (hu1 : vs1.getD (2 * i) (.int 0) = .int u1) (hu2 : vs1.getD (2 * i + 1) (.int 0) = .int u2) :
    Con l (⟨"java/lang/StringUTF16", "charAt", "([BI)C"⟩ : MethodName) jdk_52_method_83_code 2 (some .char) [] ({ frames := 3, cells := 0, slots := 0, locals := 40 } : Room) Z #[(.ref a1), (.int (Int32.ofNat i))] h0 [] (fun _ => True) (fun v h _ => v = some (.int (StrChars.pairCh u1 u2)) ∧ h = h0) false := by
  refine Con.intro pn_0 ?_
  intro p e s m below meth c K hV hsh
  have ef : entryFrame m #[(.ref a1), (.int (Int32.ofNat i))] 2 = (mkF m 0 #[.val (.ref a1), .val (.int (Int32.ofNat i))] []) := (by first | (simp [entryFrame, mkF, argsToLocals, cat_ref, cat_int, cat_long, cat_null]; done) | rfl)
  rw [ef]
  have hn0 : n0 ≤ h0.size := by rw [← O0.1]; exact O0.2.1
  refine GoKit.iloadN (pc := 0) K d30_0 rfl ?_
  refine GoKit.aloadN (pc := 1) K d30_1 rfl rfl ?_
  refine GoKit.callS (pc := 2) (a0 := a0) (argsL := [(.int (Int32.ofNat i)), (.ref a1)]) (rest := []) K (hw _ (List.mem_of_getElem? (i := 144) rfl)) (hw _ (List.mem_of_getElem? (i := 145) rfl)) (hw _ (List.mem_of_getElem? (i := 23) rfl)) (hw _ (List.mem_of_getElem? (i := 146) rfl)) (by decide) (fun hZ => Con.bk (a0 := a0) (c_uchk l Z a0 hw (Int32.ofNat i) a1 k1 (Int32.ofNat (2 * n)) vs1 h0 n0 O0 z0 fm B0 A1 (oN_nn (by omega)) (by rw [StrChars.shr1 (by omega)]; exact (oN_lt (by omega) (by omega)).mpr hi)) hZ (hw _ (List.mem_of_getElem? (i := 146) rfl)) (hw _ (List.mem_of_getElem? (i := 23) rfl)) (by decide) (Nat.le_of_ble_eq_true rfl)) rfl rfl (lenOf pd_3 rfl) rfl d30_2 (by decide) (by decide) (fun _ _ _ q => ⟨Fw.sub q.2.1 (by omega) (fun x hx => nomatch hx), q.2.2.1⟩) ?_
  intro v101 h102 L104 q103
  obtain ⟨⟨vm105, rfl, e106⟩, -, -⟩ := q103
  replace e106 := e106.symm; subst e106
  show Go _ _ _ _ _ _ _ _ _ _ _ _ _ _ _ _ _ _ _ _ _ (mkF m 5 #[.val (.ref a1), .val (.int (Int32.ofNat i))] [])
  refine GoKit.aloadN (pc := 5) K d30_5 rfl rfl ?_
  refine GoKit.iloadN (pc := 6) K d30_6 rfl ?_
  refine GoKit.callS (pc := 7) (a0 := a0) (argsL := [(.ref a1), (.int (Int32.ofNat i))]) (rest := []) K (hw _ (List.mem_of_getElem? (i := 45) rfl)) (hw _ (List.mem_of_getElem? (i := 46) rfl)) (hw _ (List.mem_of_getElem? (i := 23) rfl)) (hw _ (List.mem_of_getElem? (i := 47) rfl)) (by decide) (fun hZ => Con.bk (a0 := a0) (c_getC l Z a0 hw a1 i n k1 vs1 u1 u2 h0 n0 O0 z0 fm B0 A1 hi hn hu1 hu2) hZ (hw _ (List.mem_of_getElem? (i := 47) rfl)) (hw _ (List.mem_of_getElem? (i := 23) rfl)) (by decide) (Nat.le_of_ble_eq_true rfl)) rfl rfl (lenOf pd_4 rfl) rfl d30_7 (by decide) (by decide) (fun _ _ _ q => ⟨Fw.sub q.2.1 (by omega) (fun x hx => nomatch hx), q.2.2.1⟩) ?_
  intro v107 h108 L110 q109
  obtain ⟨⟨vm111, rfl, e112⟩, -, -⟩ := q109
  replace e112 := e112.symm; subst e112
  show Go _ _ _ _ _ _ _ _ _ _ _ _ _ _ _ _ _ _ _ _ _ (mkF m 10 #[.val (.ref a1), .val (.int (Int32.ofNat i))] [(.int (StrChars.pairCh u1 u2))])
  exact GoKit.retZ (pc := 10) K (by simp) (z' := StrChars.pairCh u1 u2) (nar_i2c _) d30_10 (by simp) (by decide) (by decide) (fun _ _ => ⟨rfl, rfl⟩)
set_option maxRecDepth 65536 in
set_option maxHeartbeats 40000000 in
theorem c_lcha (l : Launch) (Z : State) (a0 : Array Value) (hw : ∀ d ∈ tables_1, d.before a0 Z = true) (a1 : Nat) (i n : Nat) (k1 : ClassId) (vs1 : List Value) (u1 : Int32) (h0 : Heap) (n0 : Nat) (O0 : Old Z n0 h0) (z0 : Int32) (fm : Value) (B0 : Base Z z0 fm) (A1 : Arv Z h0 a1 k1 .byte (Int32.ofNat n) vs1 (.int 0)) (hi : i < n) (hn : n ≤ 4000) (hu1 : vs1.getD i (.int 0) = .int u1) :
    Con l (⟨"java/lang/StringLatin1", "charAt", "([BI)C"⟩ : MethodName) jdk_43_method_2_code 2 (some .char) [] ({ frames := 2, cells := 0, slots := 0, locals := 27 } : Room) Z #[(.ref a1), (.int (Int32.ofNat i))] h0 [] (fun _ => True) (fun v h _ => v = some (.int (StrChars.chr8 u1)) ∧ h = h0) false := by
  refine Con.intro pn_3 ?_
  intro p e s m below meth c K hV hsh
  have ef : entryFrame m #[(.ref a1), (.int (Int32.ofNat i))] 2 = (mkF m 0 #[.val (.ref a1), .val (.int (Int32.ofNat i))] []) := (by first | (simp [entryFrame, mkF, argsToLocals, cat_ref, cat_int, cat_long, cat_null]; done) | rfl)
  rw [ef]
  have hn0 : n0 ≤ h0.size := by rw [← O0.1]; exact O0.2.1
  refine GoKit.iloadN (pc := 0) K d36_0 rfl ?_
  refine GoKit.aloadN (pc := 1) K d36_1 rfl rfl ?_
  refine GoKit.arrlen (pc := 2) K A1 d36_2 ?_
  refine GoKit.callS (pc := 3) (a0 := a0) (argsL := [(.int (Int32.ofNat i)), (.int (Int32.ofNat n))]) (rest := []) K (hw _ (List.mem_of_getElem? (i := 165) rfl)) (hw _ (List.mem_of_getElem? (i := 151) rfl)) (hw _ (List.mem_of_getElem? (i := 9) rfl)) (hw _ (List.mem_of_getElem? (i := 152) rfl)) (by decide) (fun hZ => Con.bk (a0 := a0) (c_schk l Z a0 hw (Int32.ofNat i) (Int32.ofNat n) h0 n0 O0 z0 fm B0 (oN_nn (by omega)) ((oN_lt (by omega) (by omega)).mpr hi)) hZ (hw _ (List.mem_of_getElem? (i := 152) rfl)) (hw _ (List.mem_of_getElem? (i := 9) rfl)) (by decide) (Nat.le_of_ble_eq_true rfl)) rfl rfl (lenOf pd_2 rfl) rfl d36_3 (by decide) (by decide) (fun _ _ _ q => ⟨Fw.sub q.2.1 (by omega) (fun x hx => nomatch hx), q.2.2.1⟩) ?_
  intro v101 h102 L104 q103
  obtain ⟨⟨vm105, rfl, e106⟩, -, -⟩ := q103
  replace e106 := e106.symm; subst e106
  show Go _ _ _ _ _ _ _ _ _ _ _ _ _ _ _ _ _ _ _ _ _ (mkF m 6 #[.val (.ref a1), .val (.int (Int32.ofNat i))] [])
  refine GoKit.aloadN (pc := 6) K d36_6 rfl rfl ?_
  refine GoKit.iloadN (pc := 7) K d36_7 rfl ?_
  refine GoKit.baload (pc := 8) (v := .int u1) K A1 ⟨oN_nn (by omega), (oN_lt (by omega) (by omega)).mpr (by omega)⟩ (by rw [oN_clamp (by omega)]; exact hu1) d36_8 ?_
  refine GoKit.sipush (pc := 9) (x := (255 : Int32)) K d36_9 rfl ?_
  refine GoKit.iand (pc := 12) K d36_12 ?_
  refine GoKit.i2c (pc := 13) K d36_13 ?_
  exact GoKit.retZ (pc := 14) K (by simp) (z' := StrChars.chr8 u1) (nar_i2c _) d36_14 (by simp) (by decide) (by decide) (fun _ _ => ⟨rfl, rfl⟩)
set_option maxRecDepth 65536 in
set_option maxHeartbeats 40000000 in
theorem c_isl0 (l : Launch) (Z : State) (a0 : Array Value) (hw : ∀ d ∈ tables_1, d.before a0 Z = true) (a1 : Nat) (h0 : Heap) (n0 : Nat) (O0 : Old Z n0 h0) (z0 : Int32) (fm : Value) (B0 : Base Z z0 fm) (F2 : Fld Z h0 a1 "java/lang/String" "coder" "B" (.int 0)) :
    Con l (⟨"java/lang/String", "isLatin1", "()Z"⟩ : MethodName) jdk_42_method_154_code 1 (some .boolean) [] ({ frames := 0, cells := 0, slots := 0, locals := 0 } : Room) Z #[(.ref a1)] h0 [] (fun _ => True) (fun v h _ => v = some (.int 1) ∧ h = h0) false := by
  refine Con.intro pn_2 ?_
  intro p e s m below meth c K hV hsh
  have ef : entryFrame m #[(.ref a1)] 1 = (mkF m 0 #[.val (.ref a1)] []) := (by first | (simp [entryFrame, mkF, argsToLocals, cat_ref, cat_int, cat_long, cat_null]; done) | rfl)
  rw [ef]
  have hn0 : n0 ≤ h0.size := by rw [← O0.1]; exact O0.2.1
  refine GoKit.getS (pc := 0) (a0 := a0) K (hw _ (List.mem_of_getElem? (i := 20) rfl)) Via.refl (B0.s0.ext O0.2) d29_0 ?_
  refine GoKit.if_eq_n (pc := 3) K d29_3  B0.hz ?_
  refine GoKit.aloadN (pc := 6) K d29_6 rfl rfl ?_
  refine GoKit.getF (pc := 7) (host := "") (a0 := a0) K (Or.inl (hw _ (List.mem_of_getElem? (i := 51) rfl))) Via.refl F2 d29_7 ?_
  refine GoKit.if_ne_n (pc := 10) K d29_10  (by decide) ?_
  refine GoKit.iconst (pc := 13) (x := (1 : Int32)) K d29_13 rfl ?_
  refine GoKit.goto (pc := 14) (pc' := 18) K d29_14 (by decide) ?_
  exact GoKit.retZ (pc := 18) K (by simp) (z' := (1 : Int32)) (by decide) d29_18 (by simp) (by decide) (by decide) (fun _ _ => ⟨rfl, rfl⟩)
set_option maxRecDepth 65536 in
set_option maxHeartbeats 40000000 in
theorem c_isl1 (l : Launch) (Z : State) (a0 : Array Value) (hw : ∀ d ∈ tables_1, d.before a0 Z = true) (a1 : Nat) (h0 : Heap) (n0 : Nat) (O0 : Old Z n0 h0) (z0 : Int32) (fm : Value) (B0 : Base Z z0 fm) (F2 : Fld Z h0 a1 "java/lang/String" "coder" "B" (.int 1)) :
    Con l (⟨"java/lang/String", "isLatin1", "()Z"⟩ : MethodName) jdk_42_method_154_code 1 (some .boolean) [] ({ frames := 0, cells := 0, slots := 0, locals := 0 } : Room) Z #[(.ref a1)] h0 [] (fun _ => True) (fun v h _ => v = some (.int 0) ∧ h = h0) false := by
  refine Con.intro pn_2 ?_
  intro p e s m below meth c K hV hsh
  have ef : entryFrame m #[(.ref a1)] 1 = (mkF m 0 #[.val (.ref a1)] []) := (by first | (simp [entryFrame, mkF, argsToLocals, cat_ref, cat_int, cat_long, cat_null]; done) | rfl)
  rw [ef]
  have hn0 : n0 ≤ h0.size := by rw [← O0.1]; exact O0.2.1
  refine GoKit.getS (pc := 0) (a0 := a0) K (hw _ (List.mem_of_getElem? (i := 20) rfl)) Via.refl (B0.s0.ext O0.2) d29_0 ?_
  refine GoKit.if_eq_n (pc := 3) K d29_3  B0.hz ?_
  refine GoKit.aloadN (pc := 6) K d29_6 rfl rfl ?_
  refine GoKit.getF (pc := 7) (host := "") (a0 := a0) K (Or.inl (hw _ (List.mem_of_getElem? (i := 51) rfl))) Via.refl F2 d29_7 ?_
  refine GoKit.if_ne_y (pc := 10) (pc' := 17) K d29_10 (by decide)  (by decide) ?_
  refine GoKit.iconst (pc := 17) (x := (0 : Int32)) K d29_17 rfl ?_
  exact GoKit.retZ (pc := 18) K (by simp) (z' := (0 : Int32)) (by decide) d29_18 (by simp) (by decide) (by decide) (fun _ _ => ⟨rfl, rfl⟩)
set_option maxRecDepth 65536 in
set_option maxHeartbeats 40000000 in
theorem c_ch0 (l : Launch) (Z : State) (a0 : Array Value) (hw : ∀ d ∈ tables_1, d.before a0 Z = true) (a1 t1 : Nat) (i n : Nat) (k1 : ClassId) (vs1 : List Value) (u1 u2 : Int32) (h0 : Heap) (n0 : Nat) (O0 : Old Z n0 h0) (z0 : Int32) (fm : Value) (B0 : Base Z z0 fm) (E1 : Exa Z h0 a1 "java/lang/String") (F1 : Fld Z h0 a1 "java/lang/String" "value" "[B" (.ref t1)) (F2 : Fld Z h0 a1 "java/lang/String" "coder" "B" (.int 0)) (A1 : Arv Z h0 t1 k1 .byte (Int32.ofNat n) vs1 (.int 0)) (hi : i < n) (hn : n ≤ 4000) (hu1 : vs1.getD i (.int 0) = .int u1) :
    Con l (⟨"java/lang/String", "charAt", "(I)C"⟩ : MethodName) jdk_42_method_56_code 2 (some .char) [] ({ frames := 4, cells := 0, slots := 0, locals := 53 } : Room) Z #[(.ref a1), (.int (Int32.ofNat i))] h0 [] (fun _ => True) (fun v h _ => v = some (.int (StrChars.chr8 u1)) ∧ h = h0) false := by
  refine Con.intro pn_2 ?_
  intro p e s m below meth c K hV hsh
  have ef : entryFrame m #[(.ref a1), (.int (Int32.ofNat i))] 2 = (mkF m 0 #[.val (.ref a1), .val (.int (Int32.ofNat i))] []) := (by first | (simp [entryFrame, mkF, argsToLocals, cat_ref, cat_int, cat_long, cat_null]; done) | rfl)
  rw [ef]
  have hn0 : n0 ≤ h0.size := by rw [← O0.1]; exact O0.2.1
  refine GoKit.aloadN (pc := 0) K d28_0 rfl rfl ?_
  refine GoKit.callV (pc := 1) (a0 := a0) (argsL := []) (rest := []) K (hw _ (List.mem_of_getElem? (i := 136) rfl)) (hw _ (List.mem_of_getElem? (i := 137) rfl)) (Or.inr (hw _ (List.mem_of_getElem? (i := 139) rfl))) (hw _ (List.mem_of_getElem? (i := 139) rfl)) (hw _ (List.mem_of_getElem? (i := 138) rfl)) (by decide) E1 (fun hZ => Con.bk (a0 := a0) (c_isl0 l Z a0 hw a1 h0 n0 O0 z0 fm B0 F2) hZ (hw _ (List.mem_of_getElem? (i := 140) rfl)) (hw _ (List.mem_of_getElem? (i := 9) rfl)) (by decide) (Nat.le_of_ble_eq_true rfl)) rfl rfl (lenOf pd_5 rfl) rfl d28_1 (by decide) (by decide) (fun _ _ _ q => ⟨Fw.sub q.2.1 (by omega) (fun x hx => nomatch hx), q.2.2.1⟩) ?_
  intro v101 h102 L104 q103
  obtain ⟨⟨vm105, rfl, e106⟩, -, -⟩ := q103
  replace e106 := e106.symm; subst e106
  show Go _ _ _ _ _ _ _ _ _ _ _ _ _ _ _ _ _ _ _ _ _ (mkF m 4 #[.val (.ref a1), .val (.int (Int32.ofNat i))] [(.int (1 : Int32))])
  refine GoKit.if_eq_n (pc := 4) K d28_4  (by decide) ?_
  refine GoKit.aloadN (pc := 7) K d28_7 rfl rfl ?_
  refine GoKit.getF (pc := 8) (host := "") (a0 := a0) K (Or.inl (hw _ (List.mem_of_getElem? (i := 53) rfl))) Via.refl F1 d28_8 ?_
  refine GoKit.iloadN (pc := 11) K d28_11 rfl ?_
  refine GoKit.callS (pc := 12) (a0 := a0) (argsL := [(.ref t1), (.int (Int32.ofNat i))]) (rest := []) K (hw _ (List.mem_of_getElem? (i := 161) rfl)) (hw _ (List.mem_of_getElem? (i := 162) rfl)) (hw _ (List.mem_of_getElem? (i := 163) rfl)) (hw _ (List.mem_of_getElem? (i := 164) rfl)) (by decide) (fun hZ => Con.bk (a0 := a0) (c_lcha l Z a0 hw t1 i n k1 vs1 u1 h0 n0 O0 z0 fm B0 A1 hi hn hu1) hZ (hw _ (List.mem_of_getElem? (i := 164) rfl)) (hw _ (List.mem_of_getElem? (i := 163) rfl)) (by decide) (Nat.le_of_ble_eq_true rfl)) rfl rfl (lenOf pd_4 rfl) rfl d28_12 (by decide) (by decide) (fun _ _ _ q => ⟨Fw.sub q.2.1 (by omega) (fun x hx => nomatch hx), q.2.2.1⟩) ?_
  intro v107 h108 L110 q109
  obtain ⟨⟨vm111, rfl, e112⟩, -, -⟩ := q109
  replace e112 := e112.symm; subst e112
  show Go _ _ _ _ _ _ _ _ _ _ _ _ _ _ _ _ _ _ _ _ _ (mkF m 15 #[.val (.ref a1), .val (.int (Int32.ofNat i))] [(.int (StrChars.chr8 u1))])
  exact GoKit.retZ (pc := 15) K (by simp) (z' := (StrChars.chr8 u1)) (nar_i2c _) d28_15 (by simp) (by decide) (by decide) (fun _ _ => ⟨rfl, rfl⟩)
set_option maxRecDepth 65536 in
set_option maxHeartbeats 40000000 in
theorem c_ch1 (l : Launch) (Z : State) (a0 : Array Value) (hw : ∀ d ∈ tables_1, d.before a0 Z = true) (a1 t1 : Nat) (i n : Nat) (k1 : ClassId) (vs1 : List Value) (u1 u2 : Int32) (h0 : Heap) (n0 : Nat) (O0 : Old Z n0 h0) (z0 : Int32) (fm : Value) (B0 : Base Z z0 fm) (E1 : Exa Z h0 a1 "java/lang/String") (F1 : Fld Z h0 a1 "java/lang/String" "value" "[B" (.ref t1)) (F2 : Fld Z h0 a1 "java/lang/String" "coder" "B" (.int 1)) (A1 : Arv Z h0 t1 k1 .byte (Int32.ofNat (2 * n)) vs1 (.int 0)) (hi : i < n) (hn : n ≤ 4000) (hu1 : vs1.getD (2 * i) (.int 0) = .int u1) (hu2 : vs1.getD (2 * i + 1) (.int 0) = .int u2) :
    Con l (⟨"java/lang/String", "charAt", "(I)C"⟩ : MethodName) jdk_42_method_56_code 2 (some .char) [] ({ frames := 4, cells := 0, slots := 0, locals := 53 } : Room) Z #[(.ref a1), (.int (Int32.ofNat i))] h0 [] (fun _ => True) (fun v h _ => v = some (.int (StrChars.pairCh u1 u2)) ∧ h = h0) false := by
  refine Con.intro pn_2 ?_
  intro p e s m below meth c K hV hsh
  have ef : entryFrame m #[(.ref a1), (.int (Int32.ofNat i))] 2 = (mkF m 0 #[.val (.ref a1), .val (.int (Int32.ofNat i))] []) := (by first | (simp [entryFrame, mkF, argsToLocals, cat_ref, cat_int, cat_long, cat_null]; done) | rfl)
  rw [ef]
  have hn0 : n0 ≤ h0.size := by rw [← O0.1]; exact O0.2.1
  refine GoKit.aloadN (pc := 0) K d28_0 rfl rfl ?_
  refine GoKit.callV (pc := 1) (a0 := a0) (argsL := []) (rest := []) K (hw _ (List.mem_of_getElem? (i := 136) rfl)) (hw _ (List.mem_of_getElem? (i := 137) rfl)) (Or.inr (hw _ (List.mem_of_getElem? (i := 139) rfl))) (hw _ (List.mem_of_getElem? (i := 139) rfl)) (hw _ (List.mem_of_getElem? (i := 138) rfl)) (by decide) E1 (fun hZ => Con.bk (a0 := a0) (c_isl1 l Z a0 hw a1 h0 n0 O0 z0 fm B0 F2) hZ (hw _ (List.mem_of_getElem? (i := 140) rfl)) (hw _ (List.mem_of_getElem? (i := 9) rfl)) (by decide) (Nat.le_of_ble_eq_true rfl)) rfl rfl (lenOf pd_5 rfl) rfl d28_1 (by decide) (by decide) (fun _ _ _ q => ⟨Fw.sub q.2.1 (by omega) (fun x hx => nomatch hx), q.2.2.1⟩) ?_
  intro v101 h102 L104 q103
  obtain ⟨⟨vm105, rfl, e106⟩, -, -⟩ := q103
  replace e106 := e106.symm; subst e106
  show Go _ _ _ _ _ _ _ _ _ _ _ _ _ _ _ _ _ _ _ _ _ (mkF m 4 #[.val (.ref a1), .val (.int (Int32.ofNat i))] [(.int (0 : Int32))])
  refine GoKit.if_eq_y (pc := 4) (pc' := 16) K d28_4 (by decide)  (by decide) ?_
  refine GoKit.aloadN (pc := 16) K d28_16 rfl rfl ?_
  refine GoKit.getF (pc := 17) (host := "") (a0 := a0) K (Or.inl (hw _ (List.mem_of_getElem? (i := 53) rfl))) Via.refl F1 d28_17 ?_
  refine GoKit.iloadN (pc := 20) K d28_20 rfl ?_
  refine GoKit.callS (pc := 21) (a0 := a0) (argsL := [(.ref t1), (.int (Int32.ofNat i))]) (rest := []) K (hw _ (List.mem_of_getElem? (i := 141) rfl)) (hw _ (List.mem_of_getElem? (i := 142) rfl)) (hw _ (List.mem_of_getElem? (i := 23) rfl)) (hw _ (List.mem_of_getElem? (i := 143) rfl)) (by decide) (fun hZ => Con.bk (a0 := a0) (c_ucha l Z a0 hw t1 i n k1 vs1 u1 u2 h0 n0 O0 z0 fm B0 A1 hi hn hu1 hu2) hZ (hw _ (List.mem_of_getElem? (i := 143) rfl)) (hw _ (List.mem_of_getElem? (i := 23) rfl)) (by decide) (Nat.le_of_ble_eq_true rfl)) rfl rfl (lenOf pd_4 rfl) rfl d28_21 (by decide) (by decide) (fun _ _ _ q => ⟨Fw.sub q.2.1 (by omega) (fun x hx => nomatch hx), q.2.2.1⟩) ?_
  intro v107 h108 L110 q109
  obtain ⟨⟨vm111, rfl, e112⟩, -, -⟩ := q109
  replace e112 := e112.symm; subst e112
  show Go _ _ _ _ _ _ _ _ _ _ _ _ _ _ _ _ _ _ _ _ _ (mkF m 24 #[.val (.ref a1), .val (.int (Int32.ofNat i))] [(.int (StrChars.pairCh u1 u2))])
  exact GoKit.retZ (pc := 24) K (by simp) (z' := (StrChars.pairCh u1 u2)) (nar_i2c _) d28_24 (by simp) (by decide) (by decide) (fun _ _ => ⟨rfl, rfl⟩)
theorem c_chr (l : Launch) (Z : State) (a0 : Array Value) (hw : ∀ d ∈ tables_1, d.before a0 Z = true) (a1 t1 : Nat) (i : Nat) (cs : List Int32) (h0 : Heap) (n0 : Nat) (O0 : Old Z n0 h0) (z0 : Int32) (fm : Value) (B0 : Base Z z0 fm) (T : Str Z h0 a1 t1 cs) (hi : i < cs.length) :
    Con l (⟨"java/lang/String", "charAt", "(I)C"⟩ : MethodName) jdk_42_method_56_code 2 (some .char) [] ({ frames := 4, cells := 0, slots := 0, locals := 53 } : Room) Z #[.ref a1, .int (Int32.ofNat i)] h0 [] (fun _ => True) (fun v h _ => v = some (.int (cs.getD i 0)) ∧ h = h0) false := by
  obtain ⟨kb, cd, N2, vs, r1, r2, r3, r4, r5, r6, r7⟩ := T
  have g := getD_rng r6 hi
  rcases r5 with ⟨rfl, rfl, rfl, q⟩ | ⟨rfl, rfl, rfl, q⟩
  · have := c_ch0 l Z a0 hw a1 t1 i cs.length kb _ _ 0 h0 n0 O0 z0 fm B0 r1 r2 r3 r4 hi r7 (getD_lo hi)
    rw [StrChars.chr8_lo8 g.1 (getD_rng q hi)] at this
    exact this
  · have := c_ch1 l Z a0 hw a1 t1 i cs.length kb _ _ _ h0 n0 O0 z0 fm B0 r1 r2 r3 r4 hi r7 (StrChars.Road.wide_lo _ _ _ hi) (StrChars.Road.wide_hi _ _ _ hi)
    rw [StrChars.pair_says g.1 g.2] at this
    exact this
set_option maxRecDepth 65536 in
set_option maxHeartbeats 40000000 in
theorem c_cmp_4 (l : Launch) (Z : State) (a0 : Array Value) (hw : ∀ d ∈ tables_1, d.before a0 Z = true) (a1 a2 : Nat) (k1 k2 : ClassId) (x0 x1 x2 x3 : Int32) (h0 : Heap) (A1 : Arv Z h0 a1 k1 .char (4 : Int32) [(.int x0), (.int x1), (.int x2), (.int x3)] (.int 0)) (A2 : Arv Z h0 a2 k2 .byte (4 : Int32) [.int 0, .int 0, .int 0, .int 0] (.int 0)) (h12 : ¬ a1 = a2) :
    Con l (⟨"java/lang/StringUTF16", "compress", "([CI[BII)I"⟩ : MethodName) jdk_52_method_21_code 7 (some .int) [] ({ frames := 0, cells := 0, slots := 0, locals := 0 } : Room) Z #[(.ref a1), (.int (0 : Int32)), (.ref a2), (.int (0 : Int32)), (.int (4 : Int32))] h0 [a2] (fun _ => True) (fun v h _ => (v = some (.int (4 : Int32)) ∧ (¬ (255 : Int32) < x0 ∧ ¬ (255 : Int32) < x1 ∧ ¬ (255 : Int32) < x2 ∧ ¬ (255 : Int32) < x3) ∧ Arv Z h a2 k2 .byte (4 : Int32) [(.int (StrChars.lo8 x0)), (.int (StrChars.lo8 x1)), (.int (StrChars.lo8 x2)), (.int (StrChars.lo8 x3))] (.int 0)) ∨ (v = some (.int (0 : Int32)) ∧ (255 : Int32) < x0) ∨ (v = some (.int (1 : Int32)) ∧ (255 : Int32) < x1) ∨ (v = some (.int (2 : Int32)) ∧ (255 : Int32) < x2) ∨ (v = some (.int (3 : Int32)) ∧ (255 : Int32) < x3)) false := by
  refine Con.intro pn_0 ?_
  intro p e s m below meth c K hV hsh
  have ef : entryFrame m #[(.ref a1), (.int (0 : Int32)), (.ref a2), (.int (0 : Int32)), (.int (4 : Int32))] 7 = (mkF m 0 #[.val (.ref a1), .val (.int (0 : Int32)), .val (.ref a2), .val (.int (0 : Int32)), .val (.int (4 : Int32)), .unset, .unset] []) := (by first | (simp [entryFrame, mkF, argsToLocals, cat_ref, cat_int, cat_long, cat_null]; done) | rfl)
  rw [ef]
  have lt1 : a1 < h0.size := A1.lt; have lt2 : a2 < h0.size := A2.lt
  refine Go.allow a2 ?_
  refine GoKit.iconst (pc := 0) (x := (0 : Int32)) K d6_0 rfl ?_
  refine GoKit.istore (pc := 1) (l' := #[.val (.ref a1), .val (.int (0 : Int32)), .val (.ref a2), .val (.int (0 : Int32)), .val (.int (4 : Int32)), .val (.int (0 : Int32)), .unset]) K d6_1 rfl ?_
  refine GoKit.iload (pc := 3) K d6_3 rfl ?_
  refine GoKit.iload (pc := 5) K d6_5 rfl ?_
  refine GoKit.icmp_ge_n (pc := 7) K d6_7  (by decide) ?_
  refine GoKit.aloadN (pc := 10) K d6_10 rfl rfl ?_
  refine GoKit.iloadN (pc := 11) K d6_11 rfl ?_
  refine GoKit.caload (pc := 12) (v := .int x0) K A1 (by decide) rfl d6_12 ?_
  refine GoKit.istore (pc := 13) (l' := #[.val (.ref a1), .val (.int (0 : Int32)), .val (.ref a2), .val (.int (0 : Int32)), .val (.int (4 : Int32)), .val (.int (0 : Int32)), .val (.int x0)]) K d6_13 rfl ?_
  refine GoKit.iload (pc := 15) K d6_15 rfl ?_
  refine GoKit.sipush (pc := 17) (x := (255 : Int32)) K d6_17 rfl ?_
  refine GoKit.icmp_le (pc := 20) (pc' := 26) K d6_20 (by decide) (fun hc101 => ?_) (fun hc101 => ?_)
  · -- ¬ (255 : Int32) < x0
    refine GoKit.aloadN (pc := 26) K d6_26 rfl rfl ?_
    refine GoKit.iloadN (pc := 27) K d6_27 rfl ?_
    refine GoKit.iload (pc := 28) K d6_28 rfl ?_
    refine GoKit.i2b (pc := 30) K d6_30 ?_
    refine GoKit.bastore (pc := 31) (i := 0) K A2 (by decide) rfl (Nat.le_of_ble_eq_true rfl) (Or.inr (by simp)) d6_31 ?_
    intro h102 W103 V104
    have sz105 : h0.size ≤ h102.size := Nat.le_of_eq W103.size.symm
    have V106 : Arv Z h102 a2 k2 .byte (4 : Int32) [(.int (nar .byte (x0).toInt8.toInt32)), .int 0, .int 0, .int 0] (.int 0) := V104
    refine GoKit.iinc (pc := 32) (y := (1 : Int32)) (l' := #[.val (.ref a1), .val (.int (1 : Int32)), .val (.ref a2), .val (.int (0 : Int32)), .val (.int (4 : Int32)), .val (.int (0 : Int32)), .val (.int x0)]) K d6_32 rfl (by decide) rfl ?_
    refine GoKit.iinc (pc := 35) (y := (1 : Int32)) (l' := #[.val (.ref a1), .val (.int (1 : Int32)), .val (.ref a2), .val (.int (1 : Int32)), .val (.int (4 : Int32)), .val (.int (0 : Int32)), .val (.int x0)]) K d6_35 rfl (by decide) rfl ?_
    refine GoKit.iinc (pc := 38) (y := (1 : Int32)) (l' := #[.val (.ref a1), .val (.int (1 : Int32)), .val (.ref a2), .val (.int (1 : Int32)), .val (.int (4 : Int32)), .val (.int (1 : Int32)), .val (.int x0)]) K d6_38 rfl (by decide) rfl ?_
    refine GoKit.goto (pc := 41) (pc' := 3) K d6_41 (by decide) ?_
    refine GoKit.iload (pc := 3) K d6_3 rfl ?_
    refine GoKit.iload (pc := 5) K d6_5 rfl ?_
    refine GoKit.icmp_ge_n (pc := 7) K d6_7  (by decide) ?_
    refine GoKit.aloadN (pc := 10) K d6_10 rfl rfl ?_
    refine GoKit.iloadN (pc := 11) K d6_11 rfl ?_
    have f107 := (A1.other W103 (ane (by omega)))
    refine GoKit.caload (pc := 12) (v := .int x1) K f107 (by decide) rfl d6_12 ?_
    refine GoKit.istore (pc := 13) (l' := #[.val (.ref a1), .val (.int (1 : Int32)), .val (.ref a2), .val (.int (1 : Int32)), .val (.int (4 : Int32)), .val (.int (1 : Int32)), .val (.int x1)]) K d6_13 rfl ?_
    refine GoKit.iload (pc := 15) K d6_15 rfl ?_
    refine GoKit.sipush (pc := 17) (x := (255 : Int32)) K d6_17 rfl ?_
    refine GoKit.icmp_le (pc := 20) (pc' := 26) K d6_20 (by decide) (fun hc108 => ?_) (fun hc108 => ?_)
    · -- ¬ (255 : Int32) < x1
      refine GoKit.aloadN (pc := 26) K d6_26 rfl rfl ?_
      refine GoKit.iloadN (pc := 27) K d6_27 rfl ?_
      refine GoKit.iload (pc := 28) K d6_28 rfl ?_
      refine GoKit.i2b (pc := 30) K d6_30 ?_
      refine GoKit.bastore (pc := 31) (i := 1) K V106 (by decide) rfl (Nat.le_of_ble_eq_true rfl) (Or.inr (by simp)) d6_31 ?_
      intro h109 W110 V111
      have sz112 : h102.size ≤ h109.size := Nat.le_of_eq W110.size.symm
      have V113 : Arv Z h109 a2 k2 .byte (4 : Int32) [(.int (nar .byte (x0).toInt8.toInt32)), (.int (nar .byte (x1).toInt8.toInt32)), .int 0, .int 0] (.int 0) := V111
      refine GoKit.iinc (pc := 32) (y := (2 : Int32)) (l' := #[.val (.ref a1), .val (.int (2 : Int32)), .val (.ref a2), .val (.int (1 : Int32)), .val (.int (4 : Int32)), .val (.int (1 : Int32)), .val (.int x1)]) K d6_32 rfl (by decide) rfl ?_
      refine GoKit.iinc (pc := 35) (y := (2 : Int32)) (l' := #[.val (.ref a1), .val (.int (2 : Int32)), .val (.ref a2), .val (.int (2 : Int32)), .val (.int (4 : Int32)), .val (.int (1 : Int32)), .val (.int x1)]) K d6_35 rfl (by decide) rfl ?_
      refine GoKit.iinc (pc := 38) (y := (2 : Int32)) (l' := #[.val (.ref a1), .val (.int (2 : Int32)), .val (.ref a2), .val (.int (2 : Int32)), .val (.int (4 : Int32)), .val (.int (2 : Int32)), .val (.int x1)]) K d6_38 rfl (by decide) rfl ?_
      refine GoKit.goto (pc := 41) (pc' := 3) K d6_41 (by decide) ?_
      refine GoKit.iload (pc := 3) K d6_3 rfl ?_
      refine GoKit.iload (pc := 5) K d6_5 rfl ?_
      refine GoKit.icmp_ge_n (pc := 7) K d6_7  (by decide) ?_
      refine GoKit.aloadN (pc := 10) K d6_10 rfl rfl ?_
      refine GoKit.iloadN (pc := 11) K d6_11 rfl ?_
      have f114 := (f107.other W110 (ane (by omega)))
      refine GoKit.caload (pc := 12) (v := .int x2) K f114 (by decide) rfl d6_12 ?_
      refine GoKit.istore (pc := 13) (l' := #[.val (.ref a1), .val (.int (2 : Int32)), .val (.ref a2), .val (.int (2 : Int32)), .val (.int (4 : Int32)), .val (.int (2 : Int32)), .val (.int x2)]) K d6_13 rfl ?_
      refine GoKit.iload (pc := 15) K d6_15 rfl ?_
      refine GoKit.sipush (pc := 17) (x := (255 : Int32)) K d6_17 rfl ?_
      refine GoKit.icmp_le (pc := 20) (pc' := 26) K d6_20 (by decide) (fun hc115 => ?_) (fun hc115 => ?_)
      · -- ¬ (255 : Int32) < x2
        refine GoKit.aloadN (pc := 26) K d6_26 rfl rfl ?_
        refine GoKit.iloadN (pc := 27) K d6_27 rfl ?_
        refine GoKit.iload (pc := 28) K d6_28 rfl ?_
        refine GoKit.i2b (pc := 30) K d6_30 ?_
        refine GoKit.bastore (pc := 31) (i := 2) K V113 (by decide) rfl (Nat.le_of_ble_eq_true rfl) (Or.inr (by simp)) d6_31 ?_
        intro h116 W117 V118
        have sz119 : h109.size ≤ h116.size := Nat.le_of_eq W117.size.symm
        have V120 : Arv Z h116 a2 k2 .byte (4 : Int32) [(.int (nar .byte (x0).toInt8.toInt32)), (.int (nar .byte (x1).toInt8.toInt32)), (.int (nar .byte (x2).toInt8.toInt32)), .int 0] (.int 0) := V118
        refine GoKit.iinc (pc := 32) (y := (3 : Int32)) (l' := #[.val (.ref a1), .val (.int (3 : Int32)), .val (.ref a2), .val (.int (2 : Int32)), .val (.int (4 : Int32)), .val (.int (2 : Int32)), .val (.int x2)]) K d6_32 rfl (by decide) rfl ?_
        refine GoKit.iinc (pc := 35) (y := (3 : Int32)) (l' := #[.val (.ref a1), .val (.int (3 : Int32)), .val (.ref a2), .val (.int (3 : Int32)), .val (.int (4 : Int32)), .val (.int (2 : Int32)), .val (.int x2)]) K d6_35 rfl (by decide) rfl ?_
        refine GoKit.iinc (pc := 38) (y := (3 : Int32)) (l' := #[.val (.ref a1), .val (.int (3 : Int32)), .val (.ref a2), .val (.int (3 : Int32)), .val (.int (4 : Int32)), .val (.int (3 : Int32)), .val (.int x2)]) K d6_38 rfl (by decide) rfl ?_
        refine GoKit.goto (pc := 41) (pc' := 3) K d6_41 (by decide) ?_
        refine GoKit.iload (pc := 3) K d6_3 rfl ?_
        refine GoKit.iload (pc := 5) K d6_5 rfl ?_
        refine GoKit.icmp_ge_n (pc := 7) K d6_7  (by decide) ?_
        refine GoKit.aloadN (pc := 10) K d6_10 rfl rfl ?_
        refine GoKit.iloadN (pc := 11) K d6_11 rfl ?_
        have f121 := (f114.other W117 (ane (by omega)))
        refine GoKit.caload (pc := 12) (v := .int x3) K f121 (by decide) rfl d6_12 ?_
        refine GoKit.istore (pc := 13) (l' := #[.val (.ref a1), .val (.int (3 : Int32)), .val (.ref a2), .val (.int (3 : Int32)), .val (.int (4 : Int32)), .val (.int (3 : Int32)), .val (.int x3)]) K d6_13 rfl ?_
        refine GoKit.iload (pc := 15) K d6_15 rfl ?_
        refine GoKit.sipush (pc := 17) (x := (255 : Int32)) K d6_17 rfl ?_
        refine GoKit.icmp_le (pc := 20) (pc' := 26) K d6_20 (by decide) (fun hc122 => ?_) (fun hc122 => ?_)
        · -- ¬ (255 : Int32) < x3
          refine GoKit.aloadN (pc := 26) K d6_26 rfl rfl ?_
          refine GoKit.iloadN (pc := 27) K d6_27 rfl ?_
          refine GoKit.iload (pc := 28) K d6_28 rfl ?_
          refine GoKit.i2b (pc := 30) K d6_30 ?_
          refine GoKit.bastore (pc := 31) (i := 3) K V120 (by decide) rfl (Nat.le_of_ble_eq_true rfl) (Or.inr (by simp)) d6_31 ?_
          intro h123 W124 V125
          have sz126 : h116.size ≤ h123.size := Nat.le_of_eq W124.size.symm
          have V127 : Arv Z h123 a2 k2 .byte (4 : Int32) [(.int (nar .byte (x0).toInt8.toInt32)), (.int (nar .byte (x1).toInt8.toInt32)), (.int (nar .byte (x2).toInt8.toInt32)), (.int (nar .byte (x3).toInt8.toInt32))] (.int 0) := V125
          refine GoKit.iinc (pc := 32) (y := (4 : Int32)) (l' := #[.val (.ref a1), .val (.int (4 : Int32)), .val (.ref a2), .val (.int (3 : Int32)), .val (.int (4 : Int32)), .val (.int (3 : Int32)), .val (.int x3)]) K d6_32 rfl (by decide) rfl ?_
          refine GoKit.iinc (pc := 35) (y := (4 : Int32)) (l' := #[.val (.ref a1), .val (.int (4 : Int32)), .val (.ref a2), .val (.int (4 : Int32)), .val (.int (4 : Int32)), .val (.int (3 : Int32)), .val (.int x3)]) K d6_35 rfl (by decide) rfl ?_
          refine GoKit.iinc (pc := 38) (y := (4 : Int32)) (l' := #[.val (.ref a1), .val (.int (4 : Int32)), .val (.ref a2), .val (.int (4 : Int32)), .val (.int (4 : Int32)), .val (.int (4 : Int32)), .val (.int x3)]) K d6_38 rfl (by decide) rfl ?_
          refine GoKit.goto (pc := 41) (pc' := 3) K d6_41 (by decide) ?_
          refine GoKit.iload (pc := 3) K d6_3 rfl ?_
          refine GoKit.iload (pc := 5) K d6_5 rfl ?_
          refine GoKit.icmp_ge_y (pc := 7) (pc' := 44) K d6_7 (by decide)  (by decide) ?_
          refine GoKit.iload (pc := 44) K d6_44 rfl ?_
          simp only [nar_i2b] at V127
          exact GoKit.retI (pc := 46) K d6_46 (by simp) (by decide) (by decide) (fun _ _ => Or.inl ⟨rfl, ⟨hc101, hc108, hc115, hc122⟩, V127⟩)
        · -- (255 : Int32) < x3
          refine GoKit.iload (pc := 23) K d6_23 rfl ?_
          exact GoKit.retI (pc := 25) K d6_25 (by simp) (by decide) (by decide) (fun _ _ => Or.inr (Or.inr (Or.inr (Or.inr ⟨rfl, hc122⟩))))
      · -- (255 : Int32) < x2
        refine GoKit.iload (pc := 23) K d6_23 rfl ?_
        exact GoKit.retI (pc := 25) K d6_25 (by simp) (by decide) (by decide) (fun _ _ => Or.inr (Or.inr (Or.inr (Or.inl ⟨rfl, hc115⟩))))
    · -- (255 : Int32) < x1
      refine GoKit.iload (pc := 23) K d6_23 rfl ?_
      exact GoKit.retI (pc := 25) K d6_25 (by simp) (by decide) (by decide) (fun _ _ => Or.inr (Or.inr (Or.inl ⟨rfl, hc108⟩)))
  · -- (255 : Int32) < x0
    refine GoKit.iload (pc := 23) K d6_23 rfl ?_
    exact GoKit.retI (pc := 25) K d6_25 (by simp) (by decide) (by decide) (fun _ _ => Or.inr (Or.inl ⟨rfl, hc101⟩))
set_option maxRecDepth 65536 in
set_option maxHeartbeats 40000000 in
theorem c_putC (l : Launch) (Z : State) (a0 : Array Value) (hw : ∀ d ∈ tables_1, d.before a0 Z = true) (a1 : Nat) (i n : Nat) (p2 : Int32) (k1 : ClassId) (vs1 : List Value) (h0 : Heap) (n0 : Nat) (O0 : Old Z n0 h0) (z0 : Int32) (fm : Value) (B0 : Base Z z0 fm) (A1 : Arv Z h0 a1 k1 .byte (Int32.ofNat (2 * n)) vs1 (.int 0)) (hl : vs1.length = 2 * n) (hi : i < n) (hn : n ≤ 4000) (ha1 : n0 ≤ a1) :
    Con l (⟨"java/lang/StringUTF16", "putChar", "([BII)V"⟩ : MethodName) jdk_52_method_4_code 3 none [] ({ frames := 0, cells := 0, slots := 0, locals := 0 } : Room) Z #[(.ref a1), (.int (Int32.ofNat i)), (.int p2)] h0 [a1] (fun _ => True) (fun v h _ => v = none ∧ Arv Z h a1 k1 .byte (Int32.ofNat (2 * n)) ((vs1.set (2 * i) (.int (StrChars.lo8 p2))).set (2 * i + 1) (.int (StrChars.hi8 p2))) (.int 0)) false := by
  refine Con.intro pn_0 ?_
  intro p e s m below meth c K hV hsh
  have ef : entryFrame m #[(.ref a1), (.int (Int32.ofNat i)), (.int p2)] 3 = (mkF m 0 #[.val (.ref a1), .val (.int (Int32.ofNat i)), .val (.int p2)] []) := (by first | (simp [entryFrame, mkF, argsToLocals, cat_ref, cat_int, cat_long, cat_null]; done) | rfl)
  rw [ef]
  have hn0 : n0 ≤ h0.size := by rw [← O0.1]; exact O0.2.1
  have lt1 : a1 < h0.size := A1.lt
  refine GoKit.getS (pc := 0) (a0 := a0) K (hw _ (List.mem_of_getElem? (i := 42) rfl)) Via.refl (B0.s1.ext O0.2) d10_0 ?_
  refine GoKit.if_ne_y (pc := 3) (pc' := 28) K d10_3 (by decide)  (by decide) ?_
  refine Go.allow a1 ?_
  refine GoKit.iloadN (pc := 28) K d10_28 rfl ?_
  refine GoKit.iconst (pc := 29) (x := (1 : Int32)) K d10_29 rfl ?_
  refine GoKit.ishl (pc := 30) K d10_30 ?_
  rw [oN_shl]
  show Go _ _ _ _ _ _ _ _ _ _ _ _ _ _ _ _ _ _ _ _ _ (mkF m 31 #[.val (.ref a1), .val (.int (Int32.ofNat i)), .val (.int p2)] [(.int (Int32.ofNat (2 * i)))])
  refine GoKit.istoreN (pc := 31) (l' := #[.val (.ref a1), .val (.int (Int32.ofNat (2 * i))), .val (.int p2)]) K d10_31 rfl ?_
  refine GoKit.aloadN (pc := 32) K d10_32 rfl rfl ?_
  refine GoKit.iloadN (pc := 33) K d10_33 rfl ?_
  refine GoKit.iinc (pc := 34) (y := (Int32.ofNat (2 * i + 1))) (l' := #[.val (.ref a1), .val (.int (Int32.ofNat (2 * i + 1))), .val (.int p2)]) K d10_34 rfl (oN_succ _) rfl ?_
  refine GoKit.iloadN (pc := 37) K d10_37 rfl ?_
  refine GoKit.getS (pc := 38) (a0 := a0) K (hw _ (List.mem_of_getElem? (i := 43) rfl)) Via.refl (B0.s2.ext O0.2) d10_38 ?_
  refine GoKit.ishr (pc := 41) K d10_41 ?_
  refine GoKit.i2b (pc := 42) K d10_42 ?_
  refine GoKit.bastore (pc := 43) (i := 2 * i) K A1 ⟨oN_nn (by omega), (oN_lt (by omega) (by omega)).mpr (by omega)⟩ (oN_clamp (by omega)) (by first | omega | (simp only [List.length_set]; omega)) (Or.inr (by simp)) d10_43 ?_
  intro h101 W102 V103
  have sz105 : h0.size ≤ h101.size := Nat.le_of_eq W102.size.symm
  rw [nar_i2b, StrChars.shr0] at V103
  have V104 : Arv Z h101 a1 k1 .byte (Int32.ofNat (2 * n)) (vs1.set (2 * i) (.int (StrChars.lo8 p2))) (.int 0) := V103
  refine GoKit.aloadN (pc := 44) K d10_44 rfl rfl ?_
  refine GoKit.iloadN (pc := 45) K d10_45 rfl ?_
  refine GoKit.iloadN (pc := 46) K d10_46 rfl ?_
  have f106 := (O0.wr W102 (by omega))
  refine GoKit.getS (pc := 47) (a0 := a0) K (hw _ (List.mem_of_getElem? (i := 44) rfl)) Via.refl (B0.s3.ext f106.2) d10_47 ?_
  refine GoKit.ishr (pc := 50) K d10_50 ?_
  refine GoKit.i2b (pc := 51) K d10_51 ?_
  refine GoKit.bastore (pc := 52) (i := 2 * i + 1) K V104 ⟨oN_nn (by omega), (oN_lt (by omega) (by omega)).mpr (by omega)⟩ (oN_clamp (by omega)) (by first | omega | (simp only [List.length_set]; omega)) (Or.inr (by simp)) d10_52 ?_
  intro h107 W108 V109
  have sz111 : h101.size ≤ h107.size := Nat.le_of_eq W108.size.symm
  rw [nar_i2b] at V109
  have V110 : Arv Z h107 a1 k1 .byte (Int32.ofNat (2 * n)) ((vs1.set (2 * i) (.int (StrChars.lo8 p2))).set (2 * i + 1) (.int (StrChars.hi8 p2))) (.int 0) := V109
  exact GoKit.retV (pc := 53) K d10_53 (by simp) (by decide) (by decide) (fun _ _ => ⟨rfl, V110⟩)
set_option maxRecDepth 65536 in
set_option maxHeartbeats 40000000 in
theorem c_nbl_4 (l : Launch) (Z : State) (a0 : Array Value) (hw : ∀ d ∈ tables_1, d.before a0 Z = true) (h0 : Heap) :
    Con l (⟨"java/lang/StringUTF16", "newBytesLength", "(I)I"⟩ : MethodName) jdk_52_method_3_code 1 (some .int) [] ({ frames := 0, cells := 0, slots := 0, locals := 0 } : Room) Z #[(.int (4 : Int32))] h0 [] (fun _ => True) (fun v h _ => v = some (.int (8 : Int32)) ∧ h = h0) false := by
  refine Con.intro pn_0 ?_
  intro p e s m below meth c K hV hsh
  have ef : entryFrame m #[(.int (4 : Int32))] 1 = (mkF m 0 #[.val (.int (4 : Int32))] []) := (by first | (simp [entryFrame, mkF, argsToLocals, cat_ref, cat_int, cat_long, cat_null]; done) | rfl)
  rw [ef]
  refine GoKit.iloadN (pc := 0) K d9_0 rfl ?_
  refine GoKit.if_ge_y (pc := 1) (pc' := 12) K d9_1 (by decide)  (by decide) ?_
  refine GoKit.iloadN (pc := 12) K d9_12 rfl ?_
  refine GoKit.ldcInt (pc := 13) (a0 := a0) (v := (1073741823 : Int32)) K (hw _ (List.mem_of_getElem? (i := 38) rfl)) d9_13 ?_
  refine GoKit.icmp_lt_y (pc := 15) (pc' := 55) K d9_15 (by decide)  (by decide) ?_
  refine GoKit.iloadN (pc := 55) K d9_55 rfl ?_
  refine GoKit.iconst (pc := 56) (x := (1 : Int32)) K d9_56 rfl ?_
  refine GoKit.ishl (pc := 57) K d9_57 ?_
  rw [(by decide : ((4 : Int32) <<< ((1 : Int32) &&& 31)) = (8 : Int32))]
  exact GoKit.retI (pc := 58) K d9_58 (by simp) (by decide) (by decide) (fun _ _ => ⟨rfl, rfl⟩)
set_option maxRecDepth 65536 in
set_option maxHeartbeats 40000000 in
theorem c_nbf_4 (l : Launch) (Z : State) (a0 : Array Value) (hw : ∀ d ∈ tables_1, d.before a0 Z = true) (h0 : Heap) :
    Con l (⟨"java/lang/StringUTF16", "newBytesFor", "(I)[B"⟩ : MethodName) jdk_52_method_2_code 1 (some (.array .byte)) [] ({ frames := 1, cells := 1, slots := 8, locals := 12 } : Room) Z #[(.int (4 : Int32))] h0 [] (fun _ => True) (fun v h _ => ∃ (a : Nat) (k : ClassId), v = some (.ref a) ∧ h0.size ≤ a ∧ Arv Z h a k .byte (8 : Int32) [.int 0, .int 0, .int 0, .int 0, .int 0, .int 0, .int 0, .int 0] (.int 0)) false := by
  refine Con.intro pn_0 ?_
  intro p e s m below meth c K hV hsh
  have ef : entryFrame m #[(.int (4 : Int32))] 1 = (mkF m 0 #[.val (.int (4 : Int32))] []) := (by first | (simp [entryFrame, mkF, argsToLocals, cat_ref, cat_int, cat_long, cat_null]; done) | rfl)
  rw [ef]
  refine GoKit.iloadN (pc := 0) K d8_0 rfl ?_
  refine GoKit.callS (pc := 1) (a0 := a0) (argsL := [(.int (4 : Int32))]) (rest := []) K (hw _ (List.mem_of_getElem? (i := 35) rfl)) (hw _ (List.mem_of_getElem? (i := 36) rfl)) (hw _ (List.mem_of_getElem? (i := 23) rfl)) (hw _ (List.mem_of_getElem? (i := 37) rfl)) (by decide) (fun hZ => Con.bk (a0 := a0) (c_nbl_4 l Z a0 hw h0) hZ (hw _ (List.mem_of_getElem? (i := 37) rfl)) (hw _ (List.mem_of_getElem? (i := 23) rfl)) (by decide) (Nat.le_of_ble_eq_true rfl)) rfl rfl (lenOf pd_6 rfl) rfl d8_1 (by decide) (by decide) (fun _ _ _ q => ⟨Fw.sub q.2.1 (by omega) (fun x hx => nomatch hx), q.2.2.1⟩) ?_
  intro v101 h102 L104 q103
  obtain ⟨⟨vm105, rfl, e106⟩, -, -⟩ := q103
  replace e106 := e106.symm; subst e106
  show Go _ _ _ _ _ _ _ _ _ _ _ _ _ _ _ _ _ _ _ _ _ (mkF m 4 #[.val (.int (4 : Int32))] [(.int (8 : Int32))])
  refine GoKit.newP (pc := 4) (a0 := a0) (cap := 8) K (hw _ (List.mem_of_getElem? (i := 25) rfl)) d8_4 (by decide) (by decide) (by decide) (by decide) (by decide) ?_
  intro h107 b108 kc109 eq110 E111 A112
  have sz114 : h0.size ≤ h107.size := E111.1
  have lt115 : b108 < h107.size := A112.lt
  have V113 : Arv Z h107 b108 kc109 .byte (8 : Int32) [.int 0, .int 0, .int 0, .int 0, .int 0, .int 0, .int 0, .int 0] (.int 0) := A112.pad (pad_rep [] _ 8)
  exact GoKit.retA (pc := 6) K rfl rfl d8_6 (by simp) (by decide) (by decide) (fun _ _ => ⟨b108, _, rfl, by omega, V113⟩)
set_option maxRecDepth 65536 in
set_option maxHeartbeats 40000000 in
theorem c_tob_4 (l : Launch) (Z : State) (a0 : Array Value) (hw : ∀ d ∈ tables_1, d.before a0 Z = true) (a1 : Nat) (k1 : ClassId) (x0 x1 x2 x3 : Int32) (h0 : Heap) (n0 : Nat) (O0 : Old Z n0 h0) (z0 : Int32) (fm : Value) (B0 : Base Z z0 fm) (A1 : Arv Z h0 a1 k1 .char (4 : Int32) [(.int x0), (.int x1), (.int x2), (.int x3)] (.int 0)) :
    Con l (⟨"java/lang/StringUTF16", "toBytes", "([CII)[B"⟩ : MethodName) jdk_52_method_14_code 5 (some (.array .byte)) [] ({ frames := 2, cells := 1, slots := 8, locals := 24 } : Room) Z #[(.ref a1), (.int (0 : Int32)), (.int (4 : Int32))] h0 [] (fun _ => True) (fun v h _ => ∃ (a : Nat) (k : ClassId), v = some (.ref a) ∧ h0.size ≤ a ∧ Arv Z h a k .byte (8 : Int32) [(.int (StrChars.lo8 x0)), (.int (StrChars.hi8 x0)), (.int (StrChars.lo8 x1)), (.int (StrChars.hi8 x1)), (.int (StrChars.lo8 x2)), (.int (StrChars.hi8 x2)), (.int (StrChars.lo8 x3)), (.int (StrChars.hi8 x3))] (.int 0)) false := by
  refine Con.intro pn_0 ?_
  intro p e s m below meth c K hV hsh
  have ef : entryFrame m #[(.ref a1), (.int (0 : Int32)), (.int (4 : Int32))] 5 = (mkF m 0 #[.val (.ref a1), .val (.int (0 : Int32)), .val (.int (4 : Int32)), .unset, .unset] []) := (by first | (simp [entryFrame, mkF, argsToLocals, cat_ref, cat_int, cat_long, cat_null]; done) | rfl)
  rw [ef]
  have hn0 : n0 ≤ h0.size := by rw [← O0.1]; exact O0.2.1
  have lt1 : a1 < h0.size := A1.lt
  refine GoKit.iloadN (pc := 0) K d7_0 rfl ?_
  refine GoKit.callS (pc := 1) (a0 := a0) (argsL := [(.int (4 : Int32))]) (rest := []) K (hw _ (List.mem_of_getElem? (i := 32) rfl)) (hw _ (List.mem_of_getElem? (i := 33) rfl)) (hw _ (List.mem_of_getElem? (i := 23) rfl)) (hw _ (List.mem_of_getElem? (i := 34) rfl)) (by decide) (fun hZ => Con.bk (a0 := a0) (c_nbf_4 l Z a0 hw h0) hZ (hw _ (List.mem_of_getElem? (i := 34) rfl)) (hw _ (List.mem_of_getElem? (i := 23) rfl)) (by decide) (Nat.le_of_ble_eq_true rfl)) rfl rfl (lenOf pd_7 rfl) rfl d7_1 (by decide) (by decide) (fun _ _ _ q => ⟨Fw.sub q.2.1 (by omega) (fun x hx => nomatch hx), q.2.2.1⟩) ?_
  intro v101 h102 L104 q103
  obtain ⟨⟨vm105, t106, k107, rfl, lt108, A109⟩, -, K110⟩ := q103
  have sz111 : h0.size ≤ h102.size := K110.1
  have lt112 := A109.lt
  show Go _ _ _ _ _ _ _ _ _ _ _ _ _ _ _ _ _ _ _ _ _ (mkF m 4 #[.val (.ref a1), .val (.int (0 : Int32)), .val (.int (4 : Int32)), .unset, .unset] [(.ref t106)])
  refine GoKit.astoreN (pc := 4) (l' := #[.val (.ref a1), .val (.int (0 : Int32)), .val (.int (4 : Int32)), .val (.ref t106), .unset]) K d7_4 rfl rfl ?_
  refine GoKit.iconst (pc := 5) (x := (0 : Int32)) K d7_5 rfl ?_
  refine GoKit.istore (pc := 6) (l' := #[.val (.ref a1), .val (.int (0 : Int32)), .val (.int (4 : Int32)), .val (.ref t106), .val (.int (0 : Int32))]) K d7_6 rfl ?_
  refine GoKit.iload (pc := 8) K d7_8 rfl ?_
  refine GoKit.iloadN (pc := 10) K d7_10 rfl ?_
  refine GoKit.icmp_ge_n (pc := 11) K d7_11  (by decide) ?_
  refine GoKit.aloadN (pc := 14) K d7_14 rfl rfl ?_
  refine GoKit.iload (pc := 15) K d7_15 rfl ?_
  refine GoKit.aloadN (pc := 17) K d7_17 rfl rfl ?_
  refine GoKit.iloadN (pc := 18) K d7_18 rfl ?_
  have f113 := (A1.keep K110 nin0)
  refine GoKit.caload (pc := 19) (v := .int x0) K f113 (by decide) rfl d7_19 ?_
  have f114 := (O0.keep K110 all0)
  refine GoKit.callS (pc := 20) (a0 := a0) (argsL := [(.ref t106), (.int (0 : Int32)), (.int x0)]) (rest := []) K (hw _ (List.mem_of_getElem? (i := 39) rfl)) (hw _ (List.mem_of_getElem? (i := 40) rfl)) (hw _ (List.mem_of_getElem? (i := 23) rfl)) (hw _ (List.mem_of_getElem? (i := 41) rfl)) (by decide) (fun hZ => Con.bk (a0 := a0) (c_putC l Z a0 hw t106 0 4 x0 k107 [.int 0, .int 0, .int 0, .int 0, .int 0, .int 0, .int 0, .int 0] h102 n0 f114 z0 fm B0 A109 rfl (by decide) (by decide) (by omega)) hZ (hw _ (List.mem_of_getElem? (i := 41) rfl)) (hw _ (List.mem_of_getElem? (i := 23) rfl)) (by decide) (Nat.le_of_ble_eq_true rfl)) rfl rfl (lenOf pd_8 rfl) rfl d7_20 (by decide) (by decide) (fun _ _ _ q => ⟨Fw.sub q.2.1 (by omega) (allS (Or.inl (by omega)) all0), q.2.2.1⟩) ?_
  intro v115 h116 L118 q117
  obtain ⟨⟨vm119, rfl, A120⟩, -, K121⟩ := q117
  have sz123 : h102.size ≤ h116.size := K121.1
  have V122 : Arv Z h116 t106 k107 .byte (8 : Int32) [(.int (StrChars.lo8 x0)), (.int (StrChars.hi8 x0)), .int 0, .int 0, .int 0, .int 0, .int 0, .int 0] (.int 0) := A120
  show Go _ _ _ _ _ _ _ _ _ _ _ _ _ _ _ _ _ _ _ _ _ (mkF m 23 #[.val (.ref a1), .val (.int (0 : Int32)), .val (.int (4 : Int32)), .val (.ref t106), .val (.int (0 : Int32))] [])
  refine GoKit.iinc (pc := 23) (y := (1 : Int32)) (l' := #[.val (.ref a1), .val (.int (1 : Int32)), .val (.int (4 : Int32)), .val (.ref t106), .val (.int (0 : Int32))]) K d7_23 rfl (by decide) rfl ?_
  refine GoKit.iinc (pc := 26) (y := (1 : Int32)) (l' := #[.val (.ref a1), .val (.int (1 : Int32)), .val (.int (4 : Int32)), .val (.ref t106), .val (.int (1 : Int32))]) K d7_26 rfl (by decide) rfl ?_
  refine GoKit.goto (pc := 29) (pc' := 8) K d7_29 (by decide) ?_
  refine GoKit.iload (pc := 8) K d7_8 rfl ?_
  refine GoKit.iloadN (pc := 10) K d7_10 rfl ?_
  refine GoKit.icmp_ge_n (pc := 11) K d7_11  (by decide) ?_
  refine GoKit.aloadN (pc := 14) K d7_14 rfl rfl ?_
  refine GoKit.iload (pc := 15) K d7_15 rfl ?_
  refine GoKit.aloadN (pc := 17) K d7_17 rfl rfl ?_
  refine GoKit.iloadN (pc := 18) K d7_18 rfl ?_
  have f124 := (f113.keep K121 (ninS (ane (by omega)) nin0))
  refine GoKit.caload (pc := 19) (v := .int x1) K f124 (by decide) rfl d7_19 ?_
  have f125 := (f114.keep K121 (allS (by omega) all0))
  refine GoKit.callS (pc := 20) (a0 := a0) (argsL := [(.ref t106), (.int (1 : Int32)), (.int x1)]) (rest := []) K (hw _ (List.mem_of_getElem? (i := 39) rfl)) (hw _ (List.mem_of_getElem? (i := 40) rfl)) (hw _ (List.mem_of_getElem? (i := 23) rfl)) (hw _ (List.mem_of_getElem? (i := 41) rfl)) (by decide) (fun hZ => Con.bk (a0 := a0) (c_putC l Z a0 hw t106 1 4 x1 k107 [(.int (StrChars.lo8 x0)), (.int (StrChars.hi8 x0)), .int 0, .int 0, .int 0, .int 0, .int 0, .int 0] h116 n0 f125 z0 fm B0 V122 rfl (by decide) (by decide) (by omega)) hZ (hw _ (List.mem_of_getElem? (i := 41) rfl)) (hw _ (List.mem_of_getElem? (i := 23) rfl)) (by decide) (Nat.le_of_ble_eq_true rfl)) rfl rfl (lenOf pd_8 rfl) rfl d7_20 (by decide) (by decide) (fun _ _ _ q => ⟨Fw.sub q.2.1 (by omega) (allS (Or.inl (by omega)) all0), q.2.2.1⟩) ?_
  intro v126 h127 L129 q128
  obtain ⟨⟨vm130, rfl, A131⟩, -, K132⟩ := q128
  have sz134 : h116.size ≤ h127.size := K132.1
  have V133 : Arv Z h127 t106 k107 .byte (8 : Int32) [(.int (StrChars.lo8 x0)), (.int (StrChars.hi8 x0)), (.int (StrChars.lo8 x1)), (.int (StrChars.hi8 x1)), .int 0, .int 0, .int 0, .int 0] (.int 0) := A131
  show Go _ _ _ _ _ _ _ _ _ _ _ _ _ _ _ _ _ _ _ _ _ (mkF m 23 #[.val (.ref a1), .val (.int (1 : Int32)), .val (.int (4 : Int32)), .val (.ref t106), .val (.int (1 : Int32))] [])
  refine GoKit.iinc (pc := 23) (y := (2 : Int32)) (l' := #[.val (.ref a1), .val (.int (2 : Int32)), .val (.int (4 : Int32)), .val (.ref t106), .val (.int (1 : Int32))]) K d7_23 rfl (by decide) rfl ?_
  refine GoKit.iinc (pc := 26) (y := (2 : Int32)) (l' := #[.val (.ref a1), .val (.int (2 : Int32)), .val (.int (4 : Int32)), .val (.ref t106), .val (.int (2 : Int32))]) K d7_26 rfl (by decide) rfl ?_
  refine GoKit.goto (pc := 29) (pc' := 8) K d7_29 (by decide) ?_
  refine GoKit.iload (pc := 8) K d7_8 rfl ?_
  refine GoKit.iloadN (pc := 10) K d7_10 rfl ?_
  refine GoKit.icmp_ge_n (pc := 11) K d7_11  (by decide) ?_
  refine GoKit.aloadN (pc := 14) K d7_14 rfl rfl ?_
  refine GoKit.iload (pc := 15) K d7_15 rfl ?_
  refine GoKit.aloadN (pc := 17) K d7_17 rfl rfl ?_
  refine GoKit.iloadN (pc := 18) K d7_18 rfl ?_
  have f135 := (f124.keep K132 (ninS (ane (by omega)) nin0))
  refine GoKit.caload (pc := 19) (v := .int x2) K f135 (by decide) rfl d7_19 ?_
  have f136 := (f125.keep K132 (allS (by omega) all0))
  refine GoKit.callS (pc := 20) (a0 := a0) (argsL := [(.ref t106), (.int (2 : Int32)), (.int x2)]) (rest := []) K (hw _ (List.mem_of_getElem? (i := 39) rfl)) (hw _ (List.mem_of_getElem? (i := 40) rfl)) (hw _ (List.mem_of_getElem? (i := 23) rfl)) (hw _ (List.mem_of_getElem? (i := 41) rfl)) (by decide) (fun hZ => Con.bk (a0 := a0) (c_putC l Z a0 hw t106 2 4 x2 k107 [(.int (StrChars.lo8 x0)), (.int (StrChars.hi8 x0)), (.int (StrChars.lo8 x1)), (.int (StrChars.hi8 x1)), .int 0, .int 0, .int 0, .int 0] h127 n0 f136 z0 fm B0 V133 rfl (by decide) (by decide) (by omega)) hZ (hw _ (List.mem_of_getElem? (i := 41) rfl)) (hw _ (List.mem_of_getElem? (i := 23) rfl)) (by decide) (Nat.le_of_ble_eq_true rfl)) rfl rfl (lenOf pd_8 rfl) rfl d7_20 (by decide) (by decide) (fun _ _ _ q => ⟨Fw.sub q.2.1 (by omega) (allS (Or.inl (by omega)) all0), q.2.2.1⟩) ?_
  intro v137 h138 L140 q139
  obtain ⟨⟨vm141, rfl, A142⟩, -, K143⟩ := q139
  have sz145 : h127.size ≤ h138.size := K143.1
  have V144 : Arv Z h138 t106 k107 .byte (8 : Int32) [(.int (StrChars.lo8 x0)), (.int (StrChars.hi8 x0)), (.int (StrChars.lo8 x1)), (.int (StrChars.hi8 x1)), (.int (StrChars.lo8 x2)), (.int (StrChars.hi8 x2)), .int 0, .int 0] (.int 0) := A142
  show Go _ _ _ _ _ _ _ _ _ _ _ _ _ _ _ _ _ _ _ _ _ (mkF m 23 #[.val (.ref a1), .val (.int (2 : Int32)), .val (.int (4 : Int32)), .val (.ref t106), .val (.int (2 : Int32))] [])
  refine GoKit.iinc (pc := 23) (y := (3 : Int32)) (l' := #[.val (.ref a1), .val (.int (3 : Int32)), .val (.int (4 : Int32)), .val (.ref t106), .val (.int (2 : Int32))]) K d7_23 rfl (by decide) rfl ?_
  refine GoKit.iinc (pc := 26) (y := (3 : Int32)) (l' := #[.val (.ref a1), .val (.int (3 : Int32)), .val (.int (4 : Int32)), .val (.ref t106), .val (.int (3 : Int32))]) K d7_26 rfl (by decide) rfl ?_
  refine GoKit.goto (pc := 29) (pc' := 8) K d7_29 (by decide) ?_
  refine GoKit.iload (pc := 8) K d7_8 rfl ?_
  refine GoKit.iloadN (pc := 10) K d7_10 rfl ?_
  refine GoKit.icmp_ge_n (pc := 11) K d7_11  (by decide) ?_
  refine GoKit.aloadN (pc := 14) K d7_14 rfl rfl ?_
  refine GoKit.iload (pc := 15) K d7_15 rfl ?_
  refine GoKit.aloadN (pc := 17) K d7_17 rfl rfl ?_
  refine GoKit.iloadN (pc := 18) K d7_18 rfl ?_
  have f146 := (f135.keep K143 (ninS (ane (by omega)) nin0))
  refine GoKit.caload (pc := 19) (v := .int x3) K f146 (by decide) rfl d7_19 ?_
  have f147 := (f136.keep K143 (allS (by omega) all0))
  refine GoKit.callS (pc := 20) (a0 := a0) (argsL := [(.ref t106), (.int (3 : Int32)), (.int x3)]) (rest := []) K (hw _ (List.mem_of_getElem? (i := 39) rfl)) (hw _ (List.mem_of_getElem? (i := 40) rfl)) (hw _ (List.mem_of_getElem? (i := 23) rfl)) (hw _ (List.mem_of_getElem? (i := 41) rfl)) (by decide) (fun hZ => Con.bk (a0 := a0) (c_putC l Z a0 hw t106 3 4 x3 k107 [(.int (StrChars.lo8 x0)), (.int (StrChars.hi8 x0)), (.int (StrChars.lo8 x1)), (.int (StrChars.hi8 x1)), (.int (StrChars.lo8 x2)), (.int (StrChars.hi8 x2)), .int 0, .int 0] h138 n0 f147 z0 fm B0 V144 rfl (by decide) (by decide) (by omega)) hZ (hw _ (List.mem_of_getElem? (i := 41) rfl)) (hw _ (List.mem_of_getElem? (i := 23) rfl)) (by decide) (Nat.le_of_ble_eq_true rfl)) rfl rfl (lenOf pd_8 rfl) rfl d7_20 (by decide) (by decide) (fun _ _ _ q => ⟨Fw.sub q.2.1 (by omega) (allS (Or.inl (by omega)) all0), q.2.2.1⟩) ?_
  intro v148 h149 L151 q150
  obtain ⟨⟨vm152, rfl, A153⟩, -, K154⟩ := q150
  have sz156 : h138.size ≤ h149.size := K154.1
  have V155 : Arv Z h149 t106 k107 .byte (8 : Int32) [(.int (StrChars.lo8 x0)), (.int (StrChars.hi8 x0)), (.int (StrChars.lo8 x1)), (.int (StrChars.hi8 x1)), (.int (StrChars.lo8 x2)), (.int (StrChars.hi8 x2)), (.int (StrChars.lo8 x3)), (.int (StrChars.hi8 x3))] (.int 0) := A153
  show Go _ _ _ _ _ _ _ _ _ _ _ _ _ _ _ _ _ _ _ _ _ (mkF m 23 #[.val (.ref a1), .val (.int (3 : Int32)), .val (.int (4 : Int32)), .val (.ref t106), .val (.int (3 : Int32))] [])
  refine GoKit.iinc (pc := 23) (y := (4 : Int32)) (l' := #[.val (.ref a1), .val (.int (4 : Int32)), .val (.int (4 : Int32)), .val (.ref t106), .val (.int (3 : Int32))]) K d7_23 rfl (by decide) rfl ?_
  refine GoKit.iinc (pc := 26) (y := (4 : Int32)) (l' := #[.val (.ref a1), .val (.int (4 : Int32)), .val (.int (4 : Int32)), .val (.ref t106), .val (.int (4 : Int32))]) K d7_26 rfl (by decide) rfl ?_
  refine GoKit.goto (pc := 29) (pc' := 8) K d7_29 (by decide) ?_
  refine GoKit.iload (pc := 8) K d7_8 rfl ?_
  refine GoKit.iloadN (pc := 10) K d7_10 rfl ?_
  refine GoKit.icmp_ge_y (pc := 11) (pc' := 32) K d7_11 (by decide)  (by decide) ?_
  refine GoKit.aloadN (pc := 32) K d7_32 rfl rfl ?_
  exact GoKit.retA (pc := 33) K rfl rfl d7_33 (by simp) (by decide) (by decide) (fun _ _ => ⟨t106, _, rfl, by omega, V155⟩)
set_option maxRecDepth 65536 in
set_option maxHeartbeats 40000000 in
theorem c_cm3_4 (l : Launch) (Z : State) (a0 : Array Value) (hw : ∀ d ∈ tables_1, d.before a0 Z = true) (a1 : Nat) (k1 : ClassId) (x0 x1 x2 x3 : Int32) (h0 : Heap) (n0 : Nat) (O0 : Old Z n0 h0) (z0 : Int32) (fm : Value) (B0 : Base Z z0 fm) (A1 : Arv Z h0 a1 k1 .char (4 : Int32) [(.int x0), (.int x1), (.int x2), (.int x3)] (.int 0)) (hx : ∀ c ∈ ([x0, x1, x2, x3] : List Int32), ¬ c < 0 ∧ ¬ (65535 : Int32) < c) :
    Con l (⟨"java/lang/StringUTF16", "compress", "([CII)[B"⟩ : MethodName) jdk_52_method_16_code 6 (some (.array .byte)) [] ({ frames := 3, cells := 2, slots := 12, locals := 40 } : Room) Z #[(.ref a1), (.int (0 : Int32)), (.int (4 : Int32))] h0 [] (fun _ => True) (fun v h _ => ∃ (a : Nat) (k : ClassId) (cd N2 : Int32) (vs : List Value), v = some (.ref a) ∧ h0.size ≤ a ∧ Arv Z h a k .byte N2 vs (.int 0) ∧ StrChars.Road.CodA ([x0, x1, x2, x3] : List Int32) cd N2 vs) false := by
  refine Con.intro pn_0 ?_
  intro p e s m below meth c K hV hsh
  have ef : entryFrame m #[(.ref a1), (.int (0 : Int32)), (.int (4 : Int32))] 6 = (mkF m 0 #[.val (.ref a1), .val (.int (0 : Int32)), .val (.int (4 : Int32)), .unset, .unset, .unset] []) := (by first | (simp [entryFrame, mkF, argsToLocals, cat_ref, cat_int, cat_long, cat_null]; done) | rfl)
  rw [ef]
  have hn0 : n0 ≤ h0.size := by rw [← O0.1]; exact O0.2.1
  have lt1 : a1 < h0.size := A1.lt
  refine GoKit.iloadN (pc := 0) K d5_0 rfl ?_
  refine GoKit.newP (pc := 1) (a0 := a0) (cap := 4) K (hw _ (List.mem_of_getElem? (i := 25) rfl)) d5_1 (by decide) (by decide) (by decide) (by decide) (by decide) ?_
  intro h101 b102 kc103 eq104 E105 A106
  have sz108 : h0.size ≤ h101.size := E105.1
  have lt109 : b102 < h101.size := A106.lt
  have V107 : Arv Z h101 b102 kc103 .byte (4 : Int32) [.int 0, .int 0, .int 0, .int 0] (.int 0) := A106.pad (pad_rep [] _ 4)
  refine GoKit.astoreN (pc := 3) (l' := #[.val (.ref a1), .val (.int (0 : Int32)), .val (.int (4 : Int32)), .val (.ref b102), .unset, .unset]) K d5_3 rfl rfl ?_
  refine GoKit.aloadN (pc := 4) K d5_4 rfl rfl ?_
  refine GoKit.iloadN (pc := 5) K d5_5 rfl ?_
  refine GoKit.aloadN (pc := 6) K d5_6 rfl rfl ?_
  refine GoKit.iconst (pc := 7) (x := (0 : Int32)) K d5_7 rfl ?_
  refine GoKit.iloadN (pc := 8) K d5_8 rfl ?_
  have f110 := (A1.ext E105)
  refine GoKit.callS (pc := 9) (a0 := a0) (argsL := [(.ref a1), (.int (0 : Int32)), (.ref b102), (.int (0 : Int32)), (.int (4 : Int32))]) (rest := []) K (hw _ (List.mem_of_getElem? (i := 26) rfl)) (hw _ (List.mem_of_getElem? (i := 27) rfl)) (hw _ (List.mem_of_getElem? (i := 23) rfl)) (hw _ (List.mem_of_getElem? (i := 28) rfl)) (by decide) (fun hZ => Con.bk (a0 := a0) (c_cmp_4 l Z a0 hw a1 b102 k1 kc103 x0 x1 x2 x3 h101 f110 V107 (by omega)) hZ (hw _ (List.mem_of_getElem? (i := 28) rfl)) (hw _ (List.mem_of_getElem? (i := 23) rfl)) (by decide) (Nat.le_of_ble_eq_true rfl)) rfl rfl (lenOf pd_9 rfl) rfl d5_9 (by decide) (by decide) (fun _ _ _ q => ⟨Fw.sub q.2.1 (by omega) (allS (Or.inl (by omega)) all0), q.2.2.1⟩) ?_
  intro v111 h112 L114 q113
  obtain ⟨⟨vm115, q116⟩, -, K117⟩ := q113
  have sz118 : h101.size ≤ h112.size := K117.1
  rcases q116 with ⟨rfl, hb119, A120⟩ | ⟨rfl, hb119⟩ | ⟨rfl, hb119⟩ | ⟨rfl, hb119⟩ | ⟨rfl, hb119⟩
  ·
    show Go _ _ _ _ _ _ _ _ _ _ _ _ _ _ _ _ _ _ _ _ _ (mkF m 12 #[.val (.ref a1), .val (.int (0 : Int32)), .val (.int (4 : Int32)), .val (.ref b102), .unset, .unset] [(.int (4 : Int32))])
    refine GoKit.istore (pc := 12) (l' := #[.val (.ref a1), .val (.int (0 : Int32)), .val (.int (4 : Int32)), .val (.ref b102), .val (.int (4 : Int32)), .unset]) K d5_12 rfl ?_
    refine GoKit.iload (pc := 14) K d5_14 rfl ?_
    refine GoKit.iloadN (pc := 16) K d5_16 rfl ?_
    refine GoKit.icmp_eq_y (pc := 17) (pc' := 57) K d5_17 (by decide)  (by decide) ?_
    refine GoKit.aloadN (pc := 57) K d5_57 rfl rfl ?_
    exact GoKit.retA (pc := 58) K rfl rfl d5_58 (by simp) (by decide) (by decide) (fun _ _ => ⟨b102, _, _, _, _, rfl, by omega, A120, Or.inl ⟨rfl, rfl, rfl, by intro c hc; simp only [List.mem_cons, List.not_mem_nil, or_false] at hc; rcases hc with rfl | rfl | rfl | rfl <;> simp only [hb119, not_false_eq_true]⟩⟩)
  ·
    show Go _ _ _ _ _ _ _ _ _ _ _ _ _ _ _ _ _ _ _ _ _ (mkF m 12 #[.val (.ref a1), .val (.int (0 : Int32)), .val (.int (4 : Int32)), .val (.ref b102), .unset, .unset] [(.int (0 : Int32))])
    refine GoKit.istore (pc := 12) (l' := #[.val (.ref a1), .val (.int (0 : Int32)), .val (.int (4 : Int32)), .val (.ref b102), .val (.int (0 : Int32)), .unset]) K d5_12 rfl ?_
    refine GoKit.iload (pc := 14) K d5_14 rfl ?_
    refine GoKit.iloadN (pc := 16) K d5_16 rfl ?_
    refine GoKit.icmp_eq_n (pc := 17) K d5_17  (by decide) ?_
    refine GoKit.aloadN (pc := 20) K d5_20 rfl rfl ?_
    refine GoKit.iloadN (pc := 21) K d5_21 rfl ?_
    refine GoKit.iloadN (pc := 22) K d5_22 rfl ?_
    have f121 := ((O0.ext E105).keep K117 (allS (by omega) all0))
    have f122 := (f110.keep K117 (ninS (ane (by omega)) nin0))
    refine GoKit.callS (pc := 23) (a0 := a0) (argsL := [(.ref a1), (.int (0 : Int32)), (.int (4 : Int32))]) (rest := []) K (hw _ (List.mem_of_getElem? (i := 29) rfl)) (hw _ (List.mem_of_getElem? (i := 30) rfl)) (hw _ (List.mem_of_getElem? (i := 23) rfl)) (hw _ (List.mem_of_getElem? (i := 31) rfl)) (by decide) (fun hZ => Con.bk (a0 := a0) (c_tob_4 l Z a0 hw a1 k1 x0 x1 x2 x3 h112 n0 f121 z0 fm B0 f122) hZ (hw _ (List.mem_of_getElem? (i := 31) rfl)) (hw _ (List.mem_of_getElem? (i := 23) rfl)) (by decide) (Nat.le_of_ble_eq_true rfl)) rfl rfl (lenOf pd_10 rfl) rfl d5_23 (by decide) (by decide) (fun _ _ _ q => ⟨Fw.sub q.2.1 (by omega) (fun x hx => nomatch hx), q.2.2.1⟩) ?_
    intro v123 h124 L126 q125
    obtain ⟨⟨vm127, t128, k129, rfl, lt130, A131⟩, -, K132⟩ := q125
    have sz133 : h112.size ≤ h124.size := K132.1
    have lt134 := A131.lt
    show Go _ _ _ _ _ _ _ _ _ _ _ _ _ _ _ _ _ _ _ _ _ (mkF m 26 #[.val (.ref a1), .val (.int (0 : Int32)), .val (.int (4 : Int32)), .val (.ref b102), .val (.int (0 : Int32)), .unset] [(.ref t128)])
    refine GoKit.astore (pc := 26) (l' := #[.val (.ref a1), .val (.int (0 : Int32)), .val (.int (4 : Int32)), .val (.ref b102), .val (.int (0 : Int32)), .val (.ref t128)]) K d5_26 rfl rfl ?_
    refine GoKit.aload (pc := 28) K d5_28 rfl rfl ?_
    refine GoKit.iload (pc := 30) K d5_30 rfl ?_
    have f135 := (f121.keep K132 all0)
    refine GoKit.callS (pc := 32) (a0 := a0) (argsL := [(.ref t128), (.int (0 : Int32))]) (rest := []) K (hw _ (List.mem_of_getElem? (i := 45) rfl)) (hw _ (List.mem_of_getElem? (i := 46) rfl)) (hw _ (List.mem_of_getElem? (i := 23) rfl)) (hw _ (List.mem_of_getElem? (i := 47) rfl)) (by decide) (fun hZ => Con.bk (a0 := a0) (c_getC l Z a0 hw t128 0 4 k129 [(.int (StrChars.lo8 x0)), (.int (StrChars.hi8 x0)), (.int (StrChars.lo8 x1)), (.int (StrChars.hi8 x1)), (.int (StrChars.lo8 x2)), (.int (StrChars.hi8 x2)), (.int (StrChars.lo8 x3)), (.int (StrChars.hi8 x3))] (StrChars.lo8 x0) (StrChars.hi8 x0) h124 n0 f135 z0 fm B0 A131 (by decide) (by decide) rfl rfl) hZ (hw _ (List.mem_of_getElem? (i := 47) rfl)) (hw _ (List.mem_of_getElem? (i := 23) rfl)) (by decide) (Nat.le_of_ble_eq_true rfl)) rfl rfl (lenOf pd_4 rfl) rfl d5_32 (by decide) (by decide) (fun _ _ _ q => ⟨Fw.sub q.2.1 (by omega) (fun x hx => nomatch hx), q.2.2.1⟩) ?_
    intro v136 h137 L139 q138
    obtain ⟨⟨vm140, rfl, e141⟩, -, -⟩ := q138
    replace e141 := e141.symm; subst e141
    show Go _ _ _ _ _ _ _ _ _ _ _ _ _ _ _ _ _ _ _ _ _ (mkF m 35 #[.val (.ref a1), .val (.int (0 : Int32)), .val (.int (4 : Int32)), .val (.ref b102), .val (.int (0 : Int32)), .val (.ref t128)] [(.int (StrChars.pairCh (StrChars.lo8 x0) (StrChars.hi8 x0)))])
    have g142 := hx x0 (by simp)
    rw [StrChars.pair_says g142.1 g142.2]
    show Go _ _ _ _ _ _ _ _ _ _ _ _ _ _ _ _ _ _ _ _ _ (mkF m 35 #[.val (.ref a1), .val (.int (0 : Int32)), .val (.int (4 : Int32)), .val (.ref b102), .val (.int (0 : Int32)), .val (.ref t128)] [(.int x0)])
    refine GoKit.sipush (pc := 35) (x := (255 : Int32)) K d5_35 rfl ?_
    refine GoKit.icmp_gt_y (pc := 38) (pc' := 54) K d5_38 (by decide)  hb119 ?_
    refine GoKit.aload (pc := 54) K d5_54 rfl rfl ?_
    exact GoKit.retA (pc := 56) K rfl rfl d5_56 (by simp) (by decide) (by decide) (fun _ _ => ⟨t128, _, _, _, _, rfl, by omega, A131, Or.inr ⟨rfl, rfl, rfl, x0, by simp, hb119⟩⟩)
  ·
    show Go _ _ _ _ _ _ _ _ _ _ _ _ _ _ _ _ _ _ _ _ _ (mkF m 12 #[.val (.ref a1), .val (.int (0 : Int32)), .val (.int (4 : Int32)), .val (.ref b102), .unset, .unset] [(.int (1 : Int32))])
    refine GoKit.istore (pc := 12) (l' := #[.val (.ref a1), .val (.int (0 : Int32)), .val (.int (4 : Int32)), .val (.ref b102), .val (.int (1 : Int32)), .unset]) K d5_12 rfl ?_
    refine GoKit.iload (pc := 14) K d5_14 rfl ?_
    refine GoKit.iloadN (pc := 16) K d5_16 rfl ?_
    refine GoKit.icmp_eq_n (pc := 17) K d5_17  (by decide) ?_
    refine GoKit.aloadN (pc := 20) K d5_20 rfl rfl ?_
    refine GoKit.iloadN (pc := 21) K d5_21 rfl ?_
    refine GoKit.iloadN (pc := 22) K d5_22 rfl ?_
    have f143 := ((O0.ext E105).keep K117 (allS (by omega) all0))
    have f144 := (f110.keep K117 (ninS (ane (by omega)) nin0))
    refine GoKit.callS (pc := 23) (a0 := a0) (argsL := [(.ref a1), (.int (0 : Int32)), (.int (4 : Int32))]) (rest := []) K (hw _ (List.mem_of_getElem? (i := 29) rfl)) (hw _ (List.mem_of_getElem? (i := 30) rfl)) (hw _ (List.mem_of_getElem? (i := 23) rfl)) (hw _ (List.mem_of_getElem? (i := 31) rfl)) (by decide) (fun hZ => Con.bk (a0 := a0) (c_tob_4 l Z a0 hw a1 k1 x0 x1 x2 x3 h112 n0 f143 z0 fm B0 f144) hZ (hw _ (List.mem_of_getElem? (i := 31) rfl)) (hw _ (List.mem_of_getElem? (i := 23) rfl)) (by decide) (Nat.le_of_ble_eq_true rfl)) rfl rfl (lenOf pd_10 rfl) rfl d5_23 (by decide) (by decide) (fun _ _ _ q => ⟨Fw.sub q.2.1 (by omega) (fun x hx => nomatch hx), q.2.2.1⟩) ?_
    intro v145 h146 L148 q147
    obtain ⟨⟨vm149, t150, k151, rfl, lt152, A153⟩, -, K154⟩ := q147
    have sz155 : h112.size ≤ h146.size := K154.1
    have lt156 := A153.lt
    show Go _ _ _ _ _ _ _ _ _ _ _ _ _ _ _ _ _ _ _ _ _ (mkF m 26 #[.val (.ref a1), .val (.int (0 : Int32)), .val (.int (4 : Int32)), .val (.ref b102), .val (.int (1 : Int32)), .unset] [(.ref t150)])
    refine GoKit.astore (pc := 26) (l' := #[.val (.ref a1), .val (.int (0 : Int32)), .val (.int (4 : Int32)), .val (.ref b102), .val (.int (1 : Int32)), .val (.ref t150)]) K d5_26 rfl rfl ?_
    refine GoKit.aload (pc := 28) K d5_28 rfl rfl ?_
    refine GoKit.iload (pc := 30) K d5_30 rfl ?_
    have f157 := (f143.keep K154 all0)
    refine GoKit.callS (pc := 32) (a0 := a0) (argsL := [(.ref t150), (.int (1 : Int32))]) (rest := []) K (hw _ (List.mem_of_getElem? (i := 45) rfl)) (hw _ (List.mem_of_getElem? (i := 46) rfl)) (hw _ (List.mem_of_getElem? (i := 23) rfl)) (hw _ (List.mem_of_getElem? (i := 47) rfl)) (by decide) (fun hZ => Con.bk (a0 := a0) (c_getC l Z a0 hw t150 1 4 k151 [(.int (StrChars.lo8 x0)), (.int (StrChars.hi8 x0)), (.int (StrChars.lo8 x1)), (.int (StrChars.hi8 x1)), (.int (StrChars.lo8 x2)), (.int (StrChars.hi8 x2)), (.int (StrChars.lo8 x3)), (.int (StrChars.hi8 x3))] (StrChars.lo8 x1) (StrChars.hi8 x1) h146 n0 f157 z0 fm B0 A153 (by decide) (by decide) rfl rfl) hZ (hw _ (List.mem_of_getElem? (i := 47) rfl)) (hw _ (List.mem_of_getElem? (i := 23) rfl)) (by decide) (Nat.le_of_ble_eq_true rfl)) rfl rfl (lenOf pd_4 rfl) rfl d5_32 (by decide) (by decide) (fun _ _ _ q => ⟨Fw.sub q.2.1 (by omega) (fun x hx => nomatch hx), q.2.2.1⟩) ?_
    intro v158 h159 L161 q160
    obtain ⟨⟨vm162, rfl, e163⟩, -, -⟩ := q160
    replace e163 := e163.symm; subst e163
    show Go _ _ _ _ _ _ _ _ _ _ _ _ _ _ _ _ _ _ _ _ _ (mkF m 35 #[.val (.ref a1), .val (.int (0 : Int32)), .val (.int (4 : Int32)), .val (.ref b102), .val (.int (1 : Int32)), .val (.ref t150)] [(.int (StrChars.pairCh (StrChars.lo8 x1) (StrChars.hi8 x1)))])
    have g164 := hx x1 (by simp)
    rw [StrChars.pair_says g164.1 g164.2]
    show Go _ _ _ _ _ _ _ _ _ _ _ _ _ _ _ _ _ _ _ _ _ (mkF m 35 #[.val (.ref a1), .val (.int (0 : Int32)), .val (.int (4 : Int32)), .val (.ref b102), .val (.int (1 : Int32)), .val (.ref t150)] [(.int x1)])
    refine GoKit.sipush (pc := 35) (x := (255 : Int32)) K d5_35 rfl ?_
    refine GoKit.icmp_gt_y (pc := 38) (pc' := 54) K d5_38 (by decide)  hb119 ?_
    refine GoKit.aload (pc := 54) K d5_54 rfl rfl ?_
    exact GoKit.retA (pc := 56) K rfl rfl d5_56 (by simp) (by decide) (by decide) (fun _ _ => ⟨t150, _, _, _, _, rfl, by omega, A153, Or.inr ⟨rfl, rfl, rfl, x1, by simp, hb119⟩⟩)
  ·
    show Go _ _ _ _ _ _ _ _ _ _ _ _ _ _ _ _ _ _ _ _ _ (mkF m 12 #[.val (.ref a1), .val (.int (0 : Int32)), .val (.int (4 : Int32)), .val (.ref b102), .unset, .unset] [(.int (2 : Int32))])
    refine GoKit.istore (pc := 12) (l' := #[.val (.ref a1), .val (.int (0 : Int32)), .val (.int (4 : Int32)), .val (.ref b102), .val (.int (2 : Int32)), .unset]) K d5_12 rfl ?_
    refine GoKit.iload (pc := 14) K d5_14 rfl ?_
    refine GoKit.iloadN (pc := 16) K d5_16 rfl ?_
    refine GoKit.icmp_eq_n (pc := 17) K d5_17  (by decide) ?_
    refine GoKit.aloadN (pc := 20) K d5_20 rfl rfl ?_
    refine GoKit.iloadN (pc := 21) K d5_21 rfl ?_
    refine GoKit.iloadN (pc := 22) K d5_22 rfl ?_
    have f165 := ((O0.ext E105).keep K117 (allS (by omega) all0))
    have f166 := (f110.keep K117 (ninS (ane (by omega)) nin0))
    refine GoKit.callS (pc := 23) (a0 := a0) (argsL := [(.ref a1), (.int (0 : Int32)), (.int (4 : Int32))]) (rest := []) K (hw _ (List.mem_of_getElem? (i := 29) rfl)) (hw _ (List.mem_of_getElem? (i := 30) rfl)) (hw _ (List.mem_of_getElem? (i := 23) rfl)) (hw _ (List.mem_of_getElem? (i := 31) rfl)) (by decide) (fun hZ => Con.bk (a0 := a0) (c_tob_4 l Z a0 hw a1 k1 x0 x1 x2 x3 h112 n0 f165 z0 fm B0 f166) hZ (hw _ (List.mem_of_getElem? (i := 31) rfl)) (hw _ (List.mem_of_getElem? (i := 23) rfl)) (by decide) (Nat.le_of_ble_eq_true rfl)) rfl rfl (lenOf pd_10 rfl) rfl d5_23 (by decide) (by decide) (fun _ _ _ q => ⟨Fw.sub q.2.1 (by omega) (fun x hx => nomatch hx), q.2.2.1⟩) ?_
    intro v167 h168 L170 q169
    obtain ⟨⟨vm171, t172, k173, rfl, lt174, A175⟩, -, K176⟩ := q169
    have sz177 : h112.size ≤ h168.size := K176.1
    have lt178 := A175.lt
    show Go _ _ _ _ _ _ _ _ _ _ _ _ _ _ _ _ _ _ _ _ _ (mkF m 26 #[.val (.ref a1), .val (.int (0 : Int32)), .val (.int (4 : Int32)), .val (.ref b102), .val (.int (2 : Int32)), .unset] [(.ref t172)])
    refine GoKit.astore (pc := 26) (l' := #[.val (.ref a1), .val (.int (0 : Int32)), .val (.int (4 : Int32)), .val (.ref b102), .val (.int (2 : Int32)), .val (.ref t172)]) K d5_26 rfl rfl ?_
    refine GoKit.aload (pc := 28) K d5_28 rfl rfl ?_
    refine GoKit.iload (pc := 30) K d5_30 rfl ?_
    have f179 := (f165.keep K176 all0)
    refine GoKit.callS (pc := 32) (a0 := a0) (argsL := [(.ref t172), (.int (2 : Int32))]) (rest := []) K (hw _ (List.mem_of_getElem? (i := 45) rfl)) (hw _ (List.mem_of_getElem? (i := 46) rfl)) (hw _ (List.mem_of_getElem? (i := 23) rfl)) (hw _ (List.mem_of_getElem? (i := 47) rfl)) (by decide) (fun hZ => Con.bk (a0 := a0) (c_getC l Z a0 hw t172 2 4 k173 [(.int (StrChars.lo8 x0)), (.int (StrChars.hi8 x0)), (.int (StrChars.lo8 x1)), (.int (StrChars.hi8 x1)), (.int (StrChars.lo8 x2)), (.int (StrChars.hi8 x2)), (.int (StrChars.lo8 x3)), (.int (StrChars.hi8 x3))] (StrChars.lo8 x2) (StrChars.hi8 x2) h168 n0 f179 z0 fm B0 A175 (by decide) (by decide) rfl rfl) hZ (hw _ (List.mem_of_getElem? (i := 47) rfl)) (hw _ (List.mem_of_getElem? (i := 23) rfl)) (by decide) (Nat.le_of_ble_eq_true rfl)) rfl rfl (lenOf pd_4 rfl) rfl d5_32 (by decide) (by decide) (fun _ _ _ q => ⟨Fw.sub q.2.1 (by omega) (fun x hx => nomatch hx), q.2.2.1⟩) ?_
    intro v180 h181 L183 q182
    obtain ⟨⟨vm184, rfl, e185⟩, -, -⟩ := q182
    replace e185 := e185.symm; subst e185
    show Go _ _ _ _ _ _ _ _ _ _ _ _ _ _ _ _ _ _ _ _ _ (mkF m 35 #[.val (.ref a1), .val (.int (0 : Int32)), .val (.int (4 : Int32)), .val (.ref b102), .val (.int (2 : Int32)), .val (.ref t172)] [(.int (StrChars.pairCh (StrChars.lo8 x2) (StrChars.hi8 x2)))])
    have g186 := hx x2 (by simp)
    rw [StrChars.pair_says g186.1 g186.2]
    show Go _ _ _ _ _ _ _ _ _ _ _ _ _ _ _ _ _ _ _ _ _ (mkF m 35 #[.val (.ref a1), .val (.int (0 : Int32)), .val (.int (4 : Int32)), .val (.ref b102), .val (.int (2 : Int32)), .val (.ref t172)] [(.int x2)])
    refine GoKit.sipush (pc := 35) (x := (255 : Int32)) K d5_35 rfl ?_
    refine GoKit.icmp_gt_y (pc := 38) (pc' := 54) K d5_38 (by decide)  hb119 ?_
    refine GoKit.aload (pc := 54) K d5_54 rfl rfl ?_
    exact GoKit.retA (pc := 56) K rfl rfl d5_56 (by simp) (by decide) (by decide) (fun _ _ => ⟨t172, _, _, _, _, rfl, by omega, A175, Or.inr ⟨rfl, rfl, rfl, x2, by simp, hb119⟩⟩)
  ·
    show Go _ _ _ _ _ _ _ _ _ _ _ _ _ _ _ _ _ _ _ _ _ (mkF m 12 #[.val (.ref a1), .val (.int (0 : Int32)), .val (.int (4 : Int32)), .val (.ref b102), .unset, .unset] [(.int (3 : Int32))])
    refine GoKit.istore (pc := 12) (l' := #[.val (.ref a1), .val (.int (0 : Int32)), .val (.int (4 : Int32)), .val (.ref b102), .val (.int (3 : Int32)), .unset]) K d5_12 rfl ?_
    refine GoKit.iload (pc := 14) K d5_14 rfl ?_
    refine GoKit.iloadN (pc := 16) K d5_16 rfl ?_
    refine GoKit.icmp_eq_n (pc := 17) K d5_17  (by decide) ?_
    refine GoKit.aloadN (pc := 20) K d5_20 rfl rfl ?_
    refine GoKit.iloadN (pc := 21) K d5_21 rfl ?_
    refine GoKit.iloadN (pc := 22) K d5_22 rfl ?_
    have f187 := ((O0.ext E105).keep K117 (allS (by omega) all0))
    have f188 := (f110.keep K117 (ninS (ane (by omega)) nin0))
    refine GoKit.callS (pc := 23) (a0 := a0) (argsL := [(.ref a1), (.int (0 : Int32)), (.int (4 : Int32))]) (rest := []) K (hw _ (List.mem_of_getElem? (i := 29) rfl)) (hw _ (List.mem_of_getElem? (i := 30) rfl)) (hw _ (List.mem_of_getElem? (i := 23) rfl)) (hw _ (List.mem_of_getElem? (i := 31) rfl)) (by decide) (fun hZ => Con.bk (a0 := a0) (c_tob_4 l Z a0 hw a1 k1 x0 x1 x2 x3 h112 n0 f187 z0 fm B0 f188) hZ (hw _ (List.mem_of_getElem? (i := 31) rfl)) (hw _ (List.mem_of_getElem? (i := 23) rfl)) (by decide) (Nat.le_of_ble_eq_true rfl)) rfl rfl (lenOf pd_10 rfl) rfl d5_23 (by decide) (by decide) (fun _ _ _ q => ⟨Fw.sub q.2.1 (by omega) (fun x hx => nomatch hx), q.2.2.1⟩) ?_
    intro v189 h190 L192 q191
    obtain ⟨⟨vm193, t194, k195, rfl, lt196, A197⟩, -, K198⟩ := q191
    have sz199 : h112.size ≤ h190.size := K198.1
    have lt200 := A197.lt
    show Go _ _ _ _ _ _ _ _ _ _ _ _ _ _ _ _ _ _ _ _ _ (mkF m 26 #[.val (.ref a1), .val (.int (0 : Int32)), .val (.int (4 : Int32)), .val (.ref b102), .val (.int (3 : Int32)), .unset] [(.ref t194)])
    refine GoKit.astore (pc := 26) (l' := #[.val (.ref a1), .val (.int (0 : Int32)), .val (.int (4 : Int32)), .val (.ref b102), .val (.int (3 : Int32)), .val (.ref t194)]) K d5_26 rfl rfl ?_
    refine GoKit.aload (pc := 28) K d5_28 rfl rfl ?_
    refine GoKit.iload (pc := 30) K d5_30 rfl ?_
    have f201 := (f187.keep K198 all0)
    refine GoKit.callS (pc := 32) (a0 := a0) (argsL := [(.ref t194), (.int (3 : Int32))]) (rest := []) K (hw _ (List.mem_of_getElem? (i := 45) rfl)) (hw _ (List.mem_of_getElem? (i := 46) rfl)) (hw _ (List.mem_of_getElem? (i := 23) rfl)) (hw _ (List.mem_of_getElem? (i := 47) rfl)) (by decide) (fun hZ => Con.bk (a0 := a0) (c_getC l Z a0 hw t194 3 4 k195 [(.int (StrChars.lo8 x0)), (.int (StrChars.hi8 x0)), (.int (StrChars.lo8 x1)), (.int (StrChars.hi8 x1)), (.int (StrChars.lo8 x2)), (.int (StrChars.hi8 x2)), (.int (StrChars.lo8 x3)), (.int (StrChars.hi8 x3))] (StrChars.lo8 x3) (StrChars.hi8 x3) h190 n0 f201 z0 fm B0 A197 (by decide) (by decide) rfl rfl) hZ (hw _ (List.mem_of_getElem? (i := 47) rfl)) (hw _ (List.mem_of_getElem? (i := 23) rfl)) (by decide) (Nat.le_of_ble_eq_true rfl)) rfl rfl (lenOf pd_4 rfl) rfl d5_32 (by decide) (by decide) (fun _ _ _ q => ⟨Fw.sub q.2.1 (by omega) (fun x hx => nomatch hx), q.2.2.1⟩) ?_
    intro v202 h203 L205 q204
    obtain ⟨⟨vm206, rfl, e207⟩, -, -⟩ := q204
    replace e207 := e207.symm; subst e207
    show Go _ _ _ _ _ _ _ _ _ _ _ _ _ _ _ _ _ _ _ _ _ (mkF m 35 #[.val (.ref a1), .val (.int (0 : Int32)), .val (.int (4 : Int32)), .val (.ref b102), .val (.int (3 : Int32)), .val (.ref t194)] [(.int (StrChars.pairCh (StrChars.lo8 x3) (StrChars.hi8 x3)))])
    have g208 := hx x3 (by simp)
    rw [StrChars.pair_says g208.1 g208.2]
    show Go _ _ _ _ _ _ _ _ _ _ _ _ _ _ _ _ _ _ _ _ _ (mkF m 35 #[.val (.ref a1), .val (.int (0 : Int32)), .val (.int (4 : Int32)), .val (.ref b102), .val (.int (3 : Int32)), .val (.ref t194)] [(.int x3)])
    refine GoKit.sipush (pc := 35) (x := (255 : Int32)) K d5_35 rfl ?_
    refine GoKit.icmp_gt_y (pc := 38) (pc' := 54) K d5_38 (by decide)  hb119 ?_
    refine GoKit.aload (pc := 54) K d5_54 rfl rfl ?_
    exact GoKit.retA (pc := 56) K rfl rfl d5_56 (by simp) (by decide) (by decide) (fun _ _ => ⟨t194, _, _, _, _, rfl, by omega, A197, Or.inr ⟨rfl, rfl, rfl, x3, by simp, hb119⟩⟩)
set_option maxRecDepth 65536 in
set_option maxHeartbeats 40000000 in
theorem c_cod (l : Launch) (Z : State) (a0 : Array Value) (hw : ∀ d ∈ tables_1, d.before a0 Z = true) (a1 : Nat) (p1 cd1 z1 : Int32) (k1 : ClassId) (vs1 : List Value) (h0 : Heap) (A1 : Arv Z h0 a1 k1 .byte z1 vs1 (.int 0)) (hcd : (XT.ushr (p1 - z1) (31 : Int32)).toInt8.toInt32 = cd1) :
    Con l (⟨"java/lang/StringUTF16", "coderFromArrayLen", "([BI)B"⟩ : MethodName) jdk_52_method_15_code 2 (some .byte) [] ({ frames := 0, cells := 0, slots := 0, locals := 0 } : Room) Z #[(.ref a1), (.int p1)] h0 [] (fun _ => True) (fun v h _ => v = some (.int cd1) ∧ h = h0) false := by
  refine Con.intro pn_0 ?_
  intro p e s m below meth c K hV hsh
  have ef : entryFrame m #[(.ref a1), (.int p1)] 2 = (mkF m 0 #[.val (.ref a1), .val (.int p1)] []) := (by first | (simp [entryFrame, mkF, argsToLocals, cat_ref, cat_int, cat_long, cat_null]; done) | rfl)
  rw [ef]
  refine GoKit.iloadN (pc := 0) K d12_0 rfl ?_
  refine GoKit.aloadN (pc := 1) K d12_1 rfl rfl ?_
  refine GoKit.arrlen (pc := 2) K A1 d12_2 ?_
  refine GoKit.isub (pc := 3) K d12_3 ?_
  refine GoKit.bipush (pc := 4) (x := (31 : Int32)) K d12_4 rfl ?_
  refine GoKit.iushr (pc := 6) K d12_6 ?_
  refine GoKit.i2b (pc := 7) K d12_7 ?_
  exact GoKit.retZ (pc := 8) K (by simp) (z' := cd1) (by rw [nar_i2b]; exact hcd) d12_8 (by simp) (by decide) (by decide) (fun _ _ => ⟨rfl, rfl⟩)
set_option maxRecDepth 65536 in
set_option maxHeartbeats 40000000 in
theorem c_in3_4 (l : Launch) (Z : State) (a0 : Array Value) (hw : ∀ d ∈ tables_1, d.before a0 Z = true) (a1 a2 : Nat) (k1 : ClassId) (x0 x1 x2 x3 : Int32) (h0 : Heap) (n0 : Nat) (O0 : Old Z n0 h0) (z0 : Int32) (fm : Value) (B0 : Base Z z0 fm) (E1 : Exa Z h0 a1 "java/lang/String") (F1 : Fld Z h0 a1 "java/lang/String" "value" "[B" .null) (F2 : Fld Z h0 a1 "java/lang/String" "coder" "B" (.int 0)) (ha1 : n0 ≤ a1) (A1 : Arv Z h0 a2 k1 .char (4 : Int32) [(.int x0), (.int x1), (.int x2), (.int x3)] (.int 0)) (hx : ∀ c ∈ ([x0, x1, x2, x3] : List Int32), ¬ c < 0 ∧ ¬ (65535 : Int32) < c) (h12 : ¬ a1 = a2) :
    Con l (⟨"java/lang/String", "<init>", "([CIILjava/lang/Void;)V"⟩ : MethodName) jdk_42_method_149_code 6 none [] ({ frames := 4, cells := 2, slots := 12, locals := 57 } : Room) Z #[(.ref a1), (.ref a2), (.int (0 : Int32)), (.int (4 : Int32)), .null] h0 [a1] (fun _ => True) (fun v h _ => v = none ∧ ∃ t : Nat, h0.size ≤ t ∧ Str Z h a1 t ([x0, x1, x2, x3] : List Int32)) false := by
  refine Con.intro pn_2 ?_
  intro p e s m below meth c K hV hsh
  have ef : entryFrame m #[(.ref a1), (.ref a2), (.int (0 : Int32)), (.int (4 : Int32)), .null] 6 = (mkF m 0 #[.val (.ref a1), .val (.ref a2), .val (.int (0 : Int32)), .val (.int (4 : Int32)), .val .null, .unset] []) := (by first | (simp [entryFrame, mkF, argsToLocals, cat_ref, cat_int, cat_long, cat_null]; done) | rfl)
  rw [ef]
  have hn0 : n0 ≤ h0.size := by rw [← O0.1]; exact O0.2.1
  have lt1 : a1 < h0.size := E1.lt; have lt2 : a2 < h0.size := A1.lt
  refine GoKit.aloadN (pc := 0) K d3_0 rfl rfl ?_
  refine GoKit.initO (pc := 1) (a0 := a0) K (hw _ (List.mem_of_getElem? (i := 17) rfl)) (hw _ (List.mem_of_getElem? (i := 18) rfl)) (hw _ (List.mem_of_getElem? (i := 19) rfl)) rfl d3_1 (by decide) (Nat.le_of_ble_eq_true rfl) ?_
  refine GoKit.iloadN (pc := 4) K d3_4 rfl ?_
  refine GoKit.if_ne_y (pc := 5) (pc' := 27) K d3_5 (by decide)  (by decide) ?_
  refine GoKit.getS (pc := 27) (a0 := a0) K (hw _ (List.mem_of_getElem? (i := 20) rfl)) Via.refl (B0.s0.ext O0.2) d3_27 ?_
  refine GoKit.if_eq_n (pc := 30) K d3_30  B0.hz ?_
  refine GoKit.aloadN (pc := 33) K d3_33 rfl rfl ?_
  refine GoKit.iloadN (pc := 34) K d3_34 rfl ?_
  refine GoKit.iloadN (pc := 35) K d3_35 rfl ?_
  refine GoKit.callS (pc := 36) (a0 := a0) (argsL := [(.ref a2), (.int (0 : Int32)), (.int (4 : Int32))]) (rest := []) K (hw _ (List.mem_of_getElem? (i := 21) rfl)) (hw _ (List.mem_of_getElem? (i := 22) rfl)) (hw _ (List.mem_of_getElem? (i := 23) rfl)) (hw _ (List.mem_of_getElem? (i := 24) rfl)) (by decide) (fun hZ => Con.bk (a0 := a0) (c_cm3_4 l Z a0 hw a2 k1 x0 x1 x2 x3 h0 n0 O0 z0 fm B0 A1 hx) hZ (hw _ (List.mem_of_getElem? (i := 24) rfl)) (hw _ (List.mem_of_getElem? (i := 23) rfl)) (by decide) (Nat.le_of_ble_eq_true rfl)) rfl rfl (lenOf pd_10 rfl) rfl d3_36 (by decide) (by decide) (fun _ _ _ q => ⟨Fw.sub q.2.1 (by omega) (fun x hx => nomatch hx), q.2.2.1⟩) ?_
  intro v101 h102 L104 q103
  obtain ⟨⟨vm105, t106, k107, cd108, n109, vs110, rfl, lt111, A112, hc113⟩, -, K114⟩ := q103
  have sz115 : h0.size ≤ h102.size := K114.1
  have lt116 := A112.lt
  show Go _ _ _ _ _ _ _ _ _ _ _ _ _ _ _ _ _ _ _ _ _ (mkF m 39 #[.val (.ref a1), .val (.ref a2), .val (.int (0 : Int32)), .val (.int (4 : Int32)), .val .null, .unset] [(.ref t106)])
  refine GoKit.astore (pc := 39) (l' := #[.val (.ref a1), .val (.ref a2), .val (.int (0 : Int32)), .val (.int (4 : Int32)), .val .null, .val (.ref t106)]) K d3_39 rfl rfl ?_
  refine GoKit.aloadN (pc := 41) K d3_41 rfl rfl ?_
  refine GoKit.aload (pc := 42) K d3_42 rfl rfl ?_
  refine GoKit.iloadN (pc := 44) K d3_44 rfl ?_
  refine GoKit.callS (pc := 45) (a0 := a0) (argsL := [(.ref t106), (.int (4 : Int32))]) (rest := [(.ref a1)]) K (hw _ (List.mem_of_getElem? (i := 48) rfl)) (hw _ (List.mem_of_getElem? (i := 49) rfl)) (hw _ (List.mem_of_getElem? (i := 23) rfl)) (hw _ (List.mem_of_getElem? (i := 50) rfl)) (by decide) (fun hZ => Con.bk (a0 := a0) (c_cod l Z a0 hw t106 (4 : Int32) cd108 n109 k107 vs110 h102 A112 (by rcases hc113 with ⟨rfl, rfl, -⟩ | ⟨rfl, rfl, -⟩ <;> first | exact (by decide : (XT.ushr ((4 : Int32) - Int32.ofNat 4) (31 : Int32)).toInt8.toInt32 = 0) | exact (by decide : (XT.ushr ((4 : Int32) - Int32.ofNat 8) (31 : Int32)).toInt8.toInt32 = 1))) hZ (hw _ (List.mem_of_getElem? (i := 50) rfl)) (hw _ (List.mem_of_getElem? (i := 23) rfl)) (by decide) (Nat.le_of_ble_eq_true rfl)) rfl rfl (lenOf pd_11 rfl) rfl d3_45 (by decide) (by decide) (fun _ _ _ q => ⟨Fw.sub q.2.1 (by omega) (fun x hx => nomatch hx), q.2.2.1⟩) ?_
  intro v117 h118 L120 q119
  obtain ⟨⟨vm121, rfl, e122⟩, -, -⟩ := q119
  replace e122 := e122.symm; subst e122
  show Go _ _ _ _ _ _ _ _ _ _ _ _ _ _ _ _ _ _ _ _ _ (mkF m 48 #[.val (.ref a1), .val (.ref a2), .val (.int (0 : Int32)), .val (.int (4 : Int32)), .val .null, .val (.ref t106)] [(.int cd108), (.ref a1)])
  refine Go.allow a1 ?_
  have f123 := (F2.keep K114 nin0)
  have f124 := (E1.keep K114)
  refine GoKit.putF (pc := 48) (a0 := a0) (ty := .byte) K (hw _ (List.mem_of_getElem? (i := 51) rfl)) Via.refl f123 f124 (Or.inr ⟨(hw _ (List.mem_of_getElem? (i := 52) rfl)), rfl, rfl⟩) (hw _ (List.mem_of_getElem? (i := 8) rfl)) (by decide +kernel) (cod_fit hc113).1 (cod_fit hc113).2 (Or.inr (by simp)) d3_48 ?_
  intro h125 W126 F127
  have sz128 : h102.size ≤ h125.size := Nat.le_of_eq W126.size.symm
  refine GoKit.aloadN (pc := 51) K d3_51 rfl rfl ?_
  refine GoKit.aload (pc := 52) K d3_52 rfl rfl ?_
  have f129 := ((F1.keep K114 nin0).other W126 (Or.inr (slot_ne (a0 := a0) (t := (.array .byte)) (t' := .byte) (Or.inr (hw _ (List.mem_of_getElem? (i := 54) rfl))) (Or.inr (hw _ (List.mem_of_getElem? (i := 52) rfl))) (by decide) (by decide +kernel) (by decide +kernel))))
  have f130 := (f124.wr W126)
  refine GoKit.putF (pc := 54) (a0 := a0) (ty := (.array .byte)) K (hw _ (List.mem_of_getElem? (i := 53) rfl)) Via.refl f129 f130 (Or.inr ⟨(hw _ (List.mem_of_getElem? (i := 54) rfl)), rfl, rfl⟩) (hw _ (List.mem_of_getElem? (i := 8) rfl)) (by decide +kernel) rfl rfl (Or.inr (by simp)) d3_54 ?_
  intro h131 W132 F133
  have sz134 : h125.size ≤ h131.size := Nat.le_of_eq W132.size.symm
  have f135 := (f130.wr W132)
  have f136 := (F127.other W132 (Or.inr (slot_ne (a0 := a0) (t := .byte) (t' := (.array .byte)) (Or.inr (hw _ (List.mem_of_getElem? (i := 52) rfl))) (Or.inr (hw _ (List.mem_of_getElem? (i := 54) rfl))) (by decide) (by decide +kernel) (by decide +kernel))))
  have f137 := ((A112.other W126 (ane (by omega))).other W132 (ane (by omega)))
  exact GoKit.retV (pc := 57) K d3_57 (by simp) (by decide) (by decide) (fun _ _ => ⟨rfl, t106, by omega, k107, cd108, n109, vs110, f135, F133, f136, f137, hc113, hx, (by decide : 4 ≤ 4000)⟩)
set_option maxRecDepth 65536 in
set_option maxHeartbeats 40000000 in
theorem c_in1_4 (l : Launch) (Z : State) (a0 : Array Value) (hw : ∀ d ∈ tables_1, d.before a0 Z = true) (a1 a2 : Nat) (k1 : ClassId) (x0 x1 x2 x3 : Int32) (h0 : Heap) (n0 : Nat) (O0 : Old Z n0 h0) (z0 : Int32) (fm : Value) (B0 : Base Z z0 fm) (E1 : Exa Z h0 a1 "java/lang/String") (F1 : Fld Z h0 a1 "java/lang/String" "value" "[B" .null) (F2 : Fld Z h0 a1 "java/lang/String" "coder" "B" (.int 0)) (ha1 : n0 ≤ a1) (A1 : Arv Z h0 a2 k1 .char (4 : Int32) [(.int x0), (.int x1), (.int x2), (.int x3)] (.int 0)) (hx : ∀ c ∈ ([x0, x1, x2, x3] : List Int32), ¬ c < 0 ∧ ¬ (65535 : Int32) < c) (h12 : ¬ a1 = a2) :
    Con l (⟨"java/lang/String", "<init>", "([C)V"⟩ : MethodName) jdk_42_method_3_code 2 none [] ({ frames := 5, cells := 2, slots := 12, locals := 74 } : Room) Z #[(.ref a1), (.ref a2)] h0 [a1] (fun _ => True) (fun v h _ => v = none ∧ ∃ t : Nat, h0.size ≤ t ∧ Str Z h a1 t ([x0, x1, x2, x3] : List Int32)) false := by
  refine Con.intro pn_2 ?_
  intro p e s m below meth c K hV hsh
  have ef : entryFrame m #[(.ref a1), (.ref a2)] 2 = (mkF m 0 #[.val (.ref a1), .val (.ref a2)] []) := (by first | (simp [entryFrame, mkF, argsToLocals, cat_ref, cat_int, cat_long, cat_null]; done) | rfl)
  rw [ef]
  have hn0 : n0 ≤ h0.size := by rw [← O0.1]; exact O0.2.1
  have lt1 : a1 < h0.size := E1.lt; have lt2 : a2 < h0.size := A1.lt
  refine GoKit.aloadN (pc := 0) K d2_0 rfl rfl ?_
  refine GoKit.aloadN (pc := 1) K d2_1 rfl rfl ?_
  refine GoKit.iconst (pc := 2) (x := (0 : Int32)) K d2_2 rfl ?_
  refine GoKit.aloadN (pc := 3) K d2_3 rfl rfl ?_
  refine GoKit.arrlen (pc := 4) K A1 d2_4 ?_
  refine GoKit.aconstNull (pc := 5) K d2_5 ?_
  refine Go.allow a1 ?_
  refine GoKit.callI (pc := 6) (a0 := a0) (argsL := [(.ref a2), (.int (0 : Int32)), (.int (4 : Int32)), .null]) (rest := []) K rfl (hw _ (List.mem_of_getElem? (i := 13) rfl)) (hw _ (List.mem_of_getElem? (i := 14) rfl)) (hw _ (List.mem_of_getElem? (i := 16) rfl)) (by decide) (fun hZ => Con.bk (a0 := a0) (c_in3_4 l Z a0 hw a1 a2 k1 x0 x1 x2 x3 h0 n0 O0 z0 fm B0 E1 F1 F2 ha1 A1 hx h12) hZ (hw _ (List.mem_of_getElem? (i := 16) rfl)) (hw _ (List.mem_of_getElem? (i := 9) rfl)) (by decide) (Nat.le_of_ble_eq_true rfl)) rfl rfl (lenOf pd_12 rfl) rfl d2_6 (by decide) (by decide) (fun _ _ _ q => ⟨Fw.sub q.2.1 (by omega) (allS (Or.inr (by simp)) all0), q.2.2.1⟩) ?_
  intro v101 h102 L104 q103
  obtain ⟨⟨vm105, rfl, t106, lt107, T108⟩, -, K109⟩ := q103
  have sz110 : h0.size ≤ h102.size := K109.1
  show Go _ _ _ _ _ _ _ _ _ _ _ _ _ _ _ _ _ _ _ _ _ (mkF m 9 #[.val (.ref a1), .val (.ref a2)] [])
  exact GoKit.retV (pc := 9) K d2_9 (by simp) (by decide) (by decide) (fun _ _ => ⟨rfl, t106, by omega, T108⟩)
set_option maxRecDepth 65536 in
set_option maxHeartbeats 40000000 in
theorem c_draw (l : Launch) (Z : State) (a0 : Array Value) (hw : ∀ d ∈ tables_1, d.before a0 Z = true) (p1 : Int32) (h0 : Heap) :
    Con l (⟨"com/example/neat_mapper/neatmapper/jpql/SourcePositionOfPinLaw", "draw", "(I)C"⟩ : MethodName) method_2_code 2 (some .char) [] ({ frames := 0, cells := 0, slots := 0, locals := 0 } : Room) Z #[(.int p1)] h0 [] (fun _ => True) (fun v h _ => v = some (.int (dF p1)) ∧ h = h0) false := by
  refine Con.intro pn_4 ?_
  intro p e s m below meth c K hV hsh
  have ef : entryFrame m #[(.int p1)] 2 = (mkF m 0 #[.val (.int p1), .unset] []) := (by first | (simp [entryFrame, mkF, argsToLocals, cat_ref, cat_int, cat_long, cat_null]; done) | rfl)
  rw [ef]
  refine GoKit.iloadN (pc := 0) K d1_0 rfl ?_
  refine GoKit.iconst (pc := 1) (x := (3 : Int32)) K d1_1 rfl ?_
  refine GoKit.iand (pc := 2) K d1_2 ?_
  refine GoKit.istoreN (pc := 3) (l' := #[.val (.int p1), .val (.int (p1 &&& (3 : Int32)))]) K d1_3 rfl ?_
  refine GoKit.iloadN (pc := 4) K d1_4 rfl ?_
  refine GoKit.if_ne (pc := 5) (pc' := 11) K d1_5 (by decide) (fun hc101 => ?_) (fun hc101 => ?_)
  · -- ¬ (p1 &&& (3 : Int32)) = (0 : Int32)
    refine GoKit.iloadN (pc := 11) K d1_11 rfl ?_
    refine GoKit.iconst (pc := 12) (x := (1 : Int32)) K d1_12 rfl ?_
    refine GoKit.icmp_ne (pc := 13) (pc' := 19) K d1_13 (by decide) (fun hc102 => ?_) (fun hc102 => ?_)
    · -- ¬ (p1 &&& (3 : Int32)) = (1 : Int32)
      refine GoKit.iloadN (pc := 19) K d1_19 rfl ?_
      refine GoKit.iconst (pc := 20) (x := (2 : Int32)) K d1_20 rfl ?_
      refine GoKit.icmp_ne (pc := 21) (pc' := 36) K d1_21 (by decide) (fun hc103 => ?_) (fun hc103 => ?_)
      · -- ¬ (p1 &&& (3 : Int32)) = (2 : Int32)
        refine GoKit.iloadN (pc := 36) K d1_36 rfl ?_
        refine GoKit.bipush (pc := 37) (x := (16 : Int32)) K d1_37 rfl ?_
        refine GoKit.iushr (pc := 39) K d1_39 ?_
        refine GoKit.i2c (pc := 40) K d1_40 ?_
        exact GoKit.retZ (pc := 41) K (by simp) (z' := dF p1) (by rw [nar_i2c]; simp [dF, hc101, hc102, hc103]) d1_41 (by simp) (by decide) (by decide) (fun _ _ => ⟨rfl, rfl⟩)
      · -- (p1 &&& (3 : Int32)) = (2 : Int32)
        refine GoKit.ldcInt (pc := 24) (a0 := a0) (v := (55296 : Int32)) K (hw _ (List.mem_of_getElem? (i := 5) rfl)) d1_24 ?_
        refine GoKit.iloadN (pc := 26) K d1_26 rfl ?_
        refine GoKit.iconst (pc := 27) (x := (2 : Int32)) K d1_27 rfl ?_
        refine GoKit.iushr (pc := 28) K d1_28 ?_
        refine GoKit.sipush (pc := 29) (x := (2047 : Int32)) K d1_29 rfl ?_
        refine GoKit.iand (pc := 32) K d1_32 ?_
        refine GoKit.iadd (pc := 33) K d1_33 ?_
        refine GoKit.i2c (pc := 34) K d1_34 ?_
        exact GoKit.retZ (pc := 35) K (by simp) (z' := dF p1) (by rw [nar_i2c]; simp [dF, hc101, hc102, hc103]) d1_35 (by simp) (by decide) (by decide) (fun _ _ => ⟨rfl, rfl⟩)
    · -- (p1 &&& (3 : Int32)) = (1 : Int32)
      refine GoKit.bipush (pc := 16) (x := (13 : Int32)) K d1_16 rfl ?_
      exact GoKit.retZ (pc := 18) K (by simp) (z' := (13 : Int32)) (by decide) d1_18 (by simp) (by decide) (by decide) (fun _ _ => ⟨by simp [dF, hc101, hc102], rfl⟩)
  · -- (p1 &&& (3 : Int32)) = (0 : Int32)
    refine GoKit.bipush (pc := 8) (x := (10 : Int32)) K d1_8 rfl ?_
    exact GoKit.retZ (pc := 10) K (by simp) (z' := (10 : Int32)) (by decide) d1_10 (by simp) (by decide) (by decide) (fun _ _ => ⟨by simp [dF, hc101], rfl⟩)
set_option maxRecDepth 65536 in
set_option maxHeartbeats 40000000 in
theorem c_hi (l : Launch) (Z : State) (a0 : Array Value) (hw : ∀ d ∈ tables_1, d.before a0 Z = true) (p1 : Int32) (h0 : Heap) :
    Con l (⟨"com/example/neat_mapper/neatmapper/jpql/SourcePositionOfPinLaw", "hi", "(C)Z"⟩ : MethodName) method_3_code 1 (some .boolean) [] ({ frames := 0, cells := 0, slots := 0, locals := 0 } : Room) Z #[(.int p1)] h0 [] (fun _ => True) (fun v h _ => v = some (.int (b2i (hiB p1))) ∧ h = h0) false := by
  refine Con.intro pn_4 ?_
  intro p e s m below meth c K hV hsh
  have ef : entryFrame m #[(.int p1)] 1 = (mkF m 0 #[.val (.int p1)] []) := (by first | (simp [entryFrame, mkF, argsToLocals, cat_ref, cat_int, cat_long, cat_null]; done) | rfl)
  rw [ef]
  refine GoKit.iloadN (pc := 0) K d26_0 rfl ?_
  refine GoKit.ldcInt (pc := 1) (a0 := a0) (v := (55296 : Int32)) K (hw _ (List.mem_of_getElem? (i := 5) rfl)) d26_1 ?_
  refine GoKit.icmp_lt (pc := 3) (pc' := 16) K d26_3 (by decide) (fun hc101 => ?_) (fun hc101 => ?_)
  · -- p1 < (55296 : Int32)
    refine GoKit.iconst (pc := 16) (x := (0 : Int32)) K d26_16 rfl ?_
    exact GoKit.retZ (pc := 17) K (by simp) (z' := (0 : Int32)) (by decide) d26_17 (by simp) (by decide) (by decide) (fun _ _ => ⟨by simp [b2i, hiB, hc101], rfl⟩)
  · -- ¬ p1 < (55296 : Int32)
    refine GoKit.iloadN (pc := 6) K d26_6 rfl ?_
    refine GoKit.ldcInt (pc := 7) (a0 := a0) (v := (56319 : Int32)) K (hw _ (List.mem_of_getElem? (i := 173) rfl)) d26_7 ?_
    refine GoKit.icmp_gt (pc := 9) (pc' := 16) K d26_9 (by decide) (fun hc102 => ?_) (fun hc102 => ?_)
    · -- (56319 : Int32) < p1
      refine GoKit.iconst (pc := 16) (x := (0 : Int32)) K d26_16 rfl ?_
      have qhc102 := mt (le_lt (56319 : Int32) 56320 (by decide)).mpr (fun z => z hc102)
      exact GoKit.retZ (pc := 17) K (by simp) (z' := (0 : Int32)) (by decide) d26_17 (by simp) (by decide) (by decide) (fun _ _ => ⟨by simp [b2i, hiB, hc101, hc102, qhc102], rfl⟩)
    · -- ¬ (56319 : Int32) < p1
      refine GoKit.iconst (pc := 12) (x := (1 : Int32)) K d26_12 rfl ?_
      refine GoKit.goto (pc := 13) (pc' := 17) K d26_13 (by decide) ?_
      have qhc102 := (le_lt (56319 : Int32) 56320 (by decide)).mp hc102
      exact GoKit.retZ (pc := 17) K (by simp) (z' := (1 : Int32)) (by decide) d26_17 (by simp) (by decide) (by decide) (fun _ _ => ⟨by simp [b2i, hiB, hc101, hc102, qhc102], rfl⟩)
set_option maxRecDepth 65536 in
set_option maxHeartbeats 40000000 in
theorem c_lo (l : Launch) (Z : State) (a0 : Array Value) (hw : ∀ d ∈ tables_1, d.before a0 Z = true) (p1 : Int32) (h0 : Heap) :
    Con l (⟨"com/example/neat_mapper/neatmapper/jpql/SourcePositionOfPinLaw", "lo", "(C)Z"⟩ : MethodName) method_4_code 1 (some .boolean) [] ({ frames := 0, cells := 0, slots := 0, locals := 0 } : Room) Z #[(.int p1)] h0 [] (fun _ => True) (fun v h _ => v = some (.int (b2i (loB p1))) ∧ h = h0) false := by
  refine Con.intro pn_4 ?_
  intro p e s m below meth c K hV hsh
  have ef : entryFrame m #[(.int p1)] 1 = (mkF m 0 #[.val (.int p1)] []) := (by first | (simp [entryFrame, mkF, argsToLocals, cat_ref, cat_int, cat_long, cat_null]; done) | rfl)
  rw [ef]
  refine GoKit.iloadN (pc := 0) K d37_0 rfl ?_
  refine GoKit.ldcInt (pc := 1) (a0 := a0) (v := (56320 : Int32)) K (hw _ (List.mem_of_getElem? (i := 178) rfl)) d37_1 ?_
  refine GoKit.icmp_lt (pc := 3) (pc' := 16) K d37_3 (by decide) (fun hc101 => ?_) (fun hc101 => ?_)
  · -- p1 < (56320 : Int32)
    refine GoKit.iconst (pc := 16) (x := (0 : Int32)) K d37_16 rfl ?_
    exact GoKit.retZ (pc := 17) K (by simp) (z' := (0 : Int32)) (by decide) d37_17 (by simp) (by decide) (by decide) (fun _ _ => ⟨by simp [b2i, loB, hc101], rfl⟩)
  · -- ¬ p1 < (56320 : Int32)
    refine GoKit.iloadN (pc := 6) K d37_6 rfl ?_
    refine GoKit.ldcInt (pc := 7) (a0 := a0) (v := (57343 : Int32)) K (hw _ (List.mem_of_getElem? (i := 183) rfl)) d37_7 ?_
    refine GoKit.icmp_gt (pc := 9) (pc' := 16) K d37_9 (by decide) (fun hc102 => ?_) (fun hc102 => ?_)
    · -- (57343 : Int32) < p1
      refine GoKit.iconst (pc := 16) (x := (0 : Int32)) K d37_16 rfl ?_
      have qhc102 := mt (le_lt (57343 : Int32) 57344 (by decide)).mpr (fun z => z hc102)
      exact GoKit.retZ (pc := 17) K (by simp) (z' := (0 : Int32)) (by decide) d37_17 (by simp) (by decide) (by decide) (fun _ _ => ⟨by simp [b2i, loB, hc101, hc102, qhc102], rfl⟩)
    · -- ¬ (57343 : Int32) < p1
      refine GoKit.iconst (pc := 12) (x := (1 : Int32)) K d37_12 rfl ?_
      refine GoKit.goto (pc := 13) (pc' := 17) K d37_13 (by decide) ?_
      have qhc102 := (le_lt (57343 : Int32) 57344 (by decide)).mp hc102
      exact GoKit.retZ (pc := 17) K (by simp) (z' := (1 : Int32)) (by decide) d37_17 (by simp) (by decide) (by decide) (fun _ _ => ⟨by simp [b2i, loB, hc101, hc102, qhc102], rfl⟩)
set_option maxRecDepth 65536 in
set_option maxHeartbeats 40000000 in
theorem c_ihs (l : Launch) (Z : State) (a0 : Array Value) (hw : ∀ d ∈ tables_1, d.before a0 Z = true) (p1 : Int32) (h0 : Heap) :
    Con l (⟨"java/lang/Character", "isHighSurrogate", "(C)Z"⟩ : MethodName) jdk_89_method_14_code 1 (some .boolean) [] ({ frames := 0, cells := 0, slots := 0, locals := 0 } : Room) Z #[(.int p1)] h0 [] (fun _ => True) (fun v h _ => v = some (.int (b2i (hiB p1))) ∧ h = h0) false := by
  refine Con.intro pn_5 ?_
  intro p e s m below meth c K hV hsh
  have ef : entryFrame m #[(.int p1)] 1 = (mkF m 0 #[.val (.int p1)] []) := (by first | (simp [entryFrame, mkF, argsToLocals, cat_ref, cat_int, cat_long, cat_null]; done) | rfl)
  rw [ef]
  refine GoKit.iloadN (pc := 0) K d35_0 rfl ?_
  refine GoKit.ldcInt (pc := 1) (a0 := a0) (v := (55296 : Int32)) K (hw _ (List.mem_of_getElem? (i := 160) rfl)) d35_1 ?_
  refine GoKit.icmp_lt (pc := 3) (pc' := 16) K d35_3 (by decide) (fun hc101 => ?_) (fun hc101 => ?_)
  · -- p1 < (55296 : Int32)
    refine GoKit.iconst (pc := 16) (x := (0 : Int32)) K d35_16 rfl ?_
    exact GoKit.retZ (pc := 17) K (by simp) (z' := (0 : Int32)) (by decide) d35_17 (by simp) (by decide) (by decide) (fun _ _ => ⟨by simp [b2i, hiB, hc101], rfl⟩)
  · -- ¬ p1 < (55296 : Int32)
    refine GoKit.iloadN (pc := 6) K d35_6 rfl ?_
    refine GoKit.ldcInt (pc := 7) (a0 := a0) (v := (56320 : Int32)) K (hw _ (List.mem_of_getElem? (i := 174) rfl)) d35_7 ?_
    refine GoKit.icmp_ge (pc := 9) (pc' := 16) K d35_9 (by decide) (fun hc102 => ?_) (fun hc102 => ?_)
    · -- ¬ p1 < (56320 : Int32)
      refine GoKit.iconst (pc := 16) (x := (0 : Int32)) K d35_16 rfl ?_
      exact GoKit.retZ (pc := 17) K (by simp) (z' := (0 : Int32)) (by decide) d35_17 (by simp) (by decide) (by decide) (fun _ _ => ⟨by simp [b2i, hiB, hc101, hc102], rfl⟩)
    · -- p1 < (56320 : Int32)
      refine GoKit.iconst (pc := 12) (x := (1 : Int32)) K d35_12 rfl ?_
      refine GoKit.goto (pc := 13) (pc' := 17) K d35_13 (by decide) ?_
      exact GoKit.retZ (pc := 17) K (by simp) (z' := (1 : Int32)) (by decide) d35_17 (by simp) (by decide) (by decide) (fun _ _ => ⟨by simp [b2i, hiB, hc101, hc102], rfl⟩)
set_option maxRecDepth 65536 in
set_option maxHeartbeats 40000000 in
theorem c_ils (l : Launch) (Z : State) (a0 : Array Value) (hw : ∀ d ∈ tables_1, d.before a0 Z = true) (p1 : Int32) (h0 : Heap) :
    Con l (⟨"java/lang/Character", "isLowSurrogate", "(C)Z"⟩ : MethodName) jdk_89_method_15_code 1 (some .boolean) [] ({ frames := 0, cells := 0, slots := 0, locals := 0 } : Room) Z #[(.int p1)] h0 [] (fun _ => True) (fun v h _ => v = some (.int (b2i (loB p1))) ∧ h = h0) false := by
  refine Con.intro pn_5 ?_
  intro p e s m below meth c K hV hsh
  have ef : entryFrame m #[(.int p1)] 1 = (mkF m 0 #[.val (.int p1)] []) := (by first | (simp [entryFrame, mkF, argsToLocals, cat_ref, cat_int, cat_long, cat_null]; done) | rfl)
  rw [ef]
  refine GoKit.iloadN (pc := 0) K d38_0 rfl ?_
  refine GoKit.ldcInt (pc := 1) (a0 := a0) (v := (56320 : Int32)) K (hw _ (List.mem_of_getElem? (i := 174) rfl)) d38_1 ?_
  refine GoKit.icmp_lt (pc := 3) (pc' := 16) K d38_3 (by decide) (fun hc101 => ?_) (fun hc101 => ?_)
  · -- p1 < (56320 : Int32)
    refine GoKit.iconst (pc := 16) (x := (0 : Int32)) K d38_16 rfl ?_
    exact GoKit.retZ (pc := 17) K (by simp) (z' := (0 : Int32)) (by decide) d38_17 (by simp) (by decide) (by decide) (fun _ _ => ⟨by simp [b2i, loB, hc101], rfl⟩)
  · -- ¬ p1 < (56320 : Int32)
    refine GoKit.iloadN (pc := 6) K d38_6 rfl ?_
    refine GoKit.ldcInt (pc := 7) (a0 := a0) (v := (57344 : Int32)) K (hw _ (List.mem_of_getElem? (i := 184) rfl)) d38_7 ?_
    refine GoKit.icmp_ge (pc := 9) (pc' := 16) K d38_9 (by decide) (fun hc102 => ?_) (fun hc102 => ?_)
    · -- ¬ p1 < (57344 : Int32)
      refine GoKit.iconst (pc := 16) (x := (0 : Int32)) K d38_16 rfl ?_
      exact GoKit.retZ (pc := 17) K (by simp) (z' := (0 : Int32)) (by decide) d38_17 (by simp) (by decide) (by decide) (fun _ _ => ⟨by simp [b2i, loB, hc101, hc102], rfl⟩)
    · -- p1 < (57344 : Int32)
      refine GoKit.iconst (pc := 12) (x := (1 : Int32)) K d38_12 rfl ?_
      refine GoKit.goto (pc := 13) (pc' := 17) K d38_13 (by decide) ?_
      exact GoKit.retZ (pc := 17) K (by simp) (z' := (1 : Int32)) (by decide) d38_17 (by simp) (by decide) (by decide) (fun _ _ => ⟨by simp [b2i, loB, hc101, hc102], rfl⟩)
set_option maxRecDepth 65536 in
set_option maxHeartbeats 40000000 in
theorem c_ends0 (l : Launch) (Z : State) (a0 : Array Value) (hw : ∀ d ∈ tables_1, d.before a0 Z = true) (a1 : Nat) (k1 : ClassId) (x0 x1 x2 x3 : Int32) (h0 : Heap) (A1 : Arv Z h0 a1 k1 .char (4 : Int32) [(.int x0), (.int x1), (.int x2), (.int x3)] (.int 0)) :
    Con l (⟨"com/example/neat_mapper/neatmapper/jpql/SourcePositionOfPinLaw", "ends", "([CI)Z"⟩ : MethodName) method_5_code 2 (some .boolean) [] ({ frames := 0, cells := 0, slots := 0, locals := 0 } : Room) Z #[(.ref a1), (.int (0 : Int32))] h0 [] (fun _ => True) (fun v h _ => v = some (.int (b2i (brkB ([x0, x1, x2, x3] : List Int32) 0))) ∧ h = h0) false := by
  refine Con.intro pn_4 ?_
  intro p e s m below meth c K hV hsh
  have ef : entryFrame m #[(.ref a1), (.int (0 : Int32))] 2 = (mkF m 0 #[.val (.ref a1), .val (.int (0 : Int32))] []) := (by first | (simp [entryFrame, mkF, argsToLocals, cat_ref, cat_int, cat_long, cat_null]; done) | rfl)
  rw [ef]
  refine GoKit.aloadN (pc := 0) K d27_0 rfl rfl ?_
  refine GoKit.iloadN (pc := 1) K d27_1 rfl ?_
  refine GoKit.caload (pc := 2) (v := .int x0) K A1 (by decide) rfl d27_2 ?_
  refine GoKit.bipush (pc := 3) (x := (10 : Int32)) K d27_3 rfl ?_
  refine GoKit.icmp_ne (pc := 5) (pc' := 10) K d27_5 (by decide) (fun hc101 => ?_) (fun hc101 => ?_)
  · -- ¬ x0 = (10 : Int32)
    refine GoKit.aloadN (pc := 10) K d27_10 rfl rfl ?_
    refine GoKit.iloadN (pc := 11) K d27_11 rfl ?_
    refine GoKit.caload (pc := 12) (v := .int x0) K A1 (by decide) rfl d27_12 ?_
    refine GoKit.bipush (pc := 13) (x := (13 : Int32)) K d27_13 rfl ?_
    refine GoKit.icmp_eq (pc := 15) (pc' := 20) K d27_15 (by decide) (fun hc102 => ?_) (fun hc102 => ?_)
    · -- x0 = (13 : Int32)
      refine GoKit.iloadN (pc := 20) K d27_20 rfl ?_
      refine GoKit.iconst (pc := 21) (x := (3 : Int32)) K d27_21 rfl ?_
      refine GoKit.icmp_ne_y (pc := 22) (pc' := 27) K d27_22 (by decide)  (by decide) ?_
      refine GoKit.aloadN (pc := 27) K d27_27 rfl rfl ?_
      refine GoKit.iloadN (pc := 28) K d27_28 rfl ?_
      refine GoKit.iconst (pc := 29) (x := (1 : Int32)) K d27_29 rfl ?_
      refine GoKit.iadd (pc := 30) K d27_30 ?_
      rw [(by decide : ((0 : Int32) + (1 : Int32)) = (1 : Int32))]
      refine GoKit.caload (pc := 31) (v := .int x1) K A1 (by decide) rfl d27_31 ?_
      refine GoKit.bipush (pc := 32) (x := (10 : Int32)) K d27_32 rfl ?_
      refine GoKit.icmp_eq (pc := 34) (pc' := 41) K d27_34 (by decide) (fun hc103 => ?_) (fun hc103 => ?_)
      · -- x1 = (10 : Int32)
        refine GoKit.iconst (pc := 41) (x := (0 : Int32)) K d27_41 rfl ?_
        exact GoKit.retZ (pc := 42) K (by simp) (z' := (0 : Int32)) (by decide) d27_42 (by simp) (by decide) (by decide) (fun _ _ => ⟨by simp [b2i, brkB, hc101, hc102, hc103], rfl⟩)
      · -- ¬ x1 = (10 : Int32)
        refine GoKit.iconst (pc := 37) (x := (1 : Int32)) K d27_37 rfl ?_
        refine GoKit.goto (pc := 38) (pc' := 42) K d27_38 (by decide) ?_
        exact GoKit.retZ (pc := 42) K (by simp) (z' := (1 : Int32)) (by decide) d27_42 (by simp) (by decide) (by decide) (fun _ _ => ⟨by simp [b2i, brkB, hc101, hc102, hc103], rfl⟩)
    · -- ¬ x0 = (13 : Int32)
      refine GoKit.iconst (pc := 18) (x := (0 : Int32)) K d27_18 rfl ?_
      exact GoKit.retZ (pc := 19) K (by simp) (z' := (0 : Int32)) (by decide) d27_19 (by simp) (by decide) (by decide) (fun _ _ => ⟨by simp [b2i, brkB, hc101, hc102], rfl⟩)
  · -- x0 = (10 : Int32)
    refine GoKit.iconst (pc := 8) (x := (1 : Int32)) K d27_8 rfl ?_
    exact GoKit.retZ (pc := 9) K (by simp) (z' := (1 : Int32)) (by decide) d27_9 (by simp) (by decide) (by decide) (fun _ _ => ⟨by simp [b2i, brkB, hc101], rfl⟩)
set_option maxRecDepth 65536 in
set_option maxHeartbeats 40000000 in
theorem c_ends1 (l : Launch) (Z : State) (a0 : Array Value) (hw : ∀ d ∈ tables_1, d.before a0 Z = true) (a1 : Nat) (k1 : ClassId) (x0 x1 x2 x3 : Int32) (h0 : Heap) (A1 : Arv Z h0 a1 k1 .char (4 : Int32) [(.int x0), (.int x1), (.int x2), (.int x3)] (.int 0)) :
    Con l (⟨"com/example/neat_mapper/neatmapper/jpql/SourcePositionOfPinLaw", "ends", "([CI)Z"⟩ : MethodName) method_5_code 2 (some .boolean) [] ({ frames := 0, cells := 0, slots := 0, locals := 0 } : Room) Z #[(.ref a1), (.int (1 : Int32))] h0 [] (fun _ => True) (fun v h _ => v = some (.int (b2i (brkB ([x0, x1, x2, x3] : List Int32) 1))) ∧ h = h0) false := by
  refine Con.intro pn_4 ?_
  intro p e s m below meth c K hV hsh
  have ef : entryFrame m #[(.ref a1), (.int (1 : Int32))] 2 = (mkF m 0 #[.val (.ref a1), .val (.int (1 : Int32))] []) := (by first | (simp [entryFrame, mkF, argsToLocals, cat_ref, cat_int, cat_long, cat_null]; done) | rfl)
  rw [ef]
  refine GoKit.aloadN (pc := 0) K d27_0 rfl rfl ?_
  refine GoKit.iloadN (pc := 1) K d27_1 rfl ?_
  refine GoKit.caload (pc := 2) (v := .int x1) K A1 (by decide) rfl d27_2 ?_
  refine GoKit.bipush (pc := 3) (x := (10 : Int32)) K d27_3 rfl ?_
  refine GoKit.icmp_ne (pc := 5) (pc' := 10) K d27_5 (by decide) (fun hc101 => ?_) (fun hc101 => ?_)
  · -- ¬ x1 = (10 : Int32)
    refine GoKit.aloadN (pc := 10) K d27_10 rfl rfl ?_
    refine GoKit.iloadN (pc := 11) K d27_11 rfl ?_
    refine GoKit.caload (pc := 12) (v := .int x1) K A1 (by decide) rfl d27_12 ?_
    refine GoKit.bipush (pc := 13) (x := (13 : Int32)) K d27_13 rfl ?_
    refine GoKit.icmp_eq (pc := 15) (pc' := 20) K d27_15 (by decide) (fun hc102 => ?_) (fun hc102 => ?_)
    · -- x1 = (13 : Int32)
      refine GoKit.iloadN (pc := 20) K d27_20 rfl ?_
      refine GoKit.iconst (pc := 21) (x := (3 : Int32)) K d27_21 rfl ?_
      refine GoKit.icmp_ne_y (pc := 22) (pc' := 27) K d27_22 (by decide)  (by decide) ?_
      refine GoKit.aloadN (pc := 27) K d27_27 rfl rfl ?_
      refine GoKit.iloadN (pc := 28) K d27_28 rfl ?_
      refine GoKit.iconst (pc := 29) (x := (1 : Int32)) K d27_29 rfl ?_
      refine GoKit.iadd (pc := 30) K d27_30 ?_
      rw [(by decide : ((1 : Int32) + (1 : Int32)) = (2 : Int32))]
      refine GoKit.caload (pc := 31) (v := .int x2) K A1 (by decide) rfl d27_31 ?_
      refine GoKit.bipush (pc := 32) (x := (10 : Int32)) K d27_32 rfl ?_
      refine GoKit.icmp_eq (pc := 34) (pc' := 41) K d27_34 (by decide) (fun hc103 => ?_) (fun hc103 => ?_)
      · -- x2 = (10 : Int32)
        refine GoKit.iconst (pc := 41) (x := (0 : Int32)) K d27_41 rfl ?_
        exact GoKit.retZ (pc := 42) K (by simp) (z' := (0 : Int32)) (by decide) d27_42 (by simp) (by decide) (by decide) (fun _ _ => ⟨by simp [b2i, brkB, hc101, hc102, hc103], rfl⟩)
      · -- ¬ x2 = (10 : Int32)
        refine GoKit.iconst (pc := 37) (x := (1 : Int32)) K d27_37 rfl ?_
        refine GoKit.goto (pc := 38) (pc' := 42) K d27_38 (by decide) ?_
        exact GoKit.retZ (pc := 42) K (by simp) (z' := (1 : Int32)) (by decide) d27_42 (by simp) (by decide) (by decide) (fun _ _ => ⟨by simp [b2i, brkB, hc101, hc102, hc103], rfl⟩)
    · -- ¬ x1 = (13 : Int32)
      refine GoKit.iconst (pc := 18) (x := (0 : Int32)) K d27_18 rfl ?_
      exact GoKit.retZ (pc := 19) K (by simp) (z' := (0 : Int32)) (by decide) d27_19 (by simp) (by decide) (by decide) (fun _ _ => ⟨by simp [b2i, brkB, hc101, hc102], rfl⟩)
  · -- x1 = (10 : Int32)
    refine GoKit.iconst (pc := 8) (x := (1 : Int32)) K d27_8 rfl ?_
    exact GoKit.retZ (pc := 9) K (by simp) (z' := (1 : Int32)) (by decide) d27_9 (by simp) (by decide) (by decide) (fun _ _ => ⟨by simp [b2i, brkB, hc101], rfl⟩)
set_option maxRecDepth 65536 in
set_option maxHeartbeats 40000000 in
theorem c_ends2 (l : Launch) (Z : State) (a0 : Array Value) (hw : ∀ d ∈ tables_1, d.before a0 Z = true) (a1 : Nat) (k1 : ClassId) (x0 x1 x2 x3 : Int32) (h0 : Heap) (A1 : Arv Z h0 a1 k1 .char (4 : Int32) [(.int x0), (.int x1), (.int x2), (.int x3)] (.int 0)) :
    Con l (⟨"com/example/neat_mapper/neatmapper/jpql/SourcePositionOfPinLaw", "ends", "([CI)Z"⟩ : MethodName) method_5_code 2 (some .boolean) [] ({ frames := 0, cells := 0, slots := 0, locals := 0 } : Room) Z #[(.ref a1), (.int (2 : Int32))] h0 [] (fun _ => True) (fun v h _ => v = some (.int (b2i (brkB ([x0, x1, x2, x3] : List Int32) 2))) ∧ h = h0) false := by
  refine Con.intro pn_4 ?_
  intro p e s m below meth c K hV hsh
  have ef : entryFrame m #[(.ref a1), (.int (2 : Int32))] 2 = (mkF m 0 #[.val (.ref a1), .val (.int (2 : Int32))] []) := (by first | (simp [entryFrame, mkF, argsToLocals, cat_ref, cat_int, cat_long, cat_null]; done) | rfl)
  rw [ef]
  refine GoKit.aloadN (pc := 0) K d27_0 rfl rfl ?_
  refine GoKit.iloadN (pc := 1) K d27_1 rfl ?_
  refine GoKit.caload (pc := 2) (v := .int x2) K A1 (by decide) rfl d27_2 ?_
  refine GoKit.bipush (pc := 3) (x := (10 : Int32)) K d27_3 rfl ?_
  refine GoKit.icmp_ne (pc := 5) (pc' := 10) K d27_5 (by decide) (fun hc101 => ?_) (fun hc101 => ?_)
  · -- ¬ x2 = (10 : Int32)
    refine GoKit.aloadN (pc := 10) K d27_10 rfl rfl ?_
    refine GoKit.iloadN (pc := 11) K d27_11 rfl ?_
    refine GoKit.caload (pc := 12) (v := .int x2) K A1 (by decide) rfl d27_12 ?_
    refine GoKit.bipush (pc := 13) (x := (13 : Int32)) K d27_13 rfl ?_
    refine GoKit.icmp_eq (pc := 15) (pc' := 20) K d27_15 (by decide) (fun hc102 => ?_) (fun hc102 => ?_)
    · -- x2 = (13 : Int32)
      refine GoKit.iloadN (pc := 20) K d27_20 rfl ?_
      refine GoKit.iconst (pc := 21) (x := (3 : Int32)) K d27_21 rfl ?_
      refine GoKit.icmp_ne_y (pc := 22) (pc' := 27) K d27_22 (by decide)  (by decide) ?_
      refine GoKit.aloadN (pc := 27) K d27_27 rfl rfl ?_
      refine GoKit.iloadN (pc := 28) K d27_28 rfl ?_
      refine GoKit.iconst (pc := 29) (x := (1 : Int32)) K d27_29 rfl ?_
      refine GoKit.iadd (pc := 30) K d27_30 ?_
      rw [(by decide : ((2 : Int32) + (1 : Int32)) = (3 : Int32))]
      refine GoKit.caload (pc := 31) (v := .int x3) K A1 (by decide) rfl d27_31 ?_
      refine GoKit.bipush (pc := 32) (x := (10 : Int32)) K d27_32 rfl ?_
      refine GoKit.icmp_eq (pc := 34) (pc' := 41) K d27_34 (by decide) (fun hc103 => ?_) (fun hc103 => ?_)
      · -- x3 = (10 : Int32)
        refine GoKit.iconst (pc := 41) (x := (0 : Int32)) K d27_41 rfl ?_
        exact GoKit.retZ (pc := 42) K (by simp) (z' := (0 : Int32)) (by decide) d27_42 (by simp) (by decide) (by decide) (fun _ _ => ⟨by simp [b2i, brkB, hc101, hc102, hc103], rfl⟩)
      · -- ¬ x3 = (10 : Int32)
        refine GoKit.iconst (pc := 37) (x := (1 : Int32)) K d27_37 rfl ?_
        refine GoKit.goto (pc := 38) (pc' := 42) K d27_38 (by decide) ?_
        exact GoKit.retZ (pc := 42) K (by simp) (z' := (1 : Int32)) (by decide) d27_42 (by simp) (by decide) (by decide) (fun _ _ => ⟨by simp [b2i, brkB, hc101, hc102, hc103], rfl⟩)
    · -- ¬ x2 = (13 : Int32)
      refine GoKit.iconst (pc := 18) (x := (0 : Int32)) K d27_18 rfl ?_
      exact GoKit.retZ (pc := 19) K (by simp) (z' := (0 : Int32)) (by decide) d27_19 (by simp) (by decide) (by decide) (fun _ _ => ⟨by simp [b2i, brkB, hc101, hc102], rfl⟩)
  · -- x2 = (10 : Int32)
    refine GoKit.iconst (pc := 8) (x := (1 : Int32)) K d27_8 rfl ?_
    exact GoKit.retZ (pc := 9) K (by simp) (z' := (1 : Int32)) (by decide) d27_9 (by simp) (by decide) (by decide) (fun _ _ => ⟨by simp [b2i, brkB, hc101], rfl⟩)
set_option maxRecDepth 65536 in
set_option maxHeartbeats 40000000 in
theorem c_ends3 (l : Launch) (Z : State) (a0 : Array Value) (hw : ∀ d ∈ tables_1, d.before a0 Z = true) (a1 : Nat) (k1 : ClassId) (x0 x1 x2 x3 : Int32) (h0 : Heap) (A1 : Arv Z h0 a1 k1 .char (4 : Int32) [(.int x0), (.int x1), (.int x2), (.int x3)] (.int 0)) :
    Con l (⟨"com/example/neat_mapper/neatmapper/jpql/SourcePositionOfPinLaw", "ends", "([CI)Z"⟩ : MethodName) method_5_code 2 (some .boolean) [] ({ frames := 0, cells := 0, slots := 0, locals := 0 } : Room) Z #[(.ref a1), (.int (3 : Int32))] h0 [] (fun _ => True) (fun v h _ => v = some (.int (b2i (brkB ([x0, x1, x2, x3] : List Int32) 3))) ∧ h = h0) false := by
  refine Con.intro pn_4 ?_
  intro p e s m below meth c K hV hsh
  have ef : entryFrame m #[(.ref a1), (.int (3 : Int32))] 2 = (mkF m 0 #[.val (.ref a1), .val (.int (3 : Int32))] []) := (by first | (simp [entryFrame, mkF, argsToLocals, cat_ref, cat_int, cat_long, cat_null]; done) | rfl)
  rw [ef]
  refine GoKit.aloadN (pc := 0) K d27_0 rfl rfl ?_
  refine GoKit.iloadN (pc := 1) K d27_1 rfl ?_
  refine GoKit.caload (pc := 2) (v := .int x3) K A1 (by decide) rfl d27_2 ?_
  refine GoKit.bipush (pc := 3) (x := (10 : Int32)) K d27_3 rfl ?_
  refine GoKit.icmp_ne (pc := 5) (pc' := 10) K d27_5 (by decide) (fun hc101 => ?_) (fun hc101 => ?_)
  · -- ¬ x3 = (10 : Int32)
    refine GoKit.aloadN (pc := 10) K d27_10 rfl rfl ?_
    refine GoKit.iloadN (pc := 11) K d27_11 rfl ?_
    refine GoKit.caload (pc := 12) (v := .int x3) K A1 (by decide) rfl d27_12 ?_
    refine GoKit.bipush (pc := 13) (x := (13 : Int32)) K d27_13 rfl ?_
    refine GoKit.icmp_eq (pc := 15) (pc' := 20) K d27_15 (by decide) (fun hc102 => ?_) (fun hc102 => ?_)
    · -- x3 = (13 : Int32)
      refine GoKit.iloadN (pc := 20) K d27_20 rfl ?_
      refine GoKit.iconst (pc := 21) (x := (3 : Int32)) K d27_21 rfl ?_
      refine GoKit.icmp_ne_n (pc := 22) K d27_22  (by decide) ?_
      refine GoKit.iconst (pc := 25) (x := (1 : Int32)) K d27_25 rfl ?_
      exact GoKit.retZ (pc := 26) K (by simp) (z' := (1 : Int32)) (by decide) d27_26 (by simp) (by decide) (by decide) (fun _ _ => ⟨by simp [b2i, brkB, hc101, hc102], rfl⟩)
    · -- ¬ x3 = (13 : Int32)
      refine GoKit.iconst (pc := 18) (x := (0 : Int32)) K d27_18 rfl ?_
      exact GoKit.retZ (pc := 19) K (by simp) (z' := (0 : Int32)) (by decide) d27_19 (by simp) (by decide) (by decide) (fun _ _ => ⟨by simp [b2i, brkB, hc101, hc102], rfl⟩)
  · -- x3 = (10 : Int32)
    refine GoKit.iconst (pc := 8) (x := (1 : Int32)) K d27_8 rfl ?_
    exact GoKit.retZ (pc := 9) K (by simp) (z' := (1 : Int32)) (by decide) d27_9 (by simp) (by decide) (by decide) (fun _ _ => ⟨by simp [b2i, brkB, hc101], rfl⟩)
set_option maxRecDepth 65536 in
set_option maxHeartbeats 40000000 in
theorem c_brk0 (l : Launch) (Z : State) (a0 : Array Value) (hw : ∀ d ∈ tables_1, d.before a0 Z = true) (a1 : Nat) (k1 : ClassId) (p3 : Int32) (x0 x1 x2 x3 : Int32) (h0 : Heap) (A1 : Arv Z h0 a1 k1 .char (4 : Int32) [(.int x0), (.int x1), (.int x2), (.int x3)] (.int 0)) :
    Con l (⟨"com/example/neat_mapper/neatmapper/jpql/SourcePositionOfPinLaw", "brk", "([CII)I"⟩ : MethodName) method_6_code 3 (some .int) [] ({ frames := 1, cells := 0, slots := 0, locals := 13 } : Room) Z #[(.ref a1), (.int (0 : Int32)), (.int p3)] h0 [] (fun _ => True) (fun v h _ => v = some (.int (b2i (decide ((0 : Int32) < p3) && brkB ([x0, x1, x2, x3] : List Int32) 0))) ∧ h = h0) false := by
  refine Con.intro pn_4 ?_
  intro p e s m below meth c K hV hsh
  have ef : entryFrame m #[(.ref a1), (.int (0 : Int32)), (.int p3)] 3 = (mkF m 0 #[.val (.ref a1), .val (.int (0 : Int32)), .val (.int p3)] []) := (by first | (simp [entryFrame, mkF, argsToLocals, cat_ref, cat_int, cat_long, cat_null]; done) | rfl)
  rw [ef]
  refine GoKit.iloadN (pc := 0) K d13_0 rfl ?_
  refine GoKit.iloadN (pc := 1) K d13_1 rfl ?_
  refine GoKit.icmp_ge (pc := 2) (pc' := 17) K d13_2 (by decide) (fun hc101 => ?_) (fun hc101 => ?_)
  · -- ¬ (0 : Int32) < p3
    refine GoKit.iconst (pc := 17) (x := (0 : Int32)) K d13_17 rfl ?_
    exact GoKit.retI (pc := 18) K d13_18 (by simp) (by decide) (by decide) (fun _ _ => ⟨by simp [b2i, hc101], rfl⟩)
  · -- (0 : Int32) < p3
    refine GoKit.aloadN (pc := 5) K d13_5 rfl rfl ?_
    refine GoKit.iloadN (pc := 6) K d13_6 rfl ?_
    refine GoKit.callS (pc := 7) (a0 := a0) (argsL := [(.ref a1), (.int (0 : Int32))]) (rest := []) K (hw _ (List.mem_of_getElem? (i := 128) rfl)) (hw _ (List.mem_of_getElem? (i := 129) rfl)) (hw _ (List.mem_of_getElem? (i := 3) rfl)) (hw _ (List.mem_of_getElem? (i := 130) rfl)) (by decide) (fun hZ => Con.bk (a0 := a0) (c_ends0 l Z a0 hw a1 k1 x0 x1 x2 x3 h0 A1) hZ (hw _ (List.mem_of_getElem? (i := 130) rfl)) (hw _ (List.mem_of_getElem? (i := 3) rfl)) (by decide) (Nat.le_of_ble_eq_true rfl)) rfl rfl (lenOf pd_13 rfl) rfl d13_7 (by decide) (by decide) (fun _ _ _ q => ⟨Fw.sub q.2.1 (by omega) (fun x hx => nomatch hx), q.2.2.1⟩) ?_
    intro v102 h103 L105 q104
    obtain ⟨⟨vm106, rfl, e107⟩, -, -⟩ := q104
    replace e107 := e107.symm; subst e107
    show Go _ _ _ _ _ _ _ _ _ _ _ _ _ _ _ _ _ _ _ _ _ (mkF m 10 #[.val (.ref a1), .val (.int (0 : Int32)), .val (.int p3)] [(.int (b2i (brkB ([x0, x1, x2, x3] : List Int32) 0)))])
    rcases Bool.eq_false_or_eq_true (brkB ([x0, x1, x2, x3] : List Int32) 0) with hE108 | hE108
    · -- (brkB ([x0, x1, x2, x3] : List Int32) 0) = 1
      rw [hE108]
      show Go _ _ _ _ _ _ _ _ _ _ _ _ _ _ _ _ _ _ _ _ _ (mkF m 10 #[.val (.ref a1), .val (.int (0 : Int32)), .val (.int p3)] [(.int (1 : Int32))])
      refine GoKit.if_eq_n (pc := 10) K d13_10  (by decide) ?_
      refine GoKit.iconst (pc := 13) (x := (1 : Int32)) K d13_13 rfl ?_
      refine GoKit.goto (pc := 14) (pc' := 18) K d13_14 (by decide) ?_
      exact GoKit.retI (pc := 18) K d13_18 (by simp) (by decide) (by decide) (fun _ _ => ⟨by simp [b2i, hc101, hE108], rfl⟩)
    · -- (brkB ([x0, x1, x2, x3] : List Int32) 0) = 0
      rw [hE108]
      show Go _ _ _ _ _ _ _ _ _ _ _ _ _ _ _ _ _ _ _ _ _ (mkF m 10 #[.val (.ref a1), .val (.int (0 : Int32)), .val (.int p3)] [(.int (0 : Int32))])
      refine GoKit.if_eq_y (pc := 10) (pc' := 17) K d13_10 (by decide)  (by decide) ?_
      refine GoKit.iconst (pc := 17) (x := (0 : Int32)) K d13_17 rfl ?_
      exact GoKit.retI (pc := 18) K d13_18 (by simp) (by decide) (by decide) (fun _ _ => ⟨by simp [b2i, hc101, hE108], rfl⟩)
set_option maxRecDepth 65536 in
set_option maxHeartbeats 40000000 in
theorem c_brk1 (l : Launch) (Z : State) (a0 : Array Value) (hw : ∀ d ∈ tables_1, d.before a0 Z = true) (a1 : Nat) (k1 : ClassId) (p3 : Int32) (x0 x1 x2 x3 : Int32) (h0 : Heap) (A1 : Arv Z h0 a1 k1 .char (4 : Int32) [(.int x0), (.int x1), (.int x2), (.int x3)] (.int 0)) :
    Con l (⟨"com/example/neat_mapper/neatmapper/jpql/SourcePositionOfPinLaw", "brk", "([CII)I"⟩ : MethodName) method_6_code 3 (some .int) [] ({ frames := 1, cells := 0, slots := 0, locals := 13 } : Room) Z #[(.ref a1), (.int (1 : Int32)), (.int p3)] h0 [] (fun _ => True) (fun v h _ => v = some (.int (b2i (decide ((1 : Int32) < p3) && brkB ([x0, x1, x2, x3] : List Int32) 1))) ∧ h = h0) false := by
  refine Con.intro pn_4 ?_
  intro p e s m below meth c K hV hsh
  have ef : entryFrame m #[(.ref a1), (.int (1 : Int32)), (.int p3)] 3 = (mkF m 0 #[.val (.ref a1), .val (.int (1 : Int32)), .val (.int p3)] []) := (by first | (simp [entryFrame, mkF, argsToLocals, cat_ref, cat_int, cat_long, cat_null]; done) | rfl)
  rw [ef]
  refine GoKit.iloadN (pc := 0) K d13_0 rfl ?_
  refine GoKit.iloadN (pc := 1) K d13_1 rfl ?_
  refine GoKit.icmp_ge (pc := 2) (pc' := 17) K d13_2 (by decide) (fun hc101 => ?_) (fun hc101 => ?_)
  · -- ¬ (1 : Int32) < p3
    refine GoKit.iconst (pc := 17) (x := (0 : Int32)) K d13_17 rfl ?_
    exact GoKit.retI (pc := 18) K d13_18 (by simp) (by decide) (by decide) (fun _ _ => ⟨by simp [b2i, hc101], rfl⟩)
  · -- (1 : Int32) < p3
    refine GoKit.aloadN (pc := 5) K d13_5 rfl rfl ?_
    refine GoKit.iloadN (pc := 6) K d13_6 rfl ?_
    refine GoKit.callS (pc := 7) (a0 := a0) (argsL := [(.ref a1), (.int (1 : Int32))]) (rest := []) K (hw _ (List.mem_of_getElem? (i := 128) rfl)) (hw _ (List.mem_of_getElem? (i := 129) rfl)) (hw _ (List.mem_of_getElem? (i := 3) rfl)) (hw _ (List.mem_of_getElem? (i := 130) rfl)) (by decide) (fun hZ => Con.bk (a0 := a0) (c_ends1 l Z a0 hw a1 k1 x0 x1 x2 x3 h0 A1) hZ (hw _ (List.mem_of_getElem? (i := 130) rfl)) (hw _ (List.mem_of_getElem? (i := 3) rfl)) (by decide) (Nat.le_of_ble_eq_true rfl)) rfl rfl (lenOf pd_13 rfl) rfl d13_7 (by decide) (by decide) (fun _ _ _ q => ⟨Fw.sub q.2.1 (by omega) (fun x hx => nomatch hx), q.2.2.1⟩) ?_
    intro v102 h103 L105 q104
    obtain ⟨⟨vm106, rfl, e107⟩, -, -⟩ := q104
    replace e107 := e107.symm; subst e107
    show Go _ _ _ _ _ _ _ _ _ _ _ _ _ _ _ _ _ _ _ _ _ (mkF m 10 #[.val (.ref a1), .val (.int (1 : Int32)), .val (.int p3)] [(.int (b2i (brkB ([x0, x1, x2, x3] : List Int32) 1)))])
    rcases Bool.eq_false_or_eq_true (brkB ([x0, x1, x2, x3] : List Int32) 1) with hE108 | hE108
    · -- (brkB ([x0, x1, x2, x3] : List Int32) 1) = 1
      rw [hE108]
      show Go _ _ _ _ _ _ _ _ _ _ _ _ _ _ _ _ _ _ _ _ _ (mkF m 10 #[.val (.ref a1), .val (.int (1 : Int32)), .val (.int p3)] [(.int (1 : Int32))])
      refine GoKit.if_eq_n (pc := 10) K d13_10  (by decide) ?_
      refine GoKit.iconst (pc := 13) (x := (1 : Int32)) K d13_13 rfl ?_
      refine GoKit.goto (pc := 14) (pc' := 18) K d13_14 (by decide) ?_
      exact GoKit.retI (pc := 18) K d13_18 (by simp) (by decide) (by decide) (fun _ _ => ⟨by simp [b2i, hc101, hE108], rfl⟩)
    · -- (brkB ([x0, x1, x2, x3] : List Int32) 1) = 0
      rw [hE108]
      show Go _ _ _ _ _ _ _ _ _ _ _ _ _ _ _ _ _ _ _ _ _ (mkF m 10 #[.val (.ref a1), .val (.int (1 : Int32)), .val (.int p3)] [(.int (0 : Int32))])
      refine GoKit.if_eq_y (pc := 10) (pc' := 17) K d13_10 (by decide)  (by decide) ?_
      refine GoKit.iconst (pc := 17) (x := (0 : Int32)) K d13_17 rfl ?_
      exact GoKit.retI (pc := 18) K d13_18 (by simp) (by decide) (by decide) (fun _ _ => ⟨by simp [b2i, hc101, hE108], rfl⟩)
set_option maxRecDepth 65536 in
set_option maxHeartbeats 40000000 in
theorem c_brk2 (l : Launch) (Z : State) (a0 : Array Value) (hw : ∀ d ∈ tables_1, d.before a0 Z = true) (a1 : Nat) (k1 : ClassId) (p3 : Int32) (x0 x1 x2 x3 : Int32) (h0 : Heap) (A1 : Arv Z h0 a1 k1 .char (4 : Int32) [(.int x0), (.int x1), (.int x2), (.int x3)] (.int 0)) :
    Con l (⟨"com/example/neat_mapper/neatmapper/jpql/SourcePositionOfPinLaw", "brk", "([CII)I"⟩ : MethodName) method_6_code 3 (some .int) [] ({ frames := 1, cells := 0, slots := 0, locals := 13 } : Room) Z #[(.ref a1), (.int (2 : Int32)), (.int p3)] h0 [] (fun _ => True) (fun v h _ => v = some (.int (b2i (decide ((2 : Int32) < p3) && brkB ([x0, x1, x2, x3] : List Int32) 2))) ∧ h = h0) false := by
  refine Con.intro pn_4 ?_
  intro p e s m below meth c K hV hsh
  have ef : entryFrame m #[(.ref a1), (.int (2 : Int32)), (.int p3)] 3 = (mkF m 0 #[.val (.ref a1), .val (.int (2 : Int32)), .val (.int p3)] []) := (by first | (simp [entryFrame, mkF, argsToLocals, cat_ref, cat_int, cat_long, cat_null]; done) | rfl)
  rw [ef]
  refine GoKit.iloadN (pc := 0) K d13_0 rfl ?_
  refine GoKit.iloadN (pc := 1) K d13_1 rfl ?_
  refine GoKit.icmp_ge (pc := 2) (pc' := 17) K d13_2 (by decide) (fun hc101 => ?_) (fun hc101 => ?_)
  · -- ¬ (2 : Int32) < p3
    refine GoKit.iconst (pc := 17) (x := (0 : Int32)) K d13_17 rfl ?_
    exact GoKit.retI (pc := 18) K d13_18 (by simp) (by decide) (by decide) (fun _ _ => ⟨by simp [b2i, hc101], rfl⟩)
  · -- (2 : Int32) < p3
    refine GoKit.aloadN (pc := 5) K d13_5 rfl rfl ?_
    refine GoKit.iloadN (pc := 6) K d13_6 rfl ?_
    refine GoKit.callS (pc := 7) (a0 := a0) (argsL := [(.ref a1), (.int (2 : Int32))]) (rest := []) K (hw _ (List.mem_of_getElem? (i := 128) rfl)) (hw _ (List.mem_of_getElem? (i := 129) rfl)) (hw _ (List.mem_of_getElem? (i := 3) rfl)) (hw _ (List.mem_of_getElem? (i := 130) rfl)) (by decide) (fun hZ => Con.bk (a0 := a0) (c_ends2 l Z a0 hw a1 k1 x0 x1 x2 x3 h0 A1) hZ (hw _ (List.mem_of_getElem? (i := 130) rfl)) (hw _ (List.mem_of_getElem? (i := 3) rfl)) (by decide) (Nat.le_of_ble_eq_true rfl)) rfl rfl (lenOf pd_13 rfl) rfl d13_7 (by decide) (by decide) (fun _ _ _ q => ⟨Fw.sub q.2.1 (by omega) (fun x hx => nomatch hx), q.2.2.1⟩) ?_
    intro v102 h103 L105 q104
    obtain ⟨⟨vm106, rfl, e107⟩, -, -⟩ := q104
    replace e107 := e107.symm; subst e107
    show Go _ _ _ _ _ _ _ _ _ _ _ _ _ _ _ _ _ _ _ _ _ (mkF m 10 #[.val (.ref a1), .val (.int (2 : Int32)), .val (.int p3)] [(.int (b2i (brkB ([x0, x1, x2, x3] : List Int32) 2)))])
    rcases Bool.eq_false_or_eq_true (brkB ([x0, x1, x2, x3] : List Int32) 2) with hE108 | hE108
    · -- (brkB ([x0, x1, x2, x3] : List Int32) 2) = 1
      rw [hE108]
      show Go _ _ _ _ _ _ _ _ _ _ _ _ _ _ _ _ _ _ _ _ _ (mkF m 10 #[.val (.ref a1), .val (.int (2 : Int32)), .val (.int p3)] [(.int (1 : Int32))])
      refine GoKit.if_eq_n (pc := 10) K d13_10  (by decide) ?_
      refine GoKit.iconst (pc := 13) (x := (1 : Int32)) K d13_13 rfl ?_
      refine GoKit.goto (pc := 14) (pc' := 18) K d13_14 (by decide) ?_
      exact GoKit.retI (pc := 18) K d13_18 (by simp) (by decide) (by decide) (fun _ _ => ⟨by simp [b2i, hc101, hE108], rfl⟩)
    · -- (brkB ([x0, x1, x2, x3] : List Int32) 2) = 0
      rw [hE108]
      show Go _ _ _ _ _ _ _ _ _ _ _ _ _ _ _ _ _ _ _ _ _ (mkF m 10 #[.val (.ref a1), .val (.int (2 : Int32)), .val (.int p3)] [(.int (0 : Int32))])
      refine GoKit.if_eq_y (pc := 10) (pc' := 17) K d13_10 (by decide)  (by decide) ?_
      refine GoKit.iconst (pc := 17) (x := (0 : Int32)) K d13_17 rfl ?_
      exact GoKit.retI (pc := 18) K d13_18 (by simp) (by decide) (by decide) (fun _ _ => ⟨by simp [b2i, hc101, hE108], rfl⟩)
set_option maxRecDepth 65536 in
set_option maxHeartbeats 40000000 in
theorem c_brk3 (l : Launch) (Z : State) (a0 : Array Value) (hw : ∀ d ∈ tables_1, d.before a0 Z = true) (a1 : Nat) (k1 : ClassId) (p3 : Int32) (x0 x1 x2 x3 : Int32) (h0 : Heap) (A1 : Arv Z h0 a1 k1 .char (4 : Int32) [(.int x0), (.int x1), (.int x2), (.int x3)] (.int 0)) :
    Con l (⟨"com/example/neat_mapper/neatmapper/jpql/SourcePositionOfPinLaw", "brk", "([CII)I"⟩ : MethodName) method_6_code 3 (some .int) [] ({ frames := 1, cells := 0, slots := 0, locals := 13 } : Room) Z #[(.ref a1), (.int (3 : Int32)), (.int p3)] h0 [] (fun _ => True) (fun v h _ => v = some (.int (b2i (decide ((3 : Int32) < p3) && brkB ([x0, x1, x2, x3] : List Int32) 3))) ∧ h = h0) false := by
  refine Con.intro pn_4 ?_
  intro p e s m below meth c K hV hsh
  have ef : entryFrame m #[(.ref a1), (.int (3 : Int32)), (.int p3)] 3 = (mkF m 0 #[.val (.ref a1), .val (.int (3 : Int32)), .val (.int p3)] []) := (by first | (simp [entryFrame, mkF, argsToLocals, cat_ref, cat_int, cat_long, cat_null]; done) | rfl)
  rw [ef]
  refine GoKit.iloadN (pc := 0) K d13_0 rfl ?_
  refine GoKit.iloadN (pc := 1) K d13_1 rfl ?_
  refine GoKit.icmp_ge (pc := 2) (pc' := 17) K d13_2 (by decide) (fun hc101 => ?_) (fun hc101 => ?_)
  · -- ¬ (3 : Int32) < p3
    refine GoKit.iconst (pc := 17) (x := (0 : Int32)) K d13_17 rfl ?_
    exact GoKit.retI (pc := 18) K d13_18 (by simp) (by decide) (by decide) (fun _ _ => ⟨by simp [b2i, hc101], rfl⟩)
  · -- (3 : Int32) < p3
    refine GoKit.aloadN (pc := 5) K d13_5 rfl rfl ?_
    refine GoKit.iloadN (pc := 6) K d13_6 rfl ?_
    refine GoKit.callS (pc := 7) (a0 := a0) (argsL := [(.ref a1), (.int (3 : Int32))]) (rest := []) K (hw _ (List.mem_of_getElem? (i := 128) rfl)) (hw _ (List.mem_of_getElem? (i := 129) rfl)) (hw _ (List.mem_of_getElem? (i := 3) rfl)) (hw _ (List.mem_of_getElem? (i := 130) rfl)) (by decide) (fun hZ => Con.bk (a0 := a0) (c_ends3 l Z a0 hw a1 k1 x0 x1 x2 x3 h0 A1) hZ (hw _ (List.mem_of_getElem? (i := 130) rfl)) (hw _ (List.mem_of_getElem? (i := 3) rfl)) (by decide) (Nat.le_of_ble_eq_true rfl)) rfl rfl (lenOf pd_13 rfl) rfl d13_7 (by decide) (by decide) (fun _ _ _ q => ⟨Fw.sub q.2.1 (by omega) (fun x hx => nomatch hx), q.2.2.1⟩) ?_
    intro v102 h103 L105 q104
    obtain ⟨⟨vm106, rfl, e107⟩, -, -⟩ := q104
    replace e107 := e107.symm; subst e107
    show Go _ _ _ _ _ _ _ _ _ _ _ _ _ _ _ _ _ _ _ _ _ (mkF m 10 #[.val (.ref a1), .val (.int (3 : Int32)), .val (.int p3)] [(.int (b2i (brkB ([x0, x1, x2, x3] : List Int32) 3)))])
    rcases Bool.eq_false_or_eq_true (brkB ([x0, x1, x2, x3] : List Int32) 3) with hE108 | hE108
    · -- (brkB ([x0, x1, x2, x3] : List Int32) 3) = 1
      rw [hE108]
      show Go _ _ _ _ _ _ _ _ _ _ _ _ _ _ _ _ _ _ _ _ _ (mkF m 10 #[.val (.ref a1), .val (.int (3 : Int32)), .val (.int p3)] [(.int (1 : Int32))])
      refine GoKit.if_eq_n (pc := 10) K d13_10  (by decide) ?_
      refine GoKit.iconst (pc := 13) (x := (1 : Int32)) K d13_13 rfl ?_
      refine GoKit.goto (pc := 14) (pc' := 18) K d13_14 (by decide) ?_
      exact GoKit.retI (pc := 18) K d13_18 (by simp) (by decide) (by decide) (fun _ _ => ⟨by simp [b2i, hc101, hE108], rfl⟩)
    · -- (brkB ([x0, x1, x2, x3] : List Int32) 3) = 0
      rw [hE108]
      show Go _ _ _ _ _ _ _ _ _ _ _ _ _ _ _ _ _ _ _ _ _ (mkF m 10 #[.val (.ref a1), .val (.int (3 : Int32)), .val (.int p3)] [(.int (0 : Int32))])
      refine GoKit.if_eq_y (pc := 10) (pc' := 17) K d13_10 (by decide)  (by decide) ?_
      refine GoKit.iconst (pc := 17) (x := (0 : Int32)) K d13_17 rfl ?_
      exact GoKit.retI (pc := 18) K d13_18 (by simp) (by decide) (by decide) (fun _ _ => ⟨by simp [b2i, hc101, hE108], rfl⟩)
set_option maxRecDepth 65536 in
set_option maxHeartbeats 40000000 in
theorem c_pair0 (l : Launch) (Z : State) (a0 : Array Value) (hw : ∀ d ∈ tables_1, d.before a0 Z = true) (a1 : Nat) (k1 : ClassId) (p3 p4 : Int32) (x0 x1 x2 x3 : Int32) (h0 : Heap) (A1 : Arv Z h0 a1 k1 .char (4 : Int32) [(.int x0), (.int x1), (.int x2), (.int x3)] (.int 0)) :
    Con l (⟨"com/example/neat_mapper/neatmapper/jpql/SourcePositionOfPinLaw", "pair", "([CIII)I"⟩ : MethodName) method_7_code 4 (some .int) [] ({ frames := 1, cells := 0, slots := 0, locals := 12 } : Room) Z #[(.ref a1), (.int (0 : Int32)), (.int p3), (.int p4)] h0 [] (fun _ => True) (fun v h _ => v = some (.int (b2i (decide (¬ (0 : Int32) < p3) && (decide ((1 : Int32) < p4) && prB ([x0, x1, x2, x3] : List Int32) 0)))) ∧ h = h0) false := by
  refine Con.intro pn_4 ?_
  intro p e s m below meth c K hV hsh
  have ef : entryFrame m #[(.ref a1), (.int (0 : Int32)), (.int p3), (.int p4)] 4 = (mkF m 0 #[.val (.ref a1), .val (.int (0 : Int32)), .val (.int p3), .val (.int p4)] []) := (by first | (simp [entryFrame, mkF, argsToLocals, cat_ref, cat_int, cat_long, cat_null]; done) | rfl)
  rw [ef]
  refine GoKit.iloadN (pc := 0) K d14_0 rfl ?_
  refine GoKit.iloadN (pc := 1) K d14_1 rfl ?_
  refine GoKit.icmp_lt (pc := 2) (pc' := 36) K d14_2 (by decide) (fun hc101 => ?_) (fun hc101 => ?_)
  · -- (0 : Int32) < p3
    refine GoKit.iconst (pc := 36) (x := (0 : Int32)) K d14_36 rfl ?_
    exact GoKit.retI (pc := 37) K d14_37 (by simp) (by decide) (by decide) (fun _ _ => ⟨by simp [b2i, prB, hc101], rfl⟩)
  · -- ¬ (0 : Int32) < p3
    refine GoKit.iloadN (pc := 5) K d14_5 rfl ?_
    refine GoKit.iconst (pc := 6) (x := (1 : Int32)) K d14_6 rfl ?_
    refine GoKit.iadd (pc := 7) K d14_7 ?_
    rw [(by decide : ((0 : Int32) + (1 : Int32)) = (1 : Int32))]
    refine GoKit.iloadN (pc := 8) K d14_8 rfl ?_
    refine GoKit.icmp_ge (pc := 9) (pc' := 36) K d14_9 (by decide) (fun hc102 => ?_) (fun hc102 => ?_)
    · -- ¬ (1 : Int32) < p4
      refine GoKit.iconst (pc := 36) (x := (0 : Int32)) K d14_36 rfl ?_
      exact GoKit.retI (pc := 37) K d14_37 (by simp) (by decide) (by decide) (fun _ _ => ⟨by simp [b2i, prB, hc101, hc102], rfl⟩)
    · -- (1 : Int32) < p4
      refine GoKit.aloadN (pc := 12) K d14_12 rfl rfl ?_
      refine GoKit.iloadN (pc := 13) K d14_13 rfl ?_
      refine GoKit.caload (pc := 14) (v := .int x0) K A1 (by decide) rfl d14_14 ?_
      refine GoKit.callS (pc := 15) (a0 := a0) (argsL := [(.int x0)]) (rest := []) K (hw _ (List.mem_of_getElem? (i := 125) rfl)) (hw _ (List.mem_of_getElem? (i := 126) rfl)) (hw _ (List.mem_of_getElem? (i := 3) rfl)) (hw _ (List.mem_of_getElem? (i := 127) rfl)) (by decide) (fun hZ => Con.bk (a0 := a0) (c_hi l Z a0 hw x0 h0) hZ (hw _ (List.mem_of_getElem? (i := 127) rfl)) (hw _ (List.mem_of_getElem? (i := 3) rfl)) (by decide) (Nat.le_of_ble_eq_true rfl)) rfl rfl (lenOf pd_14 rfl) rfl d14_15 (by decide) (by decide) (fun _ _ _ q => ⟨Fw.sub q.2.1 (by omega) (fun x hx => nomatch hx), q.2.2.1⟩) ?_
      intro v103 h104 L106 q105
      obtain ⟨⟨vm107, rfl, e108⟩, -, -⟩ := q105
      replace e108 := e108.symm; subst e108
      show Go _ _ _ _ _ _ _ _ _ _ _ _ _ _ _ _ _ _ _ _ _ (mkF m 18 #[.val (.ref a1), .val (.int (0 : Int32)), .val (.int p3), .val (.int p4)] [(.int (b2i (hiB x0)))])
      rcases Bool.eq_false_or_eq_true (hiB x0) with hE109 | hE109
      · -- (hiB x0) = 1
        rw [hE109]
        show Go _ _ _ _ _ _ _ _ _ _ _ _ _ _ _ _ _ _ _ _ _ (mkF m 18 #[.val (.ref a1), .val (.int (0 : Int32)), .val (.int p3), .val (.int p4)] [(.int (1 : Int32))])
        refine GoKit.if_eq_n (pc := 18) K d14_18  (by decide) ?_
        refine GoKit.aloadN (pc := 21) K d14_21 rfl rfl ?_
        refine GoKit.iloadN (pc := 22) K d14_22 rfl ?_
        refine GoKit.iconst (pc := 23) (x := (1 : Int32)) K d14_23 rfl ?_
        refine GoKit.iadd (pc := 24) K d14_24 ?_
        rw [(by decide : ((0 : Int32) + (1 : Int32)) = (1 : Int32))]
        refine GoKit.caload (pc := 25) (v := .int x1) K A1 (by decide) rfl d14_25 ?_
        refine GoKit.callS (pc := 26) (a0 := a0) (argsL := [(.int x1)]) (rest := []) K (hw _ (List.mem_of_getElem? (i := 175) rfl)) (hw _ (List.mem_of_getElem? (i := 176) rfl)) (hw _ (List.mem_of_getElem? (i := 3) rfl)) (hw _ (List.mem_of_getElem? (i := 177) rfl)) (by decide) (fun hZ => Con.bk (a0 := a0) (c_lo l Z a0 hw x1 h0) hZ (hw _ (List.mem_of_getElem? (i := 177) rfl)) (hw _ (List.mem_of_getElem? (i := 3) rfl)) (by decide) (Nat.le_of_ble_eq_true rfl)) rfl rfl (lenOf pd_14 rfl) rfl d14_26 (by decide) (by decide) (fun _ _ _ q => ⟨Fw.sub q.2.1 (by omega) (fun x hx => nomatch hx), q.2.2.1⟩) ?_
        intro v110 h111 L113 q112
        obtain ⟨⟨vm114, rfl, e115⟩, -, -⟩ := q112
        replace e115 := e115.symm; subst e115
        show Go _ _ _ _ _ _ _ _ _ _ _ _ _ _ _ _ _ _ _ _ _ (mkF m 29 #[.val (.ref a1), .val (.int (0 : Int32)), .val (.int p3), .val (.int p4)] [(.int (b2i (loB x1)))])
        rcases Bool.eq_false_or_eq_true (loB x1) with hE116 | hE116
        · -- (loB x1) = 1
          rw [hE116]
          show Go _ _ _ _ _ _ _ _ _ _ _ _ _ _ _ _ _ _ _ _ _ (mkF m 29 #[.val (.ref a1), .val (.int (0 : Int32)), .val (.int p3), .val (.int p4)] [(.int (1 : Int32))])
          refine GoKit.if_eq_n (pc := 29) K d14_29  (by decide) ?_
          refine GoKit.iconst (pc := 32) (x := (1 : Int32)) K d14_32 rfl ?_
          refine GoKit.goto (pc := 33) (pc' := 37) K d14_33 (by decide) ?_
          exact GoKit.retI (pc := 37) K d14_37 (by simp) (by decide) (by decide) (fun _ _ => ⟨by simp [b2i, prB, hc101, hc102, hE109, hE116], rfl⟩)
        · -- (loB x1) = 0
          rw [hE116]
          show Go _ _ _ _ _ _ _ _ _ _ _ _ _ _ _ _ _ _ _ _ _ (mkF m 29 #[.val (.ref a1), .val (.int (0 : Int32)), .val (.int p3), .val (.int p4)] [(.int (0 : Int32))])
          refine GoKit.if_eq_y (pc := 29) (pc' := 36) K d14_29 (by decide)  (by decide) ?_
          refine GoKit.iconst (pc := 36) (x := (0 : Int32)) K d14_36 rfl ?_
          exact GoKit.retI (pc := 37) K d14_37 (by simp) (by decide) (by decide) (fun _ _ => ⟨by simp [b2i, prB, hc101, hc102, hE109, hE116], rfl⟩)
      · -- (hiB x0) = 0
        rw [hE109]
        show Go _ _ _ _ _ _ _ _ _ _ _ _ _ _ _ _ _ _ _ _ _ (mkF m 18 #[.val (.ref a1), .val (.int (0 : Int32)), .val (.int p3), .val (.int p4)] [(.int (0 : Int32))])
        refine GoKit.if_eq_y (pc := 18) (pc' := 36) K d14_18 (by decide)  (by decide) ?_
        refine GoKit.iconst (pc := 36) (x := (0 : Int32)) K d14_36 rfl ?_
        exact GoKit.retI (pc := 37) K d14_37 (by simp) (by decide) (by decide) (fun _ _ => ⟨by simp [b2i, prB, hc101, hc102, hE109], rfl⟩)
set_option maxRecDepth 65536 in
set_option maxHeartbeats 40000000 in
theorem c_pair1 (l : Launch) (Z : State) (a0 : Array Value) (hw : ∀ d ∈ tables_1, d.before a0 Z = true) (a1 : Nat) (k1 : ClassId) (p3 p4 : Int32) (x0 x1 x2 x3 : Int32) (h0 : Heap) (A1 : Arv Z h0 a1 k1 .char (4 : Int32) [(.int x0), (.int x1), (.int x2), (.int x3)] (.int 0)) :
    Con l (⟨"com/example/neat_mapper/neatmapper/jpql/SourcePositionOfPinLaw", "pair", "([CIII)I"⟩ : MethodName) method_7_code 4 (some .int) [] ({ frames := 1, cells := 0, slots := 0, locals := 12 } : Room) Z #[(.ref a1), (.int (1 : Int32)), (.int p3), (.int p4)] h0 [] (fun _ => True) (fun v h _ => v = some (.int (b2i (decide (¬ (1 : Int32) < p3) && (decide ((2 : Int32) < p4) && prB ([x0, x1, x2, x3] : List Int32) 1)))) ∧ h = h0) false := by
  refine Con.intro pn_4 ?_
  intro p e s m below meth c K hV hsh
  have ef : entryFrame m #[(.ref a1), (.int (1 : Int32)), (.int p3), (.int p4)] 4 = (mkF m 0 #[.val (.ref a1), .val (.int (1 : Int32)), .val (.int p3), .val (.int p4)] []) := (by first | (simp [entryFrame, mkF, argsToLocals, cat_ref, cat_int, cat_long, cat_null]; done) | rfl)
  rw [ef]
  refine GoKit.iloadN (pc := 0) K d14_0 rfl ?_
  refine GoKit.iloadN (pc := 1) K d14_1 rfl ?_
  refine GoKit.icmp_lt (pc := 2) (pc' := 36) K d14_2 (by decide) (fun hc101 => ?_) (fun hc101 => ?_)
  · -- (1 : Int32) < p3
    refine GoKit.iconst (pc := 36) (x := (0 : Int32)) K d14_36 rfl ?_
    exact GoKit.retI (pc := 37) K d14_37 (by simp) (by decide) (by decide) (fun _ _ => ⟨by simp [b2i, prB, hc101], rfl⟩)
  · -- ¬ (1 : Int32) < p3
    refine GoKit.iloadN (pc := 5) K d14_5 rfl ?_
    refine GoKit.iconst (pc := 6) (x := (1 : Int32)) K d14_6 rfl ?_
    refine GoKit.iadd (pc := 7) K d14_7 ?_
    rw [(by decide : ((1 : Int32) + (1 : Int32)) = (2 : Int32))]
    refine GoKit.iloadN (pc := 8) K d14_8 rfl ?_
    refine GoKit.icmp_ge (pc := 9) (pc' := 36) K d14_9 (by decide) (fun hc102 => ?_) (fun hc102 => ?_)
    · -- ¬ (2 : Int32) < p4
      refine GoKit.iconst (pc := 36) (x := (0 : Int32)) K d14_36 rfl ?_
      exact GoKit.retI (pc := 37) K d14_37 (by simp) (by decide) (by decide) (fun _ _ => ⟨by simp [b2i, prB, hc101, hc102], rfl⟩)
    · -- (2 : Int32) < p4
      refine GoKit.aloadN (pc := 12) K d14_12 rfl rfl ?_
      refine GoKit.iloadN (pc := 13) K d14_13 rfl ?_
      refine GoKit.caload (pc := 14) (v := .int x1) K A1 (by decide) rfl d14_14 ?_
      refine GoKit.callS (pc := 15) (a0 := a0) (argsL := [(.int x1)]) (rest := []) K (hw _ (List.mem_of_getElem? (i := 125) rfl)) (hw _ (List.mem_of_getElem? (i := 126) rfl)) (hw _ (List.mem_of_getElem? (i := 3) rfl)) (hw _ (List.mem_of_getElem? (i := 127) rfl)) (by decide) (fun hZ => Con.bk (a0 := a0) (c_hi l Z a0 hw x1 h0) hZ (hw _ (List.mem_of_getElem? (i := 127) rfl)) (hw _ (List.mem_of_getElem? (i := 3) rfl)) (by decide) (Nat.le_of_ble_eq_true rfl)) rfl rfl (lenOf pd_14 rfl) rfl d14_15 (by decide) (by decide) (fun _ _ _ q => ⟨Fw.sub q.2.1 (by omega) (fun x hx => nomatch hx), q.2.2.1⟩) ?_
      intro v103 h104 L106 q105
      obtain ⟨⟨vm107, rfl, e108⟩, -, -⟩ := q105
      replace e108 := e108.symm; subst e108
      show Go _ _ _ _ _ _ _ _ _ _ _ _ _ _ _ _ _ _ _ _ _ (mkF m 18 #[.val (.ref a1), .val (.int (1 : Int32)), .val (.int p3), .val (.int p4)] [(.int (b2i (hiB x1)))])
      rcases Bool.eq_false_or_eq_true (hiB x1) with hE109 | hE109
      · -- (hiB x1) = 1
        rw [hE109]
        show Go _ _ _ _ _ _ _ _ _ _ _ _ _ _ _ _ _ _ _ _ _ (mkF m 18 #[.val (.ref a1), .val (.int (1 : Int32)), .val (.int p3), .val (.int p4)] [(.int (1 : Int32))])
        refine GoKit.if_eq_n (pc := 18) K d14_18  (by decide) ?_
        refine GoKit.aloadN (pc := 21) K d14_21 rfl rfl ?_
        refine GoKit.iloadN (pc := 22) K d14_22 rfl ?_
        refine GoKit.iconst (pc := 23) (x := (1 : Int32)) K d14_23 rfl ?_
        refine GoKit.iadd (pc := 24) K d14_24 ?_
        rw [(by decide : ((1 : Int32) + (1 : Int32)) = (2 : Int32))]
        refine GoKit.caload (pc := 25) (v := .int x2) K A1 (by decide) rfl d14_25 ?_
        refine GoKit.callS (pc := 26) (a0 := a0) (argsL := [(.int x2)]) (rest := []) K (hw _ (List.mem_of_getElem? (i := 175) rfl)) (hw _ (List.mem_of_getElem? (i := 176) rfl)) (hw _ (List.mem_of_getElem? (i := 3) rfl)) (hw _ (List.mem_of_getElem? (i := 177) rfl)) (by decide) (fun hZ => Con.bk (a0 := a0) (c_lo l Z a0 hw x2 h0) hZ (hw _ (List.mem_of_getElem? (i := 177) rfl)) (hw _ (List.mem_of_getElem? (i := 3) rfl)) (by decide) (Nat.le_of_ble_eq_true rfl)) rfl rfl (lenOf pd_14 rfl) rfl d14_26 (by decide) (by decide) (fun _ _ _ q => ⟨Fw.sub q.2.1 (by omega) (fun x hx => nomatch hx), q.2.2.1⟩) ?_
        intro v110 h111 L113 q112
        obtain ⟨⟨vm114, rfl, e115⟩, -, -⟩ := q112
        replace e115 := e115.symm; subst e115
        show Go _ _ _ _ _ _ _ _ _ _ _ _ _ _ _ _ _ _ _ _ _ (mkF m 29 #[.val (.ref a1), .val (.int (1 : Int32)), .val (.int p3), .val (.int p4)] [(.int (b2i (loB x2)))])
        rcases Bool.eq_false_or_eq_true (loB x2) with hE116 | hE116
        · -- (loB x2) = 1
          rw [hE116]
          show Go _ _ _ _ _ _ _ _ _ _ _ _ _ _ _ _ _ _ _ _ _ (mkF m 29 #[.val (.ref a1), .val (.int (1 : Int32)), .val (.int p3), .val (.int p4)] [(.int (1 : Int32))])
          refine GoKit.if_eq_n (pc := 29) K d14_29  (by decide) ?_
          refine GoKit.iconst (pc := 32) (x := (1 : Int32)) K d14_32 rfl ?_
          refine GoKit.goto (pc := 33) (pc' := 37) K d14_33 (by decide) ?_
          exact GoKit.retI (pc := 37) K d14_37 (by simp) (by decide) (by decide) (fun _ _ => ⟨by simp [b2i, prB, hc101, hc102, hE109, hE116], rfl⟩)
        · -- (loB x2) = 0
          rw [hE116]
          show Go _ _ _ _ _ _ _ _ _ _ _ _ _ _ _ _ _ _ _ _ _ (mkF m 29 #[.val (.ref a1), .val (.int (1 : Int32)), .val (.int p3), .val (.int p4)] [(.int (0 : Int32))])
          refine GoKit.if_eq_y (pc := 29) (pc' := 36) K d14_29 (by decide)  (by decide) ?_
          refine GoKit.iconst (pc := 36) (x := (0 : Int32)) K d14_36 rfl ?_
          exact GoKit.retI (pc := 37) K d14_37 (by simp) (by decide) (by decide) (fun _ _ => ⟨by simp [b2i, prB, hc101, hc102, hE109, hE116], rfl⟩)
      · -- (hiB x1) = 0
        rw [hE109]
        show Go _ _ _ _ _ _ _ _ _ _ _ _ _ _ _ _ _ _ _ _ _ (mkF m 18 #[.val (.ref a1), .val (.int (1 : Int32)), .val (.int p3), .val (.int p4)] [(.int (0 : Int32))])
        refine GoKit.if_eq_y (pc := 18) (pc' := 36) K d14_18 (by decide)  (by decide) ?_
        refine GoKit.iconst (pc := 36) (x := (0 : Int32)) K d14_36 rfl ?_
        exact GoKit.retI (pc := 37) K d14_37 (by simp) (by decide) (by decide) (fun _ _ => ⟨by simp [b2i, prB, hc101, hc102, hE109], rfl⟩)
set_option maxRecDepth 65536 in
set_option maxHeartbeats 40000000 in
theorem c_pair2 (l : Launch) (Z : State) (a0 : Array Value) (hw : ∀ d ∈ tables_1, d.before a0 Z = true) (a1 : Nat) (k1 : ClassId) (p3 p4 : Int32) (x0 x1 x2 x3 : Int32) (h0 : Heap) (A1 : Arv Z h0 a1 k1 .char (4 : Int32) [(.int x0), (.int x1), (.int x2), (.int x3)] (.int 0)) :
    Con l (⟨"com/example/neat_mapper/neatmapper/jpql/SourcePositionOfPinLaw", "pair", "([CIII)I"⟩ : MethodName) method_7_code 4 (some .int) [] ({ frames := 1, cells := 0, slots := 0, locals := 12 } : Room) Z #[(.ref a1), (.int (2 : Int32)), (.int p3), (.int p4)] h0 [] (fun _ => True) (fun v h _ => v = some (.int (b2i (decide (¬ (2 : Int32) < p3) && (decide ((3 : Int32) < p4) && prB ([x0, x1, x2, x3] : List Int32) 2)))) ∧ h = h0) false := by
  refine Con.intro pn_4 ?_
  intro p e s m below meth c K hV hsh
  have ef : entryFrame m #[(.ref a1), (.int (2 : Int32)), (.int p3), (.int p4)] 4 = (mkF m 0 #[.val (.ref a1), .val (.int (2 : Int32)), .val (.int p3), .val (.int p4)] []) := (by first | (simp [entryFrame, mkF, argsToLocals, cat_ref, cat_int, cat_long, cat_null]; done) | rfl)
  rw [ef]
  refine GoKit.iloadN (pc := 0) K d14_0 rfl ?_
  refine GoKit.iloadN (pc := 1) K d14_1 rfl ?_
  refine GoKit.icmp_lt (pc := 2) (pc' := 36) K d14_2 (by decide) (fun hc101 => ?_) (fun hc101 => ?_)
  · -- (2 : Int32) < p3
    refine GoKit.iconst (pc := 36) (x := (0 : Int32)) K d14_36 rfl ?_
    exact GoKit.retI (pc := 37) K d14_37 (by simp) (by decide) (by decide) (fun _ _ => ⟨by simp [b2i, prB, hc101], rfl⟩)
  · -- ¬ (2 : Int32) < p3
    refine GoKit.iloadN (pc := 5) K d14_5 rfl ?_
    refine GoKit.iconst (pc := 6) (x := (1 : Int32)) K d14_6 rfl ?_
    refine GoKit.iadd (pc := 7) K d14_7 ?_
    rw [(by decide : ((2 : Int32) + (1 : Int32)) = (3 : Int32))]
    refine GoKit.iloadN (pc := 8) K d14_8 rfl ?_
    refine GoKit.icmp_ge (pc := 9) (pc' := 36) K d14_9 (by decide) (fun hc102 => ?_) (fun hc102 => ?_)
    · -- ¬ (3 : Int32) < p4
      refine GoKit.iconst (pc := 36) (x := (0 : Int32)) K d14_36 rfl ?_
      exact GoKit.retI (pc := 37) K d14_37 (by simp) (by decide) (by decide) (fun _ _ => ⟨by simp [b2i, prB, hc101, hc102], rfl⟩)
    · -- (3 : Int32) < p4
      refine GoKit.aloadN (pc := 12) K d14_12 rfl rfl ?_
      refine GoKit.iloadN (pc := 13) K d14_13 rfl ?_
      refine GoKit.caload (pc := 14) (v := .int x2) K A1 (by decide) rfl d14_14 ?_
      refine GoKit.callS (pc := 15) (a0 := a0) (argsL := [(.int x2)]) (rest := []) K (hw _ (List.mem_of_getElem? (i := 125) rfl)) (hw _ (List.mem_of_getElem? (i := 126) rfl)) (hw _ (List.mem_of_getElem? (i := 3) rfl)) (hw _ (List.mem_of_getElem? (i := 127) rfl)) (by decide) (fun hZ => Con.bk (a0 := a0) (c_hi l Z a0 hw x2 h0) hZ (hw _ (List.mem_of_getElem? (i := 127) rfl)) (hw _ (List.mem_of_getElem? (i := 3) rfl)) (by decide) (Nat.le_of_ble_eq_true rfl)) rfl rfl (lenOf pd_14 rfl) rfl d14_15 (by decide) (by decide) (fun _ _ _ q => ⟨Fw.sub q.2.1 (by omega) (fun x hx => nomatch hx), q.2.2.1⟩) ?_
      intro v103 h104 L106 q105
      obtain ⟨⟨vm107, rfl, e108⟩, -, -⟩ := q105
      replace e108 := e108.symm; subst e108
      show Go _ _ _ _ _ _ _ _ _ _ _ _ _ _ _ _ _ _ _ _ _ (mkF m 18 #[.val (.ref a1), .val (.int (2 : Int32)), .val (.int p3), .val (.int p4)] [(.int (b2i (hiB x2)))])
      rcases Bool.eq_false_or_eq_true (hiB x2) with hE109 | hE109
      · -- (hiB x2) = 1
        rw [hE109]
        show Go _ _ _ _ _ _ _ _ _ _ _ _ _ _ _ _ _ _ _ _ _ (mkF m 18 #[.val (.ref a1), .val (.int (2 : Int32)), .val (.int p3), .val (.int p4)] [(.int (1 : Int32))])
        refine GoKit.if_eq_n (pc := 18) K d14_18  (by decide) ?_
        refine GoKit.aloadN (pc := 21) K d14_21 rfl rfl ?_
        refine GoKit.iloadN (pc := 22) K d14_22 rfl ?_
        refine GoKit.iconst (pc := 23) (x := (1 : Int32)) K d14_23 rfl ?_
        refine GoKit.iadd (pc := 24) K d14_24 ?_
        rw [(by decide : ((2 : Int32) + (1 : Int32)) = (3 : Int32))]
        refine GoKit.caload (pc := 25) (v := .int x3) K A1 (by decide) rfl d14_25 ?_
        refine GoKit.callS (pc := 26) (a0 := a0) (argsL := [(.int x3)]) (rest := []) K (hw _ (List.mem_of_getElem? (i := 175) rfl)) (hw _ (List.mem_of_getElem? (i := 176) rfl)) (hw _ (List.mem_of_getElem? (i := 3) rfl)) (hw _ (List.mem_of_getElem? (i := 177) rfl)) (by decide) (fun hZ => Con.bk (a0 := a0) (c_lo l Z a0 hw x3 h0) hZ (hw _ (List.mem_of_getElem? (i := 177) rfl)) (hw _ (List.mem_of_getElem? (i := 3) rfl)) (by decide) (Nat.le_of_ble_eq_true rfl)) rfl rfl (lenOf pd_14 rfl) rfl d14_26 (by decide) (by decide) (fun _ _ _ q => ⟨Fw.sub q.2.1 (by omega) (fun x hx => nomatch hx), q.2.2.1⟩) ?_
        intro v110 h111 L113 q112
        obtain ⟨⟨vm114, rfl, e115⟩, -, -⟩ := q112
        replace e115 := e115.symm; subst e115
        show Go _ _ _ _ _ _ _ _ _ _ _ _ _ _ _ _ _ _ _ _ _ (mkF m 29 #[.val (.ref a1), .val (.int (2 : Int32)), .val (.int p3), .val (.int p4)] [(.int (b2i (loB x3)))])
        rcases Bool.eq_false_or_eq_true (loB x3) with hE116 | hE116
        · -- (loB x3) = 1
          rw [hE116]
          show Go _ _ _ _ _ _ _ _ _ _ _ _ _ _ _ _ _ _ _ _ _ (mkF m 29 #[.val (.ref a1), .val (.int (2 : Int32)), .val (.int p3), .val (.int p4)] [(.int (1 : Int32))])
          refine GoKit.if_eq_n (pc := 29) K d14_29  (by decide) ?_
          refine GoKit.iconst (pc := 32) (x := (1 : Int32)) K d14_32 rfl ?_
          refine GoKit.goto (pc := 33) (pc' := 37) K d14_33 (by decide) ?_
          exact GoKit.retI (pc := 37) K d14_37 (by simp) (by decide) (by decide) (fun _ _ => ⟨by simp [b2i, prB, hc101, hc102, hE109, hE116], rfl⟩)
        · -- (loB x3) = 0
          rw [hE116]
          show Go _ _ _ _ _ _ _ _ _ _ _ _ _ _ _ _ _ _ _ _ _ (mkF m 29 #[.val (.ref a1), .val (.int (2 : Int32)), .val (.int p3), .val (.int p4)] [(.int (0 : Int32))])
          refine GoKit.if_eq_y (pc := 29) (pc' := 36) K d14_29 (by decide)  (by decide) ?_
          refine GoKit.iconst (pc := 36) (x := (0 : Int32)) K d14_36 rfl ?_
          exact GoKit.retI (pc := 37) K d14_37 (by simp) (by decide) (by decide) (fun _ _ => ⟨by simp [b2i, prB, hc101, hc102, hE109, hE116], rfl⟩)
      · -- (hiB x2) = 0
        rw [hE109]
        show Go _ _ _ _ _ _ _ _ _ _ _ _ _ _ _ _ _ _ _ _ _ (mkF m 18 #[.val (.ref a1), .val (.int (2 : Int32)), .val (.int p3), .val (.int p4)] [(.int (0 : Int32))])
        refine GoKit.if_eq_y (pc := 18) (pc' := 36) K d14_18 (by decide)  (by decide) ?_
        refine GoKit.iconst (pc := 36) (x := (0 : Int32)) K d14_36 rfl ?_
        exact GoKit.retI (pc := 37) K d14_37 (by simp) (by decide) (by decide) (fun _ _ => ⟨by simp [b2i, prB, hc101, hc102, hE109], rfl⟩)
set_option maxRecDepth 65536 in
set_option maxHeartbeats 40000000 in
theorem c_pcft (l : Launch) (Z : State) (a0 : Array Value) (hw : ∀ d ∈ tables_1, d.before a0 Z = true) (p1 p2 p3 : Int32) (h0 : Heap) (h1 : ¬ p1 < 0) (h2 : ¬ p2 < p1) (h3 : ¬ p3 < p2) :
    Con l (⟨"jdk/internal/util/Preconditions", "checkFromToIndex", "(IIILjava/util/function/BiFunction;)I"⟩ : MethodName) jdk_41_method_12_code 4 (some .int) [] ({ frames := 0, cells := 0, slots := 0, locals := 0 } : Room) Z #[(.int p1), (.int p2), (.int p3), .null] h0 [] (fun _ => True) (fun v h _ => v = some (.int p1) ∧ h = h0) false := by
  refine Con.intro pn_1 ?_
  intro p e s m below meth c K hV hsh
  have ef : entryFrame m #[(.int p1), (.int p2), (.int p3), .null] 4 = (mkF m 0 #[.val (.int p1), .val (.int p2), .val (.int p3), .val .null] []) := (by first | (simp [entryFrame, mkF, argsToLocals, cat_ref, cat_int, cat_long, cat_null]; done) | rfl)
  rw [ef]
  refine GoKit.iloadN (pc := 0) K d21_0 rfl ?_
  refine GoKit.if_lt_n (pc := 1) K d21_1  h1 ?_
  refine GoKit.iloadN (pc := 4) K d21_4 rfl ?_
  refine GoKit.iloadN (pc := 5) K d21_5 rfl ?_
  refine GoKit.icmp_gt_n (pc := 6) K d21_6  h2 ?_
  refine GoKit.iloadN (pc := 9) K d21_9 rfl ?_
  refine GoKit.iloadN (pc := 10) K d21_10 rfl ?_
  refine GoKit.icmp_le_y (pc := 11) (pc' := 22) K d21_11 (by decide)  h3 ?_
  refine GoKit.iloadN (pc := 22) K d21_22 rfl ?_
  exact GoKit.retI (pc := 23) K d21_23 (by simp) (by decide) (by decide) (fun _ _ => ⟨rfl, rfl⟩)
set_option maxRecDepth 65536 in
set_option maxHeartbeats 40000000 in
theorem c_ocft (l : Launch) (Z : State) (a0 : Array Value) (hw : ∀ d ∈ tables_1, d.before a0 Z = true) (p1 p2 p3 : Int32) (h0 : Heap) (h1 : ¬ p1 < 0) (h2 : ¬ p2 < p1) (h3 : ¬ p3 < p2) :
    Con l (⟨"java/util/Objects", "checkFromToIndex", "(III)I"⟩ : MethodName) jdk_31_method_18_code 3 (some .int) [] ({ frames := 1, cells := 0, slots := 0, locals := 15 } : Room) Z #[(.int p1), (.int p2), (.int p3)] h0 [] (fun _ => True) (fun v h _ => v = some (.int p1) ∧ h = h0) false := by
  refine Con.intro pn_6 ?_
  intro p e s m below meth c K hV hsh
  have ef : entryFrame m #[(.int p1), (.int p2), (.int p3)] 3 = (mkF m 0 #[.val (.int p1), .val (.int p2), .val (.int p3)] []) := (by first | (simp [entryFrame, mkF, argsToLocals, cat_ref, cat_int, cat_long, cat_null]; done) | rfl)
  rw [ef]
  refine GoKit.iloadN (pc := 0) K d20_0 rfl ?_
  refine GoKit.iloadN (pc := 1) K d20_1 rfl ?_
  refine GoKit.iloadN (pc := 2) K d20_2 rfl ?_
  refine GoKit.aconstNull (pc := 3) K d20_3 ?_
  refine GoKit.callS (pc := 4) (a0 := a0) (argsL := [(.int p1), (.int p2), (.int p3), .null]) (rest := []) K (hw _ (List.mem_of_getElem? (i := 96) rfl)) (hw _ (List.mem_of_getElem? (i := 97) rfl)) (hw _ (List.mem_of_getElem? (i := 98) rfl)) (hw _ (List.mem_of_getElem? (i := 99) rfl)) (by decide) (fun hZ => Con.bk (a0 := a0) (c_pcft l Z a0 hw p1 p2 p3 h0 h1 h2 h3) hZ (hw _ (List.mem_of_getElem? (i := 99) rfl)) (hw _ (List.mem_of_getElem? (i := 98) rfl)) (by decide) (Nat.le_of_ble_eq_true rfl)) rfl rfl (lenOf pd_15 rfl) rfl d20_4 (by decide) (by decide) (fun _ _ _ q => ⟨Fw.sub q.2.1 (by omega) (fun x hx => nomatch hx), q.2.2.1⟩) ?_
  intro v101 h102 L104 q103
  obtain ⟨⟨vm105, rfl, e106⟩, -, -⟩ := q103
  replace e106 := e106.symm; subst e106
  show Go _ _ _ _ _ _ _ _ _ _ _ _ _ _ _ _ _ _ _ _ _ (mkF m 7 #[.val (.int p1), .val (.int p2), .val (.int p3)] [(.int p1)])
  exact GoKit.retI (pc := 7) K d20_7 (by simp) (by decide) (by decide) (fun _ _ => ⟨rfl, rfl⟩)
set_option maxRecDepth 65536 in
set_option maxHeartbeats 40000000 in
theorem c_cpc (l : Launch) (Z : State) (a0 : Array Value) (hw : ∀ d ∈ tables_1, d.before a0 Z = true) (a1 t1 i1 k : Nat) (cs : List Int32) (h0 : Heap) (n0 : Nat) (O0 : Old Z n0 h0) (z0 : Int32) (fm : Value) (B0 : Base Z z0 fm) (T1 : Str Z h0 a1 t1 cs) (hi1 : i1 ≤ k) (hk : k ≤ cs.length) (hl : cs.length ≤ 4000) :
    Con l (⟨"java/lang/Character", "codePointCount", "(Ljava/lang/CharSequence;II)I"⟩ : MethodName) jdk_89_method_33_code 5 (some .int) [] ({ frames := 5, cells := 0, slots := 0, locals := 66 } : Room) Z #[(.ref a1), (.int (Int32.ofNat i1)), (.int (Int32.ofNat k))] h0 [] (fun _ => True) (fun v h _ => v = some (.int (Int32.ofNat (k - i1 - (prN (prB cs) k (k - i1) i1)))) ∧ h = h0) false := by
  refine Con.intro pn_5 ?_
  intro p e s m below meth c K hV hsh
  have ef : entryFrame m #[(.ref a1), (.int (Int32.ofNat i1)), (.int (Int32.ofNat k))] 5 = (mkF m 0 #[.val (.ref a1), .val (.int (Int32.ofNat i1)), .val (.int (Int32.ofNat k)), .unset, .unset] []) := (by first | (simp [entryFrame, mkF, argsToLocals, cat_ref, cat_int, cat_long, cat_null]; done) | rfl)
  rw [ef]
  have hn0 : n0 ≤ h0.size := by rw [← O0.1]; exact O0.2.1
  refine GoKit.iloadN (pc := 0) K d19_0 rfl ?_
  refine GoKit.iloadN (pc := 1) K d19_1 rfl ?_
  refine GoKit.aloadN (pc := 2) K d19_2 rfl rfl ?_
  refine GoKit.callF (pc := 3) (a0 := a0) (argsL := []) (rest := [(.int (Int32.ofNat k)), (.int (Int32.ofNat i1))]) K (hw _ (List.mem_of_getElem? (i := 86) rfl)) (hw _ (List.mem_of_getElem? (i := 87) rfl)) (hw _ (List.mem_of_getElem? (i := 88) rfl)) (hw _ (List.mem_of_getElem? (i := 89) rfl)) (hw _ (List.mem_of_getElem? (i := 74) rfl)) (hw _ (List.mem_of_getElem? (i := 90) rfl)) (hw _ (List.mem_of_getElem? (i := 91) rfl)) (hw _ (List.mem_of_getElem? (i := 92) rfl)) (by decide) T1.exa (fun hZ => Str.bkLen hZ (kI := 4) (fun d hd => hw d ((by decide +kernel : ∀ d ∈ StrChars.Road.wordsLen, d ∈ tables_1) d hd)) (hw _ (List.mem_of_getElem? (i := 8) rfl)) T1 (B0.s0.ext O0.2) B0.hz (by decide) (Nat.le_of_ble_eq_true rfl)) rfl rfl (lenOf pd_16 rfl) rfl d19_3 (by decide) (by decide) (fun _ _ _ q => by obtain ⟨-, rfl, rfl⟩ := q; exact ⟨fun _ z => (nomatch z), Nat.le_refl _⟩) ?_
  intro v101 h102 L104 q103
  obtain ⟨rfl, -, e105⟩ := q103
  replace e105 := e105.symm; subst e105
  show Go _ _ _ _ _ _ _ _ _ _ _ _ _ _ _ _ _ _ _ _ _ (mkF m 8 #[.val (.ref a1), .val (.int (Int32.ofNat i1)), .val (.int (Int32.ofNat k)), .unset, .unset] [(.int (Int32.ofNat cs.length)), (.int (Int32.ofNat k)), (.int (Int32.ofNat i1))])
  refine GoKit.callS (pc := 8) (a0 := a0) (argsL := [(.int (Int32.ofNat i1)), (.int (Int32.ofNat k)), (.int (Int32.ofNat cs.length))]) (rest := []) K (hw _ (List.mem_of_getElem? (i := 93) rfl)) (hw _ (List.mem_of_getElem? (i := 94) rfl)) (hw _ (List.mem_of_getElem? (i := 70) rfl)) (hw _ (List.mem_of_getElem? (i := 95) rfl)) (by decide) (fun hZ => Con.bk (a0 := a0) (c_ocft l Z a0 hw (Int32.ofNat i1) (Int32.ofNat k) (Int32.ofNat cs.length) h0 (oN_nn (by omega)) (fun z => absurd ((oN_lt (by omega) (by omega)).mp z) (by omega)) (fun z => absurd ((oN_lt (by omega) (by omega)).mp z) (by omega))) hZ (hw _ (List.mem_of_getElem? (i := 95) rfl)) (hw _ (List.mem_of_getElem? (i := 70) rfl)) (by decide) (Nat.le_of_ble_eq_true rfl)) rfl rfl (lenOf pd_17 rfl) rfl d19_8 (by decide) (by decide) (fun _ _ _ q => ⟨Fw.sub q.2.1 (by omega) (fun x hx => nomatch hx), q.2.2.1⟩) ?_
  intro v106 h107 L109 q108
  obtain ⟨⟨vm110, rfl, e111⟩, -, -⟩ := q108
  replace e111 := e111.symm; subst e111
  show Go _ _ _ _ _ _ _ _ _ _ _ _ _ _ _ _ _ _ _ _ _ (mkF m 11 #[.val (.ref a1), .val (.int (Int32.ofNat i1)), .val (.int (Int32.ofNat k)), .unset, .unset] [(.int (Int32.ofNat i1))])
  refine GoKit.pop (pc := 11) K d19_11 rfl ?_
  refine GoKit.iloadN (pc := 12) K d19_12 rfl ?_
  refine GoKit.iloadN (pc := 13) K d19_13 rfl ?_
  refine GoKit.isub (pc := 14) K d19_14 ?_
  have e112 : Int32.ofNat k - Int32.ofNat i1 = Int32.ofNat ((k - i1 - (prN (prB cs) k (k - i1) i1)) + (prN (prB cs) k (k - i1) i1)) := by have := prN_le (prB cs) k (k - i1) i1; rw [oN_sub hi1]; congr 1; omega
  rw [e112]
  show Go _ _ _ _ _ _ _ _ _ _ _ _ _ _ _ _ _ _ _ _ _ (mkF m 15 #[.val (.ref a1), .val (.int (Int32.ofNat i1)), .val (.int (Int32.ofNat k)), .unset, .unset] [(.int (Int32.ofNat ((k - i1 - (prN (prB cs) k (k - i1) i1)) + (prN (prB cs) k (k - i1) i1))))])
  refine GoKit.istoreN (pc := 15) (l' := #[.val (.ref a1), .val (.int (Int32.ofNat i1)), .val (.int (Int32.ofNat k)), .val (.int (Int32.ofNat ((k - i1 - (prN (prB cs) k (k - i1) i1)) + (prN (prB cs) k (k - i1) i1)))), .unset]) K d19_15 rfl ?_
  refine GoKit.iloadN (pc := 16) K d19_16 rfl ?_
  refine GoKit.istore (pc := 17) (l' := #[.val (.ref a1), .val (.int (Int32.ofNat i1)), .val (.int (Int32.ofNat k)), .val (.int (Int32.ofNat ((k - i1 - (prN (prB cs) k (k - i1) i1)) + (prN (prB cs) k (k - i1) i1)))), .val (.int (Int32.ofNat i1))]) K d19_17 rfl ?_
  have LP : ∀ (d i : Nat), k ≤ i + d → i ≤ k → Go p l e ({ frames := 5, cells := 0, slots := 0, locals := 66 } : Room) s m #[(.ref a1), (.int (Int32.ofNat i1)), (.int (Int32.ofNat k))] below meth c Z h0.size [] [] "java/lang/Character" (fun v h _ => v = some (.int (Int32.ofNat (k - i1 - (prN (prB cs) k (k - i1) i1)))) ∧ h = h0) false s.vm h0 0 0 (mkF m 19 #[.val (.ref a1), .val (.int (Int32.ofNat i1)), .val (.int (Int32.ofNat k)), .val (.int (Int32.ofNat ((k - i1 - (prN (prB cs) k (k - i1) i1)) + prN (prB cs) k d i))), .val (.int (Int32.ofNat i))] []) := by
    intro d
    induction d with
    | zero =>
      intro i hf hi
      refine GoKit.iload (pc := 19) K d19_19 rfl ?_
      refine GoKit.iloadN (pc := 21) K d19_21 rfl ?_
      refine GoKit.icmp_ge_y (pc := 22) (pc' := 71) K d19_22 (by decide)  (fun z => absurd ((oN_lt (by omega) (by omega)).mp z) (by omega)) ?_
      refine GoKit.iloadN (pc := 71) K d19_71 rfl ?_
      have e113 : prN (prB cs) k 0 i = 0 := rfl
      exact GoKit.retI (pc := 72) K d19_72 (by simp) (by decide) (by decide) (fun _ _ => ⟨by rw [e113]; rfl, rfl⟩)
    | succ d ih =>
      intro i hf hi
      by_cases hlt : i < k
      ·
        refine GoKit.iload (pc := 19) K d19_19 rfl ?_
        refine GoKit.iloadN (pc := 21) K d19_21 rfl ?_
        refine GoKit.icmp_ge_n (pc := 22) K d19_22  ((oN_lt (by omega) (by omega)).mpr hlt) ?_
        refine GoKit.aloadN (pc := 25) K d19_25 rfl rfl ?_
        refine GoKit.iload (pc := 26) K d19_26 rfl ?_
        refine GoKit.iinc (pc := 28) (y := (Int32.ofNat (i + 1))) (l' := #[.val (.ref a1), .val (.int (Int32.ofNat i1)), .val (.int (Int32.ofNat k)), .val (.int (Int32.ofNat ((k - i1 - (prN (prB cs) k (k - i1) i1)) + prN (prB cs) k (d + 1) i))), .val (.int (Int32.ofNat (i + 1)))]) K d19_28 rfl (oN_succ _) rfl ?_
        refine GoKit.callF (pc := 31) (a0 := a0) (argsL := [(.int (Int32.ofNat i))]) (rest := []) K (hw _ (List.mem_of_getElem? (i := 166) rfl)) (hw _ (List.mem_of_getElem? (i := 167) rfl)) (hw _ (List.mem_of_getElem? (i := 168) rfl)) (hw _ (List.mem_of_getElem? (i := 169) rfl)) (hw _ (List.mem_of_getElem? (i := 133) rfl)) (hw _ (List.mem_of_getElem? (i := 170) rfl)) (hw _ (List.mem_of_getElem? (i := 171) rfl)) (hw _ (List.mem_of_getElem? (i := 92) rfl)) (by decide) T1.exa (fun hZ => Con.bk (a0 := a0) (c_chr l Z a0 hw a1 t1 i cs h0 n0 O0 z0 fm B0 T1 (by omega)) hZ (hw _ (List.mem_of_getElem? (i := 135) rfl)) (hw _ (List.mem_of_getElem? (i := 9) rfl)) (by decide) (Nat.le_of_ble_eq_true rfl)) rfl rfl (lenOf pd_18 rfl) rfl d19_31 (by decide) (by decide) (fun _ _ _ q => ⟨Fw.sub q.2.1 (by omega) (fun x hx => nomatch hx), q.2.2.1⟩) ?_
        intro v114 h115 L117 q116
        obtain ⟨⟨vm118, rfl, e119⟩, -, -⟩ := q116
        replace e119 := e119.symm; subst e119
        show Go _ _ _ _ _ _ _ _ _ _ _ _ _ _ _ _ _ _ _ _ _ (mkF m 36 #[.val (.ref a1), .val (.int (Int32.ofNat i1)), .val (.int (Int32.ofNat k)), .val (.int (Int32.ofNat ((k - i1 - (prN (prB cs) k (k - i1) i1)) + prN (prB cs) k (d + 1) i))), .val (.int (Int32.ofNat (i + 1)))] [(.int (cs.getD i 0))])
        refine GoKit.callS (pc := 36) (a0 := a0) (argsL := [(.int (cs.getD i 0))]) (rest := []) K (hw _ (List.mem_of_getElem? (i := 172) rfl)) (hw _ (List.mem_of_getElem? (i := 158) rfl)) (hw _ (List.mem_of_getElem? (i := 84) rfl)) (hw _ (List.mem_of_getElem? (i := 159) rfl)) (by decide) (fun hZ => Con.bk (a0 := a0) (c_ihs l Z a0 hw (cs.getD i 0) h0) hZ (hw _ (List.mem_of_getElem? (i := 159) rfl)) (hw _ (List.mem_of_getElem? (i := 84) rfl)) (by decide) (Nat.le_of_ble_eq_true rfl)) rfl rfl (lenOf pd_14 rfl) rfl d19_36 (by decide) (by decide) (fun _ _ _ q => ⟨Fw.sub q.2.1 (by omega) (fun x hx => nomatch hx), q.2.2.1⟩) ?_
        intro v120 h121 L123 q122
        obtain ⟨⟨vm124, rfl, e125⟩, -, -⟩ := q122
        replace e125 := e125.symm; subst e125
        show Go _ _ _ _ _ _ _ _ _ _ _ _ _ _ _ _ _ _ _ _ _ (mkF m 39 #[.val (.ref a1), .val (.int (Int32.ofNat i1)), .val (.int (Int32.ofNat k)), .val (.int (Int32.ofNat ((k - i1 - (prN (prB cs) k (k - i1) i1)) + prN (prB cs) k (d + 1) i))), .val (.int (Int32.ofNat (i + 1)))] [(.int (b2i (hiB (cs.getD i 0))))])
        rcases Bool.eq_false_or_eq_true (hiB (cs.getD i 0)) with hE126 | hE126
        · -- (hiB (cs.getD i 0)) = 1
          rw [hE126]
          show Go _ _ _ _ _ _ _ _ _ _ _ _ _ _ _ _ _ _ _ _ _ (mkF m 39 #[.val (.ref a1), .val (.int (Int32.ofNat i1)), .val (.int (Int32.ofNat k)), .val (.int (Int32.ofNat ((k - i1 - (prN (prB cs) k (k - i1) i1)) + prN (prB cs) k (d + 1) i))), .val (.int (Int32.ofNat (i + 1)))] [(.int (1 : Int32))])
          refine GoKit.if_eq_n (pc := 39) K d19_39  (by decide) ?_
          refine GoKit.iload (pc := 42) K d19_42 rfl ?_
          refine GoKit.iloadN (pc := 44) K d19_44 rfl ?_
          refine GoKit.icmp_ge (pc := 45) (pc' := 19) K d19_45 (by decide) (fun hc127 => ?_) (fun hc127 => ?_)
          · -- ¬ (Int32.ofNat (i + 1)) < (Int32.ofNat k)
            have qhc127 := mt ((oN_lt (by omega) (by omega))).mpr hc127
            have e129 : prN (prB cs) k (d + 1) i = prN (prB cs) k d (i + 1) := by simp [-List.getD_eq_getElem?_getD, prN, hlt, prB, hE126, hc127, qhc127]
            have g128 := ih (i + 1) (by omega) (by omega)
            rw [← e129] at g128
            exact g128
          · -- (Int32.ofNat (i + 1)) < (Int32.ofNat k)
            refine GoKit.aloadN (pc := 48) K d19_48 rfl rfl ?_
            refine GoKit.iload (pc := 49) K d19_49 rfl ?_
            refine GoKit.callF (pc := 51) (a0 := a0) (argsL := [(.int (Int32.ofNat (i + 1)))]) (rest := []) K (hw _ (List.mem_of_getElem? (i := 166) rfl)) (hw _ (List.mem_of_getElem? (i := 167) rfl)) (hw _ (List.mem_of_getElem? (i := 168) rfl)) (hw _ (List.mem_of_getElem? (i := 169) rfl)) (hw _ (List.mem_of_getElem? (i := 133) rfl)) (hw _ (List.mem_of_getElem? (i := 170) rfl)) (hw _ (List.mem_of_getElem? (i := 171) rfl)) (hw _ (List.mem_of_getElem? (i := 92) rfl)) (by decide) T1.exa (fun hZ => Con.bk (a0 := a0) (c_chr l Z a0 hw a1 t1 (i + 1) cs h0 n0 O0 z0 fm B0 T1 (by have := (oN_lt (by omega) (by omega)).mp hc127; omega)) hZ (hw _ (List.mem_of_getElem? (i := 135) rfl)) (hw _ (List.mem_of_getElem? (i := 9) rfl)) (by decide) (Nat.le_of_ble_eq_true rfl)) rfl rfl (lenOf pd_18 rfl) rfl d19_51 (by decide) (by decide) (fun _ _ _ q => ⟨Fw.sub q.2.1 (by omega) (fun x hx => nomatch hx), q.2.2.1⟩) ?_
            intro v130 h131 L133 q132
            obtain ⟨⟨vm134, rfl, e135⟩, -, -⟩ := q132
            replace e135 := e135.symm; subst e135
            show Go _ _ _ _ _ _ _ _ _ _ _ _ _ _ _ _ _ _ _ _ _ (mkF m 56 #[.val (.ref a1), .val (.int (Int32.ofNat i1)), .val (.int (Int32.ofNat k)), .val (.int (Int32.ofNat ((k - i1 - (prN (prB cs) k (k - i1) i1)) + prN (prB cs) k (d + 1) i))), .val (.int (Int32.ofNat (i + 1)))] [(.int (cs.getD (i + 1) 0))])
            refine GoKit.callS (pc := 56) (a0 := a0) (argsL := [(.int (cs.getD (i + 1) 0))]) (rest := []) K (hw _ (List.mem_of_getElem? (i := 182) rfl)) (hw _ (List.mem_of_getElem? (i := 180) rfl)) (hw _ (List.mem_of_getElem? (i := 84) rfl)) (hw _ (List.mem_of_getElem? (i := 181) rfl)) (by decide) (fun hZ => Con.bk (a0 := a0) (c_ils l Z a0 hw (cs.getD (i + 1) 0) h0) hZ (hw _ (List.mem_of_getElem? (i := 181) rfl)) (hw _ (List.mem_of_getElem? (i := 84) rfl)) (by decide) (Nat.le_of_ble_eq_true rfl)) rfl rfl (lenOf pd_14 rfl) rfl d19_56 (by decide) (by decide) (fun _ _ _ q => ⟨Fw.sub q.2.1 (by omega) (fun x hx => nomatch hx), q.2.2.1⟩) ?_
            intro v136 h137 L139 q138
            obtain ⟨⟨vm140, rfl, e141⟩, -, -⟩ := q138
            replace e141 := e141.symm; subst e141
            show Go _ _ _ _ _ _ _ _ _ _ _ _ _ _ _ _ _ _ _ _ _ (mkF m 59 #[.val (.ref a1), .val (.int (Int32.ofNat i1)), .val (.int (Int32.ofNat k)), .val (.int (Int32.ofNat ((k - i1 - (prN (prB cs) k (k - i1) i1)) + prN (prB cs) k (d + 1) i))), .val (.int (Int32.ofNat (i + 1)))] [(.int (b2i (loB (cs.getD (i + 1) 0))))])
            rcases Bool.eq_false_or_eq_true (loB (cs.getD (i + 1) 0)) with hE142 | hE142
            · -- (loB (cs.getD (i + 1) 0)) = 1
              rw [hE142]
              show Go _ _ _ _ _ _ _ _ _ _ _ _ _ _ _ _ _ _ _ _ _ (mkF m 59 #[.val (.ref a1), .val (.int (Int32.ofNat i1)), .val (.int (Int32.ofNat k)), .val (.int (Int32.ofNat ((k - i1 - (prN (prB cs) k (k - i1) i1)) + prN (prB cs) k (d + 1) i))), .val (.int (Int32.ofNat (i + 1)))] [(.int (1 : Int32))])
              refine GoKit.if_eq_n (pc := 59) K d19_59  (by decide) ?_
              have lk143 : i + 1 < k := (oN_lt (by omega) (by omega)).mp hc127
              have e144 : prN (prB cs) k (d + 1) i = prN (prB cs) k d (i + 2) + 1 := by simp [-List.getD_eq_getElem?_getD, prN, hlt, prB, lk143, hE126, hc127, hE142]
              refine GoKit.iinc (pc := 62) (y := (Int32.ofNat ((k - i1 - (prN (prB cs) k (k - i1) i1)) + prN (prB cs) k d (i + 2)))) (l' := #[.val (.ref a1), .val (.int (Int32.ofNat i1)), .val (.int (Int32.ofNat k)), .val (.int (Int32.ofNat ((k - i1 - (prN (prB cs) k (k - i1) i1)) + prN (prB cs) k d (i + 2)))), .val (.int (Int32.ofNat (i + 1)))]) K d19_62 rfl (by rw [e144]; exact oN_dec _) rfl ?_
              refine GoKit.iinc (pc := 65) (y := (Int32.ofNat (i + 2))) (l' := #[.val (.ref a1), .val (.int (Int32.ofNat i1)), .val (.int (Int32.ofNat k)), .val (.int (Int32.ofNat ((k - i1 - (prN (prB cs) k (k - i1) i1)) + prN (prB cs) k d (i + 2)))), .val (.int (Int32.ofNat (i + 2)))]) K d19_65 rfl (oN_succ _) rfl ?_
              refine GoKit.goto (pc := 68) (pc' := 19) K d19_68 (by decide) ?_
              exact ih (i + 2) (by omega) (by omega)
            · -- (loB (cs.getD (i + 1) 0)) = 0
              rw [hE142]
              show Go _ _ _ _ _ _ _ _ _ _ _ _ _ _ _ _ _ _ _ _ _ (mkF m 59 #[.val (.ref a1), .val (.int (Int32.ofNat i1)), .val (.int (Int32.ofNat k)), .val (.int (Int32.ofNat ((k - i1 - (prN (prB cs) k (k - i1) i1)) + prN (prB cs) k (d + 1) i))), .val (.int (Int32.ofNat (i + 1)))] [(.int (0 : Int32))])
              refine GoKit.if_eq_y (pc := 59) (pc' := 19) K d19_59 (by decide)  (by decide) ?_
              have e146 : prN (prB cs) k (d + 1) i = prN (prB cs) k d (i + 1) := by simp [-List.getD_eq_getElem?_getD, prN, hlt, prB, hE126, hc127, hE142]
              have g145 := ih (i + 1) (by omega) (by omega)
              rw [← e146] at g145
              exact g145
        · -- (hiB (cs.getD i 0)) = 0
          rw [hE126]
          show Go _ _ _ _ _ _ _ _ _ _ _ _ _ _ _ _ _ _ _ _ _ (mkF m 39 #[.val (.ref a1), .val (.int (Int32.ofNat i1)), .val (.int (Int32.ofNat k)), .val (.int (Int32.ofNat ((k - i1 - (prN (prB cs) k (k - i1) i1)) + prN (prB cs) k (d + 1) i))), .val (.int (Int32.ofNat (i + 1)))] [(.int (0 : Int32))])
          refine GoKit.if_eq_y (pc := 39) (pc' := 19) K d19_39 (by decide)  (by decide) ?_
          have e148 : prN (prB cs) k (d + 1) i = prN (prB cs) k d (i + 1) := by simp [-List.getD_eq_getElem?_getD, prN, hlt, prB, hE126]
          have g147 := ih (i + 1) (by omega) (by omega)
          rw [← e148] at g147
          exact g147
      ·
        refine GoKit.iload (pc := 19) K d19_19 rfl ?_
        refine GoKit.iloadN (pc := 21) K d19_21 rfl ?_
        refine GoKit.icmp_ge_y (pc := 22) (pc' := 71) K d19_22 (by decide)  (fun z => absurd ((oN_lt (by omega) (by omega)).mp z) (by omega)) ?_
        refine GoKit.iloadN (pc := 71) K d19_71 rfl ?_
        have e149 : prN (prB cs) k (d + 1) i = 0 := (by simp [prN, hlt])
        exact GoKit.retI (pc := 72) K d19_72 (by simp) (by decide) (by decide) (fun _ _ => ⟨by rw [e149]; rfl, rfl⟩)
  exact LP (k - i1) i1 (by omega) hi1
set_option maxRecDepth 65536 in
set_option maxHeartbeats 40000000 in
theorem c_rec (l : Launch) (Z : State) (a0 : Array Value) (hw : ∀ d ∈ tables_1, d.before a0 Z = true) (a1 : Nat) (h0 : Heap) :
    Con l (⟨"java/lang/Record", "<init>", "()V"⟩ : MethodName) jdk_30_method_1_code 1 none [] ({ frames := 1, cells := 0, slots := 0, locals := 12 } : Room) Z #[(.ref a1)] h0 [] (fun _ => True) (fun v h _ => v = none ∧ h = h0) false := by
  refine Con.intro pn_7 ?_
  intro p e s m below meth c K hV hsh
  have ef : entryFrame m #[(.ref a1)] 1 = (mkF m 0 #[.val (.ref a1)] []) := (by first | (simp [entryFrame, mkF, argsToLocals, cat_ref, cat_int, cat_long, cat_null]; done) | rfl)
  rw [ef]
  refine GoKit.aloadN (pc := 0) K d23_0 rfl rfl ?_
  refine GoKit.initO (pc := 1) (a0 := a0) K (hw _ (List.mem_of_getElem? (i := 110) rfl)) (hw _ (List.mem_of_getElem? (i := 18) rfl)) (hw _ (List.mem_of_getElem? (i := 19) rfl)) rfl d23_1 (by decide) (Nat.le_of_ble_eq_true rfl) ?_
  exact GoKit.retV (pc := 4) K d23_4 (by simp) (by decide) (by decide) (fun _ _ => ⟨rfl, rfl⟩)
set_option maxRecDepth 65536 in
set_option maxHeartbeats 40000000 in
theorem c_spi (l : Launch) (Z : State) (a0 : Array Value) (hw : ∀ d ∈ tables_1, d.before a0 Z = true) (a1 : Nat) (p1 p2 : Int32) (h0 : Heap) (E1 : Exa Z h0 a1 "com/example/neat_mapper/neatmapper/jpql/SourcePosition") (F1 : Fld Z h0 a1 "com/example/neat_mapper/neatmapper/jpql/SourcePosition" "line" "I" (.int 0)) (F2 : Fld Z h0 a1 "com/example/neat_mapper/neatmapper/jpql/SourcePosition" "column" "I" (.int 0)) (h1 : ¬ p1 < 1) (h2 : ¬ p2 < 1) :
    Con l (⟨"com/example/neat_mapper/neatmapper/jpql/SourcePosition", "<init>", "(II)V"⟩ : MethodName) prog_43_method_1_code 3 none [] ({ frames := 2, cells := 0, slots := 0, locals := 24 } : Room) Z #[(.ref a1), (.int p1), (.int p2)] h0 [a1] (fun _ => True) (fun v h _ => v = none ∧ Fld Z h a1 "com/example/neat_mapper/neatmapper/jpql/SourcePosition" "line" "I" (.int p1) ∧ Fld Z h a1 "com/example/neat_mapper/neatmapper/jpql/SourcePosition" "column" "I" (.int p2)) false := by
  refine Con.intro pn_8 ?_
  intro p e s m below meth c K hV hsh
  have ef : entryFrame m #[(.ref a1), (.int p1), (.int p2)] 3 = (mkF m 0 #[.val (.ref a1), .val (.int p1), .val (.int p2)] []) := (by first | (simp [entryFrame, mkF, argsToLocals, cat_ref, cat_int, cat_long, cat_null]; done) | rfl)
  rw [ef]
  refine GoKit.aloadN (pc := 0) K d22_0 rfl rfl ?_
  refine GoKit.callI (pc := 1) (a0 := a0) (argsL := []) (rest := []) K rfl (hw _ (List.mem_of_getElem? (i := 105) rfl)) (hw _ (List.mem_of_getElem? (i := 106) rfl)) (hw _ (List.mem_of_getElem? (i := 109) rfl)) (by decide) (fun hZ => Con.bk (a0 := a0) (c_rec l Z a0 hw a1 h0) hZ (hw _ (List.mem_of_getElem? (i := 109) rfl)) (hw _ (List.mem_of_getElem? (i := 108) rfl)) (by decide) (Nat.le_of_ble_eq_true rfl)) rfl rfl (lenOf pd_19 rfl) rfl d22_1 (by decide) (by decide) (fun _ _ _ q => ⟨Fw.sub q.2.1 (by omega) (fun x hx => nomatch hx), q.2.2.1⟩) ?_
  intro v101 h102 L104 q103
  obtain ⟨⟨vm105, rfl, e106⟩, -, -⟩ := q103
  replace e106 := e106.symm; subst e106
  show Go _ _ _ _ _ _ _ _ _ _ _ _ _ _ _ _ _ _ _ _ _ (mkF m 4 #[.val (.ref a1), .val (.int p1), .val (.int p2)] [])
  refine GoKit.iloadN (pc := 4) K d22_4 rfl ?_
  refine GoKit.iconst (pc := 5) (x := (1 : Int32)) K d22_5 rfl ?_
  refine GoKit.icmp_lt_n (pc := 6) K d22_6  h1 ?_
  refine GoKit.iloadN (pc := 9) K d22_9 rfl ?_
  refine GoKit.iconst (pc := 10) (x := (1 : Int32)) K d22_10 rfl ?_
  refine GoKit.icmp_ge_y (pc := 11) (pc' := 29) K d22_11 (by decide)  h2 ?_
  refine Go.allow a1 ?_
  refine GoKit.aloadN (pc := 29) K d22_29 rfl rfl ?_
  refine GoKit.iloadN (pc := 30) K d22_30 rfl ?_
  refine GoKit.putF (pc := 31) (a0 := a0) (ty := .int) K (hw _ (List.mem_of_getElem? (i := 111) rfl)) Via.refl F1 E1 (Or.inr ⟨(hw _ (List.mem_of_getElem? (i := 112) rfl)), rfl, rfl⟩) (hw _ (List.mem_of_getElem? (i := 101) rfl)) (by decide +kernel) rfl rfl (Or.inr (by simp)) d22_31 ?_
  intro h107 W108 F109
  have sz110 : h0.size ≤ h107.size := Nat.le_of_eq W108.size.symm
  refine GoKit.aloadN (pc := 34) K d22_34 rfl rfl ?_
  refine GoKit.iloadN (pc := 35) K d22_35 rfl ?_
  have f111 := (F2.other W108 (Or.inr (slot_ne (a0 := a0) (t := .int) (t' := .int) (Or.inr (hw _ (List.mem_of_getElem? (i := 114) rfl))) (Or.inr (hw _ (List.mem_of_getElem? (i := 112) rfl))) (by decide) (by decide +kernel) (by decide +kernel))))
  have f112 := (E1.wr W108)
  refine GoKit.putF (pc := 36) (a0 := a0) (ty := .int) K (hw _ (List.mem_of_getElem? (i := 113) rfl)) Via.refl f111 f112 (Or.inr ⟨(hw _ (List.mem_of_getElem? (i := 114) rfl)), rfl, rfl⟩) (hw _ (List.mem_of_getElem? (i := 101) rfl)) (by decide +kernel) rfl rfl (Or.inr (by simp)) d22_36 ?_
  intro h113 W114 F115
  have sz116 : h107.size ≤ h113.size := Nat.le_of_eq W114.size.symm
  have f117 := (F109.other W114 (Or.inr (slot_ne (a0 := a0) (t := .int) (t' := .int) (Or.inr (hw _ (List.mem_of_getElem? (i := 112) rfl))) (Or.inr (hw _ (List.mem_of_getElem? (i := 114) rfl))) (by decide) (by decide +kernel) (by decide +kernel))))
  exact GoKit.retV (pc := 39) K d22_39 (by simp) (by decide) (by decide) (fun _ _ => ⟨rfl, f117, F115⟩)
set_option maxRecDepth 65536 in
set_option maxHeartbeats 40000000 in
theorem c_line (l : Launch) (Z : State) (a0 : Array Value) (hw : ∀ d ∈ tables_1, d.before a0 Z = true) (a1 : Nat) (p1 : Int32) (h0 : Heap) (F1 : Fld Z h0 a1 "com/example/neat_mapper/neatmapper/jpql/SourcePosition" "line" "I" (.int p1)) :
    Con l (⟨"com/example/neat_mapper/neatmapper/jpql/SourcePosition", "line", "()I"⟩ : MethodName) prog_43_method_6_code 1 (some .int) [] ({ frames := 0, cells := 0, slots := 0, locals := 0 } : Room) Z #[(.ref a1)] h0 [] (fun _ => True) (fun v h _ => v = some (.int p1) ∧ h = h0) false := by
  refine Con.intro pn_8 ?_
  intro p e s m below meth c K hV hsh
  have ef : entryFrame m #[(.ref a1)] 1 = (mkF m 0 #[.val (.ref a1)] []) := (by first | (simp [entryFrame, mkF, argsToLocals, cat_ref, cat_int, cat_long, cat_null]; done) | rfl)
  rw [ef]
  refine GoKit.aloadN (pc := 0) K d24_0 rfl rfl ?_
  refine GoKit.getF (pc := 1) (host := "") (a0 := a0) K (Or.inl (hw _ (List.mem_of_getElem? (i := 111) rfl))) Via.refl F1 d24_1 ?_
  exact GoKit.retI (pc := 4) K d24_4 (by simp) (by decide) (by decide) (fun _ _ => ⟨rfl, rfl⟩)
set_option maxRecDepth 65536 in
set_option maxHeartbeats 40000000 in
theorem c_column (l : Launch) (Z : State) (a0 : Array Value) (hw : ∀ d ∈ tables_1, d.before a0 Z = true) (a1 : Nat) (p1 : Int32) (h0 : Heap) (F1 : Fld Z h0 a1 "com/example/neat_mapper/neatmapper/jpql/SourcePosition" "column" "I" (.int p1)) :
    Con l (⟨"com/example/neat_mapper/neatmapper/jpql/SourcePosition", "column", "()I"⟩ : MethodName) prog_43_method_7_code 1 (some .int) [] ({ frames := 0, cells := 0, slots := 0, locals := 0 } : Room) Z #[(.ref a1)] h0 [] (fun _ => True) (fun v h _ => v = some (.int p1) ∧ h = h0) false := by
  refine Con.intro pn_8 ?_
  intro p e s m below meth c K hV hsh
  have ef : entryFrame m #[(.ref a1)] 1 = (mkF m 0 #[.val (.ref a1)] []) := (by first | (simp [entryFrame, mkF, argsToLocals, cat_ref, cat_int, cat_long, cat_null]; done) | rfl)
  rw [ef]
  refine GoKit.aloadN (pc := 0) K d25_0 rfl rfl ?_
  refine GoKit.getF (pc := 1) (host := "") (a0 := a0) K (Or.inl (hw _ (List.mem_of_getElem? (i := 113) rfl))) Via.refl F1 d25_1 ?_
  exact GoKit.retI (pc := 4) K d25_4 (by simp) (by decide) (by decide) (fun _ _ => ⟨rfl, rfl⟩)
set_option maxRecDepth 65536 in
set_option maxHeartbeats 40000000 in
theorem c_rnn (l : Launch) (Z : State) (a0 : Array Value) (hw : ∀ d ∈ tables_1, d.before a0 Z = true) (a1 a2 : Nat) (h0 : Heap) :
    Con l (⟨"java/util/Objects", "requireNonNull", "(Ljava/lang/Object;Ljava/lang/String;)Ljava/lang/Object;"⟩ : MethodName) jdk_31_method_11_code 2 (some (.object "java/lang/Object")) [] ({ frames := 0, cells := 0, slots := 0, locals := 0 } : Room) Z #[(.ref a1), (.ref a2)] h0 [] (fun _ => True) (fun v h _ => v = some (.ref a1) ∧ h = h0) false := by
  refine Con.intro pn_6 ?_
  intro p e s m below meth c K hV hsh
  have ef : entryFrame m #[(.ref a1), (.ref a2)] 2 = (mkF m 0 #[.val (.ref a1), .val (.ref a2)] []) := (by first | (simp [entryFrame, mkF, argsToLocals, cat_ref, cat_int, cat_long, cat_null]; done) | rfl)
  rw [ef]
  refine GoKit.aloadN (pc := 0) K d16_0 rfl rfl ?_
  refine GoKit.ifnonnull_y (pc := 1) (pc' := 13) K d16_1 (by decide) ?_
  refine GoKit.aloadN (pc := 13) K d16_13 rfl rfl ?_
  exact GoKit.retA (pc := 14) K rfl rfl d16_14 (by simp) (by decide) (by decide) (fun _ _ => ⟨rfl, rfl⟩)
set_option maxRecDepth 65536 in
set_option maxHeartbeats 40000000 in
theorem c_of (l : Launch) (Z : State) (a0 : Array Value) (hw : ∀ d ∈ tables_1, d.before a0 Z = true) (a1 t1 k : Nat) (cs : List Int32) (h0 : Heap) (n0 : Nat) (O0 : Old Z n0 h0) (z0 : Int32) (fm : Value) (B0 : Base Z z0 fm) (hSA : ∀ a ∈ Bundle.stringAtoms, a.before a0 Z = true) (T1 : Str Z h0 a1 t1 cs) (hk : k ≤ cs.length) (hl : cs.length ≤ 4000) (hs : ¬ (0 < k ∧ k < cs.length ∧ prB cs (k - 1) = true)) :
    Con l (⟨"com/example/neat_mapper/neatmapper/jpql/SourcePosition", "of", "(Ljava/lang/String;I)Lcom/example/neat_mapper/neatmapper/jpql/SourcePosition;"⟩ : MethodName) prog_43_method_2_code 7 (some (.object "com/example/neat_mapper/neatmapper/jpql/SourcePosition")) [] ({ frames := 6, cells := 3, slots := 42, locals := 82 } : Room) Z #[(.ref a1), (.int (Int32.ofNat k))] h0 [] (fun _ => True) (fun v h _ => ∃ a : Nat, v = some (.ref a) ∧ h0.size ≤ a ∧ Exa Z h a "com/example/neat_mapper/neatmapper/jpql/SourcePosition" ∧ Fld Z h a "com/example/neat_mapper/neatmapper/jpql/SourcePosition" "line" "I" (.int (Int32.ofNat (lineN (brkB cs) k))) ∧ Fld Z h a "com/example/neat_mapper/neatmapper/jpql/SourcePosition" "column" "I" (.int (Int32.ofNat (colN (brkB cs) (prB cs) k)))) true := by
  refine Con.intro pn_8 ?_
  intro p e s m below meth c K hV hsh
  have ef : entryFrame m #[(.ref a1), (.int (Int32.ofNat k))] 7 = (mkF m 0 #[.val (.ref a1), .val (.int (Int32.ofNat k)), .unset, .unset, .unset, .unset, .unset] []) := (by first | (simp [entryFrame, mkF, argsToLocals, cat_ref, cat_int, cat_long, cat_null]; done) | rfl)
  rw [ef]
  have hn0 : n0 ≤ h0.size := by rw [← O0.1]; exact O0.2.1
  have lx1 : a1 < h0.size := T1.lt.1; have lx2 : t1 < h0.size := T1.lt.2
  refine GoKit.aloadN (pc := 0) K d15_0 rfl rfl ?_
  refine GoKit.ldcN (pc := 1) (a0 := a0) (n := 36) K rfl (hw _ (List.mem_of_getElem? (i := 65) rfl)) hSA d15_1 (by decide) (by decide) (by decide) (by decide) ?_
  intro h101 vm102 a103 E104
  have sz105 : h0.size ≤ h101.size := E104.1
  refine GoKit.callS (pc := 3) (a0 := a0) (argsL := [(.ref a1), (.ref a103)]) (rest := []) K (hw _ (List.mem_of_getElem? (i := 68) rfl)) (hw _ (List.mem_of_getElem? (i := 69) rfl)) (hw _ (List.mem_of_getElem? (i := 70) rfl)) (hw _ (List.mem_of_getElem? (i := 71) rfl)) (by decide) (fun hZ => Con.bk (a0 := a0) (c_rnn l Z a0 hw a1 a103 h101) hZ (hw _ (List.mem_of_getElem? (i := 71) rfl)) (hw _ (List.mem_of_getElem? (i := 70) rfl)) (by decide) (Nat.le_of_ble_eq_true rfl)) rfl rfl (lenOf pd_20 rfl) rfl d15_3 (by decide) (by decide) (fun _ _ _ q => ⟨Fw.sub q.2.1 (by omega) (fun x hx => nomatch hx), q.2.2.1⟩) ?_
  intro v106 h107 L109 q108
  obtain ⟨⟨vm110, rfl, e111⟩, -, -⟩ := q108
  replace e111 := e111.symm; subst e111
  show Go _ _ _ _ _ _ _ _ _ _ _ _ _ _ _ _ _ _ _ _ _ (mkF m 6 #[.val (.ref a1), .val (.int (Int32.ofNat k)), .unset, .unset, .unset, .unset, .unset] [(.ref a1)])
  refine GoKit.pop (pc := 6) K d15_6 rfl ?_
  have J : Go p l e ({ frames := 6, cells := 3, slots := 42, locals := 82 } : Room) s m #[(.ref a1), (.int (Int32.ofNat k))] below meth c Z h0.size [] [] "com/example/neat_mapper/neatmapper/jpql/SourcePosition" (fun v h _ => ∃ a : Nat, v = some (.ref a) ∧ h0.size ≤ a ∧ Exa Z h a "com/example/neat_mapper/neatmapper/jpql/SourcePosition" ∧ Fld Z h a "com/example/neat_mapper/neatmapper/jpql/SourcePosition" "line" "I" (.int (Int32.ofNat (lineN (brkB cs) k))) ∧ Fld Z h a "com/example/neat_mapper/neatmapper/jpql/SourcePosition" "column" "I" (.int (Int32.ofNat (colN (brkB cs) (prB cs) k)))) true vm102 h101 2 40 (mkF m 87 #[.val (.ref a1), .val (.int (Int32.ofNat k)), .unset, .unset, .unset, .unset, .unset] []) := by
    refine GoKit.iconst (pc := 87) (x := (1 : Int32)) K d15_87 rfl ?_
    refine GoKit.istoreN (pc := 88) (l' := #[.val (.ref a1), .val (.int (Int32.ofNat k)), .val (.int (1 : Int32)), .unset, .unset, .unset, .unset]) K d15_88 rfl ?_
    refine GoKit.iconst (pc := 89) (x := (0 : Int32)) K d15_89 rfl ?_
    refine GoKit.istoreN (pc := 90) (l' := #[.val (.ref a1), .val (.int (Int32.ofNat k)), .val (.int (1 : Int32)), .val (.int (0 : Int32)), .unset, .unset, .unset]) K d15_90 rfl ?_
    refine GoKit.iconst (pc := 91) (x := (0 : Int32)) K d15_91 rfl ?_
    refine GoKit.istore (pc := 92) (l' := #[.val (.ref a1), .val (.int (Int32.ofNat k)), .val (.int (1 : Int32)), .val (.int (0 : Int32)), .val (.int (0 : Int32)), .unset, .unset]) K d15_92 rfl ?_
    have LP : ∀ (d i : Nat) (s5 s6 : Slot), (s5 = .unset ∨ ∃ w, s5 = .val w ∧ w.category = 1) → (s6 = .unset ∨ ∃ w, s6 = .val w ∧ w.category = 1) → i + d = k → Go p l e ({ frames := 6, cells := 3, slots := 42, locals := 82 } : Room) s m #[(.ref a1), (.int (Int32.ofNat k))] below meth c Z h0.size [] [] "com/example/neat_mapper/neatmapper/jpql/SourcePosition" (fun v h _ => ∃ a : Nat, v = some (.ref a) ∧ h0.size ≤ a ∧ Exa Z h a "com/example/neat_mapper/neatmapper/jpql/SourcePosition" ∧ Fld Z h a "com/example/neat_mapper/neatmapper/jpql/SourcePosition" "line" "I" (.int (Int32.ofNat (lineN (brkB cs) k))) ∧ Fld Z h a "com/example/neat_mapper/neatmapper/jpql/SourcePosition" "column" "I" (.int (Int32.ofNat (colN (brkB cs) (prB cs) k)))) true vm102 h101 2 40 (mkF m 94 #[.val (.ref a1), .val (.int (Int32.ofNat k)), .val (.int (Int32.ofNat (lineN (brkB cs) i))), .val (.int (Int32.ofNat (startN (brkB cs) i))), .val (.int (Int32.ofNat i)), s5, s6] []) := by
      intro d
      induction d with
      | zero =>
        intro i s5 s6 o5 o6 hi
        have ei : i = k := by omega
        rw [ei]
        refine GoKit.iload (pc := 94) K d15_94 rfl ?_
        refine GoKit.iloadN (pc := 96) K d15_96 rfl ?_
        refine GoKit.icmp_ge_y (pc := 97) (pc' := 179) K d15_97 (by decide)  (fun z => absurd ((oN_lt (by omega) (by omega)).mp z) (by omega)) ?_
        refine GoKit.aloadN (pc := 179) K d15_179 rfl rfl ?_
        refine GoKit.iloadN (pc := 180) K d15_180 rfl ?_
        refine GoKit.iloadN (pc := 181) K d15_181 rfl ?_
        have hst := startN_le (brkB cs) k
        have f112 := (O0.ext E104)
        have f113 := (T1.ext E104)
        refine GoKit.callS (pc := 182) (a0 := a0) (argsL := [(.ref a1), (.int (Int32.ofNat (startN (brkB cs) k))), (.int (Int32.ofNat k))]) (rest := []) K (hw _ (List.mem_of_getElem? (i := 82) rfl)) (hw _ (List.mem_of_getElem? (i := 83) rfl)) (hw _ (List.mem_of_getElem? (i := 84) rfl)) (hw _ (List.mem_of_getElem? (i := 85) rfl)) (by decide) (fun hZ => Con.bk (a0 := a0) (c_cpc l Z a0 hw a1 t1 (startN (brkB cs) k) k cs h101 n0 f112 z0 fm B0 f113 hst hk hl) hZ (hw _ (List.mem_of_getElem? (i := 85) rfl)) (hw _ (List.mem_of_getElem? (i := 84) rfl)) (by decide) (Nat.le_of_ble_eq_true rfl)) rfl rfl (lenOf pd_21 rfl) rfl d15_182 (by decide) (by decide) (fun _ _ _ q => ⟨Fw.sub q.2.1 (by omega) (fun x hx => nomatch hx), q.2.2.1⟩) ?_
        intro v114 h115 L117 q116
        obtain ⟨⟨vm118, rfl, e119⟩, -, -⟩ := q116
        replace e119 := e119.symm; subst e119
        show Go _ _ _ _ _ _ _ _ _ _ _ _ _ _ _ _ _ _ _ _ _ (mkF m 185 #[.val (.ref a1), .val (.int (Int32.ofNat k)), .val (.int (Int32.ofNat (lineN (brkB cs) k))), .val (.int (Int32.ofNat (startN (brkB cs) k))), .val (.int (Int32.ofNat k)), s5, s6] [(.int (Int32.ofNat (k - startN (brkB cs) k - prN (prB cs) k (k - startN (brkB cs) k) (startN (brkB cs) k))))])
        refine GoKit.iconst (pc := 185) (x := (1 : Int32)) K d15_185 rfl ?_
        refine GoKit.iadd (pc := 186) K d15_186 ?_
        rw [oN_succ]
        show Go _ _ _ _ _ _ _ _ _ _ _ _ _ _ _ _ _ _ _ _ _ (mkF m 187 #[.val (.ref a1), .val (.int (Int32.ofNat k)), .val (.int (Int32.ofNat (lineN (brkB cs) k))), .val (.int (Int32.ofNat (startN (brkB cs) k))), .val (.int (Int32.ofNat k)), s5, s6] [(.int (Int32.ofNat (colN (brkB cs) (prB cs) k)))])
        refine GoKit.istore (pc := 187) (l' := #[.val (.ref a1), .val (.int (Int32.ofNat k)), .val (.int (Int32.ofNat (lineN (brkB cs) k))), .val (.int (Int32.ofNat (startN (brkB cs) k))), .val (.int (Int32.ofNat (colN (brkB cs) (prB cs) k))), s5, s6]) K d15_187 rfl ?_
        refine GoKit.newO (pc := 189) (a0 := a0) K (hw _ (List.mem_of_getElem? (i := 100) rfl)) (hw _ (List.mem_of_getElem? (i := 101) rfl)) (hw _ (List.mem_of_getElem? (i := 63) rfl)) d15_189 (by decide) (by decide) ?_
        intro h120 b121 eq122 E123 A124 D125
        have sz126 : h101.size ≤ h120.size := E123.1
        have lt127 : b121 < h120.size := A124.lt
        have F128 : Fld Z h120 b121 "com/example/neat_mapper/neatmapper/jpql/SourcePosition" "line" "I" (.int (0 : Int32)) := D125 (Or.inr (hw _ (List.mem_of_getElem? (i := 112) rfl))) (ty := .int) (by decide +kernel)
        have F129 : Fld Z h120 b121 "com/example/neat_mapper/neatmapper/jpql/SourcePosition" "column" "I" (.int (0 : Int32)) := D125 (Or.inr (hw _ (List.mem_of_getElem? (i := 114) rfl))) (ty := .int) (by decide +kernel)
        refine GoKit.dup (pc := 192) K d15_192 rfl ?_
        refine GoKit.iloadN (pc := 193) K d15_193 rfl ?_
        refine GoKit.iload (pc := 194) K d15_194 rfl ?_
        have hln := lineN_ge (brkB cs) k
        have hcl : 1 ≤ colN (brkB cs) (prB cs) k ∧ colN (brkB cs) (prB cs) k ≤ k + 1 := by unfold colN; omega
        refine GoKit.callI (pc := 196) (a0 := a0) (argsL := [(.int (Int32.ofNat (lineN (brkB cs) k))), (.int (Int32.ofNat (colN (brkB cs) (prB cs) k)))]) (rest := [(.ref b121)]) K rfl (hw _ (List.mem_of_getElem? (i := 102) rfl)) (hw _ (List.mem_of_getElem? (i := 103) rfl)) (hw _ (List.mem_of_getElem? (i := 104) rfl)) (by decide) (fun hZ => Con.bk (a0 := a0) (c_spi l Z a0 hw b121 (Int32.ofNat (lineN (brkB cs) k)) (Int32.ofNat (colN (brkB cs) (prB cs) k)) h120 A124 F128 F129 (fun z => absurd ((oN_lt (b := 1) (by omega) (by omega)).mp z) (by omega)) (fun z => absurd ((oN_lt (b := 1) (by omega) (by omega)).mp z) (by omega))) hZ (hw _ (List.mem_of_getElem? (i := 104) rfl)) (hw _ (List.mem_of_getElem? (i := 63) rfl)) (by decide) (Nat.le_of_ble_eq_true rfl)) rfl rfl (lenOf pd_2 rfl) rfl d15_196 (by decide) (by decide) (fun _ _ _ q => ⟨Fw.sub q.2.1 (by omega) (allS (Or.inl (by omega)) all0), q.2.2.1⟩) ?_
        intro v130 h131 L133 q132
        obtain ⟨⟨vm134, rfl, F135, F136⟩, -, K137⟩ := q132
        have sz138 : h120.size ≤ h131.size := K137.1
        show Go _ _ _ _ _ _ _ _ _ _ _ _ _ _ _ _ _ _ _ _ _ (mkF m 199 #[.val (.ref a1), .val (.int (Int32.ofNat k)), .val (.int (Int32.ofNat (lineN (brkB cs) k))), .val (.int (Int32.ofNat (startN (brkB cs) k))), .val (.int (Int32.ofNat (colN (brkB cs) (prB cs) k))), s5, s6] [(.ref b121)])
        have f139 := (A124.keep K137)
        exact GoKit.retA (pc := 199) K rfl rfl d15_199 (by simp) (by decide) (by decide) (fun _ _ => ⟨b121, rfl, by omega, f139, F135, F136⟩)
      | succ d ih =>
        intro i s5 s6 o5 o6 hi
        refine GoKit.iload (pc := 94) K d15_94 rfl ?_
        refine GoKit.iloadN (pc := 96) K d15_96 rfl ?_
        refine GoKit.icmp_ge_n (pc := 97) K d15_97  ((oN_lt (by omega) (by omega)).mpr (by omega)) ?_
        refine GoKit.aloadN (pc := 100) K d15_100 rfl rfl ?_
        refine GoKit.iload (pc := 101) K d15_101 rfl ?_
        have f140 := (T1.ext E104)
        have f141 := (O0.ext E104)
        refine GoKit.callV (pc := 103) (a0 := a0) (argsL := [(.int (Int32.ofNat i))]) (rest := []) K (hw _ (List.mem_of_getElem? (i := 131) rfl)) (hw _ (List.mem_of_getElem? (i := 132) rfl)) (Or.inr (hw _ (List.mem_of_getElem? (i := 134) rfl))) (hw _ (List.mem_of_getElem? (i := 134) rfl)) (hw _ (List.mem_of_getElem? (i := 133) rfl)) (by decide) f140.exa (fun hZ => Con.bk (a0 := a0) (c_chr l Z a0 hw a1 t1 i cs h101 n0 f141 z0 fm B0 f140 (by omega)) hZ (hw _ (List.mem_of_getElem? (i := 135) rfl)) (hw _ (List.mem_of_getElem? (i := 9) rfl)) (by decide) (Nat.le_of_ble_eq_true rfl)) rfl rfl (lenOf pd_18 rfl) rfl d15_103 (by decide) (by decide) (fun _ _ _ q => ⟨Fw.sub q.2.1 (by omega) (fun x hx => nomatch hx), q.2.2.1⟩) ?_
        intro v142 h143 L145 q144
        obtain ⟨⟨vm146, rfl, e147⟩, -, -⟩ := q144
        replace e147 := e147.symm; subst e147
        show Go _ _ _ _ _ _ _ _ _ _ _ _ _ _ _ _ _ _ _ _ _ (mkF m 106 #[.val (.ref a1), .val (.int (Int32.ofNat k)), .val (.int (Int32.ofNat (lineN (brkB cs) i))), .val (.int (Int32.ofNat (startN (brkB cs) i))), .val (.int (Int32.ofNat i)), s5, s6] [(.int (cs.getD i 0))])
        refine GoKit.istore (pc := 106) (l' := #[.val (.ref a1), .val (.int (Int32.ofNat k)), .val (.int (Int32.ofNat (lineN (brkB cs) i))), .val (.int (Int32.ofNat (startN (brkB cs) i))), .val (.int (Int32.ofNat i)), .val (.int (cs.getD i 0)), s6]) K d15_106 (XS.store1 rfl o5 rfl) ?_
        refine GoKit.iload (pc := 108) K d15_108 rfl ?_
        refine GoKit.bipush (pc := 110) (x := (13 : Int32)) K d15_110 rfl ?_
        refine GoKit.icmp_ne (pc := 112) (pc' := 143) K d15_112 (by decide) (fun hc148 => ?_) (fun hc148 => ?_)
        · -- ¬ (cs.getD i 0) = (13 : Int32)
          refine GoKit.iconst (pc := 143) (x := (0 : Int32)) K d15_143 rfl ?_
          refine GoKit.istore (pc := 144) (l' := #[.val (.ref a1), .val (.int (Int32.ofNat k)), .val (.int (Int32.ofNat (lineN (brkB cs) i))), .val (.int (Int32.ofNat (startN (brkB cs) i))), .val (.int (Int32.ofNat i)), .val (.int (cs.getD i 0)), .val (.int (0 : Int32))]) K d15_144 (XS.store1 rfl o6 rfl) ?_
          refine GoKit.iload (pc := 146) K d15_146 rfl ?_
          refine GoKit.bipush (pc := 148) (x := (10 : Int32)) K d15_148 rfl ?_
          refine GoKit.icmp_eq (pc := 150) (pc' := 165) K d15_150 (by decide) (fun hc149 => ?_) (fun hc149 => ?_)
          · -- (cs.getD i 0) = (10 : Int32)
            refine GoKit.iinc (pc := 165) (y := (Int32.ofNat (lineN (brkB cs) i + 1))) (l' := #[.val (.ref a1), .val (.int (Int32.ofNat k)), .val (.int (Int32.ofNat (lineN (brkB cs) i + 1))), .val (.int (Int32.ofNat (startN (brkB cs) i))), .val (.int (Int32.ofNat i)), .val (.int (cs.getD i 0)), .val (.int (0 : Int32))]) K d15_165 rfl (oN_succ _) rfl ?_
            refine GoKit.iload (pc := 168) K d15_168 rfl ?_
            refine GoKit.iconst (pc := 170) (x := (1 : Int32)) K d15_170 rfl ?_
            refine GoKit.iadd (pc := 171) K d15_171 ?_
            rw [oN_succ]
            show Go _ _ _ _ _ _ _ _ _ _ _ _ _ _ _ _ _ _ _ _ _ (mkF m 172 #[.val (.ref a1), .val (.int (Int32.ofNat k)), .val (.int (Int32.ofNat (lineN (brkB cs) i + 1))), .val (.int (Int32.ofNat (startN (brkB cs) i))), .val (.int (Int32.ofNat i)), .val (.int (cs.getD i 0)), .val (.int (0 : Int32))] [(.int (Int32.ofNat (i + 1)))])
            refine GoKit.istoreN (pc := 172) (l' := #[.val (.ref a1), .val (.int (Int32.ofNat k)), .val (.int (Int32.ofNat (lineN (brkB cs) i + 1))), .val (.int (Int32.ofNat (i + 1))), .val (.int (Int32.ofNat i)), .val (.int (cs.getD i 0)), .val (.int (0 : Int32))]) K d15_172 rfl ?_
            refine GoKit.iinc (pc := 173) (y := (Int32.ofNat (i + 1))) (l' := #[.val (.ref a1), .val (.int (Int32.ofNat k)), .val (.int (Int32.ofNat (lineN (brkB cs) i + 1))), .val (.int (Int32.ofNat (i + 1))), .val (.int (Int32.ofNat (i + 1))), .val (.int (cs.getD i 0)), .val (.int (0 : Int32))]) K d15_173 rfl (oN_succ _) rfl ?_
            refine GoKit.goto (pc := 176) (pc' := 94) K d15_176 (by decide) ?_
            have hb150 : brkB cs i = true := by simp [-List.getD_eq_getElem?_getD, brkB, hc148, hc149]
            have e151 : lineN (brkB cs) (i + 1) = lineN (brkB cs) i + 1 := by simp [lineN, hb150]
            have e152 : startN (brkB cs) (i + 1) = i + 1 := by simp [startN, hb150]
            have g153 := ih (i + 1) (.val (.int (cs.getD i 0))) (.val (.int (0 : Int32))) (Or.inr ⟨_, rfl, rfl⟩) (Or.inr ⟨_, rfl, rfl⟩) (by omega)
            rw [e151, e152] at g153
            exact g153
          · -- ¬ (cs.getD i 0) = (10 : Int32)
            refine GoKit.iload (pc := 153) K d15_153 rfl ?_
            refine GoKit.bipush (pc := 155) (x := (13 : Int32)) K d15_155 rfl ?_
            refine GoKit.icmp_ne_y (pc := 157) (pc' := 173) K d15_157 (by decide)  hc148 ?_
            refine GoKit.iinc (pc := 173) (y := (Int32.ofNat (i + 1))) (l' := #[.val (.ref a1), .val (.int (Int32.ofNat k)), .val (.int (Int32.ofNat (lineN (brkB cs) i))), .val (.int (Int32.ofNat (startN (brkB cs) i))), .val (.int (Int32.ofNat (i + 1))), .val (.int (cs.getD i 0)), .val (.int (0 : Int32))]) K d15_173 rfl (oN_succ _) rfl ?_
            refine GoKit.goto (pc := 176) (pc' := 94) K d15_176 (by decide) ?_
            have hb154 : brkB cs i = false := by simp [-List.getD_eq_getElem?_getD, brkB, hc148, hc149]
            have e155 : lineN (brkB cs) (i + 1) = lineN (brkB cs) i := by simp [lineN, hb154]
            have e156 : startN (brkB cs) (i + 1) = startN (brkB cs) i := by simp [startN, hb154]
            have g157 := ih (i + 1) (.val (.int (cs.getD i 0))) (.val (.int (0 : Int32))) (Or.inr ⟨_, rfl, rfl⟩) (Or.inr ⟨_, rfl, rfl⟩) (by omega)
            rw [e155, e156] at g157
            exact g157
        · -- (cs.getD i 0) = (13 : Int32)
          refine GoKit.iload (pc := 115) K d15_115 rfl ?_
          refine GoKit.iconst (pc := 117) (x := (1 : Int32)) K d15_117 rfl ?_
          refine GoKit.iadd (pc := 118) K d15_118 ?_
          rw [oN_succ]
          show Go _ _ _ _ _ _ _ _ _ _ _ _ _ _ _ _ _ _ _ _ _ (mkF m 119 #[.val (.ref a1), .val (.int (Int32.ofNat k)), .val (.int (Int32.ofNat (lineN (brkB cs) i))), .val (.int (Int32.ofNat (startN (brkB cs) i))), .val (.int (Int32.ofNat i)), .val (.int (cs.getD i 0)), s6] [(.int (Int32.ofNat (i + 1)))])
          refine GoKit.aloadN (pc := 119) K d15_119 rfl rfl ?_
          refine GoKit.callV (pc := 120) (a0 := a0) (argsL := []) (rest := [(.int (Int32.ofNat (i + 1)))]) K (hw _ (List.mem_of_getElem? (i := 72) rfl)) (hw _ (List.mem_of_getElem? (i := 73) rfl)) (Or.inr (hw _ (List.mem_of_getElem? (i := 75) rfl))) (hw _ (List.mem_of_getElem? (i := 75) rfl)) (hw _ (List.mem_of_getElem? (i := 74) rfl)) (by decide) f140.exa (fun hZ => Str.bkLen hZ (kI := 4) (fun d hd => hw d ((by decide +kernel : ∀ d ∈ StrChars.Road.wordsLen, d ∈ tables_1) d hd)) (hw _ (List.mem_of_getElem? (i := 8) rfl)) f140 (B0.s0.ext f141.2) B0.hz (by decide) (Nat.le_of_ble_eq_true rfl)) rfl rfl (lenOf pd_16 rfl) rfl d15_120 (by decide) (by decide) (fun _ _ _ q => by obtain ⟨-, rfl, rfl⟩ := q; exact ⟨fun _ z => (nomatch z), Nat.le_refl _⟩) ?_
          intro v158 h159 L161 q160
          obtain ⟨rfl, -, e162⟩ := q160
          replace e162 := e162.symm; subst e162
          show Go _ _ _ _ _ _ _ _ _ _ _ _ _ _ _ _ _ _ _ _ _ (mkF m 123 #[.val (.ref a1), .val (.int (Int32.ofNat k)), .val (.int (Int32.ofNat (lineN (brkB cs) i))), .val (.int (Int32.ofNat (startN (brkB cs) i))), .val (.int (Int32.ofNat i)), .val (.int (cs.getD i 0)), s6] [(.int (Int32.ofNat cs.length)), (.int (Int32.ofNat (i + 1)))])
          refine GoKit.icmp_ge (pc := 123) (pc' := 143) K d15_123 (by decide) (fun hc163 => ?_) (fun hc163 => ?_)
          · -- ¬ (Int32.ofNat (i + 1)) < (Int32.ofNat cs.length)
            refine GoKit.iconst (pc := 143) (x := (0 : Int32)) K d15_143 rfl ?_
            refine GoKit.istore (pc := 144) (l' := #[.val (.ref a1), .val (.int (Int32.ofNat k)), .val (.int (Int32.ofNat (lineN (brkB cs) i))), .val (.int (Int32.ofNat (startN (brkB cs) i))), .val (.int (Int32.ofNat i)), .val (.int (cs.getD i 0)), .val (.int (0 : Int32))]) K d15_144 (XS.store1 rfl o6 rfl) ?_
            refine GoKit.iload (pc := 146) K d15_146 rfl ?_
            refine GoKit.bipush (pc := 148) (x := (10 : Int32)) K d15_148 rfl ?_
            refine GoKit.icmp_eq_n (pc := 150) K d15_150  (fun z => absurd (z.symm.trans hc148) (by decide)) ?_
            refine GoKit.iload (pc := 153) K d15_153 rfl ?_
            refine GoKit.bipush (pc := 155) (x := (13 : Int32)) K d15_155 rfl ?_
            refine GoKit.icmp_ne_n (pc := 157) K d15_157  hc148 ?_
            refine GoKit.iload (pc := 160) K d15_160 rfl ?_
            refine GoKit.if_ne_n (pc := 162) K d15_162  (by decide) ?_
            refine GoKit.iinc (pc := 165) (y := (Int32.ofNat (lineN (brkB cs) i + 1))) (l' := #[.val (.ref a1), .val (.int (Int32.ofNat k)), .val (.int (Int32.ofNat (lineN (brkB cs) i + 1))), .val (.int (Int32.ofNat (startN (brkB cs) i))), .val (.int (Int32.ofNat i)), .val (.int (cs.getD i 0)), .val (.int (0 : Int32))]) K d15_165 rfl (oN_succ _) rfl ?_
            refine GoKit.iload (pc := 168) K d15_168 rfl ?_
            refine GoKit.iconst (pc := 170) (x := (1 : Int32)) K d15_170 rfl ?_
            refine GoKit.iadd (pc := 171) K d15_171 ?_
            rw [oN_succ]
            show Go _ _ _ _ _ _ _ _ _ _ _ _ _ _ _ _ _ _ _ _ _ (mkF m 172 #[.val (.ref a1), .val (.int (Int32.ofNat k)), .val (.int (Int32.ofNat (lineN (brkB cs) i + 1))), .val (.int (Int32.ofNat (startN (brkB cs) i))), .val (.int (Int32.ofNat i)), .val (.int (cs.getD i 0)), .val (.int (0 : Int32))] [(.int (Int32.ofNat (i + 1)))])
            refine GoKit.istoreN (pc := 172) (l' := #[.val (.ref a1), .val (.int (Int32.ofNat k)), .val (.int (Int32.ofNat (lineN (brkB cs) i + 1))), .val (.int (Int32.ofNat (i + 1))), .val (.int (Int32.ofNat i)), .val (.int (cs.getD i 0)), .val (.int (0 : Int32))]) K d15_172 rfl ?_
            refine GoKit.iinc (pc := 173) (y := (Int32.ofNat (i + 1))) (l' := #[.val (.ref a1), .val (.int (Int32.ofNat k)), .val (.int (Int32.ofNat (lineN (brkB cs) i + 1))), .val (.int (Int32.ofNat (i + 1))), .val (.int (Int32.ofNat (i + 1))), .val (.int (cs.getD i 0)), .val (.int (0 : Int32))]) K d15_173 rfl (oN_succ _) rfl ?_
            refine GoKit.goto (pc := 176) (pc' := 94) K d15_176 (by decide) ?_
            have qhc163 := mt ((oN_lt (by omega) (by omega))).mpr hc163
            have hb164 : brkB cs i = true := by simp [-List.getD_eq_getElem?_getD, brkB, hc148, qhc163]
            have e165 : lineN (brkB cs) (i + 1) = lineN (brkB cs) i + 1 := by simp [lineN, hb164]
            have e166 : startN (brkB cs) (i + 1) = i + 1 := by simp [startN, hb164]
            have g167 := ih (i + 1) (.val (.int (cs.getD i 0))) (.val (.int (0 : Int32))) (Or.inr ⟨_, rfl, rfl⟩) (Or.inr ⟨_, rfl, rfl⟩) (by omega)
            rw [e165, e166] at g167
            exact g167
          · -- (Int32.ofNat (i + 1)) < (Int32.ofNat cs.length)
            refine GoKit.aloadN (pc := 126) K d15_126 rfl rfl ?_
            refine GoKit.iload (pc := 127) K d15_127 rfl ?_
            refine GoKit.iconst (pc := 129) (x := (1 : Int32)) K d15_129 rfl ?_
            refine GoKit.iadd (pc := 130) K d15_130 ?_
            rw [oN_succ]
            show Go _ _ _ _ _ _ _ _ _ _ _ _ _ _ _ _ _ _ _ _ _ (mkF m 131 #[.val (.ref a1), .val (.int (Int32.ofNat k)), .val (.int (Int32.ofNat (lineN (brkB cs) i))), .val (.int (Int32.ofNat (startN (brkB cs) i))), .val (.int (Int32.ofNat i)), .val (.int (cs.getD i 0)), s6] [(.int (Int32.ofNat (i + 1))), (.ref a1)])
            refine GoKit.callV (pc := 131) (a0 := a0) (argsL := [(.int (Int32.ofNat (i + 1)))]) (rest := []) K (hw _ (List.mem_of_getElem? (i := 131) rfl)) (hw _ (List.mem_of_getElem? (i := 132) rfl)) (Or.inr (hw _ (List.mem_of_getElem? (i := 134) rfl))) (hw _ (List.mem_of_getElem? (i := 134) rfl)) (hw _ (List.mem_of_getElem? (i := 133) rfl)) (by decide) f140.exa (fun hZ => Con.bk (a0 := a0) (c_chr l Z a0 hw a1 t1 (i + 1) cs h101 n0 f141 z0 fm B0 f140 ((oN_lt (by omega) (by omega)).mp hc163)) hZ (hw _ (List.mem_of_getElem? (i := 135) rfl)) (hw _ (List.mem_of_getElem? (i := 9) rfl)) (by decide) (Nat.le_of_ble_eq_true rfl)) rfl rfl (lenOf pd_18 rfl) rfl d15_131 (by decide) (by decide) (fun _ _ _ q => ⟨Fw.sub q.2.1 (by omega) (fun x hx => nomatch hx), q.2.2.1⟩) ?_
            intro v168 h169 L171 q170
            obtain ⟨⟨vm172, rfl, e173⟩, -, -⟩ := q170
            replace e173 := e173.symm; subst e173
            show Go _ _ _ _ _ _ _ _ _ _ _ _ _ _ _ _ _ _ _ _ _ (mkF m 134 #[.val (.ref a1), .val (.int (Int32.ofNat k)), .val (.int (Int32.ofNat (lineN (brkB cs) i))), .val (.int (Int32.ofNat (startN (brkB cs) i))), .val (.int (Int32.ofNat i)), .val (.int (cs.getD i 0)), s6] [(.int (cs.getD (i + 1) 0))])
            refine GoKit.bipush (pc := 134) (x := (10 : Int32)) K d15_134 rfl ?_
            refine GoKit.icmp_ne (pc := 136) (pc' := 143) K d15_136 (by decide) (fun hc174 => ?_) (fun hc174 => ?_)
            · -- ¬ (cs.getD (i + 1) 0) = (10 : Int32)
              refine GoKit.iconst (pc := 143) (x := (0 : Int32)) K d15_143 rfl ?_
              refine GoKit.istore (pc := 144) (l' := #[.val (.ref a1), .val (.int (Int32.ofNat k)), .val (.int (Int32.ofNat (lineN (brkB cs) i))), .val (.int (Int32.ofNat (startN (brkB cs) i))), .val (.int (Int32.ofNat i)), .val (.int (cs.getD i 0)), .val (.int (0 : Int32))]) K d15_144 (XS.store1 rfl o6 rfl) ?_
              refine GoKit.iload (pc := 146) K d15_146 rfl ?_
              refine GoKit.bipush (pc := 148) (x := (10 : Int32)) K d15_148 rfl ?_
              refine GoKit.icmp_eq_n (pc := 150) K d15_150  (fun z => absurd (z.symm.trans hc148) (by decide)) ?_
              refine GoKit.iload (pc := 153) K d15_153 rfl ?_
              refine GoKit.bipush (pc := 155) (x := (13 : Int32)) K d15_155 rfl ?_
              refine GoKit.icmp_ne_n (pc := 157) K d15_157  hc148 ?_
              refine GoKit.iload (pc := 160) K d15_160 rfl ?_
              refine GoKit.if_ne_n (pc := 162) K d15_162  (by decide) ?_
              refine GoKit.iinc (pc := 165) (y := (Int32.ofNat (lineN (brkB cs) i + 1))) (l' := #[.val (.ref a1), .val (.int (Int32.ofNat k)), .val (.int (Int32.ofNat (lineN (brkB cs) i + 1))), .val (.int (Int32.ofNat (startN (brkB cs) i))), .val (.int (Int32.ofNat i)), .val (.int (cs.getD i 0)), .val (.int (0 : Int32))]) K d15_165 rfl (oN_succ _) rfl ?_
              refine GoKit.iload (pc := 168) K d15_168 rfl ?_
              refine GoKit.iconst (pc := 170) (x := (1 : Int32)) K d15_170 rfl ?_
              refine GoKit.iadd (pc := 171) K d15_171 ?_
              rw [oN_succ]
              show Go _ _ _ _ _ _ _ _ _ _ _ _ _ _ _ _ _ _ _ _ _ (mkF m 172 #[.val (.ref a1), .val (.int (Int32.ofNat k)), .val (.int (Int32.ofNat (lineN (brkB cs) i + 1))), .val (.int (Int32.ofNat (startN (brkB cs) i))), .val (.int (Int32.ofNat i)), .val (.int (cs.getD i 0)), .val (.int (0 : Int32))] [(.int (Int32.ofNat (i + 1)))])
              refine GoKit.istoreN (pc := 172) (l' := #[.val (.ref a1), .val (.int (Int32.ofNat k)), .val (.int (Int32.ofNat (lineN (brkB cs) i + 1))), .val (.int (Int32.ofNat (i + 1))), .val (.int (Int32.ofNat i)), .val (.int (cs.getD i 0)), .val (.int (0 : Int32))]) K d15_172 rfl ?_
              refine GoKit.iinc (pc := 173) (y := (Int32.ofNat (i + 1))) (l' := #[.val (.ref a1), .val (.int (Int32.ofNat k)), .val (.int (Int32.ofNat (lineN (brkB cs) i + 1))), .val (.int (Int32.ofNat (i + 1))), .val (.int (Int32.ofNat (i + 1))), .val (.int (cs.getD i 0)), .val (.int (0 : Int32))]) K d15_173 rfl (oN_succ _) rfl ?_
              refine GoKit.goto (pc := 176) (pc' := 94) K d15_176 (by decide) ?_
              have qhc163 := ((oN_lt (by omega) (by omega))).mp hc163
              have hb175 : brkB cs i = true := by simp [-List.getD_eq_getElem?_getD, brkB, hc148, qhc163, hc174]
              have e176 : lineN (brkB cs) (i + 1) = lineN (brkB cs) i + 1 := by simp [lineN, hb175]
              have e177 : startN (brkB cs) (i + 1) = i + 1 := by simp [startN, hb175]
              have g178 := ih (i + 1) (.val (.int (cs.getD i 0))) (.val (.int (0 : Int32))) (Or.inr ⟨_, rfl, rfl⟩) (Or.inr ⟨_, rfl, rfl⟩) (by omega)
              rw [e176, e177] at g178
              exact g178
            · -- (cs.getD (i + 1) 0) = (10 : Int32)
              refine GoKit.iconst (pc := 139) (x := (1 : Int32)) K d15_139 rfl ?_
              refine GoKit.goto (pc := 140) (pc' := 144) K d15_140 (by decide) ?_
              refine GoKit.istore (pc := 144) (l' := #[.val (.ref a1), .val (.int (Int32.ofNat k)), .val (.int (Int32.ofNat (lineN (brkB cs) i))), .val (.int (Int32.ofNat (startN (brkB cs) i))), .val (.int (Int32.ofNat i)), .val (.int (cs.getD i 0)), .val (.int (1 : Int32))]) K d15_144 (XS.store1 rfl o6 rfl) ?_
              refine GoKit.iload (pc := 146) K d15_146 rfl ?_
              refine GoKit.bipush (pc := 148) (x := (10 : Int32)) K d15_148 rfl ?_
              refine GoKit.icmp_eq_n (pc := 150) K d15_150  (fun z => absurd (z.symm.trans hc148) (by decide)) ?_
              refine GoKit.iload (pc := 153) K d15_153 rfl ?_
              refine GoKit.bipush (pc := 155) (x := (13 : Int32)) K d15_155 rfl ?_
              refine GoKit.icmp_ne_n (pc := 157) K d15_157  hc148 ?_
              refine GoKit.iload (pc := 160) K d15_160 rfl ?_
              refine GoKit.if_ne_y (pc := 162) (pc' := 173) K d15_162 (by decide)  (by decide) ?_
              refine GoKit.iinc (pc := 173) (y := (Int32.ofNat (i + 1))) (l' := #[.val (.ref a1), .val (.int (Int32.ofNat k)), .val (.int (Int32.ofNat (lineN (brkB cs) i))), .val (.int (Int32.ofNat (startN (brkB cs) i))), .val (.int (Int32.ofNat (i + 1))), .val (.int (cs.getD i 0)), .val (.int (1 : Int32))]) K d15_173 rfl (oN_succ _) rfl ?_
              refine GoKit.goto (pc := 176) (pc' := 94) K d15_176 (by decide) ?_
              have qhc163 := ((oN_lt (by omega) (by omega))).mp hc163
              have hb179 : brkB cs i = false := by simp [-List.getD_eq_getElem?_getD, brkB, hc148, qhc163, hc174]
              have e180 : lineN (brkB cs) (i + 1) = lineN (brkB cs) i := by simp [lineN, hb179]
              have e181 : startN (brkB cs) (i + 1) = startN (brkB cs) i := by simp [startN, hb179]
              have g182 := ih (i + 1) (.val (.int (cs.getD i 0))) (.val (.int (1 : Int32))) (Or.inr ⟨_, rfl, rfl⟩) (Or.inr ⟨_, rfl, rfl⟩) (by omega)
              rw [e180, e181] at g182
              exact g182
    exact LP k 0 _ _ (Or.inl rfl) (Or.inl rfl) (by omega)
  refine GoKit.iloadN (pc := 7) K d15_7 rfl ?_
  refine GoKit.if_lt_n (pc := 8) K d15_8  (oN_nn (by omega)) ?_
  refine GoKit.iloadN (pc := 11) K d15_11 rfl ?_
  refine GoKit.aloadN (pc := 12) K d15_12 rfl rfl ?_
  have f183 := (T1.ext E104)
  have f184 := (O0.ext E104)
  refine GoKit.callV (pc := 13) (a0 := a0) (argsL := []) (rest := [(.int (Int32.ofNat k))]) K (hw _ (List.mem_of_getElem? (i := 72) rfl)) (hw _ (List.mem_of_getElem? (i := 73) rfl)) (Or.inr (hw _ (List.mem_of_getElem? (i := 75) rfl))) (hw _ (List.mem_of_getElem? (i := 75) rfl)) (hw _ (List.mem_of_getElem? (i := 74) rfl)) (by decide) f183.exa (fun hZ => Str.bkLen hZ (kI := 4) (fun d hd => hw d ((by decide +kernel : ∀ d ∈ StrChars.Road.wordsLen, d ∈ tables_1) d hd)) (hw _ (List.mem_of_getElem? (i := 8) rfl)) f183 (B0.s0.ext f184.2) B0.hz (by decide) (Nat.le_of_ble_eq_true rfl)) rfl rfl (lenOf pd_16 rfl) rfl d15_13 (by decide) (by decide) (fun _ _ _ q => by obtain ⟨-, rfl, rfl⟩ := q; exact ⟨fun _ z => (nomatch z), Nat.le_refl _⟩) ?_
  intro v185 h186 L188 q187
  obtain ⟨rfl, -, e189⟩ := q187
  replace e189 := e189.symm; subst e189
  show Go _ _ _ _ _ _ _ _ _ _ _ _ _ _ _ _ _ _ _ _ _ (mkF m 16 #[.val (.ref a1), .val (.int (Int32.ofNat k)), .unset, .unset, .unset, .unset, .unset] [(.int (Int32.ofNat cs.length)), (.int (Int32.ofNat k))])
  refine GoKit.icmp_le_y (pc := 16) (pc' := 37) K d15_16 (by decide)  (fun z => absurd ((oN_lt (by omega) (by omega)).mp z) (by omega)) ?_
  refine GoKit.iloadN (pc := 37) K d15_37 rfl ?_
  refine GoKit.if_le (pc := 38) (pc' := 87) K d15_38 (by decide) (fun hc190 => ?_) (fun hc190 => ?_)
  · -- ¬ (0 : Int32) < (Int32.ofNat k)
    exact J
  · -- (0 : Int32) < (Int32.ofNat k)
    refine GoKit.iloadN (pc := 41) K d15_41 rfl ?_
    refine GoKit.aloadN (pc := 42) K d15_42 rfl rfl ?_
    refine GoKit.callV (pc := 43) (a0 := a0) (argsL := []) (rest := [(.int (Int32.ofNat k))]) K (hw _ (List.mem_of_getElem? (i := 72) rfl)) (hw _ (List.mem_of_getElem? (i := 73) rfl)) (Or.inr (hw _ (List.mem_of_getElem? (i := 75) rfl))) (hw _ (List.mem_of_getElem? (i := 75) rfl)) (hw _ (List.mem_of_getElem? (i := 74) rfl)) (by decide) f183.exa (fun hZ => Str.bkLen hZ (kI := 4) (fun d hd => hw d ((by decide +kernel : ∀ d ∈ StrChars.Road.wordsLen, d ∈ tables_1) d hd)) (hw _ (List.mem_of_getElem? (i := 8) rfl)) f183 (B0.s0.ext f184.2) B0.hz (by decide) (Nat.le_of_ble_eq_true rfl)) rfl rfl (lenOf pd_16 rfl) rfl d15_43 (by decide) (by decide) (fun _ _ _ q => by obtain ⟨-, rfl, rfl⟩ := q; exact ⟨fun _ z => (nomatch z), Nat.le_refl _⟩) ?_
    intro v191 h192 L194 q193
    obtain ⟨rfl, -, e195⟩ := q193
    replace e195 := e195.symm; subst e195
    show Go _ _ _ _ _ _ _ _ _ _ _ _ _ _ _ _ _ _ _ _ _ (mkF m 46 #[.val (.ref a1), .val (.int (Int32.ofNat k)), .unset, .unset, .unset, .unset, .unset] [(.int (Int32.ofNat cs.length)), (.int (Int32.ofNat k))])
    refine GoKit.icmp_ge (pc := 46) (pc' := 87) K d15_46 (by decide) (fun hc196 => ?_) (fun hc196 => ?_)
    · -- ¬ (Int32.ofNat k) < (Int32.ofNat cs.length)
      exact J
    · -- (Int32.ofNat k) < (Int32.ofNat cs.length)
      refine GoKit.aloadN (pc := 49) K d15_49 rfl rfl ?_
      refine GoKit.iloadN (pc := 50) K d15_50 rfl ?_
      refine GoKit.iconst (pc := 51) (x := (1 : Int32)) K d15_51 rfl ?_
      refine GoKit.isub (pc := 52) K d15_52 ?_
      have hk0 : 0 < k := (oN_lt (a := 0) (b := k) (by omega) (by omega)).mp hc190
      rw [oN_pred hk0]
      show Go _ _ _ _ _ _ _ _ _ _ _ _ _ _ _ _ _ _ _ _ _ (mkF m 53 #[.val (.ref a1), .val (.int (Int32.ofNat k)), .unset, .unset, .unset, .unset, .unset] [(.int (Int32.ofNat (k - 1))), (.ref a1)])
      refine GoKit.callV (pc := 53) (a0 := a0) (argsL := [(.int (Int32.ofNat (k - 1)))]) (rest := []) K (hw _ (List.mem_of_getElem? (i := 131) rfl)) (hw _ (List.mem_of_getElem? (i := 132) rfl)) (Or.inr (hw _ (List.mem_of_getElem? (i := 134) rfl))) (hw _ (List.mem_of_getElem? (i := 134) rfl)) (hw _ (List.mem_of_getElem? (i := 133) rfl)) (by decide) f183.exa (fun hZ => Con.bk (a0 := a0) (c_chr l Z a0 hw a1 t1 (k - 1) cs h101 n0 f184 z0 fm B0 f183 (by omega)) hZ (hw _ (List.mem_of_getElem? (i := 135) rfl)) (hw _ (List.mem_of_getElem? (i := 9) rfl)) (by decide) (Nat.le_of_ble_eq_true rfl)) rfl rfl (lenOf pd_18 rfl) rfl d15_53 (by decide) (by decide) (fun _ _ _ q => ⟨Fw.sub q.2.1 (by omega) (fun x hx => nomatch hx), q.2.2.1⟩) ?_
      intro v197 h198 L200 q199
      obtain ⟨⟨vm201, rfl, e202⟩, -, -⟩ := q199
      replace e202 := e202.symm; subst e202
      show Go _ _ _ _ _ _ _ _ _ _ _ _ _ _ _ _ _ _ _ _ _ (mkF m 56 #[.val (.ref a1), .val (.int (Int32.ofNat k)), .unset, .unset, .unset, .unset, .unset] [(.int (cs.getD (k - 1) 0))])
      refine GoKit.callS (pc := 56) (a0 := a0) (argsL := [(.int (cs.getD (k - 1) 0))]) (rest := []) K (hw _ (List.mem_of_getElem? (i := 157) rfl)) (hw _ (List.mem_of_getElem? (i := 158) rfl)) (hw _ (List.mem_of_getElem? (i := 84) rfl)) (hw _ (List.mem_of_getElem? (i := 159) rfl)) (by decide) (fun hZ => Con.bk (a0 := a0) (c_ihs l Z a0 hw (cs.getD (k - 1) 0) h101) hZ (hw _ (List.mem_of_getElem? (i := 159) rfl)) (hw _ (List.mem_of_getElem? (i := 84) rfl)) (by decide) (Nat.le_of_ble_eq_true rfl)) rfl rfl (lenOf pd_14 rfl) rfl d15_56 (by decide) (by decide) (fun _ _ _ q => ⟨Fw.sub q.2.1 (by omega) (fun x hx => nomatch hx), q.2.2.1⟩) ?_
      intro v203 h204 L206 q205
      obtain ⟨⟨vm207, rfl, e208⟩, -, -⟩ := q205
      replace e208 := e208.symm; subst e208
      show Go _ _ _ _ _ _ _ _ _ _ _ _ _ _ _ _ _ _ _ _ _ (mkF m 59 #[.val (.ref a1), .val (.int (Int32.ofNat k)), .unset, .unset, .unset, .unset, .unset] [(.int (b2i (hiB (cs.getD (k - 1) 0))))])
      rcases Bool.eq_false_or_eq_true (hiB (cs.getD (k - 1) 0)) with hE209 | hE209
      · -- (hiB (cs.getD (k - 1) 0)) = 1
        rw [hE209]
        show Go _ _ _ _ _ _ _ _ _ _ _ _ _ _ _ _ _ _ _ _ _ (mkF m 59 #[.val (.ref a1), .val (.int (Int32.ofNat k)), .unset, .unset, .unset, .unset, .unset] [(.int (1 : Int32))])
        refine GoKit.if_eq_n (pc := 59) K d15_59  (by decide) ?_
        refine GoKit.aloadN (pc := 62) K d15_62 rfl rfl ?_
        refine GoKit.iloadN (pc := 63) K d15_63 rfl ?_
        have hkl : k < cs.length := (oN_lt (by omega) (by omega)).mp hc196
        refine GoKit.callV (pc := 64) (a0 := a0) (argsL := [(.int (Int32.ofNat k))]) (rest := []) K (hw _ (List.mem_of_getElem? (i := 131) rfl)) (hw _ (List.mem_of_getElem? (i := 132) rfl)) (Or.inr (hw _ (List.mem_of_getElem? (i := 134) rfl))) (hw _ (List.mem_of_getElem? (i := 134) rfl)) (hw _ (List.mem_of_getElem? (i := 133) rfl)) (by decide) f183.exa (fun hZ => Con.bk (a0 := a0) (c_chr l Z a0 hw a1 t1 k cs h101 n0 f184 z0 fm B0 f183 hkl) hZ (hw _ (List.mem_of_getElem? (i := 135) rfl)) (hw _ (List.mem_of_getElem? (i := 9) rfl)) (by decide) (Nat.le_of_ble_eq_true rfl)) rfl rfl (lenOf pd_18 rfl) rfl d15_64 (by decide) (by decide) (fun _ _ _ q => ⟨Fw.sub q.2.1 (by omega) (fun x hx => nomatch hx), q.2.2.1⟩) ?_
        intro v210 h211 L213 q212
        obtain ⟨⟨vm214, rfl, e215⟩, -, -⟩ := q212
        replace e215 := e215.symm; subst e215
        show Go _ _ _ _ _ _ _ _ _ _ _ _ _ _ _ _ _ _ _ _ _ (mkF m 67 #[.val (.ref a1), .val (.int (Int32.ofNat k)), .unset, .unset, .unset, .unset, .unset] [(.int (cs.getD k 0))])
        refine GoKit.callS (pc := 67) (a0 := a0) (argsL := [(.int (cs.getD k 0))]) (rest := []) K (hw _ (List.mem_of_getElem? (i := 179) rfl)) (hw _ (List.mem_of_getElem? (i := 180) rfl)) (hw _ (List.mem_of_getElem? (i := 84) rfl)) (hw _ (List.mem_of_getElem? (i := 181) rfl)) (by decide) (fun hZ => Con.bk (a0 := a0) (c_ils l Z a0 hw (cs.getD k 0) h101) hZ (hw _ (List.mem_of_getElem? (i := 181) rfl)) (hw _ (List.mem_of_getElem? (i := 84) rfl)) (by decide) (Nat.le_of_ble_eq_true rfl)) rfl rfl (lenOf pd_14 rfl) rfl d15_67 (by decide) (by decide) (fun _ _ _ q => ⟨Fw.sub q.2.1 (by omega) (fun x hx => nomatch hx), q.2.2.1⟩) ?_
        intro v216 h217 L219 q218
        obtain ⟨⟨vm220, rfl, e221⟩, -, -⟩ := q218
        replace e221 := e221.symm; subst e221
        show Go _ _ _ _ _ _ _ _ _ _ _ _ _ _ _ _ _ _ _ _ _ (mkF m 70 #[.val (.ref a1), .val (.int (Int32.ofNat k)), .unset, .unset, .unset, .unset, .unset] [(.int (b2i (loB (cs.getD k 0))))])
        rcases Bool.eq_false_or_eq_true (loB (cs.getD k 0)) with hE222 | hE222
        · -- (loB (cs.getD k 0)) = 1
          rw [hE222]
          show Go _ _ _ _ _ _ _ _ _ _ _ _ _ _ _ _ _ _ _ _ _ (mkF m 70 #[.val (.ref a1), .val (.int (Int32.ofNat k)), .unset, .unset, .unset, .unset, .unset] [(.int (1 : Int32))])
          refine GoKit.if_eq_n (pc := 70) K d15_70  (by decide) ?_
          have ek : k - 1 + 1 = k := by omega
          exact absurd ⟨hk0, hkl, by simp only [prB, ek, hE209, hE222, Bool.and_self]⟩ hs
        · -- (loB (cs.getD k 0)) = 0
          rw [hE222]
          show Go _ _ _ _ _ _ _ _ _ _ _ _ _ _ _ _ _ _ _ _ _ (mkF m 70 #[.val (.ref a1), .val (.int (Int32.ofNat k)), .unset, .unset, .unset, .unset, .unset] [(.int (0 : Int32))])
          refine GoKit.if_eq_y (pc := 70) (pc' := 87) K d15_70 (by decide)  (by decide) ?_
          exact J
      · -- (hiB (cs.getD (k - 1) 0)) = 0
        rw [hE209]
        show Go _ _ _ _ _ _ _ _ _ _ _ _ _ _ _ _ _ _ _ _ _ (mkF m 59 #[.val (.ref a1), .val (.int (Int32.ofNat k)), .unset, .unset, .unset, .unset, .unset] [(.int (0 : Int32))])
        refine GoKit.if_eq_y (pc := 59) (pc' := 87) K d15_59 (by decide)  (by decide) ?_
        exact J
set_option maxRecDepth 65536 in
set_option maxHeartbeats 40000000 in
theorem c_law (l : Launch) (Z : State) (a0 : Array Value) (hw : ∀ d ∈ tables_1, d.before a0 Z = true) (p1 p2 p3 p4 p5 : Int32) (h0 : Heap) (n0 : Nat) (O0 : Old Z n0 h0) (z0 : Int32) (fm : Value) (B0 : Base Z z0 fm) (hSA : ∀ a ∈ Bundle.stringAtoms, a.before a0 Z = true) :
    Con l x code maxLocals ret tables_1 room_1 Z #[(.int p1), (.int p2), (.int p3), (.int p4), (.int p5)] h0 [] (fun _ => True) (fun v _ _ => v = some (.int 1)) true := by
  refine Con.intro pn_4 ?_
  intro p e s m below meth c K hV hsh
  have K : Kit p m meth c code 16 (some .boolean) "law" := K
  have ef : entryFrame m #[(.int p1), (.int p2), (.int p3), (.int p4), (.int p5)] maxLocals = (mkF m 0 #[.val (.int p1), .val (.int p2), .val (.int p3), .val (.int p4), .val (.int p5), .unset, .unset, .unset, .unset, .unset, .unset, .unset, .unset, .unset, .unset, .unset] []) := (by first | (simp [entryFrame, mkF, argsToLocals, cat_ref, cat_int, cat_long, cat_null, maxLocals]; done) | rfl)
  rw [ef]
  have hn0 : n0 ≤ h0.size := by rw [← O0.1]; exact O0.2.1
  refine GoKit.iconst (pc := 0) (x := (4 : Int32)) K at_0 rfl ?_
  refine GoKit.newP (pc := 1) (a0 := a0) (cap := 4) K (hw _ (List.mem_of_getElem? (i := 0) rfl)) at_1 (by decide) (by decide) (by decide) (by decide) (by decide) ?_
  intro h101 b102 kc103 eq104 E105 A106
  have sz108 : h0.size ≤ h101.size := E105.1
  have lt109 : b102 < h101.size := A106.lt
  have V107 : Arv Z h101 b102 kc103 .char (4 : Int32) [.int 0, .int 0, .int 0, .int 0] (.int 0) := A106.pad (pad_rep [] _ 4)
  refine GoKit.dup (pc := 3) K at_3 rfl ?_
  refine GoKit.iconst (pc := 4) (x := (0 : Int32)) K at_4 rfl ?_
  refine GoKit.iloadN (pc := 5) K at_5 rfl ?_
  refine GoKit.callS (pc := 6) (a0 := a0) (argsL := [(.int p1)]) (rest := [(.int (0 : Int32)), (.ref b102), (.ref b102)]) K (hw _ (List.mem_of_getElem? (i := 1) rfl)) (hw _ (List.mem_of_getElem? (i := 2) rfl)) (hw _ (List.mem_of_getElem? (i := 3) rfl)) (hw _ (List.mem_of_getElem? (i := 4) rfl)) (by decide) (fun hZ => Con.bk (a0 := a0) (c_draw l Z a0 hw p1 h101) hZ (hw _ (List.mem_of_getElem? (i := 4) rfl)) (hw _ (List.mem_of_getElem? (i := 3) rfl)) (by decide) (Nat.le_of_ble_eq_true rfl)) rfl rfl (lenOf pd_18 rfl) rfl at_6 (by decide) (by decide) (fun _ _ _ q => ⟨Fw.sub q.2.1 (by omega) (fun x hx => nomatch hx), q.2.2.1⟩) ?_
  intro v110 h111 L113 q112
  obtain ⟨⟨vm114, rfl, e115⟩, -, -⟩ := q112
  replace e115 := e115.symm; subst e115
  show Go _ _ _ _ _ _ _ _ _ _ _ _ _ _ _ _ _ _ _ _ _ (mkF m 9 #[.val (.int p1), .val (.int p2), .val (.int p3), .val (.int p4), .val (.int p5), .unset, .unset, .unset, .unset, .unset, .unset, .unset, .unset, .unset, .unset, .unset] [(.int (dF p1)), (.int (0 : Int32)), (.ref b102), (.ref b102)])
  refine GoKit.castore (pc := 9) (i := 0) K V107 (by decide) rfl (Nat.le_of_ble_eq_true rfl) (Or.inl (by omega)) at_9 ?_
  intro h116 W117 V118
  have sz119 : h101.size ≤ h116.size := Nat.le_of_eq W117.size.symm
  have V120 : Arv Z h116 b102 kc103 .char (4 : Int32) [(.int (nar .char (dF p1))), .int 0, .int 0, .int 0] (.int 0) := V118
  have V121 : Arv Z h116 b102 kc103 .char (4 : Int32) [(.int (dF p1)), .int 0, .int 0, .int 0] (.int 0) := by have q := V120; rw [dF_nar] at q; exact q
  refine GoKit.dup (pc := 10) K at_10 rfl ?_
  refine GoKit.iconst (pc := 11) (x := (1 : Int32)) K at_11 rfl ?_
  refine GoKit.iloadN (pc := 12) K at_12 rfl ?_
  refine GoKit.callS (pc := 13) (a0 := a0) (argsL := [(.int p2)]) (rest := [(.int (1 : Int32)), (.ref b102), (.ref b102)]) K (hw _ (List.mem_of_getElem? (i := 1) rfl)) (hw _ (List.mem_of_getElem? (i := 2) rfl)) (hw _ (List.mem_of_getElem? (i := 3) rfl)) (hw _ (List.mem_of_getElem? (i := 4) rfl)) (by decide) (fun hZ => Con.bk (a0 := a0) (c_draw l Z a0 hw p2 h116) hZ (hw _ (List.mem_of_getElem? (i := 4) rfl)) (hw _ (List.mem_of_getElem? (i := 3) rfl)) (by decide) (Nat.le_of_ble_eq_true rfl)) rfl rfl (lenOf pd_18 rfl) rfl at_13 (by decide) (by decide) (fun _ _ _ q => ⟨Fw.sub q.2.1 (by omega) (fun x hx => nomatch hx), q.2.2.1⟩) ?_
  intro v122 h123 L125 q124
  obtain ⟨⟨vm126, rfl, e127⟩, -, -⟩ := q124
  replace e127 := e127.symm; subst e127
  show Go _ _ _ _ _ _ _ _ _ _ _ _ _ _ _ _ _ _ _ _ _ (mkF m 16 #[.val (.int p1), .val (.int p2), .val (.int p3), .val (.int p4), .val (.int p5), .unset, .unset, .unset, .unset, .unset, .unset, .unset, .unset, .unset, .unset, .unset] [(.int (dF p2)), (.int (1 : Int32)), (.ref b102), (.ref b102)])
  refine GoKit.castore (pc := 16) (i := 1) K V121 (by decide) rfl (Nat.le_of_ble_eq_true rfl) (Or.inl (by omega)) at_16 ?_
  intro h128 W129 V130
  have sz131 : h116.size ≤ h128.size := Nat.le_of_eq W129.size.symm
  have V132 : Arv Z h128 b102 kc103 .char (4 : Int32) [(.int (dF p1)), (.int (nar .char (dF p2))), .int 0, .int 0] (.int 0) := V130
  have V133 : Arv Z h128 b102 kc103 .char (4 : Int32) [(.int (dF p1)), (.int (dF p2)), .int 0, .int 0] (.int 0) := by have q := V132; rw [dF_nar] at q; exact q
  refine GoKit.dup (pc := 17) K at_17 rfl ?_
  refine GoKit.iconst (pc := 18) (x := (2 : Int32)) K at_18 rfl ?_
  refine GoKit.iloadN (pc := 19) K at_19 rfl ?_
  refine GoKit.callS (pc := 20) (a0 := a0) (argsL := [(.int p3)]) (rest := [(.int (2 : Int32)), (.ref b102), (.ref b102)]) K (hw _ (List.mem_of_getElem? (i := 1) rfl)) (hw _ (List.mem_of_getElem? (i := 2) rfl)) (hw _ (List.mem_of_getElem? (i := 3) rfl)) (hw _ (List.mem_of_getElem? (i := 4) rfl)) (by decide) (fun hZ => Con.bk (a0 := a0) (c_draw l Z a0 hw p3 h128) hZ (hw _ (List.mem_of_getElem? (i := 4) rfl)) (hw _ (List.mem_of_getElem? (i := 3) rfl)) (by decide) (Nat.le_of_ble_eq_true rfl)) rfl rfl (lenOf pd_18 rfl) rfl at_20 (by decide) (by decide) (fun _ _ _ q => ⟨Fw.sub q.2.1 (by omega) (fun x hx => nomatch hx), q.2.2.1⟩) ?_
  intro v134 h135 L137 q136
  obtain ⟨⟨vm138, rfl, e139⟩, -, -⟩ := q136
  replace e139 := e139.symm; subst e139
  show Go _ _ _ _ _ _ _ _ _ _ _ _ _ _ _ _ _ _ _ _ _ (mkF m 23 #[.val (.int p1), .val (.int p2), .val (.int p3), .val (.int p4), .val (.int p5), .unset, .unset, .unset, .unset, .unset, .unset, .unset, .unset, .unset, .unset, .unset] [(.int (dF p3)), (.int (2 : Int32)), (.ref b102), (.ref b102)])
  refine GoKit.castore (pc := 23) (i := 2) K V133 (by decide) rfl (Nat.le_of_ble_eq_true rfl) (Or.inl (by omega)) at_23 ?_
  intro h140 W141 V142
  have sz143 : h128.size ≤ h140.size := Nat.le_of_eq W141.size.symm
  have V144 : Arv Z h140 b102 kc103 .char (4 : Int32) [(.int (dF p1)), (.int (dF p2)), (.int (nar .char (dF p3))), .int 0] (.int 0) := V142
  have V145 : Arv Z h140 b102 kc103 .char (4 : Int32) [(.int (dF p1)), (.int (dF p2)), (.int (dF p3)), .int 0] (.int 0) := by have q := V144; rw [dF_nar] at q; exact q
  refine GoKit.dup (pc := 24) K at_24 rfl ?_
  refine GoKit.iconst (pc := 25) (x := (3 : Int32)) K at_25 rfl ?_
  refine GoKit.iloadN (pc := 26) K at_26 rfl ?_
  refine GoKit.callS (pc := 27) (a0 := a0) (argsL := [(.int p4)]) (rest := [(.int (3 : Int32)), (.ref b102), (.ref b102)]) K (hw _ (List.mem_of_getElem? (i := 1) rfl)) (hw _ (List.mem_of_getElem? (i := 2) rfl)) (hw _ (List.mem_of_getElem? (i := 3) rfl)) (hw _ (List.mem_of_getElem? (i := 4) rfl)) (by decide) (fun hZ => Con.bk (a0 := a0) (c_draw l Z a0 hw p4 h140) hZ (hw _ (List.mem_of_getElem? (i := 4) rfl)) (hw _ (List.mem_of_getElem? (i := 3) rfl)) (by decide) (Nat.le_of_ble_eq_true rfl)) rfl rfl (lenOf pd_18 rfl) rfl at_27 (by decide) (by decide) (fun _ _ _ q => ⟨Fw.sub q.2.1 (by omega) (fun x hx => nomatch hx), q.2.2.1⟩) ?_
  intro v146 h147 L149 q148
  obtain ⟨⟨vm150, rfl, e151⟩, -, -⟩ := q148
  replace e151 := e151.symm; subst e151
  show Go _ _ _ _ _ _ _ _ _ _ _ _ _ _ _ _ _ _ _ _ _ (mkF m 30 #[.val (.int p1), .val (.int p2), .val (.int p3), .val (.int p4), .val (.int p5), .unset, .unset, .unset, .unset, .unset, .unset, .unset, .unset, .unset, .unset, .unset] [(.int (dF p4)), (.int (3 : Int32)), (.ref b102), (.ref b102)])
  refine GoKit.castore (pc := 30) (i := 3) K V145 (by decide) rfl (Nat.le_of_ble_eq_true rfl) (Or.inl (by omega)) at_30 ?_
  intro h152 W153 V154
  have sz155 : h140.size ≤ h152.size := Nat.le_of_eq W153.size.symm
  have V156 : Arv Z h152 b102 kc103 .char (4 : Int32) [(.int (dF p1)), (.int (dF p2)), (.int (dF p3)), (.int (nar .char (dF p4)))] (.int 0) := V154
  have V157 : Arv Z h152 b102 kc103 .char (4 : Int32) [(.int (dF p1)), (.int (dF p2)), (.int (dF p3)), (.int (dF p4))] (.int 0) := by have q := V156; rw [dF_nar] at q; exact q
  refine GoKit.astore (pc := 31) (l' := #[.val (.int p1), .val (.int p2), .val (.int p3), .val (.int p4), .val (.int p5), .val (.ref b102), .unset, .unset, .unset, .unset, .unset, .unset, .unset, .unset, .unset, .unset]) K at_31 rfl rfl ?_
  refine GoKit.iload (pc := 33) K at_33 rfl ?_
  refine GoKit.ldcInt (pc := 35) (a0 := a0) (v := (2147483647 : Int32)) K (hw _ (List.mem_of_getElem? (i := 6) rfl)) at_35 ?_
  refine GoKit.iand (pc := 37) K at_37 ?_
  refine GoKit.iconst (pc := 38) (x := (5 : Int32)) K at_38 rfl ?_
  refine GoKit.irem (pc := 39) K at_39 (by decide) ?_
  obtain ⟨k, hk, ek⟩ := idx_k p5
  rw [ek]
  show Go _ _ _ _ _ _ _ _ _ _ _ _ _ _ _ _ _ _ _ _ _ (mkF m 40 #[.val (.int p1), .val (.int p2), .val (.int p3), .val (.int p4), .val (.int p5), .val (.ref b102), .unset, .unset, .unset, .unset, .unset, .unset, .unset, .unset, .unset, .unset] [(.int (Int32.ofNat k))])
  refine GoKit.istore (pc := 40) (l' := #[.val (.int p1), .val (.int p2), .val (.int p3), .val (.int p4), .val (.int p5), .val (.ref b102), .val (.int (Int32.ofNat k)), .unset, .unset, .unset, .unset, .unset, .unset, .unset, .unset, .unset]) K at_40 rfl ?_
  have J : (¬ (0 < k ∧ k < 4 ∧ prB ([(dF p1), (dF p2), (dF p3), (dF p4)] : List Int32) (k - 1) = true)) → Go p l e room_1 s m #[(.int p1), (.int p2), (.int p3), (.int p4), (.int p5)] below meth c Z h0.size [] [] "com/example/neat_mapper/neatmapper/jpql/SourcePositionOfPinLaw" (fun v _ _ => v = some (.int 1)) true s.vm h152 1 4 (mkF m 79 #[.val (.int p1), .val (.int p2), .val (.int p3), .val (.int p4), .val (.int p5), .val (.ref b102), .val (.int (Int32.ofNat k)), .unset, .unset, .unset, .unset, .unset, .unset, .unset, .unset, .unset] []) := by
    intro hs
    refine GoKit.newO (pc := 79) (a0 := a0) K (hw _ (List.mem_of_getElem? (i := 7) rfl)) (hw _ (List.mem_of_getElem? (i := 8) rfl)) (hw _ (List.mem_of_getElem? (i := 9) rfl)) at_79 (by decide) (by decide) ?_
    intro h158 b159 eq160 E161 A162 D163
    have sz164 : h152.size ≤ h158.size := E161.1
    have lt165 : b159 < h158.size := A162.lt
    have F166 : Fld Z h158 b159 "java/lang/String" "coder" "B" (.int (0 : Int32)) := D163 (Or.inr (hw _ (List.mem_of_getElem? (i := 52) rfl))) (ty := .byte) (by decide +kernel)
    have F167 : Fld Z h158 b159 "java/lang/String" "value" "[B" .null := D163 (Or.inr (hw _ (List.mem_of_getElem? (i := 54) rfl))) (ty := (.array .byte)) (by decide +kernel)
    refine GoKit.dup (pc := 82) K at_82 rfl ?_
    refine GoKit.aload (pc := 83) K at_83 rfl rfl ?_
    have f168 := ((((((O0.ext E105).wr W117 (by omega)).wr W129 (by omega)).wr W141 (by omega)).wr W153 (by omega)).ext E161)
    have f169 := (V157.ext E161)
    refine GoKit.callI (pc := 85) (a0 := a0) (argsL := [(.ref b102)]) (rest := [(.ref b159)]) K rfl (hw _ (List.mem_of_getElem? (i := 10) rfl)) (hw _ (List.mem_of_getElem? (i := 11) rfl)) (hw _ (List.mem_of_getElem? (i := 12) rfl)) (by decide) (fun hZ => Con.bk (a0 := a0) (c_in1_4 l Z a0 hw b159 b102 kc103 (dF p1) (dF p2) (dF p3) (dF p4) h158 n0 f168 z0 fm B0 A162 F167 F166 (by omega) f169 (by intro c hc; simp only [List.mem_cons, List.not_mem_nil, or_false] at hc; rcases hc with rfl | rfl | rfl | rfl <;> exact dF_rng _) (by omega)) hZ (hw _ (List.mem_of_getElem? (i := 12) rfl)) (hw _ (List.mem_of_getElem? (i := 9) rfl)) (by decide) (Nat.le_of_ble_eq_true rfl)) rfl rfl (lenOf pd_22 rfl) rfl at_85 (by decide) (by decide) (fun _ _ _ q => ⟨Fw.sub q.2.1 (by omega) (allS (Or.inl (by omega)) all0), q.2.2.1⟩) ?_
    intro v170 h171 L173 q172
    obtain ⟨⟨vm174, rfl, t175, lt176, T177⟩, -, K178⟩ := q172
    have sz180 : h158.size ≤ h171.size := K178.1
    have lx179_1 := T177.lt.1; have lx179_2 := T177.lt.2
    show Go _ _ _ _ _ _ _ _ _ _ _ _ _ _ _ _ _ _ _ _ _ (mkF m 88 #[.val (.int p1), .val (.int p2), .val (.int p3), .val (.int p4), .val (.int p5), .val (.ref b102), .val (.int (Int32.ofNat k)), .unset, .unset, .unset, .unset, .unset, .unset, .unset, .unset, .unset] [(.ref b159)])
    refine GoKit.astore (pc := 88) (l' := #[.val (.int p1), .val (.int p2), .val (.int p3), .val (.int p4), .val (.int p5), .val (.ref b102), .val (.int (Int32.ofNat k)), .val (.ref b159), .unset, .unset, .unset, .unset, .unset, .unset, .unset, .unset]) K at_88 rfl rfl ?_
    refine GoKit.aload (pc := 90) K at_90 rfl rfl ?_
    refine GoKit.iconst (pc := 92) (x := (0 : Int32)) K at_92 rfl ?_
    refine GoKit.iload (pc := 93) K at_93 rfl ?_
    have f181 := (f169.keep K178 (ninS (ane (by omega)) nin0))
    refine GoKit.callS (pc := 95) (a0 := a0) (argsL := [(.ref b102), (.int (0 : Int32)), (.int (Int32.ofNat k))]) (rest := []) K (hw _ (List.mem_of_getElem? (i := 55) rfl)) (hw _ (List.mem_of_getElem? (i := 56) rfl)) (hw _ (List.mem_of_getElem? (i := 3) rfl)) (hw _ (List.mem_of_getElem? (i := 57) rfl)) (by decide) (fun hZ => Con.bk (a0 := a0) (c_brk0 l Z a0 hw b102 kc103 (Int32.ofNat k) (dF p1) (dF p2) (dF p3) (dF p4) h171 f181) hZ (hw _ (List.mem_of_getElem? (i := 57) rfl)) (hw _ (List.mem_of_getElem? (i := 3) rfl)) (by decide) (Nat.le_of_ble_eq_true rfl)) rfl rfl (lenOf pd_23 rfl) rfl at_95 (by decide) (by decide) (fun _ _ _ q => ⟨Fw.sub q.2.1 (by omega) (fun x hx => nomatch hx), q.2.2.1⟩) ?_
    intro v182 h183 L185 q184
    obtain ⟨⟨vm186, rfl, e187⟩, -, -⟩ := q184
    replace e187 := e187.symm; subst e187
    show Go _ _ _ _ _ _ _ _ _ _ _ _ _ _ _ _ _ _ _ _ _ (mkF m 98 #[.val (.int p1), .val (.int p2), .val (.int p3), .val (.int p4), .val (.int p5), .val (.ref b102), .val (.int (Int32.ofNat k)), .val (.ref b159), .unset, .unset, .unset, .unset, .unset, .unset, .unset, .unset] [(.int (bI (brkB ([(dF p1), (dF p2), (dF p3), (dF p4)] : List Int32)) k 0))])
    refine GoKit.istore (pc := 98) (l' := #[.val (.int p1), .val (.int p2), .val (.int p3), .val (.int p4), .val (.int p5), .val (.ref b102), .val (.int (Int32.ofNat k)), .val (.ref b159), .val (.int (bI (brkB ([(dF p1), (dF p2), (dF p3), (dF p4)] : List Int32)) k 0)), .unset, .unset, .unset, .unset, .unset, .unset, .unset]) K at_98 rfl ?_
    refine GoKit.aload (pc := 100) K at_100 rfl rfl ?_
    refine GoKit.iconst (pc := 102) (x := (1 : Int32)) K at_102 rfl ?_
    refine GoKit.iload (pc := 103) K at_103 rfl ?_
    refine GoKit.callS (pc := 105) (a0 := a0) (argsL := [(.ref b102), (.int (1 : Int32)), (.int (Int32.ofNat k))]) (rest := []) K (hw _ (List.mem_of_getElem? (i := 55) rfl)) (hw _ (List.mem_of_getElem? (i := 56) rfl)) (hw _ (List.mem_of_getElem? (i := 3) rfl)) (hw _ (List.mem_of_getElem? (i := 57) rfl)) (by decide) (fun hZ => Con.bk (a0 := a0) (c_brk1 l Z a0 hw b102 kc103 (Int32.ofNat k) (dF p1) (dF p2) (dF p3) (dF p4) h171 f181) hZ (hw _ (List.mem_of_getElem? (i := 57) rfl)) (hw _ (List.mem_of_getElem? (i := 3) rfl)) (by decide) (Nat.le_of_ble_eq_true rfl)) rfl rfl (lenOf pd_23 rfl) rfl at_105 (by decide) (by decide) (fun _ _ _ q => ⟨Fw.sub q.2.1 (by omega) (fun x hx => nomatch hx), q.2.2.1⟩) ?_
    intro v188 h189 L191 q190
    obtain ⟨⟨vm192, rfl, e193⟩, -, -⟩ := q190
    replace e193 := e193.symm; subst e193
    show Go _ _ _ _ _ _ _ _ _ _ _ _ _ _ _ _ _ _ _ _ _ (mkF m 108 #[.val (.int p1), .val (.int p2), .val (.int p3), .val (.int p4), .val (.int p5), .val (.ref b102), .val (.int (Int32.ofNat k)), .val (.ref b159), .val (.int (bI (brkB ([(dF p1), (dF p2), (dF p3), (dF p4)] : List Int32)) k 0)), .unset, .unset, .unset, .unset, .unset, .unset, .unset] [(.int (bI (brkB ([(dF p1), (dF p2), (dF p3), (dF p4)] : List Int32)) k 1))])
    refine GoKit.istore (pc := 108) (l' := #[.val (.int p1), .val (.int p2), .val (.int p3), .val (.int p4), .val (.int p5), .val (.ref b102), .val (.int (Int32.ofNat k)), .val (.ref b159), .val (.int (bI (brkB ([(dF p1), (dF p2), (dF p3), (dF p4)] : List Int32)) k 0)), .val (.int (bI (brkB ([(dF p1), (dF p2), (dF p3), (dF p4)] : List Int32)) k 1)), .unset, .unset, .unset, .unset, .unset, .unset]) K at_108 rfl ?_
    refine GoKit.aload (pc := 110) K at_110 rfl rfl ?_
    refine GoKit.iconst (pc := 112) (x := (2 : Int32)) K at_112 rfl ?_
    refine GoKit.iload (pc := 113) K at_113 rfl ?_
    refine GoKit.callS (pc := 115) (a0 := a0) (argsL := [(.ref b102), (.int (2 : Int32)), (.int (Int32.ofNat k))]) (rest := []) K (hw _ (List.mem_of_getElem? (i := 55) rfl)) (hw _ (List.mem_of_getElem? (i := 56) rfl)) (hw _ (List.mem_of_getElem? (i := 3) rfl)) (hw _ (List.mem_of_getElem? (i := 57) rfl)) (by decide) (fun hZ => Con.bk (a0 := a0) (c_brk2 l Z a0 hw b102 kc103 (Int32.ofNat k) (dF p1) (dF p2) (dF p3) (dF p4) h171 f181) hZ (hw _ (List.mem_of_getElem? (i := 57) rfl)) (hw _ (List.mem_of_getElem? (i := 3) rfl)) (by decide) (Nat.le_of_ble_eq_true rfl)) rfl rfl (lenOf pd_23 rfl) rfl at_115 (by decide) (by decide) (fun _ _ _ q => ⟨Fw.sub q.2.1 (by omega) (fun x hx => nomatch hx), q.2.2.1⟩) ?_
    intro v194 h195 L197 q196
    obtain ⟨⟨vm198, rfl, e199⟩, -, -⟩ := q196
    replace e199 := e199.symm; subst e199
    show Go _ _ _ _ _ _ _ _ _ _ _ _ _ _ _ _ _ _ _ _ _ (mkF m 118 #[.val (.int p1), .val (.int p2), .val (.int p3), .val (.int p4), .val (.int p5), .val (.ref b102), .val (.int (Int32.ofNat k)), .val (.ref b159), .val (.int (bI (brkB ([(dF p1), (dF p2), (dF p3), (dF p4)] : List Int32)) k 0)), .val (.int (bI (brkB ([(dF p1), (dF p2), (dF p3), (dF p4)] : List Int32)) k 1)), .unset, .unset, .unset, .unset, .unset, .unset] [(.int (bI (brkB ([(dF p1), (dF p2), (dF p3), (dF p4)] : List Int32)) k 2))])
    refine GoKit.istore (pc := 118) (l' := #[.val (.int p1), .val (.int p2), .val (.int p3), .val (.int p4), .val (.int p5), .val (.ref b102), .val (.int (Int32.ofNat k)), .val (.ref b159), .val (.int (bI (brkB ([(dF p1), (dF p2), (dF p3), (dF p4)] : List Int32)) k 0)), .val (.int (bI (brkB ([(dF p1), (dF p2), (dF p3), (dF p4)] : List Int32)) k 1)), .val (.int (bI (brkB ([(dF p1), (dF p2), (dF p3), (dF p4)] : List Int32)) k 2)), .unset, .unset, .unset, .unset, .unset]) K at_118 rfl ?_
    refine GoKit.aload (pc := 120) K at_120 rfl rfl ?_
    refine GoKit.iconst (pc := 122) (x := (3 : Int32)) K at_122 rfl ?_
    refine GoKit.iload (pc := 123) K at_123 rfl ?_
    refine GoKit.callS (pc := 125) (a0 := a0) (argsL := [(.ref b102), (.int (3 : Int32)), (.int (Int32.ofNat k))]) (rest := []) K (hw _ (List.mem_of_getElem? (i := 55) rfl)) (hw _ (List.mem_of_getElem? (i := 56) rfl)) (hw _ (List.mem_of_getElem? (i := 3) rfl)) (hw _ (List.mem_of_getElem? (i := 57) rfl)) (by decide) (fun hZ => Con.bk (a0 := a0) (c_brk3 l Z a0 hw b102 kc103 (Int32.ofNat k) (dF p1) (dF p2) (dF p3) (dF p4) h171 f181) hZ (hw _ (List.mem_of_getElem? (i := 57) rfl)) (hw _ (List.mem_of_getElem? (i := 3) rfl)) (by decide) (Nat.le_of_ble_eq_true rfl)) rfl rfl (lenOf pd_23 rfl) rfl at_125 (by decide) (by decide) (fun _ _ _ q => ⟨Fw.sub q.2.1 (by omega) (fun x hx => nomatch hx), q.2.2.1⟩) ?_
    intro v200 h201 L203 q202
    obtain ⟨⟨vm204, rfl, e205⟩, -, -⟩ := q202
    replace e205 := e205.symm; subst e205
    show Go _ _ _ _ _ _ _ _ _ _ _ _ _ _ _ _ _ _ _ _ _ (mkF m 128 #[.val (.int p1), .val (.int p2), .val (.int p3), .val (.int p4), .val (.int p5), .val (.ref b102), .val (.int (Int32.ofNat k)), .val (.ref b159), .val (.int (bI (brkB ([(dF p1), (dF p2), (dF p3), (dF p4)] : List Int32)) k 0)), .val (.int (bI (brkB ([(dF p1), (dF p2), (dF p3), (dF p4)] : List Int32)) k 1)), .val (.int (bI (brkB ([(dF p1), (dF p2), (dF p3), (dF p4)] : List Int32)) k 2)), .unset, .unset, .unset, .unset, .unset] [(.int (bI (brkB ([(dF p1), (dF p2), (dF p3), (dF p4)] : List Int32)) k 3))])
    refine GoKit.istore (pc := 128) (l' := #[.val (.int p1), .val (.int p2), .val (.int p3), .val (.int p4), .val (.int p5), .val (.ref b102), .val (.int (Int32.ofNat k)), .val (.ref b159), .val (.int (bI (brkB ([(dF p1), (dF p2), (dF p3), (dF p4)] : List Int32)) k 0)), .val (.int (bI (brkB ([(dF p1), (dF p2), (dF p3), (dF p4)] : List Int32)) k 1)), .val (.int (bI (brkB ([(dF p1), (dF p2), (dF p3), (dF p4)] : List Int32)) k 2)), .val (.int (bI (brkB ([(dF p1), (dF p2), (dF p3), (dF p4)] : List Int32)) k 3)), .unset, .unset, .unset, .unset]) K at_128 rfl ?_
    refine GoKit.iconst (pc := 130) (x := (1 : Int32)) K at_130 rfl ?_
    refine GoKit.iload (pc := 131) K at_131 rfl ?_
    refine GoKit.iadd (pc := 133) K at_133 ?_
    refine GoKit.iload (pc := 134) K at_134 rfl ?_
    refine GoKit.iadd (pc := 136) K at_136 ?_
    refine GoKit.iload (pc := 137) K at_137 rfl ?_
    refine GoKit.iadd (pc := 139) K at_139 ?_
    refine GoKit.iload (pc := 140) K at_140 rfl ?_
    refine GoKit.iadd (pc := 142) K at_142 ?_
    refine GoKit.istore (pc := 143) (l' := #[.val (.int p1), .val (.int p2), .val (.int p3), .val (.int p4), .val (.int p5), .val (.ref b102), .val (.int (Int32.ofNat k)), .val (.ref b159), .val (.int (bI (brkB ([(dF p1), (dF p2), (dF p3), (dF p4)] : List Int32)) k 0)), .val (.int (bI (brkB ([(dF p1), (dF p2), (dF p3), (dF p4)] : List Int32)) k 1)), .val (.int (bI (brkB ([(dF p1), (dF p2), (dF p3), (dF p4)] : List Int32)) k 2)), .val (.int (bI (brkB ([(dF p1), (dF p2), (dF p3), (dF p4)] : List Int32)) k 3)), .val (.int (((((1 : Int32) + (bI (brkB ([(dF p1), (dF p2), (dF p3), (dF p4)] : List Int32)) k 0)) + (bI (brkB ([(dF p1), (dF p2), (dF p3), (dF p4)] : List Int32)) k 1)) + (bI (brkB ([(dF p1), (dF p2), (dF p3), (dF p4)] : List Int32)) k 2)) + (bI (brkB ([(dF p1), (dF p2), (dF p3), (dF p4)] : List Int32)) k 3))), .unset, .unset, .unset]) K at_143 rfl ?_
    have J2 : ∀ s0 : Int32, s0 = stI (bI (brkB ([(dF p1), (dF p2), (dF p3), (dF p4)] : List Int32)) k 0) (bI (brkB ([(dF p1), (dF p2), (dF p3), (dF p4)] : List Int32)) k 1) (bI (brkB ([(dF p1), (dF p2), (dF p3), (dF p4)] : List Int32)) k 2) (bI (brkB ([(dF p1), (dF p2), (dF p3), (dF p4)] : List Int32)) k 3) → Go p l e room_1 s m #[(.int p1), (.int p2), (.int p3), (.int p4), (.int p5)] below meth c Z h0.size [] [] "com/example/neat_mapper/neatmapper/jpql/SourcePositionOfPinLaw" (fun v _ _ => v = some (.int 1)) true s.vm h171 4 20 (mkF m 186 #[.val (.int p1), .val (.int p2), .val (.int p3), .val (.int p4), .val (.int p5), .val (.ref b102), .val (.int (Int32.ofNat k)), .val (.ref b159), .val (.int (bI (brkB ([(dF p1), (dF p2), (dF p3), (dF p4)] : List Int32)) k 0)), .val (.int (bI (brkB ([(dF p1), (dF p2), (dF p3), (dF p4)] : List Int32)) k 1)), .val (.int (bI (brkB ([(dF p1), (dF p2), (dF p3), (dF p4)] : List Int32)) k 2)), .val (.int (bI (brkB ([(dF p1), (dF p2), (dF p3), (dF p4)] : List Int32)) k 3)), .val (.int (((((1 : Int32) + (bI (brkB ([(dF p1), (dF p2), (dF p3), (dF p4)] : List Int32)) k 0)) + (bI (brkB ([(dF p1), (dF p2), (dF p3), (dF p4)] : List Int32)) k 1)) + (bI (brkB ([(dF p1), (dF p2), (dF p3), (dF p4)] : List Int32)) k 2)) + (bI (brkB ([(dF p1), (dF p2), (dF p3), (dF p4)] : List Int32)) k 3))), .unset, .unset, .unset] [(.int s0)]) := by
      intro s0 hs0
      refine GoKit.istore (pc := 186) (l' := #[.val (.int p1), .val (.int p2), .val (.int p3), .val (.int p4), .val (.int p5), .val (.ref b102), .val (.int (Int32.ofNat k)), .val (.ref b159), .val (.int (bI (brkB ([(dF p1), (dF p2), (dF p3), (dF p4)] : List Int32)) k 0)), .val (.int (bI (brkB ([(dF p1), (dF p2), (dF p3), (dF p4)] : List Int32)) k 1)), .val (.int (bI (brkB ([(dF p1), (dF p2), (dF p3), (dF p4)] : List Int32)) k 2)), .val (.int (bI (brkB ([(dF p1), (dF p2), (dF p3), (dF p4)] : List Int32)) k 3)), .val (.int (((((1 : Int32) + (bI (brkB ([(dF p1), (dF p2), (dF p3), (dF p4)] : List Int32)) k 0)) + (bI (brkB ([(dF p1), (dF p2), (dF p3), (dF p4)] : List Int32)) k 1)) + (bI (brkB ([(dF p1), (dF p2), (dF p3), (dF p4)] : List Int32)) k 2)) + (bI (brkB ([(dF p1), (dF p2), (dF p3), (dF p4)] : List Int32)) k 3))), .val (.int s0), .unset, .unset]) K at_186 rfl ?_
      refine GoKit.iconst (pc := 188) (x := (1 : Int32)) K at_188 rfl ?_
      refine GoKit.iload (pc := 189) K at_189 rfl ?_
      refine GoKit.iload (pc := 191) K at_191 rfl ?_
      refine GoKit.isub (pc := 193) K at_193 ?_
      refine GoKit.iadd (pc := 194) K at_194 ?_
      refine GoKit.aload (pc := 195) K at_195 rfl rfl ?_
      refine GoKit.iconst (pc := 197) (x := (0 : Int32)) K at_197 rfl ?_
      refine GoKit.iload (pc := 198) K at_198 rfl ?_
      refine GoKit.iload (pc := 200) K at_200 rfl ?_
      refine GoKit.callS (pc := 202) (a0 := a0) (argsL := [(.ref b102), (.int (0 : Int32)), (.int s0), (.int (Int32.ofNat k))]) (rest := [(.int ((1 : Int32) + ((Int32.ofNat k) - s0)))]) K (hw _ (List.mem_of_getElem? (i := 58) rfl)) (hw _ (List.mem_of_getElem? (i := 59) rfl)) (hw _ (List.mem_of_getElem? (i := 3) rfl)) (hw _ (List.mem_of_getElem? (i := 60) rfl)) (by decide) (fun hZ => Con.bk (a0 := a0) (c_pair0 l Z a0 hw b102 kc103 s0 (Int32.ofNat k) (dF p1) (dF p2) (dF p3) (dF p4) h171 f181) hZ (hw _ (List.mem_of_getElem? (i := 60) rfl)) (hw _ (List.mem_of_getElem? (i := 3) rfl)) (by decide) (Nat.le_of_ble_eq_true rfl)) rfl rfl (lenOf pd_24 rfl) rfl at_202 (by decide) (by decide) (fun _ _ _ q => ⟨Fw.sub q.2.1 (by omega) (fun x hx => nomatch hx), q.2.2.1⟩) ?_
      intro v206 h207 L209 q208
      obtain ⟨⟨vm210, rfl, e211⟩, -, -⟩ := q208
      replace e211 := e211.symm; subst e211
      show Go _ _ _ _ _ _ _ _ _ _ _ _ _ _ _ _ _ _ _ _ _ (mkF m 205 #[.val (.int p1), .val (.int p2), .val (.int p3), .val (.int p4), .val (.int p5), .val (.ref b102), .val (.int (Int32.ofNat k)), .val (.ref b159), .val (.int (bI (brkB ([(dF p1), (dF p2), (dF p3), (dF p4)] : List Int32)) k 0)), .val (.int (bI (brkB ([(dF p1), (dF p2), (dF p3), (dF p4)] : List Int32)) k 1)), .val (.int (bI (brkB ([(dF p1), (dF p2), (dF p3), (dF p4)] : List Int32)) k 2)), .val (.int (bI (brkB ([(dF p1), (dF p2), (dF p3), (dF p4)] : List Int32)) k 3)), .val (.int (((((1 : Int32) + (bI (brkB ([(dF p1), (dF p2), (dF p3), (dF p4)] : List Int32)) k 0)) + (bI (brkB ([(dF p1), (dF p2), (dF p3), (dF p4)] : List Int32)) k 1)) + (bI (brkB ([(dF p1), (dF p2), (dF p3), (dF p4)] : List Int32)) k 2)) + (bI (brkB ([(dF p1), (dF p2), (dF p3), (dF p4)] : List Int32)) k 3))), .val (.int s0), .unset, .unset] [(.int (pI (prB ([(dF p1), (dF p2), (dF p3), (dF p4)] : List Int32)) k s0 0)), (.int ((1 : Int32) + ((Int32.ofNat k) - s0)))])
      refine GoKit.isub (pc := 205) K at_205 ?_
      refine GoKit.aload (pc := 206) K at_206 rfl rfl ?_
      refine GoKit.iconst (pc := 208) (x := (1 : Int32)) K at_208 rfl ?_
      refine GoKit.iload (pc := 209) K at_209 rfl ?_
      refine GoKit.iload (pc := 211) K at_211 rfl ?_
      refine GoKit.callS (pc := 213) (a0 := a0) (argsL := [(.ref b102), (.int (1 : Int32)), (.int s0), (.int (Int32.ofNat k))]) (rest := [(.int (((1 : Int32) + ((Int32.ofNat k) - s0)) - (pI (prB ([(dF p1), (dF p2), (dF p3), (dF p4)] : List Int32)) k s0 0)))]) K (hw _ (List.mem_of_getElem? (i := 58) rfl)) (hw _ (List.mem_of_getElem? (i := 59) rfl)) (hw _ (List.mem_of_getElem? (i := 3) rfl)) (hw _ (List.mem_of_getElem? (i := 60) rfl)) (by decide) (fun hZ => Con.bk (a0 := a0) (c_pair1 l Z a0 hw b102 kc103 s0 (Int32.ofNat k) (dF p1) (dF p2) (dF p3) (dF p4) h171 f181) hZ (hw _ (List.mem_of_getElem? (i := 60) rfl)) (hw _ (List.mem_of_getElem? (i := 3) rfl)) (by decide) (Nat.le_of_ble_eq_true rfl)) rfl rfl (lenOf pd_24 rfl) rfl at_213 (by decide) (by decide) (fun _ _ _ q => ⟨Fw.sub q.2.1 (by omega) (fun x hx => nomatch hx), q.2.2.1⟩) ?_
      intro v212 h213 L215 q214
      obtain ⟨⟨vm216, rfl, e217⟩, -, -⟩ := q214
      replace e217 := e217.symm; subst e217
      show Go _ _ _ _ _ _ _ _ _ _ _ _ _ _ _ _ _ _ _ _ _ (mkF m 216 #[.val (.int p1), .val (.int p2), .val (.int p3), .val (.int p4), .val (.int p5), .val (.ref b102), .val (.int (Int32.ofNat k)), .val (.ref b159), .val (.int (bI (brkB ([(dF p1), (dF p2), (dF p3), (dF p4)] : List Int32)) k 0)), .val (.int (bI (brkB ([(dF p1), (dF p2), (dF p3), (dF p4)] : List Int32)) k 1)), .val (.int (bI (brkB ([(dF p1), (dF p2), (dF p3), (dF p4)] : List Int32)) k 2)), .val (.int (bI (brkB ([(dF p1), (dF p2), (dF p3), (dF p4)] : List Int32)) k 3)), .val (.int (((((1 : Int32) + (bI (brkB ([(dF p1), (dF p2), (dF p3), (dF p4)] : List Int32)) k 0)) + (bI (brkB ([(dF p1), (dF p2), (dF p3), (dF p4)] : List Int32)) k 1)) + (bI (brkB ([(dF p1), (dF p2), (dF p3), (dF p4)] : List Int32)) k 2)) + (bI (brkB ([(dF p1), (dF p2), (dF p3), (dF p4)] : List Int32)) k 3))), .val (.int s0), .unset, .unset] [(.int (pI (prB ([(dF p1), (dF p2), (dF p3), (dF p4)] : List Int32)) k s0 1)), (.int (((1 : Int32) + ((Int32.ofNat k) - s0)) - (pI (prB ([(dF p1), (dF p2), (dF p3), (dF p4)] : List Int32)) k s0 0)))])
      refine GoKit.isub (pc := 216) K at_216 ?_
      refine GoKit.aload (pc := 217) K at_217 rfl rfl ?_
      refine GoKit.iconst (pc := 219) (x := (2 : Int32)) K at_219 rfl ?_
      refine GoKit.iload (pc := 220) K at_220 rfl ?_
      refine GoKit.iload (pc := 222) K at_222 rfl ?_
      refine GoKit.callS (pc := 224) (a0 := a0) (argsL := [(.ref b102), (.int (2 : Int32)), (.int s0), (.int (Int32.ofNat k))]) (rest := [(.int ((((1 : Int32) + ((Int32.ofNat k) - s0)) - (pI (prB ([(dF p1), (dF p2), (dF p3), (dF p4)] : List Int32)) k s0 0)) - (pI (prB ([(dF p1), (dF p2), (dF p3), (dF p4)] : List Int32)) k s0 1)))]) K (hw _ (List.mem_of_getElem? (i := 58) rfl)) (hw _ (List.mem_of_getElem? (i := 59) rfl)) (hw _ (List.mem_of_getElem? (i := 3) rfl)) (hw _ (List.mem_of_getElem? (i := 60) rfl)) (by decide) (fun hZ => Con.bk (a0 := a0) (c_pair2 l Z a0 hw b102 kc103 s0 (Int32.ofNat k) (dF p1) (dF p2) (dF p3) (dF p4) h171 f181) hZ (hw _ (List.mem_of_getElem? (i := 60) rfl)) (hw _ (List.mem_of_getElem? (i := 3) rfl)) (by decide) (Nat.le_of_ble_eq_true rfl)) rfl rfl (lenOf pd_24 rfl) rfl at_224 (by decide) (by decide) (fun _ _ _ q => ⟨Fw.sub q.2.1 (by omega) (fun x hx => nomatch hx), q.2.2.1⟩) ?_
      intro v218 h219 L221 q220
      obtain ⟨⟨vm222, rfl, e223⟩, -, -⟩ := q220
      replace e223 := e223.symm; subst e223
      show Go _ _ _ _ _ _ _ _ _ _ _ _ _ _ _ _ _ _ _ _ _ (mkF m 227 #[.val (.int p1), .val (.int p2), .val (.int p3), .val (.int p4), .val (.int p5), .val (.ref b102), .val (.int (Int32.ofNat k)), .val (.ref b159), .val (.int (bI (brkB ([(dF p1), (dF p2), (dF p3), (dF p4)] : List Int32)) k 0)), .val (.int (bI (brkB ([(dF p1), (dF p2), (dF p3), (dF p4)] : List Int32)) k 1)), .val (.int (bI (brkB ([(dF p1), (dF p2), (dF p3), (dF p4)] : List Int32)) k 2)), .val (.int (bI (brkB ([(dF p1), (dF p2), (dF p3), (dF p4)] : List Int32)) k 3)), .val (.int (((((1 : Int32) + (bI (brkB ([(dF p1), (dF p2), (dF p3), (dF p4)] : List Int32)) k 0)) + (bI (brkB ([(dF p1), (dF p2), (dF p3), (dF p4)] : List Int32)) k 1)) + (bI (brkB ([(dF p1), (dF p2), (dF p3), (dF p4)] : List Int32)) k 2)) + (bI (brkB ([(dF p1), (dF p2), (dF p3), (dF p4)] : List Int32)) k 3))), .val (.int s0), .unset, .unset] [(.int (pI (prB ([(dF p1), (dF p2), (dF p3), (dF p4)] : List Int32)) k s0 2)), (.int ((((1 : Int32) + ((Int32.ofNat k) - s0)) - (pI (prB ([(dF p1), (dF p2), (dF p3), (dF p4)] : List Int32)) k s0 0)) - (pI (prB ([(dF p1), (dF p2), (dF p3), (dF p4)] : List Int32)) k s0 1)))])
      refine GoKit.isub (pc := 227) K at_227 ?_
      refine GoKit.istore (pc := 228) (l' := #[.val (.int p1), .val (.int p2), .val (.int p3), .val (.int p4), .val (.int p5), .val (.ref b102), .val (.int (Int32.ofNat k)), .val (.ref b159), .val (.int (bI (brkB ([(dF p1), (dF p2), (dF p3), (dF p4)] : List Int32)) k 0)), .val (.int (bI (brkB ([(dF p1), (dF p2), (dF p3), (dF p4)] : List Int32)) k 1)), .val (.int (bI (brkB ([(dF p1), (dF p2), (dF p3), (dF p4)] : List Int32)) k 2)), .val (.int (bI (brkB ([(dF p1), (dF p2), (dF p3), (dF p4)] : List Int32)) k 3)), .val (.int (((((1 : Int32) + (bI (brkB ([(dF p1), (dF p2), (dF p3), (dF p4)] : List Int32)) k 0)) + (bI (brkB ([(dF p1), (dF p2), (dF p3), (dF p4)] : List Int32)) k 1)) + (bI (brkB ([(dF p1), (dF p2), (dF p3), (dF p4)] : List Int32)) k 2)) + (bI (brkB ([(dF p1), (dF p2), (dF p3), (dF p4)] : List Int32)) k 3))), .val (.int s0), .val (.int (((((1 : Int32) + ((Int32.ofNat k) - s0)) - (pI (prB ([(dF p1), (dF p2), (dF p3), (dF p4)] : List Int32)) k s0 0)) - (pI (prB ([(dF p1), (dF p2), (dF p3), (dF p4)] : List Int32)) k s0 1)) - (pI (prB ([(dF p1), (dF p2), (dF p3), (dF p4)] : List Int32)) k s0 2))), .unset]) K at_228 rfl ?_
      refine GoKit.aload (pc := 230) K at_230 rfl rfl ?_
      refine GoKit.iload (pc := 232) K at_232 rfl ?_
      have f224 := (f168.keep K178 (allS (by omega) all0))
      refine GoKit.callSS (pc := 234) (a0 := a0) (argsL := [(.ref b159), (.int (Int32.ofNat k))]) (rest := []) K (hw _ (List.mem_of_getElem? (i := 61) rfl)) (hw _ (List.mem_of_getElem? (i := 62) rfl)) (hw _ (List.mem_of_getElem? (i := 63) rfl)) (hw _ (List.mem_of_getElem? (i := 64) rfl)) (by decide) rfl (fun _ _ => trivial) (fun hZ => Con.bks (a0 := a0) (c_of l Z a0 hw b159 t175 k ([(dF p1), (dF p2), (dF p3), (dF p4)] : List Int32) h171 n0 f224 z0 fm B0 hSA T177 hk (Nat.le_of_ble_eq_true rfl) hs) hZ (hw _ (List.mem_of_getElem? (i := 64) rfl)) (hw _ (List.mem_of_getElem? (i := 63) rfl)) (by decide) (Nat.le_of_ble_eq_true rfl)) rfl rfl (lenOf pd_25 rfl) rfl at_234 (by decide) (by decide) (fun _ _ _ _ q => Fw.sub q.2.1 (by omega) (fun x hx => nomatch hx)) ?_
      intro v225 h226 vm229 L228 q227 gr230 wm231
      obtain ⟨⟨a232, rfl, lt233, E234, F235, F236⟩, -, K237⟩ := q227
      have sz239 : h171.size ≤ h226.size := K237.1
      have lx238 : a232 < h226.size := E234.lt
      show Go _ _ _ _ _ _ _ _ _ _ _ _ _ _ _ _ _ _ _ _ _ (mkF m 237 #[.val (.int p1), .val (.int p2), .val (.int p3), .val (.int p4), .val (.int p5), .val (.ref b102), .val (.int (Int32.ofNat k)), .val (.ref b159), .val (.int (bI (brkB ([(dF p1), (dF p2), (dF p3), (dF p4)] : List Int32)) k 0)), .val (.int (bI (brkB ([(dF p1), (dF p2), (dF p3), (dF p4)] : List Int32)) k 1)), .val (.int (bI (brkB ([(dF p1), (dF p2), (dF p3), (dF p4)] : List Int32)) k 2)), .val (.int (bI (brkB ([(dF p1), (dF p2), (dF p3), (dF p4)] : List Int32)) k 3)), .val (.int (((((1 : Int32) + (bI (brkB ([(dF p1), (dF p2), (dF p3), (dF p4)] : List Int32)) k 0)) + (bI (brkB ([(dF p1), (dF p2), (dF p3), (dF p4)] : List Int32)) k 1)) + (bI (brkB ([(dF p1), (dF p2), (dF p3), (dF p4)] : List Int32)) k 2)) + (bI (brkB ([(dF p1), (dF p2), (dF p3), (dF p4)] : List Int32)) k 3))), .val (.int s0), .val (.int (((((1 : Int32) + ((Int32.ofNat k) - s0)) - (pI (prB ([(dF p1), (dF p2), (dF p3), (dF p4)] : List Int32)) k s0 0)) - (pI (prB ([(dF p1), (dF p2), (dF p3), (dF p4)] : List Int32)) k s0 1)) - (pI (prB ([(dF p1), (dF p2), (dF p3), (dF p4)] : List Int32)) k s0 2))), .unset] [(.ref a232)])
      refine GoKit.astore (pc := 237) (l' := #[.val (.int p1), .val (.int p2), .val (.int p3), .val (.int p4), .val (.int p5), .val (.ref b102), .val (.int (Int32.ofNat k)), .val (.ref b159), .val (.int (bI (brkB ([(dF p1), (dF p2), (dF p3), (dF p4)] : List Int32)) k 0)), .val (.int (bI (brkB ([(dF p1), (dF p2), (dF p3), (dF p4)] : List Int32)) k 1)), .val (.int (bI (brkB ([(dF p1), (dF p2), (dF p3), (dF p4)] : List Int32)) k 2)), .val (.int (bI (brkB ([(dF p1), (dF p2), (dF p3), (dF p4)] : List Int32)) k 3)), .val (.int (((((1 : Int32) + (bI (brkB ([(dF p1), (dF p2), (dF p3), (dF p4)] : List Int32)) k 0)) + (bI (brkB ([(dF p1), (dF p2), (dF p3), (dF p4)] : List Int32)) k 1)) + (bI (brkB ([(dF p1), (dF p2), (dF p3), (dF p4)] : List Int32)) k 2)) + (bI (brkB ([(dF p1), (dF p2), (dF p3), (dF p4)] : List Int32)) k 3))), .val (.int s0), .val (.int (((((1 : Int32) + ((Int32.ofNat k) - s0)) - (pI (prB ([(dF p1), (dF p2), (dF p3), (dF p4)] : List Int32)) k s0 0)) - (pI (prB ([(dF p1), (dF p2), (dF p3), (dF p4)] : List Int32)) k s0 1)) - (pI (prB ([(dF p1), (dF p2), (dF p3), (dF p4)] : List Int32)) k s0 2))), .val (.ref a232)]) K at_237 rfl rfl ?_
      refine GoKit.aload (pc := 239) K at_239 rfl rfl ?_
      refine GoKit.callV (pc := 241) (a0 := a0) (argsL := []) (rest := []) K (hw _ (List.mem_of_getElem? (i := 115) rfl)) (hw _ (List.mem_of_getElem? (i := 116) rfl)) (Or.inr (hw _ (List.mem_of_getElem? (i := 118) rfl))) (hw _ (List.mem_of_getElem? (i := 118) rfl)) (hw _ (List.mem_of_getElem? (i := 117) rfl)) (by decide) E234 (fun hZ => Con.bk (a0 := a0) (c_line l Z a0 hw a232 (Int32.ofNat (lineN (brkB ([(dF p1), (dF p2), (dF p3), (dF p4)] : List Int32)) k)) h226 F235) hZ (hw _ (List.mem_of_getElem? (i := 119) rfl)) (hw _ (List.mem_of_getElem? (i := 63) rfl)) (by decide) (Nat.le_of_ble_eq_true rfl)) rfl rfl (lenOf pd_16 rfl) rfl at_241 (by decide) (by decide) (fun _ _ _ q => ⟨Fw.sub q.2.1 (by omega) (fun x hx => nomatch hx), q.2.2.1⟩) ?_
      intro v240 h241 L243 q242
      obtain ⟨⟨vm244, rfl, e245⟩, -, -⟩ := q242
      replace e245 := e245.symm; subst e245
      show Go _ _ _ _ _ _ _ _ _ _ _ _ _ _ _ _ _ _ _ _ _ (mkF m 244 #[.val (.int p1), .val (.int p2), .val (.int p3), .val (.int p4), .val (.int p5), .val (.ref b102), .val (.int (Int32.ofNat k)), .val (.ref b159), .val (.int (bI (brkB ([(dF p1), (dF p2), (dF p3), (dF p4)] : List Int32)) k 0)), .val (.int (bI (brkB ([(dF p1), (dF p2), (dF p3), (dF p4)] : List Int32)) k 1)), .val (.int (bI (brkB ([(dF p1), (dF p2), (dF p3), (dF p4)] : List Int32)) k 2)), .val (.int (bI (brkB ([(dF p1), (dF p2), (dF p3), (dF p4)] : List Int32)) k 3)), .val (.int (((((1 : Int32) + (bI (brkB ([(dF p1), (dF p2), (dF p3), (dF p4)] : List Int32)) k 0)) + (bI (brkB ([(dF p1), (dF p2), (dF p3), (dF p4)] : List Int32)) k 1)) + (bI (brkB ([(dF p1), (dF p2), (dF p3), (dF p4)] : List Int32)) k 2)) + (bI (brkB ([(dF p1), (dF p2), (dF p3), (dF p4)] : List Int32)) k 3))), .val (.int s0), .val (.int (((((1 : Int32) + ((Int32.ofNat k) - s0)) - (pI (prB ([(dF p1), (dF p2), (dF p3), (dF p4)] : List Int32)) k s0 0)) - (pI (prB ([(dF p1), (dF p2), (dF p3), (dF p4)] : List Int32)) k s0 1)) - (pI (prB ([(dF p1), (dF p2), (dF p3), (dF p4)] : List Int32)) k s0 2))), .val (.ref a232)] [(.int (Int32.ofNat (lineN (brkB ([(dF p1), (dF p2), (dF p3), (dF p4)] : List Int32)) k)))])
      refine GoKit.iload (pc := 244) K at_244 rfl ?_
      refine GoKit.icmp_ne_n (pc := 246) K at_246  (plain (brkB ([(dF p1), (dF p2), (dF p3), (dF p4)] : List Int32)) (prB ([(dF p1), (dF p2), (dF p3), (dF p4)] : List Int32)) (pr_pr ([(dF p1), (dF p2), (dF p3), (dF p4)] : List Int32)) k hk).1 ?_
      refine GoKit.aload (pc := 249) K at_249 rfl rfl ?_
      refine GoKit.callV (pc := 251) (a0 := a0) (argsL := []) (rest := []) K (hw _ (List.mem_of_getElem? (i := 120) rfl)) (hw _ (List.mem_of_getElem? (i := 121) rfl)) (Or.inr (hw _ (List.mem_of_getElem? (i := 123) rfl))) (hw _ (List.mem_of_getElem? (i := 123) rfl)) (hw _ (List.mem_of_getElem? (i := 122) rfl)) (by decide) E234 (fun hZ => Con.bk (a0 := a0) (c_column l Z a0 hw a232 (Int32.ofNat (colN (brkB ([(dF p1), (dF p2), (dF p3), (dF p4)] : List Int32)) (prB ([(dF p1), (dF p2), (dF p3), (dF p4)] : List Int32)) k)) h226 F236) hZ (hw _ (List.mem_of_getElem? (i := 124) rfl)) (hw _ (List.mem_of_getElem? (i := 63) rfl)) (by decide) (Nat.le_of_ble_eq_true rfl)) rfl rfl (lenOf pd_16 rfl) rfl at_251 (by decide) (by decide) (fun _ _ _ q => ⟨Fw.sub q.2.1 (by omega) (fun x hx => nomatch hx), q.2.2.1⟩) ?_
      intro v246 h247 L249 q248
      obtain ⟨⟨vm250, rfl, e251⟩, -, -⟩ := q248
      replace e251 := e251.symm; subst e251
      show Go _ _ _ _ _ _ _ _ _ _ _ _ _ _ _ _ _ _ _ _ _ (mkF m 254 #[.val (.int p1), .val (.int p2), .val (.int p3), .val (.int p4), .val (.int p5), .val (.ref b102), .val (.int (Int32.ofNat k)), .val (.ref b159), .val (.int (bI (brkB ([(dF p1), (dF p2), (dF p3), (dF p4)] : List Int32)) k 0)), .val (.int (bI (brkB ([(dF p1), (dF p2), (dF p3), (dF p4)] : List Int32)) k 1)), .val (.int (bI (brkB ([(dF p1), (dF p2), (dF p3), (dF p4)] : List Int32)) k 2)), .val (.int (bI (brkB ([(dF p1), (dF p2), (dF p3), (dF p4)] : List Int32)) k 3)), .val (.int (((((1 : Int32) + (bI (brkB ([(dF p1), (dF p2), (dF p3), (dF p4)] : List Int32)) k 0)) + (bI (brkB ([(dF p1), (dF p2), (dF p3), (dF p4)] : List Int32)) k 1)) + (bI (brkB ([(dF p1), (dF p2), (dF p3), (dF p4)] : List Int32)) k 2)) + (bI (brkB ([(dF p1), (dF p2), (dF p3), (dF p4)] : List Int32)) k 3))), .val (.int s0), .val (.int (((((1 : Int32) + ((Int32.ofNat k) - s0)) - (pI (prB ([(dF p1), (dF p2), (dF p3), (dF p4)] : List Int32)) k s0 0)) - (pI (prB ([(dF p1), (dF p2), (dF p3), (dF p4)] : List Int32)) k s0 1)) - (pI (prB ([(dF p1), (dF p2), (dF p3), (dF p4)] : List Int32)) k s0 2))), .val (.ref a232)] [(.int (Int32.ofNat (colN (brkB ([(dF p1), (dF p2), (dF p3), (dF p4)] : List Int32)) (prB ([(dF p1), (dF p2), (dF p3), (dF p4)] : List Int32)) k)))])
      refine GoKit.iload (pc := 254) K at_254 rfl ?_
      refine GoKit.icmp_ne_n (pc := 256) K at_256  (by rw [hs0]; exact (plain (brkB ([(dF p1), (dF p2), (dF p3), (dF p4)] : List Int32)) (prB ([(dF p1), (dF p2), (dF p3), (dF p4)] : List Int32)) (pr_pr ([(dF p1), (dF p2), (dF p3), (dF p4)] : List Int32)) k hk).2) ?_
      refine GoKit.iconst (pc := 259) (x := (1 : Int32)) K at_259 rfl ?_
      refine GoKit.goto (pc := 260) (pc' := 264) K at_260 (by decide) ?_
      exact GoKit.retZ (pc := 264) K (by simp) (z' := (1 : Int32)) (by decide) at_264 (by simp) (by decide) (by decide) (fun _ _ => rfl)
    refine GoKit.iload (pc := 145) K at_145 rfl ?_
    refine GoKit.iconst (pc := 147) (x := (1 : Int32)) K at_147 rfl ?_
    refine GoKit.icmp_ne (pc := 148) (pc' := 155) K at_148 (by decide) (fun hc252 => ?_) (fun hc252 => ?_)
    · -- ¬ (bI (brkB ([(dF p1), (dF p2), (dF p3), (dF p4)] : List Int32)) k 3) = (1 : Int32)
      refine GoKit.iload (pc := 155) K at_155 rfl ?_
      refine GoKit.iconst (pc := 157) (x := (1 : Int32)) K at_157 rfl ?_
      refine GoKit.icmp_ne (pc := 158) (pc' := 165) K at_158 (by decide) (fun hc253 => ?_) (fun hc253 => ?_)
      · -- ¬ (bI (brkB ([(dF p1), (dF p2), (dF p3), (dF p4)] : List Int32)) k 2) = (1 : Int32)
        refine GoKit.iload (pc := 165) K at_165 rfl ?_
        refine GoKit.iconst (pc := 167) (x := (1 : Int32)) K at_167 rfl ?_
        refine GoKit.icmp_ne (pc := 168) (pc' := 175) K at_168 (by decide) (fun hc254 => ?_) (fun hc254 => ?_)
        · -- ¬ (bI (brkB ([(dF p1), (dF p2), (dF p3), (dF p4)] : List Int32)) k 1) = (1 : Int32)
          refine GoKit.iload (pc := 175) K at_175 rfl ?_
          refine GoKit.iconst (pc := 177) (x := (1 : Int32)) K at_177 rfl ?_
          refine GoKit.icmp_ne (pc := 178) (pc' := 185) K at_178 (by decide) (fun hc255 => ?_) (fun hc255 => ?_)
          · -- ¬ (bI (brkB ([(dF p1), (dF p2), (dF p3), (dF p4)] : List Int32)) k 0) = (1 : Int32)
            refine GoKit.iconst (pc := 185) (x := (0 : Int32)) K at_185 rfl ?_
            exact J2 _ (by rw [stI, if_neg hc252, if_neg hc253, if_neg hc254, if_neg hc255])
          · -- (bI (brkB ([(dF p1), (dF p2), (dF p3), (dF p4)] : List Int32)) k 0) = (1 : Int32)
            refine GoKit.iconst (pc := 181) (x := (1 : Int32)) K at_181 rfl ?_
            refine GoKit.goto (pc := 182) (pc' := 186) K at_182 (by decide) ?_
            exact J2 _ (by rw [stI, if_neg hc252, if_neg hc253, if_neg hc254, if_pos hc255])
        · -- (bI (brkB ([(dF p1), (dF p2), (dF p3), (dF p4)] : List Int32)) k 1) = (1 : Int32)
          refine GoKit.iconst (pc := 171) (x := (2 : Int32)) K at_171 rfl ?_
          refine GoKit.goto (pc := 172) (pc' := 186) K at_172 (by decide) ?_
          exact J2 _ (by rw [stI, if_neg hc252, if_neg hc253, if_pos hc254])
      · -- (bI (brkB ([(dF p1), (dF p2), (dF p3), (dF p4)] : List Int32)) k 2) = (1 : Int32)
        refine GoKit.iconst (pc := 161) (x := (3 : Int32)) K at_161 rfl ?_
        refine GoKit.goto (pc := 162) (pc' := 186) K at_162 (by decide) ?_
        exact J2 _ (by rw [stI, if_neg hc252, if_pos hc253])
    · -- (bI (brkB ([(dF p1), (dF p2), (dF p3), (dF p4)] : List Int32)) k 3) = (1 : Int32)
      refine GoKit.iconst (pc := 151) (x := (4 : Int32)) K at_151 rfl ?_
      refine GoKit.goto (pc := 152) (pc' := 186) K at_152 (by decide) ?_
      exact J2 _ (by rw [stI, if_pos hc252])
  refine GoKit.iload (pc := 42) K at_42 rfl ?_
  refine GoKit.if_le (pc := 44) (pc' := 79) K at_44 (by decide) (fun hc256 => ?_) (fun hc256 => ?_)
  · -- ¬ (0 : Int32) < (Int32.ofNat k)
    exact J (fun q => hc256 ((oN_lt (a := 0) (b := k) (by omega) (by omega)).mpr q.1))
  · -- (0 : Int32) < (Int32.ofNat k)
    refine GoKit.iload (pc := 47) K at_47 rfl ?_
    refine GoKit.iconst (pc := 49) (x := (4 : Int32)) K at_49 rfl ?_
    refine GoKit.icmp_ge (pc := 50) (pc' := 79) K at_50 (by decide) (fun hc257 => ?_) (fun hc257 => ?_)
    · -- ¬ (Int32.ofNat k) < (4 : Int32)
      exact J (fun q => hc257 ((oN_lt (a := k) (b := 4) (by omega) (by omega)).mpr q.2.1))
    · -- (Int32.ofNat k) < (4 : Int32)
      have hk0 : 0 < k := (oN_lt (a := 0) (b := k) (by omega) (by omega)).mp hc256
      have hk4 : k < 4 := (oN_lt (a := k) (b := 4) (by omega) (by omega)).mp hc257
      refine GoKit.aload (pc := 53) K at_53 rfl rfl ?_
      refine GoKit.iload (pc := 55) K at_55 rfl ?_
      refine GoKit.iconst (pc := 57) (x := (1 : Int32)) K at_57 rfl ?_
      refine GoKit.isub (pc := 58) K at_58 ?_
      rw [oN_pred hk0]
      show Go _ _ _ _ _ _ _ _ _ _ _ _ _ _ _ _ _ _ _ _ _ (mkF m 59 #[.val (.int p1), .val (.int p2), .val (.int p3), .val (.int p4), .val (.int p5), .val (.ref b102), .val (.int (Int32.ofNat k)), .unset, .unset, .unset, .unset, .unset, .unset, .unset, .unset, .unset] [(.int (Int32.ofNat (k - 1))), (.ref b102)])
      refine GoKit.caload (pc := 59) (v := .int (([(dF p1), (dF p2), (dF p3), (dF p4)] : List Int32).getD (k - 1) 0)) K V157 ⟨oN_nn (by omega), (oN_lt (b := 4) (by omega) (by omega)).mpr (by omega)⟩ (by rw [oN_clamp (by omega)]; exact getD_int ([(dF p1), (dF p2), (dF p3), (dF p4)] : List Int32) (k - 1)) at_59 ?_
      refine GoKit.callS (pc := 60) (a0 := a0) (argsL := [(.int (([(dF p1), (dF p2), (dF p3), (dF p4)] : List Int32).getD (k - 1) 0))]) (rest := []) K (hw _ (List.mem_of_getElem? (i := 125) rfl)) (hw _ (List.mem_of_getElem? (i := 126) rfl)) (hw _ (List.mem_of_getElem? (i := 3) rfl)) (hw _ (List.mem_of_getElem? (i := 127) rfl)) (by decide) (fun hZ => Con.bk (a0 := a0) (c_hi l Z a0 hw (([(dF p1), (dF p2), (dF p3), (dF p4)] : List Int32).getD (k - 1) 0) h152) hZ (hw _ (List.mem_of_getElem? (i := 127) rfl)) (hw _ (List.mem_of_getElem? (i := 3) rfl)) (by decide) (Nat.le_of_ble_eq_true rfl)) rfl rfl (lenOf pd_14 rfl) rfl at_60 (by decide) (by decide) (fun _ _ _ q => ⟨Fw.sub q.2.1 (by omega) (fun x hx => nomatch hx), q.2.2.1⟩) ?_
      intro v258 h259 L261 q260
      obtain ⟨⟨vm262, rfl, e263⟩, -, -⟩ := q260
      replace e263 := e263.symm; subst e263
      show Go _ _ _ _ _ _ _ _ _ _ _ _ _ _ _ _ _ _ _ _ _ (mkF m 63 #[.val (.int p1), .val (.int p2), .val (.int p3), .val (.int p4), .val (.int p5), .val (.ref b102), .val (.int (Int32.ofNat k)), .unset, .unset, .unset, .unset, .unset, .unset, .unset, .unset, .unset] [(.int (b2i (hiB (([(dF p1), (dF p2), (dF p3), (dF p4)] : List Int32).getD (k - 1) 0))))])
      rcases Bool.eq_false_or_eq_true (hiB (([(dF p1), (dF p2), (dF p3), (dF p4)] : List Int32).getD (k - 1) 0)) with hE264 | hE264
      · -- (hiB (([(dF p1), (dF p2), (dF p3), (dF p4)] : List Int32).getD (k - 1) 0)) = 1
        rw [hE264]
        show Go _ _ _ _ _ _ _ _ _ _ _ _ _ _ _ _ _ _ _ _ _ (mkF m 63 #[.val (.int p1), .val (.int p2), .val (.int p3), .val (.int p4), .val (.int p5), .val (.ref b102), .val (.int (Int32.ofNat k)), .unset, .unset, .unset, .unset, .unset, .unset, .unset, .unset, .unset] [(.int (1 : Int32))])
        refine GoKit.if_eq_n (pc := 63) K at_63  (by decide) ?_
        refine GoKit.aload (pc := 66) K at_66 rfl rfl ?_
        refine GoKit.iload (pc := 68) K at_68 rfl ?_
        refine GoKit.caload (pc := 70) (v := .int (([(dF p1), (dF p2), (dF p3), (dF p4)] : List Int32).getD k 0)) K V157 ⟨oN_nn (by omega), (oN_lt (b := 4) (by omega) (by omega)).mpr (by omega)⟩ (by rw [oN_clamp (by omega)]; exact getD_int ([(dF p1), (dF p2), (dF p3), (dF p4)] : List Int32) k) at_70 ?_
        refine GoKit.callS (pc := 71) (a0 := a0) (argsL := [(.int (([(dF p1), (dF p2), (dF p3), (dF p4)] : List Int32).getD k 0))]) (rest := []) K (hw _ (List.mem_of_getElem? (i := 175) rfl)) (hw _ (List.mem_of_getElem? (i := 176) rfl)) (hw _ (List.mem_of_getElem? (i := 3) rfl)) (hw _ (List.mem_of_getElem? (i := 177) rfl)) (by decide) (fun hZ => Con.bk (a0 := a0) (c_lo l Z a0 hw (([(dF p1), (dF p2), (dF p3), (dF p4)] : List Int32).getD k 0) h152) hZ (hw _ (List.mem_of_getElem? (i := 177) rfl)) (hw _ (List.mem_of_getElem? (i := 3) rfl)) (by decide) (Nat.le_of_ble_eq_true rfl)) rfl rfl (lenOf pd_14 rfl) rfl at_71 (by decide) (by decide) (fun _ _ _ q => ⟨Fw.sub q.2.1 (by omega) (fun x hx => nomatch hx), q.2.2.1⟩) ?_
        intro v265 h266 L268 q267
        obtain ⟨⟨vm269, rfl, e270⟩, -, -⟩ := q267
        replace e270 := e270.symm; subst e270
        show Go _ _ _ _ _ _ _ _ _ _ _ _ _ _ _ _ _ _ _ _ _ (mkF m 74 #[.val (.int p1), .val (.int p2), .val (.int p3), .val (.int p4), .val (.int p5), .val (.ref b102), .val (.int (Int32.ofNat k)), .unset, .unset, .unset, .unset, .unset, .unset, .unset, .unset, .unset] [(.int (b2i (loB (([(dF p1), (dF p2), (dF p3), (dF p4)] : List Int32).getD k 0))))])
        rcases Bool.eq_false_or_eq_true (loB (([(dF p1), (dF p2), (dF p3), (dF p4)] : List Int32).getD k 0)) with hE271 | hE271
        · -- (loB (([(dF p1), (dF p2), (dF p3), (dF p4)] : List Int32).getD k 0)) = 1
          rw [hE271]
          show Go _ _ _ _ _ _ _ _ _ _ _ _ _ _ _ _ _ _ _ _ _ (mkF m 74 #[.val (.int p1), .val (.int p2), .val (.int p3), .val (.int p4), .val (.int p5), .val (.ref b102), .val (.int (Int32.ofNat k)), .unset, .unset, .unset, .unset, .unset, .unset, .unset, .unset, .unset] [(.int (1 : Int32))])
          refine GoKit.if_eq_n (pc := 74) K at_74  (by decide) ?_
          refine GoKit.iconst (pc := 77) (x := (1 : Int32)) K at_77 rfl ?_
          exact GoKit.retZ (pc := 78) K (by simp) (z' := (1 : Int32)) (by decide) at_78 (by simp) (by decide) (by decide) (fun _ _ => rfl)
        · -- (loB (([(dF p1), (dF p2), (dF p3), (dF p4)] : List Int32).getD k 0)) = 0
          rw [hE271]
          show Go _ _ _ _ _ _ _ _ _ _ _ _ _ _ _ _ _ _ _ _ _ (mkF m 74 #[.val (.int p1), .val (.int p2), .val (.int p3), .val (.int p4), .val (.int p5), .val (.ref b102), .val (.int (Int32.ofNat k)), .unset, .unset, .unset, .unset, .unset, .unset, .unset, .unset, .unset] [(.int (0 : Int32))])
          refine GoKit.if_eq_y (pc := 74) (pc' := 79) K at_74 (by decide)  (by decide) ?_
          exact J (fun q => Bool.noConfusion (q.2.2.symm.trans (c := false) (by simp only [prB, (by omega : k - 1 + 1 = k), hE271, Bool.and_false])))
      · -- (hiB (([(dF p1), (dF p2), (dF p3), (dF p4)] : List Int32).getD (k - 1) 0)) = 0
        rw [hE264]
        show Go _ _ _ _ _ _ _ _ _ _ _ _ _ _ _ _ _ _ _ _ _ (mkF m 63 #[.val (.int p1), .val (.int p2), .val (.int p3), .val (.int p4), .val (.int p5), .val (.ref b102), .val (.int (Int32.ofNat k)), .unset, .unset, .unset, .unset, .unset, .unset, .unset, .unset, .unset] [(.int (0 : Int32))])
        refine GoKit.if_eq_y (pc := 63) (pc' := 79) K at_63 (by decide)  (by decide) ?_
        exact J (fun q => Bool.noConfusion (q.2.2.symm.trans (c := false) (by simp only [prB, hE264, Bool.false_and])))
set_option maxRecDepth 65536 in
set_option maxHeartbeats 40000000 in
theorem comes_1 {Post : Tables → Env → Array Value → State → Outcome → State → Prop} (hpost : ∀ tb e args s v u, (limb_1_1.after args s (.returned v) u = true ∧ limb_1_2.after args s (.returned v) u = true ∧ True) → ReturnedEndW s (.returned v) u (Jvm.fieldLocs frame_1_writes args s ++ Jvm.arrayLocs frame_1_arrays args s ++ Jvm.staticLocs frame_1_statics s) 24 1152 → Post tb e args s (.returned v) u) :
    ArmFor flags0 classFile x code maxLocals ret World_1 tables_1 room_1 Calls_1 rest_1 Pre_1 Post := by
  intro l hfl _ _ p e ha hc hk s m args below hf hA hF happ hP
  obtain ⟨hcalls, hrest, hpre⟩ := hP
  obtain ⟨-, -, -, hnamed, -, -, -, hat⟩ := (Spec.applies_iff hf).mp happ
  obtain ⟨hg, hn⟩ := and_e (Cond.before_iff.mp (show (Jvm.Cond.and given_1 narrow_1).before args s = true from hpre))
  obtain ⟨g0, r0⟩ := and_e hg
  obtain ⟨g1, r1⟩ := and_e r0
  obtain ⟨g2, r2⟩ := and_e r1
  obtain ⟨g3, r3⟩ := and_e r2
  obtain ⟨g4, r4⟩ := and_e r3
  obtain ⟨w0, w1, w2, w3, w4, rfl⟩ : ∃ w0 w1 w2 w3 w4 : Value, args = #[w0, w1, w2, w3, w4] := by
    have hs : args.size = 5 := by simpa [Cond.value, given_1] using g0
    obtain ⟨L⟩ := args
    match L, hs with
    | [w0, w1, w2, w3, w4], _ => exact ⟨w0, w1, w2, w3, w4, rfl⟩
  have hw := fun d (hd : d ∈ tables_1) => atoms_spec (ws := Jvm.Cond.code x code maxLocals ret :: tables_1) hat d (List.mem_cons_of_mem _ hd)
  have hfit : Fit s := fun {y c} hc i hi => by
    obtain ⟨ha, rfl⟩ := Array.getElem?_eq_some_iff.mp hc
    have q := List.all_eq_true.mp ((Array.all_eq_true_iff_forall_mem.mp hF) _ (Array.getElem_mem ha)) i (List.mem_range.mpr hi)
    simpa [Array.getElem?_eq_getElem hi] using q
  obtain ⟨hsets, hown0⟩ := atoms_of _ (rest_1_c_eq ▸ (show rest_1_c.before _ s = true from hrest))
  obtain ⟨i0, ei0⟩ := is_v g1
  obtain rfl : w0 = (.int i0) := Option.some.inj ei0
  obtain ⟨i1, ei1⟩ := is_v g2
  obtain rfl : w1 = (.int i1) := Option.some.inj ei1
  obtain ⟨i2, ei2⟩ := is_v g3
  obtain rfl : w2 = (.int i2) := Option.some.inj ei2
  obtain ⟨i3, ei3⟩ := is_v g4
  obtain rfl : w3 = (.int i3) := Option.some.inj ei3
  obtain ⟨i4, ei4⟩ := is_v r4
  obtain rfl : w4 = (.int i4) := Option.some.inj ei4
  obtain ⟨z0, ez0⟩ := is_v (Cond.before_iff.mp (hsets _ (List.mem_of_getElem? (i := 1) rfl)))
  have S0 : Sta s s.heap "java/lang/String" "COMPACT_STRINGS" "Z" (.int z0) := Sta.start ez0 (Or.inl (hsets _ (List.mem_of_getElem? (i := 0) rfl)))
  have hz0 : ¬ z0 = 0 := gotF (Cond.eq_ints ez0 (Term.int_eval (0))) (not_v (Cond.before_iff.mp (hsets _ (List.mem_of_getElem? (i := 2) rfl))))
  obtain ⟨fm, efm, rfm⟩ := isR_v (Cond.before_iff.mp (hsets _ (List.mem_of_getElem? (i := 8) rfl)))
  have S4 : Sta s s.heap "jdk/internal/util/Preconditions" "SIOOBE_FORMATTER" "Ljava/util/function/BiFunction;" fm := Sta.start efm (Or.inl (hsets _ (List.mem_of_getElem? (i := 7) rfl)))
  have S1 : Sta s s.heap "java/lang/StringUTF16" "$assertionsDisabled" "Z" (.int 1) := Sta.start (eqv_i (Term.int_eval (1)) (Cond.before_iff.mp (hsets _ (List.mem_of_getElem? (i := 12) rfl)))) (Or.inl (hsets _ (List.mem_of_getElem? (i := 11) rfl)))
  have S2 : Sta s s.heap "java/lang/StringUTF16" "HI_BYTE_SHIFT" "I" (.int 0) := Sta.start (eqv_i (Term.int_eval (0)) (Cond.before_iff.mp (hsets _ (List.mem_of_getElem? (i := 15) rfl)))) (Or.inl (hsets _ (List.mem_of_getElem? (i := 14) rfl)))
  have S3 : Sta s s.heap "java/lang/StringUTF16" "LO_BYTE_SHIFT" "I" (.int 8) := Sta.start (eqv_i (Term.int_eval (8)) (Cond.before_iff.mp (hsets _ (List.mem_of_getElem? (i := 18) rfl)))) (Or.inl (hsets _ (List.mem_of_getElem? (i := 17) rfl)))
  have B0 : Base s z0 fm := ⟨S0, hz0, S1, S2, S3, S4, rfm⟩
  have hSA : ∀ a ∈ Bundle.stringAtoms, a.before _ s = true := fun d hd => hw d ((by decide +kernel : ∀ d ∈ Bundle.stringAtoms, d ∈ tables_1) d hd)
  obtain ⟨n, o, h1, h2, h3, _, L, rfl, ⟨rfl, N⟩, hq⟩ := c_law l s _ hw i0 i1 i2 i3 i4 s.heap s.heap.size (Old.start s) z0 fm B0 hSA p e ha hc hk s m _ below hf ((Spec.applies_iff_loose hf).mp happ).1 ⟨rfl, State.Warmed39.refl s, rfl, trivial⟩ trivial
  have N2 : ∀ y ∈ L, s.heap.size ≤ y.base := fun y hy => (N y hy).elim id (fun z => nomatch z)
  rcases hq with ⟨-, hq⟩ | hq
  · refine ⟨n, _, h1, h2, h3, hpost _ _ _ _ _ _ ⟨Cond.after_iff.mpr rfl, Cond.after_iff.mpr (eq_i res_at (Term.int_eval (1)) rfl), trivial⟩ ⟨hq.1, hq.2.1, hq.2.2.1, (hq.2.2.2.sift fun y hy => Or.inr (N2 y hy)).mono (by decide) (by decide)⟩⟩
  · exact nomatch hq.1
theorem main_1_1 : Claimed_1_1 := comes_1 fun _ _ _ _ _ _ h hF => ⟨h.1, hF⟩
theorem main_1_2 : Claimed_1_2 := comes_1 fun _ _ _ _ _ _ h hF => ⟨h.2.1, hF⟩
end Jvm.Pilot.@@N@@
namespace Jvm.Pilot.@@N@@
open Jvm Jvm.ClassFile Sem Op Lib Jvm.Free Jvm.Stand Jvm.Pilot.@@N@@.Jvm.D
/-! MADE BY PROGRAM (witnessworld.py) out of the Statement's table words and the real class files: 23 classes; the members and pool entries that the words name. The judged class is class 1, her method 7. -/
namespace start1
open Jvm.ClassFile
def u (s : String) : CpInfo := .utf8 (stringToUtf16 s)
/-- a pool by its gaps: so many unusable entries, then the entry; so many at the end -/
def gap : Nat → List CpInfo → List CpInfo
  | 0, r => r
  | n + 1, r => .unusable :: gap n r
def poolList (es : List (Nat × CpInfo)) (last : Nat) : List CpInfo := es.foldr (fun e r => gap e.1 (e.2 :: r)) (gap last [])
def pool (es : List (Nat × CpInfo)) (last : Nat) : Array CpInfo := ⟨poolList es last⟩
def fileOf (pool : Array CpInfo) (this : Nat) (attrs : Array Attribute := #[]) (ms : Array MethodInfo := #[]) (fl : Nat := 33) (sup : Nat := 0) (ifs : Array Nat := #[]) (fds : Array FieldInfo := #[]) : ClassFile where
  minorVersion := 0
  majorVersion := 65
  constantPool := pool
  accessFlags := fl
  thisClass := this
  superClass := sup
  interfaces := ifs
  fields := fds
  methods := ms
  attributes := attrs
def plain (name : String) (sup : Option ClassId) : Class where
  name := name
  kind := .ordinary
  loader := none
  accessFlags := 33
  super := sup
  interfaces := #[]
  cf := none
  fields := #[]
  methods := #[]
  instanceTypes := #[]
  staticTypes := #[]
  resolved := #[]
  callSites := []
  init := .initialized
  statics := none
  mirror := none

def pool0 : Array CpInfo := pool [(5, u "<init>"), (0, u "()V"), (1, .class_ 10), (1, u "java/lang/Object")] 113

def k0c0 : Code := { maxStack := 0, maxLocals := 1, code := object_method_1_code, exceptionTable := #[], attributes := #[] }
def k0m0 : Method := { name := "<init>", desc := "()V", sig := { parameters := [], returnType := none }, accessFlags := 1, code := some k0c0 }
/-- java/lang/Object -/
def k0 : Class := { plain "java/lang/Object" none with
  accessFlags := 33
  interfaces := #[]
  cf := some (fileOf pool0 8 #[] #[{ accessFlags := 1, nameIndex := 5, descriptorIndex := 6, attributes := #[] }] 33 0 #[] #[])
  fields := #[]
  methods := #[k0m0]
  instanceTypes := #[]
  staticTypes := #[]
  resolved := Array.replicate 124 none
  statics := none }

def pool1 : Array CpInfo := pool [(2, .class_ 4), (1, u "java/lang/Object"), (0, u "<init>"), (0, u "()V"), (0, .integer 55296), (0, .integer 56319), (0, .integer 56320), (0, .integer 57343), (0, .methodref 12 13), (0, .class_ 14), (0, .nameAndType 15 16), (0, u "com/example/neat_mapper/neatmapper/jpql/SourcePositionOfPinLaw"), (0, u "ends"), (0, u "([CI)Z"), (0, .methodref 12 18), (0, .nameAndType 19 20), (0, u "hi"), (0, u "(C)Z"), (0, .methodref 12 22), (0, .nameAndType 23 20), (0, u "lo"), (0, .methodref 12 25), (0, .nameAndType 26 27), (0, u "draw"), (0, u "(I)C"), (0, .integer 2147483647), (0, .class_ 30), (0, u "java/lang/String"), (0, .methodref 29 32), (0, .nameAndType 5 33), (0, u "([C)V"), (0, .methodref 12 35), (0, .nameAndType 36 37), (0, u "brk"), (0, u "([CII)I"), (0, .methodref 12 39), (0, .nameAndType 40 41), (0, u "pair"), (0, u "([CIII)I"), (0, .methodref 43 44), (0, .class_ 45), (0, .nameAndType 46 47), (0, u "com/example/neat_mapper/neatmapper/jpql/SourcePosition"), (0, u "of"), (0, u "(Ljava/lang/String;I)Lcom/example/neat_mapper/neatmapper/jpql/SourcePosition;"), (0, .methodref 43 49), (0, .nameAndType 50 51), (0, u "line"), (0, u "()I"), (0, .methodref 43 53), (0, .nameAndType 54 51), (0, u "column"), (3, u "law"), (0, u "(IIIII)Z")] 4

def k1m0 : Method := { name := "<init>", desc := "()V", sig := { parameters := [], returnType := none }, accessFlags := 1, code := none }
def k1c1 : Code := { maxStack := 3, maxLocals := 2, code := method_2_code, exceptionTable := #[], attributes := #[] }
def k1m1 : Method := { name := "draw", desc := "(I)C", sig := { parameters := [.int], returnType := some .char }, accessFlags := 10, code := some k1c1 }
def k1c2 : Code := { maxStack := 2, maxLocals := 1, code := method_3_code, exceptionTable := #[], attributes := #[] }
def k1m2 : Method := { name := "hi", desc := "(C)Z", sig := { parameters := [.char], returnType := some .boolean }, accessFlags := 10, code := some k1c2 }
def k1c3 : Code := { maxStack := 2, maxLocals := 1, code := method_4_code, exceptionTable := #[], attributes := #[] }
def k1m3 : Method := { name := "lo", desc := "(C)Z", sig := { parameters := [.char], returnType := some .boolean }, accessFlags := 10, code := some k1c3 }
def k1c4 : Code := { maxStack := 3, maxLocals := 2, code := method_5_code, exceptionTable := #[], attributes := #[] }
def k1m4 : Method := { name := "ends", desc := "([CI)Z", sig := { parameters := [(.array .char), .int], returnType := some .boolean }, accessFlags := 10, code := some k1c4 }
def k1c5 : Code := { maxStack := 2, maxLocals := 3, code := method_6_code, exceptionTable := #[], attributes := #[] }
def k1m5 : Method := { name := "brk", desc := "([CII)I", sig := { parameters := [(.array .char), .int, .int], returnType := some .int }, accessFlags := 10, code := some k1c5 }
def k1c6 : Code := { maxStack := 3, maxLocals := 4, code := method_7_code, exceptionTable := #[], attributes := #[] }
def k1m6 : Method := { name := "pair", desc := "([CIII)I", sig := { parameters := [(.array .char), .int, .int, .int], returnType := some .int }, accessFlags := 10, code := some k1c6 }
def k1c7 : Code := { maxStack := 5, maxLocals := 16, code := code, exceptionTable := #[], attributes := #[] }
def k1m7 : Method := { name := "law", desc := "(IIIII)Z", sig := { parameters := [.int, .int, .int, .int, .int], returnType := some .boolean }, accessFlags := 9, code := some k1c7 }
/-- com/example/neat_mapper/neatmapper/jpql/SourcePositionOfPinLaw -/
def k1 : Class := { plain "com/example/neat_mapper/neatmapper/jpql/SourcePositionOfPinLaw" (some 0) with
  accessFlags := 49
  interfaces := #[]
  cf := some (fileOf pool1 12 #[] #[{ accessFlags := 1, nameIndex := 5, descriptorIndex := 6, attributes := #[] }, { accessFlags := 10, nameIndex := 26, descriptorIndex := 27, attributes := #[] }, { accessFlags := 10, nameIndex := 19, descriptorIndex := 20, attributes := #[] }, { accessFlags := 10, nameIndex := 23, descriptorIndex := 20, attributes := #[] }, { accessFlags := 10, nameIndex := 15, descriptorIndex := 16, attributes := #[] }, { accessFlags := 10, nameIndex := 36, descriptorIndex := 37, attributes := #[] }, { accessFlags := 10, nameIndex := 40, descriptorIndex := 41, attributes := #[] }, { accessFlags := 9, nameIndex := 58, descriptorIndex := 59, attributes := #[] }] 49 2 #[] #[])
  fields := #[]
  methods := #[k1m0, k1m1, k1m2, k1m3, k1m4, k1m5, k1m6, k1m7]
  instanceTypes := #[]
  staticTypes := #[]
  resolved := Array.replicate 64 none
  statics := none }

def pool2 : Array CpInfo := pool [(1, .class_ 2), (0, u "java/io/Serializable"), (0, .class_ 4), (0, u "java/lang/Object")] 2

/-- java/io/Serializable -/
def k2 : Class := { plain "java/io/Serializable" (some 0) with
  accessFlags := 1537
  interfaces := #[]
  cf := some (fileOf pool2 1 #[] #[] 1537 3 #[] #[])
  fields := #[]
  methods := #[]
  instanceTypes := #[]
  staticTypes := #[]
  resolved := Array.replicate 7 none
  statics := none }

def pool3 : Array CpInfo := pool [(1, .class_ 2), (0, u "java/lang/Comparable"), (0, .class_ 4), (0, u "java/lang/Object")] 7

/-- java/lang/Comparable -/
def k3 : Class := { plain "java/lang/Comparable" (some 0) with
  accessFlags := 1537
  interfaces := #[]
  cf := some (fileOf pool3 1 #[] #[] 1537 3 #[] #[])
  fields := #[]
  methods := #[]
  instanceTypes := #[]
  staticTypes := #[]
  resolved := Array.replicate 12 none
  statics := none }

def pool4 : Array CpInfo := pool [(2, .class_ 4), (1, u "java/lang/CharSequence"), (0, u "length"), (0, u "()I"), (38, u "charAt"), (0, u "(I)C"), (0, .class_ 48), (0, u "java/lang/CharSequence$1CodePointIterator"), (10, .class_ 60), (0, u "java/lang/CharSequence$1CharIterator"), (5, .class_ 67), (0, u "java/lang/Object")] 63

def k4m0 : Method := { name := "length", desc := "()I", sig := { parameters := [], returnType := some .int }, accessFlags := 1025, code := none }
def k4m1 : Method := { name := "charAt", desc := "(I)C", sig := { parameters := [.int], returnType := some .char }, accessFlags := 1025, code := none }
/-- java/lang/CharSequence -/
def k4 : Class := { plain "java/lang/CharSequence" (some 0) with
  accessFlags := 1537
  interfaces := #[]
  cf := some (fileOf pool4 2 #[.nestMembers #[47, 59]] #[{ accessFlags := 1025, nameIndex := 5, descriptorIndex := 6, attributes := #[] }, { accessFlags := 1025, nameIndex := 45, descriptorIndex := 46, attributes := #[] }] 1537 66 #[] #[])
  fields := #[]
  methods := #[k4m0, k4m1]
  instanceTypes := #[]
  staticTypes := #[]
  resolved := Array.replicate 131 none
  statics := none }

def pool5 : Array CpInfo := pool [(1, .class_ 2), (0, u "java/lang/constant/Constable"), (0, .class_ 4), (0, u "java/lang/Object")] 6

/-- java/lang/constant/Constable -/
def k5 : Class := { plain "java/lang/constant/Constable" (some 0) with
  accessFlags := 1537
  interfaces := #[]
  cf := some (fileOf pool5 1 #[] #[] 1537 3 #[] #[])
  fields := #[]
  methods := #[]
  instanceTypes := #[]
  staticTypes := #[]
  resolved := Array.replicate 11 none
  statics := none }

def pool6 : Array CpInfo := pool [(1, .class_ 2), (0, u "java/lang/constant/ConstantDesc"), (0, .class_ 4), (0, u "java/lang/Object")] 32

/-- java/lang/constant/ConstantDesc -/
def k6 : Class := { plain "java/lang/constant/ConstantDesc" (some 0) with
  accessFlags := 1537
  interfaces := #[]
  cf := some (fileOf pool6 1 #[] #[] 1537 3 #[] #[])
  fields := #[]
  methods := #[]
  instanceTypes := #[]
  staticTypes := #[]
  resolved := Array.replicate 37 none
  statics := none }

def pool7 : Array CpInfo := pool [(1, .methodref 2 3), (0, .class_ 4), (0, .nameAndType 5 6), (0, u "java/lang/Object"), (0, u "<init>"), (0, u "()V"), (2, .fieldref 10 11), (0, .class_ 12), (0, .nameAndType 13 14), (0, u "java/lang/String"), (0, u "value"), (0, u "[B"), (0, .fieldref 10 16), (0, .nameAndType 17 18), (0, u "coder"), (0, u "B"), (2, u "hash"), (0, u "I"), (2, u "hashIsZero"), (0, u "Z"), (0, .methodref 10 28), (0, .nameAndType 5 29), (0, u "([CIILjava/lang/Void;)V"), (8, .fieldref 10 39), (0, .nameAndType 40 26), (0, u "COMPACT_STRINGS"), (1, .class_ 44), (1, u "java/lang/StringUTF16"), (0, u "compress"), (1, .methodref 42 48), (0, .nameAndType 49 50), (0, u "coderFromArrayLen"), (0, u "([BI)B"), (56, .class_ 109), (1, u "java/lang/StringLatin1"), (32, u "()Z"), (34, .methodref 42 178), (0, .nameAndType 45 179), (0, u "([CII)[B"), (154, u "()I"), (0, .methodref 10 336), (0, .nameAndType 17 337), (0, u "()B"), (25, u "([BI)C"), (27, u "(II)V"), (35, u "(I)C"), (64, .methodref 10 493), (0, .nameAndType 494 142), (0, u "isLatin1"), (0, .methodref 107 496), (0, .nameAndType 497 363), (0, u "charAt"), (0, .methodref 42 496), (2, u "checkIndex"), (5, u "length"), (67, .class_ 576), (0, u "java/lang/CharSequence"), (22, u "CASE_INSENSITIVE_ORDER"), (0, u "Ljava/util/Comparator;"), (409, u "([C)V"), (42, .fieldref 1054 1055), (0, .class_ 1056), (0, .nameAndType 1057 1058), (0, u "jdk/internal/util/Preconditions"), (0, u "SIOOBE_FORMATTER"), (0, u "Ljava/util/function/BiFunction;"), (0, .methodref 1054 1060), (0, .nameAndType 501 1061), (0, u "(IILjava/util/function/BiFunction;)I"), (39, u "serialPersistentFields"), (0, u "[Ljava/io/ObjectStreamField;"), (0, .class_ 1104), (0, u "java/lang/String$CaseInsensitiveComparator"), (1, .class_ 1107), (0, u "java/io/Serializable"), (0, .class_ 1109), (0, u "java/lang/Comparable"), (0, .class_ 1111), (0, u "java/lang/constant/Constable"), (0, .class_ 1113), (0, u "java/lang/constant/ConstantDesc"), (2, u "serialVersionUID"), (0, u "J"), (3, u "REPL"), (0, u "C"), (2, u "LATIN1"), (1, u "UTF16")] 323

def k7m0 : Method := { name := "<init>", desc := "()V", sig := { parameters := [], returnType := none }, accessFlags := 1, code := none }
def k7c1 : Code := { maxStack := 5, maxLocals := 2, code := jdk_42_method_3_code, exceptionTable := #[], attributes := #[] }
def k7m1 : Method := { name := "<init>", desc := "([C)V", sig := { parameters := [(.array .char)], returnType := none }, accessFlags := 1, code := some k7c1 }
def k7c2 : Code := { maxStack := 2, maxLocals := 1, code := jdk_42_method_54_code, exceptionTable := #[], attributes := #[] }
def k7m2 : Method := { name := "length", desc := "()I", sig := { parameters := [], returnType := some .int }, accessFlags := 1, code := some k7c2 }
def k7c3 : Code := { maxStack := 2, maxLocals := 2, code := jdk_42_method_56_code, exceptionTable := #[], attributes := #[] }
def k7m3 : Method := { name := "charAt", desc := "(I)C", sig := { parameters := [.int], returnType := some .char }, accessFlags := 1, code := some k7c3 }
def k7c4 : Code := { maxStack := 4, maxLocals := 6, code := jdk_42_method_149_code, exceptionTable := #[], attributes := #[] }
def k7m4 : Method := { name := "<init>", desc := "([CIILjava/lang/Void;)V", sig := { parameters := [(.array .char), .int, .int, (.object "java/lang/Void")], returnType := none }, accessFlags := 2, code := some k7c4 }
def k7c5 : Code := { maxStack := 1, maxLocals := 1, code := jdk_42_method_152_code, exceptionTable := #[], attributes := #[] }
def k7m5 : Method := { name := "coder", desc := "()B", sig := { parameters := [], returnType := some .byte }, accessFlags := 0, code := some k7c5 }
def k7c6 : Code := { maxStack := 1, maxLocals := 1, code := jdk_42_method_154_code, exceptionTable := #[], attributes := #[] }
def k7m6 : Method := { name := "isLatin1", desc := "()Z", sig := { parameters := [], returnType := some .boolean }, accessFlags := 0, code := some k7c6 }
def k7c7 : Code := { maxStack := 3, maxLocals := 2, code := jdk_42_method_155_code, exceptionTable := #[], attributes := #[] }
def k7m7 : Method := { name := "checkIndex", desc := "(II)V", sig := { parameters := [.int, .int], returnType := none }, accessFlags := 8, code := some k7c7 }
/-- java/lang/String -/
def k7 : Class := { plain "java/lang/String" (some 0) with
  accessFlags := 49
  interfaces := #[2, 3, 4, 5, 6]
  cf := some (fileOf pool7 10 #[.nestMembers #[1103]] #[{ accessFlags := 1, nameIndex := 5, descriptorIndex := 6, attributes := #[] }, { accessFlags := 1, nameIndex := 5, descriptorIndex := 1010, attributes := #[] }, { accessFlags := 1, nameIndex := 507, descriptorIndex := 334, attributes := #[] }, { accessFlags := 1, nameIndex := 497, descriptorIndex := 427, attributes := #[] }, { accessFlags := 2, nameIndex := 5, descriptorIndex := 29, attributes := #[] }, { accessFlags := 0, nameIndex := 17, descriptorIndex := 337, attributes := #[] }, { accessFlags := 0, nameIndex := 494, descriptorIndex := 142, attributes := #[] }, { accessFlags := 8, nameIndex := 501, descriptorIndex := 391, attributes := #[] }] 49 2 #[1106, 1108, 575, 1110, 1112] #[{ accessFlags := 18, nameIndex := 13, descriptorIndex := 14, attributes := #[] }, { accessFlags := 18, nameIndex := 17, descriptorIndex := 18, attributes := #[] }, { accessFlags := 2, nameIndex := 21, descriptorIndex := 22, attributes := #[] }, { accessFlags := 2, nameIndex := 25, descriptorIndex := 26, attributes := #[] }, { accessFlags := 26, nameIndex := 1116, descriptorIndex := 1117, attributes := #[] }, { accessFlags := 24, nameIndex := 40, descriptorIndex := 26, attributes := #[] }, { accessFlags := 26, nameIndex := 1101, descriptorIndex := 1102, attributes := #[] }, { accessFlags := 26, nameIndex := 1121, descriptorIndex := 1122, attributes := #[] }, { accessFlags := 25, nameIndex := 599, descriptorIndex := 600, attributes := #[] }, { accessFlags := 24, nameIndex := 1125, descriptorIndex := 18, attributes := #[] }, { accessFlags := 24, nameIndex := 1127, descriptorIndex := 18, attributes := #[] }])
  fields := #[{ name := "value", type := (.array .byte), accessFlags := 18, slot := 0, constantValue := 0 }, { name := "coder", type := .byte, accessFlags := 18, slot := 1, constantValue := 0 }, { name := "hash", type := .int, accessFlags := 2, slot := 2, constantValue := 0 }, { name := "hashIsZero", type := .boolean, accessFlags := 2, slot := 3, constantValue := 0 }, { name := "serialVersionUID", type := .long, accessFlags := 26, slot := 0, constantValue := 0 }, { name := "COMPACT_STRINGS", type := .boolean, accessFlags := 24, slot := 1, constantValue := 0 }, { name := "serialPersistentFields", type := (.array (.object "java/io/ObjectStreamField")), accessFlags := 26, slot := 2, constantValue := 0 }, { name := "REPL", type := .char, accessFlags := 26, slot := 3, constantValue := 0 }, { name := "CASE_INSENSITIVE_ORDER", type := (.object "java/util/Comparator"), accessFlags := 25, slot := 4, constantValue := 0 }, { name := "LATIN1", type := .byte, accessFlags := 24, slot := 5, constantValue := 0 }, { name := "UTF16", type := .byte, accessFlags := 24, slot := 6, constantValue := 0 }]
  methods := #[k7m0, k7m1, k7m2, k7m3, k7m4, k7m5, k7m6, k7m7]
  instanceTypes := #[(.array .byte), .byte, .int, .boolean]
  staticTypes := #[.long, .boolean, (.array (.object "java/io/ObjectStreamField")), .char, (.object "java/util/Comparator"), .byte, .byte]
  resolved := Array.replicate 1451 none
  statics := some 0 }

def pool8 : Array CpInfo := pool [(3, .class_ 4), (0, u "java/lang/String"), (1, .class_ 8), (1, u "java/lang/Object"), (0, u "<init>"), (0, u "()V"), (0, .methodref 12 13), (0, .class_ 14), (0, .nameAndType 15 16), (0, u "java/lang/StringUTF16"), (0, u "newBytesLength"), (0, u "(I)I"), (3, .integer 1073741823), (23, .fieldref 12 45), (0, .nameAndType 46 47), (0, u "$assertionsDisabled"), (0, u "Z"), (0, .methodref 12 49), (0, .nameAndType 50 51), (0, u "length"), (0, u "([B)I"), (7, .fieldref 12 60), (0, .nameAndType 61 62), (0, u "HI_BYTE_SHIFT"), (0, u "I"), (0, .fieldref 12 64), (0, .nameAndType 65 62), (0, u "LO_BYTE_SHIFT"), (1, .methodref 12 68), (0, .nameAndType 69 70), (0, u "checkIndex"), (0, u "(I[B)V"), (0, .methodref 12 72), (0, .nameAndType 73 74), (0, u "getChar"), (0, u "([BI)C"), (32, .methodref 12 108), (0, .nameAndType 109 110), (0, u "newBytesFor"), (0, u "(I)[B"), (0, .methodref 12 112), (0, .nameAndType 113 114), (0, u "putChar"), (0, u "([BII)V"), (0, .methodref 12 116), (0, .nameAndType 117 118), (0, u "compress"), (0, u "([CI[BII)I"), (0, .methodref 12 120), (0, .nameAndType 121 122), (0, u "toBytes"), (0, u "([CII)[B"), (138, u "coderFromArrayLen"), (0, u "([BI)B"), (106, .class_ 371), (1, u "java/lang/StringUTF16$LinesSpliterator"), (20, u "charAt"), (21, .methodref 3 415), (0, .nameAndType 69 416), (0, u "(II)V"), (13, u "MAX_LENGTH"), (196, .class_ 628), (0, u "java/lang/StringUTF16$CodePointsSpliterator"), (0, .class_ 630), (0, u "java/lang/StringUTF16$CharsSpliterator")] 4

def k8m0 : Method := { name := "<init>", desc := "()V", sig := { parameters := [], returnType := none }, accessFlags := 0, code := none }
def k8c1 : Code := { maxStack := 1, maxLocals := 1, code := jdk_52_method_2_code, exceptionTable := #[], attributes := #[] }
def k8m1 : Method := { name := "newBytesFor", desc := "(I)[B", sig := { parameters := [.int], returnType := some (.array .byte) }, accessFlags := 9, code := some k8c1 }
def k8c2 : Code := { maxStack := 4, maxLocals := 1, code := jdk_52_method_3_code, exceptionTable := #[], attributes := #[] }
def k8m2 : Method := { name := "newBytesLength", desc := "(I)I", sig := { parameters := [.int], returnType := some .int }, accessFlags := 9, code := some k8c2 }
def k8c3 : Code := { maxStack := 4, maxLocals := 3, code := jdk_52_method_4_code, exceptionTable := #[], attributes := #[] }
def k8m3 : Method := { name := "putChar", desc := "([BII)V", sig := { parameters := [(.array .byte), .int, .int], returnType := none }, accessFlags := 8, code := some k8c3 }
def k8c4 : Code := { maxStack := 3, maxLocals := 2, code := jdk_52_method_5_code, exceptionTable := #[], attributes := #[] }
def k8m4 : Method := { name := "getChar", desc := "([BI)C", sig := { parameters := [(.array .byte), .int], returnType := some .char }, accessFlags := 8, code := some k8c4 }
def k8c5 : Code := { maxStack := 2, maxLocals := 1, code := jdk_52_method_6_code, exceptionTable := #[], attributes := #[] }
def k8m5 : Method := { name := "length", desc := "([B)I", sig := { parameters := [(.array .byte)], returnType := some .int }, accessFlags := 9, code := some k8c5 }
def k8c6 : Code := { maxStack := 4, maxLocals := 5, code := jdk_52_method_14_code, exceptionTable := #[], attributes := #[] }
def k8m6 : Method := { name := "toBytes", desc := "([CII)[B", sig := { parameters := [(.array .char), .int, .int], returnType := some (.array .byte) }, accessFlags := 9, code := some k8c6 }
def k8c7 : Code := { maxStack := 2, maxLocals := 2, code := jdk_52_method_15_code, exceptionTable := #[], attributes := #[] }
def k8m7 : Method := { name := "coderFromArrayLen", desc := "([BI)B", sig := { parameters := [(.array .byte), .int], returnType := some .byte }, accessFlags := 8, code := some k8c7 }
def k8c8 : Code := { maxStack := 5, maxLocals := 6, code := jdk_52_method_16_code, exceptionTable := #[], attributes := #[] }
def k8m8 : Method := { name := "compress", desc := "([CII)[B", sig := { parameters := [(.array .char), .int, .int], returnType := some (.array .byte) }, accessFlags := 9, code := some k8c8 }
def k8c9 : Code := { maxStack := 3, maxLocals := 7, code := jdk_52_method_21_code, exceptionTable := #[], attributes := #[] }
def k8m9 : Method := { name := "compress", desc := "([CI[BII)I", sig := { parameters := [(.array .char), .int, (.array .byte), .int, .int], returnType := some .int }, accessFlags := 9, code := some k8c9 }
def k8c10 : Code := { maxStack := 2, maxLocals := 2, code := jdk_52_method_83_code, exceptionTable := #[], attributes := #[] }
def k8m10 : Method := { name := "charAt", desc := "([BI)C", sig := { parameters := [(.array .byte), .int], returnType := some .char }, accessFlags := 9, code := some k8c10 }
def k8c11 : Code := { maxStack := 2, maxLocals := 2, code := jdk_52_method_91_code, exceptionTable := #[], attributes := #[] }
def k8m11 : Method := { name := "checkIndex", desc := "(I[B)V", sig := { parameters := [.int, (.array .byte)], returnType := none }, accessFlags := 9, code := some k8c11 }
/-- java/lang/StringUTF16 -/
def k8 : Class := { plain "java/lang/StringUTF16" (some 0) with
  accessFlags := 48
  interfaces := #[]
  cf := some (fileOf pool8 12 #[.nestMembers #[627, 629, 369]] #[{ accessFlags := 0, nameIndex := 9, descriptorIndex := 10, attributes := #[] }, { accessFlags := 9, nameIndex := 109, descriptorIndex := 110, attributes := #[] }, { accessFlags := 9, nameIndex := 15, descriptorIndex := 16, attributes := #[] }, { accessFlags := 8, nameIndex := 113, descriptorIndex := 114, attributes := #[] }, { accessFlags := 8, nameIndex := 73, descriptorIndex := 74, attributes := #[] }, { accessFlags := 9, nameIndex := 50, descriptorIndex := 51, attributes := #[] }, { accessFlags := 9, nameIndex := 121, descriptorIndex := 122, attributes := #[] }, { accessFlags := 8, nameIndex := 261, descriptorIndex := 262, attributes := #[] }, { accessFlags := 9, nameIndex := 117, descriptorIndex := 122, attributes := #[] }, { accessFlags := 9, nameIndex := 117, descriptorIndex := 118, attributes := #[] }, { accessFlags := 9, nameIndex := 392, descriptorIndex := 74, attributes := #[] }, { accessFlags := 9, nameIndex := 69, descriptorIndex := 70, attributes := #[] }] 48 6 #[] #[{ accessFlags := 26, nameIndex := 61, descriptorIndex := 62, attributes := #[] }, { accessFlags := 26, nameIndex := 65, descriptorIndex := 62, attributes := #[] }, { accessFlags := 24, nameIndex := 430, descriptorIndex := 62, attributes := #[] }, { accessFlags := 4120, nameIndex := 46, descriptorIndex := 47, attributes := #[] }])
  fields := #[{ name := "HI_BYTE_SHIFT", type := .int, accessFlags := 26, slot := 0, constantValue := 0 }, { name := "LO_BYTE_SHIFT", type := .int, accessFlags := 26, slot := 1, constantValue := 0 }, { name := "MAX_LENGTH", type := .int, accessFlags := 24, slot := 2, constantValue := 0 }, { name := "$assertionsDisabled", type := .boolean, accessFlags := 4120, slot := 3, constantValue := 0 }]
  methods := #[k8m0, k8m1, k8m2, k8m3, k8m4, k8m5, k8m6, k8m7, k8m8, k8m9, k8m10, k8m11]
  instanceTypes := #[]
  staticTypes := #[.int, .int, .int, .boolean]
  resolved := Array.replicate 635 none
  statics := some 1 }

def pool9 : Array CpInfo := pool [(1, .methodref 2 3), (0, .class_ 4), (0, .nameAndType 5 6), (0, u "java/lang/Object"), (0, u "<init>"), (0, u "()V"), (0, .class_ 8), (0, u "java/lang/Record")] 13

def k9c0 : Code := { maxStack := 1, maxLocals := 1, code := jdk_30_method_1_code, exceptionTable := #[], attributes := #[] }
def k9m0 : Method := { name := "<init>", desc := "()V", sig := { parameters := [], returnType := none }, accessFlags := 4, code := some k9c0 }
/-- java/lang/Record -/
def k9 : Class := { plain "java/lang/Record" (some 0) with
  accessFlags := 1057
  interfaces := #[]
  cf := some (fileOf pool9 7 #[] #[{ accessFlags := 4, nameIndex := 5, descriptorIndex := 6, attributes := #[] }] 1057 2 #[] #[])
  fields := #[]
  methods := #[k9m0]
  instanceTypes := #[]
  staticTypes := #[]
  resolved := Array.replicate 22 none
  statics := none }

def pool10 : Array CpInfo := pool [(1, .methodref 2 3), (0, .class_ 4), (0, .nameAndType 5 6), (0, u "java/lang/Record"), (0, u "<init>"), (0, u "()V"), (9, .fieldref 17 18), (0, .class_ 19), (0, .nameAndType 20 21), (0, u "com/example/neat_mapper/neatmapper/jpql/SourcePosition"), (0, u "line"), (0, u "I"), (0, .fieldref 17 23), (0, .nameAndType 24 21), (0, u "column"), (0, .string 26), (0, u "Null text"), (0, .methodref 28 29), (0, .class_ 30), (0, .nameAndType 31 32), (0, u "java/util/Objects"), (0, u "requireNonNull"), (0, u "(Ljava/lang/Object;Ljava/lang/String;)Ljava/lang/Object;"), (0, .methodref 34 35), (0, .class_ 36), (0, .nameAndType 37 38), (0, u "java/lang/String"), (0, u "length"), (0, u "()I"), (1, .methodref 34 41), (0, .nameAndType 42 43), (0, u "charAt"), (0, u "(I)C"), (0, .methodref 45 46), (0, .class_ 47), (0, .nameAndType 48 49), (0, u "java/lang/Character"), (0, u "isHighSurrogate"), (0, u "(C)Z"), (0, .methodref 45 51), (0, .nameAndType 52 49), (0, u "isLowSurrogate"), (3, .methodref 45 57), (0, .nameAndType 58 59), (0, u "codePointCount"), (0, u "(Ljava/lang/CharSequence;II)I"), (0, .methodref 17 61), (0, .nameAndType 5 62), (0, u "(II)V"), (13, u "of"), (0, u "(Ljava/lang/String;I)Lcom/example/neat_mapper/neatmapper/jpql/SourcePosition;")] 38

def k10c0 : Code := { maxStack := 4, maxLocals := 3, code := prog_43_method_1_code, exceptionTable := #[], attributes := #[] }
def k10m0 : Method := { name := "<init>", desc := "(II)V", sig := { parameters := [.int, .int], returnType := none }, accessFlags := 1, code := some k10c0 }
def k10c1 : Code := { maxStack := 4, maxLocals := 7, code := prog_43_method_2_code, exceptionTable := #[], attributes := #[] }
def k10m1 : Method := { name := "of", desc := "(Ljava/lang/String;I)Lcom/example/neat_mapper/neatmapper/jpql/SourcePosition;", sig := { parameters := [(.object "java/lang/String"), .int], returnType := some (.object "com/example/neat_mapper/neatmapper/jpql/SourcePosition") }, accessFlags := 9, code := some k10c1 }
def k10c2 : Code := { maxStack := 1, maxLocals := 1, code := prog_43_method_6_code, exceptionTable := #[], attributes := #[] }
def k10m2 : Method := { name := "line", desc := "()I", sig := { parameters := [], returnType := some .int }, accessFlags := 1, code := some k10c2 }
def k10c3 : Code := { maxStack := 1, maxLocals := 1, code := prog_43_method_7_code, exceptionTable := #[], attributes := #[] }
def k10m3 : Method := { name := "column", desc := "()I", sig := { parameters := [], returnType := some .int }, accessFlags := 1, code := some k10c3 }
/-- com/example/neat_mapper/neatmapper/jpql/SourcePosition -/
def k10 : Class := { plain "com/example/neat_mapper/neatmapper/jpql/SourcePosition" (some 9) with
  accessFlags := 49
  interfaces := #[]
  cf := some (fileOf pool10 17 #[] #[{ accessFlags := 1, nameIndex := 5, descriptorIndex := 62, attributes := #[] }, { accessFlags := 9, nameIndex := 76, descriptorIndex := 77, attributes := #[] }, { accessFlags := 1, nameIndex := 20, descriptorIndex := 38, attributes := #[] }, { accessFlags := 1, nameIndex := 24, descriptorIndex := 38, attributes := #[] }] 49 2 #[] #[{ accessFlags := 18, nameIndex := 20, descriptorIndex := 21, attributes := #[] }, { accessFlags := 18, nameIndex := 24, descriptorIndex := 21, attributes := #[] }])
  fields := #[{ name := "line", type := .int, accessFlags := 18, slot := 0, constantValue := 0 }, { name := "column", type := .int, accessFlags := 18, slot := 1, constantValue := 0 }]
  methods := #[k10m0, k10m1, k10m2, k10m3]
  instanceTypes := #[.int, .int]
  staticTypes := #[]
  resolved := Array.replicate 116 none
  statics := none }

def pool11 : Array CpInfo := pool [(2, .class_ 4), (1, u "java/lang/Object"), (0, u "<init>"), (0, u "()V"), (35, .class_ 44), (1, u "java/util/Objects"), (0, u "requireNonNull"), (48, u "(Ljava/lang/Object;Ljava/lang/String;)Ljava/lang/Object;"), (11, .class_ 108), (1, u "jdk/internal/util/Preconditions"), (2, .methodref 106 112), (0, .nameAndType 113 114), (0, u "checkFromToIndex"), (0, u "(IIILjava/util/function/BiFunction;)I"), (60, u "(III)I")] 8

def k11m0 : Method := { name := "<init>", desc := "()V", sig := { parameters := [], returnType := none }, accessFlags := 2, code := none }
def k11c1 : Code := { maxStack := 3, maxLocals := 2, code := jdk_31_method_11_code, exceptionTable := #[], attributes := #[] }
def k11m1 : Method := { name := "requireNonNull", desc := "(Ljava/lang/Object;Ljava/lang/String;)Ljava/lang/Object;", sig := { parameters := [(.object "java/lang/Object"), (.object "java/lang/String")], returnType := some (.object "java/lang/Object") }, accessFlags := 9, code := some k11c1 }
def k11c2 : Code := { maxStack := 4, maxLocals := 3, code := jdk_31_method_18_code, exceptionTable := #[], attributes := #[] }
def k11m2 : Method := { name := "checkFromToIndex", desc := "(III)I", sig := { parameters := [.int, .int, .int], returnType := some .int }, accessFlags := 9, code := some k11c2 }
/-- java/util/Objects -/
def k11 : Class := { plain "java/util/Objects" (some 0) with
  accessFlags := 49
  interfaces := #[]
  cf := some (fileOf pool11 42 #[] #[{ accessFlags := 2, nameIndex := 5, descriptorIndex := 6, attributes := #[] }, { accessFlags := 9, nameIndex := 45, descriptorIndex := 94, attributes := #[] }, { accessFlags := 9, nameIndex := 113, descriptorIndex := 175, attributes := #[] }] 49 2 #[] #[])
  fields := #[]
  methods := #[k11m0, k11m1, k11m2]
  instanceTypes := #[]
  staticTypes := #[]
  resolved := Array.replicate 184 none
  statics := none }

def pool12 : Array CpInfo := pool [(1, .class_ 2), (0, u "java/lang/Character"), (18, u "value"), (0, u "C"), (19, .class_ 44), (1, u "java/lang/Object"), (3, .class_ 50), (1, u "java/lang/Character$CharacterCache"), (24, .integer 55296), (0, .integer 56320), (0, .integer 57344), (0, .methodref 1 79), (0, .nameAndType 80 81), (0, u "isHighSurrogate"), (0, u "(C)Z"), (0, .methodref 1 83), (0, .nameAndType 84 81), (0, u "isLowSurrogate"), (1, .interfaceMethodref 87 88), (0, .class_ 89), (0, .nameAndType 90 91), (0, u "java/lang/CharSequence"), (0, u "charAt"), (0, u "(I)C"), (0, .interfaceMethodref 87 93), (0, .nameAndType 94 95), (0, u "length"), (0, u "()I"), (43, .methodref 140 141), (0, .class_ 142), (0, .nameAndType 143 144), (0, u "java/util/Objects"), (0, u "checkFromToIndex"), (0, u "(III)I"), (139, u "$assertionsDisabled"), (0, u "Z"), (21, .class_ 309), (1, u "java/lang/Character$UnicodeBlock"), (73, u "TYPE"), (0, u "Ljava/lang/Class;"), (0, .class_ 386), (0, u "java/io/Serializable"), (0, .class_ 388), (0, u "java/lang/Comparable"), (0, .class_ 390), (0, u "java/lang/constant/Constable"), (0, u "MIN_RADIX"), (0, u "I"), (2, u "MAX_RADIX"), (1, u "MIN_VALUE"), (1, u "MAX_VALUE"), (3, u "UNASSIGNED"), (0, u "B"), (0, u "UPPERCASE_LETTER"), (1, u "LOWERCASE_LETTER"), (0, u "TITLECASE_LETTER"), (1, u "MODIFIER_LETTER"), (1, u "OTHER_LETTER"), (1, u "NON_SPACING_MARK"), (1, u "ENCLOSING_MARK"), (1, u "COMBINING_SPACING_MARK"), (1, u "DECIMAL_DIGIT_NUMBER"), (1, u "LETTER_NUMBER"), (1, u "OTHER_NUMBER"), (1, u "SPACE_SEPARATOR"), (1, u "LINE_SEPARATOR"), (1, u "PARAGRAPH_SEPARATOR"), (1, u "CONTROL"), (1, u "FORMAT"), (1, u "PRIVATE_USE"), (1, u "SURROGATE"), (1, u "DASH_PUNCTUATION"), (1, u "START_PUNCTUATION"), (1, u "END_PUNCTUATION"), (1, u "CONNECTOR_PUNCTUATION"), (1, u "OTHER_PUNCTUATION"), (1, u "MATH_SYMBOL"), (1, u "CURRENCY_SYMBOL"), (1, u "MODIFIER_SYMBOL"), (1, u "OTHER_SYMBOL"), (1, u "INITIAL_QUOTE_PUNCTUATION"), (1, u "FINAL_QUOTE_PUNCTUATION"), (1, u "ERROR"), (1, u "DIRECTIONALITY_UNDEFINED"), (0, u "DIRECTIONALITY_LEFT_TO_RIGHT"), (0, u "DIRECTIONALITY_RIGHT_TO_LEFT"), (0, u "DIRECTIONALITY_RIGHT_TO_LEFT_ARABIC"), (0, u "DIRECTIONALITY_EUROPEAN_NUMBER"), (0, u "DIRECTIONALITY_EUROPEAN_NUMBER_SEPARATOR"), (0, u "DIRECTIONALITY_EUROPEAN_NUMBER_TERMINATOR"), (0, u "DIRECTIONALITY_ARABIC_NUMBER"), (0, u "DIRECTIONALITY_COMMON_NUMBER_SEPARATOR"), (0, u "DIRECTIONALITY_NONSPACING_MARK"), (0, u "DIRECTIONALITY_BOUNDARY_NEUTRAL"), (0, u "DIRECTIONALITY_PARAGRAPH_SEPARATOR"), (0, u "DIRECTIONALITY_SEGMENT_SEPARATOR"), (0, u "DIRECTIONALITY_WHITESPACE"), (0, u "DIRECTIONALITY_OTHER_NEUTRALS"), (0, u "DIRECTIONALITY_LEFT_TO_RIGHT_EMBEDDING"), (0, u "DIRECTIONALITY_LEFT_TO_RIGHT_OVERRIDE"), (0, u "DIRECTIONALITY_RIGHT_TO_LEFT_EMBEDDING"), (0, u "DIRECTIONALITY_RIGHT_TO_LEFT_OVERRIDE"), (1, u "DIRECTIONALITY_POP_DIRECTIONAL_FORMAT"), (0, u "DIRECTIONALITY_LEFT_TO_RIGHT_ISOLATE"), (0, u "DIRECTIONALITY_RIGHT_TO_LEFT_ISOLATE"), (0, u "DIRECTIONALITY_FIRST_STRONG_ISOLATE"), (0, u "DIRECTIONALITY_POP_DIRECTIONAL_ISOLATE"), (0, u "MIN_HIGH_SURROGATE"), (0, u "MAX_HIGH_SURROGATE"), (1, u "MIN_LOW_SURROGATE"), (0, u "MAX_LOW_SURROGATE"), (1, u "MIN_SURROGATE"), (0, u "MAX_SURROGATE"), (0, u "MIN_SUPPLEMENTARY_CODE_POINT"), (0, u "MIN_CODE_POINT"), (0, u "MAX_CODE_POINT"), (1, u "serialVersionUID"), (0, u "J"), (2, u "SIZE"), (0, u "BYTES"), (48, u "codePointCount"), (0, u "(Ljava/lang/CharSequence;II)I"), (38, .class_ 596), (0, u "java/lang/Character$UnicodeScript"), (0, .class_ 598), (0, u "java/lang/Character$Subset")] 5

def k12c0 : Code := { maxStack := 2, maxLocals := 1, code := jdk_89_method_14_code, exceptionTable := #[], attributes := #[] }
def k12m0 : Method := { name := "isHighSurrogate", desc := "(C)Z", sig := { parameters := [.char], returnType := some .boolean }, accessFlags := 9, code := some k12c0 }
def k12c1 : Code := { maxStack := 2, maxLocals := 1, code := jdk_89_method_15_code, exceptionTable := #[], attributes := #[] }
def k12m1 : Method := { name := "isLowSurrogate", desc := "(C)Z", sig := { parameters := [.char], returnType := some .boolean }, accessFlags := 9, code := some k12c1 }
def k12c2 : Code := { maxStack := 3, maxLocals := 5, code := jdk_89_method_33_code, exceptionTable := #[], attributes := #[] }
def k12m2 : Method := { name := "codePointCount", desc := "(Ljava/lang/CharSequence;II)I", sig := { parameters := [(.object "java/lang/CharSequence"), .int, .int], returnType := some .int }, accessFlags := 9, code := some k12c2 }
/-- java/lang/Character -/
def k12 : Class := { plain "java/lang/Character" (some 0) with
  accessFlags := 49
  interfaces := #[2, 3, 5]
  cf := some (fileOf pool12 1 #[.nestMembers #[48, 595, 307, 597]] #[{ accessFlags := 9, nameIndex := 80, descriptorIndex := 81, attributes := #[] }, { accessFlags := 9, nameIndex := 84, descriptorIndex := 81, attributes := #[] }, { accessFlags := 9, nameIndex := 555, descriptorIndex := 556, attributes := #[] }] 49 42 #[385, 387, 389] #[{ accessFlags := 25, nameIndex := 391, descriptorIndex := 392, attributes := #[] }, { accessFlags := 25, nameIndex := 395, descriptorIndex := 392, attributes := #[] }, { accessFlags := 25, nameIndex := 397, descriptorIndex := 22, attributes := #[] }, { accessFlags := 25, nameIndex := 399, descriptorIndex := 22, attributes := #[] }, { accessFlags := 25, nameIndex := 383, descriptorIndex := 384, attributes := #[] }, { accessFlags := 25, nameIndex := 403, descriptorIndex := 404, attributes := #[] }, { accessFlags := 25, nameIndex := 405, descriptorIndex := 404, attributes := #[] }, { accessFlags := 25, nameIndex := 407, descriptorIndex := 404, attributes := #[] }, { accessFlags := 25, nameIndex := 408, descriptorIndex := 404, attributes := #[] }, { accessFlags := 25, nameIndex := 410, descriptorIndex := 404, attributes := #[] }, { accessFlags := 25, nameIndex := 412, descriptorIndex := 404, attributes := #[] }, { accessFlags := 25, nameIndex := 414, descriptorIndex := 404, attributes := #[] }, { accessFlags := 25, nameIndex := 416, descriptorIndex := 404, attributes := #[] }, { accessFlags := 25, nameIndex := 418, descriptorIndex := 404, attributes := #[] }, { accessFlags := 25, nameIndex := 420, descriptorIndex := 404, attributes := #[] }, { accessFlags := 25, nameIndex := 422, descriptorIndex := 404, attributes := #[] }, { accessFlags := 25, nameIndex := 424, descriptorIndex := 404, attributes := #[] }, { accessFlags := 25, nameIndex := 426, descriptorIndex := 404, attributes := #[] }, { accessFlags := 25, nameIndex := 428, descriptorIndex := 404, attributes := #[] }, { accessFlags := 25, nameIndex := 430, descriptorIndex := 404, attributes := #[] }, { accessFlags := 25, nameIndex := 432, descriptorIndex := 404, attributes := #[] }, { accessFlags := 25, nameIndex := 434, descriptorIndex := 404, attributes := #[] }, { accessFlags := 25, nameIndex := 436, descriptorIndex := 404, attributes := #[] }, { accessFlags := 25, nameIndex := 438, descriptorIndex := 404, attributes := #[] }, { accessFlags := 25, nameIndex := 440, descriptorIndex := 404, attributes := #[] }, { accessFlags := 25, nameIndex := 442, descriptorIndex := 404, attributes := #[] }, { accessFlags := 25, nameIndex := 444, descriptorIndex := 404, attributes := #[] }, { accessFlags := 25, nameIndex := 446, descriptorIndex := 404, attributes := #[] }, { accessFlags := 25, nameIndex := 448, descriptorIndex := 404, attributes := #[] }, { accessFlags := 25, nameIndex := 450, descriptorIndex := 404, attributes := #[] }, { accessFlags := 25, nameIndex := 452, descriptorIndex := 404, attributes := #[] }, { accessFlags := 25, nameIndex := 454, descriptorIndex := 404, attributes := #[] }, { accessFlags := 25, nameIndex := 456, descriptorIndex := 404, attributes := #[] }, { accessFlags := 25, nameIndex := 458, descriptorIndex := 404, attributes := #[] }, { accessFlags := 25, nameIndex := 460, descriptorIndex := 404, attributes := #[] }, { accessFlags := 24, nameIndex := 462, descriptorIndex := 392, attributes := #[] }, { accessFlags := 25, nameIndex := 464, descriptorIndex := 404, attributes := #[] }, { accessFlags := 25, nameIndex := 465, descriptorIndex := 404, attributes := #[] }, { accessFlags := 25, nameIndex := 466, descriptorIndex := 404, attributes := #[] }, { accessFlags := 25, nameIndex := 467, descriptorIndex := 404, attributes := #[] }, { accessFlags := 25, nameIndex := 468, descriptorIndex := 404, attributes := #[] }, { accessFlags := 25, nameIndex := 469, descriptorIndex := 404, attributes := #[] }, { accessFlags := 25, nameIndex := 470, descriptorIndex := 404, attributes := #[] }, { accessFlags := 25, nameIndex := 471, descriptorIndex := 404, attributes := #[] }, { accessFlags := 25, nameIndex := 472, descriptorIndex := 404, attributes := #[] }, { accessFlags := 25, nameIndex := 473, descriptorIndex := 404, attributes := #[] }, { accessFlags := 25, nameIndex := 474, descriptorIndex := 404, attributes := #[] }, { accessFlags := 25, nameIndex := 475, descriptorIndex := 404, attributes := #[] }, { accessFlags := 25, nameIndex := 476, descriptorIndex := 404, attributes := #[] }, { accessFlags := 25, nameIndex := 477, descriptorIndex := 404, attributes := #[] }, { accessFlags := 25, nameIndex := 478, descriptorIndex := 404, attributes := #[] }, { accessFlags := 25, nameIndex := 479, descriptorIndex := 404, attributes := #[] }, { accessFlags := 25, nameIndex := 480, descriptorIndex := 404, attributes := #[] }, { accessFlags := 25, nameIndex := 481, descriptorIndex := 404, attributes := #[] }, { accessFlags := 25, nameIndex := 482, descriptorIndex := 404, attributes := #[] }, { accessFlags := 25, nameIndex := 484, descriptorIndex := 404, attributes := #[] }, { accessFlags := 25, nameIndex := 485, descriptorIndex := 404, attributes := #[] }, { accessFlags := 25, nameIndex := 486, descriptorIndex := 404, attributes := #[] }, { accessFlags := 25, nameIndex := 487, descriptorIndex := 404, attributes := #[] }, { accessFlags := 25, nameIndex := 488, descriptorIndex := 404, attributes := #[] }, { accessFlags := 25, nameIndex := 489, descriptorIndex := 22, attributes := #[] }, { accessFlags := 25, nameIndex := 490, descriptorIndex := 22, attributes := #[] }, { accessFlags := 25, nameIndex := 492, descriptorIndex := 22, attributes := #[] }, { accessFlags := 25, nameIndex := 493, descriptorIndex := 22, attributes := #[] }, { accessFlags := 25, nameIndex := 495, descriptorIndex := 22, attributes := #[] }, { accessFlags := 25, nameIndex := 496, descriptorIndex := 22, attributes := #[] }, { accessFlags := 25, nameIndex := 497, descriptorIndex := 392, attributes := #[] }, { accessFlags := 25, nameIndex := 498, descriptorIndex := 392, attributes := #[] }, { accessFlags := 25, nameIndex := 499, descriptorIndex := 392, attributes := #[] }, { accessFlags := 18, nameIndex := 21, descriptorIndex := 22, attributes := #[] }, { accessFlags := 26, nameIndex := 501, descriptorIndex := 502, attributes := #[] }, { accessFlags := 25, nameIndex := 505, descriptorIndex := 392, attributes := #[] }, { accessFlags := 25, nameIndex := 506, descriptorIndex := 392, attributes := #[] }, { accessFlags := 4120, nameIndex := 284, descriptorIndex := 285, attributes := #[] }])
  fields := #[{ name := "MIN_RADIX", type := .int, accessFlags := 25, slot := 0, constantValue := 0 }, { name := "MAX_RADIX", type := .int, accessFlags := 25, slot := 1, constantValue := 0 }, { name := "MIN_VALUE", type := .char, accessFlags := 25, slot := 2, constantValue := 0 }, { name := "MAX_VALUE", type := .char, accessFlags := 25, slot := 3, constantValue := 0 }, { name := "TYPE", type := (.object "java/lang/Class"), accessFlags := 25, slot := 4, constantValue := 0 }, { name := "UNASSIGNED", type := .byte, accessFlags := 25, slot := 5, constantValue := 0 }, { name := "UPPERCASE_LETTER", type := .byte, accessFlags := 25, slot := 6, constantValue := 0 }, { name := "LOWERCASE_LETTER", type := .byte, accessFlags := 25, slot := 7, constantValue := 0 }, { name := "TITLECASE_LETTER", type := .byte, accessFlags := 25, slot := 8, constantValue := 0 }, { name := "MODIFIER_LETTER", type := .byte, accessFlags := 25, slot := 9, constantValue := 0 }, { name := "OTHER_LETTER", type := .byte, accessFlags := 25, slot := 10, constantValue := 0 }, { name := "NON_SPACING_MARK", type := .byte, accessFlags := 25, slot := 11, constantValue := 0 }, { name := "ENCLOSING_MARK", type := .byte, accessFlags := 25, slot := 12, constantValue := 0 }, { name := "COMBINING_SPACING_MARK", type := .byte, accessFlags := 25, slot := 13, constantValue := 0 }, { name := "DECIMAL_DIGIT_NUMBER", type := .byte, accessFlags := 25, slot := 14, constantValue := 0 }, { name := "LETTER_NUMBER", type := .byte, accessFlags := 25, slot := 15, constantValue := 0 }, { name := "OTHER_NUMBER", type := .byte, accessFlags := 25, slot := 16, constantValue := 0 }, { name := "SPACE_SEPARATOR", type := .byte, accessFlags := 25, slot := 17, constantValue := 0 }, { name := "LINE_SEPARATOR", type := .byte, accessFlags := 25, slot := 18, constantValue := 0 }, { name := "PARAGRAPH_SEPARATOR", type := .byte, accessFlags := 25, slot := 19, constantValue := 0 }, { name := "CONTROL", type := .byte, accessFlags := 25, slot := 20, constantValue := 0 }, { name := "FORMAT", type := .byte, accessFlags := 25, slot := 21, constantValue := 0 }, { name := "PRIVATE_USE", type := .byte, accessFlags := 25, slot := 22, constantValue := 0 }, { name := "SURROGATE", type := .byte, accessFlags := 25, slot := 23, constantValue := 0 }, { name := "DASH_PUNCTUATION", type := .byte, accessFlags := 25, slot := 24, constantValue := 0 }, { name := "START_PUNCTUATION", type := .byte, accessFlags := 25, slot := 25, constantValue := 0 }, { name := "END_PUNCTUATION", type := .byte, accessFlags := 25, slot := 26, constantValue := 0 }, { name := "CONNECTOR_PUNCTUATION", type := .byte, accessFlags := 25, slot := 27, constantValue := 0 }, { name := "OTHER_PUNCTUATION", type := .byte, accessFlags := 25, slot := 28, constantValue := 0 }, { name := "MATH_SYMBOL", type := .byte, accessFlags := 25, slot := 29, constantValue := 0 }, { name := "CURRENCY_SYMBOL", type := .byte, accessFlags := 25, slot := 30, constantValue := 0 }, { name := "MODIFIER_SYMBOL", type := .byte, accessFlags := 25, slot := 31, constantValue := 0 }, { name := "OTHER_SYMBOL", type := .byte, accessFlags := 25, slot := 32, constantValue := 0 }, { name := "INITIAL_QUOTE_PUNCTUATION", type := .byte, accessFlags := 25, slot := 33, constantValue := 0 }, { name := "FINAL_QUOTE_PUNCTUATION", type := .byte, accessFlags := 25, slot := 34, constantValue := 0 }, { name := "ERROR", type := .int, accessFlags := 24, slot := 35, constantValue := 0 }, { name := "DIRECTIONALITY_UNDEFINED", type := .byte, accessFlags := 25, slot := 36, constantValue := 0 }, { name := "DIRECTIONALITY_LEFT_TO_RIGHT", type := .byte, accessFlags := 25, slot := 37, constantValue := 0 }, { name := "DIRECTIONALITY_RIGHT_TO_LEFT", type := .byte, accessFlags := 25, slot := 38, constantValue := 0 }, { name := "DIRECTIONALITY_RIGHT_TO_LEFT_ARABIC", type := .byte, accessFlags := 25, slot := 39, constantValue := 0 }, { name := "DIRECTIONALITY_EUROPEAN_NUMBER", type := .byte, accessFlags := 25, slot := 40, constantValue := 0 }, { name := "DIRECTIONALITY_EUROPEAN_NUMBER_SEPARATOR", type := .byte, accessFlags := 25, slot := 41, constantValue := 0 }, { name := "DIRECTIONALITY_EUROPEAN_NUMBER_TERMINATOR", type := .byte, accessFlags := 25, slot := 42, constantValue := 0 }, { name := "DIRECTIONALITY_ARABIC_NUMBER", type := .byte, accessFlags := 25, slot := 43, constantValue := 0 }, { name := "DIRECTIONALITY_COMMON_NUMBER_SEPARATOR", type := .byte, accessFlags := 25, slot := 44, constantValue := 0 }, { name := "DIRECTIONALITY_NONSPACING_MARK", type := .byte, accessFlags := 25, slot := 45, constantValue := 0 }, { name := "DIRECTIONALITY_BOUNDARY_NEUTRAL", type := .byte, accessFlags := 25, slot := 46, constantValue := 0 }, { name := "DIRECTIONALITY_PARAGRAPH_SEPARATOR", type := .byte, accessFlags := 25, slot := 47, constantValue := 0 }, { name := "DIRECTIONALITY_SEGMENT_SEPARATOR", type := .byte, accessFlags := 25, slot := 48, constantValue := 0 }, { name := "DIRECTIONALITY_WHITESPACE", type := .byte, accessFlags := 25, slot := 49, constantValue := 0 }, { name := "DIRECTIONALITY_OTHER_NEUTRALS", type := .byte, accessFlags := 25, slot := 50, constantValue := 0 }, { name := "DIRECTIONALITY_LEFT_TO_RIGHT_EMBEDDING", type := .byte, accessFlags := 25, slot := 51, constantValue := 0 }, { name := "DIRECTIONALITY_LEFT_TO_RIGHT_OVERRIDE", type := .byte, accessFlags := 25, slot := 52, constantValue := 0 }, { name := "DIRECTIONALITY_RIGHT_TO_LEFT_EMBEDDING", type := .byte, accessFlags := 25, slot := 53, constantValue := 0 }, { name := "DIRECTIONALITY_RIGHT_TO_LEFT_OVERRIDE", type := .byte, accessFlags := 25, slot := 54, constantValue := 0 }, { name := "DIRECTIONALITY_POP_DIRECTIONAL_FORMAT", type := .byte, accessFlags := 25, slot := 55, constantValue := 0 }, { name := "DIRECTIONALITY_LEFT_TO_RIGHT_ISOLATE", type := .byte, accessFlags := 25, slot := 56, constantValue := 0 }, { name := "DIRECTIONALITY_RIGHT_TO_LEFT_ISOLATE", type := .byte, accessFlags := 25, slot := 57, constantValue := 0 }, { name := "DIRECTIONALITY_FIRST_STRONG_ISOLATE", type := .byte, accessFlags := 25, slot := 58, constantValue := 0 }, { name := "DIRECTIONALITY_POP_DIRECTIONAL_ISOLATE", type := .byte, accessFlags := 25, slot := 59, constantValue := 0 }, { name := "MIN_HIGH_SURROGATE", type := .char, accessFlags := 25, slot := 60, constantValue := 0 }, { name := "MAX_HIGH_SURROGATE", type := .char, accessFlags := 25, slot := 61, constantValue := 0 }, { name := "MIN_LOW_SURROGATE", type := .char, accessFlags := 25, slot := 62, constantValue := 0 }, { name := "MAX_LOW_SURROGATE", type := .char, accessFlags := 25, slot := 63, constantValue := 0 }, { name := "MIN_SURROGATE", type := .char, accessFlags := 25, slot := 64, constantValue := 0 }, { name := "MAX_SURROGATE", type := .char, accessFlags := 25, slot := 65, constantValue := 0 }, { name := "MIN_SUPPLEMENTARY_CODE_POINT", type := .int, accessFlags := 25, slot := 66, constantValue := 0 }, { name := "MIN_CODE_POINT", type := .int, accessFlags := 25, slot := 67, constantValue := 0 }, { name := "MAX_CODE_POINT", type := .int, accessFlags := 25, slot := 68, constantValue := 0 }, { name := "value", type := .char, accessFlags := 18, slot := 0, constantValue := 0 }, { name := "serialVersionUID", type := .long, accessFlags := 26, slot := 69, constantValue := 0 }, { name := "SIZE", type := .int, accessFlags := 25, slot := 70, constantValue := 0 }, { name := "BYTES", type := .int, accessFlags := 25, slot := 71, constantValue := 0 }, { name := "$assertionsDisabled", type := .boolean, accessFlags := 4120, slot := 72, constantValue := 0 }]
  methods := #[k12m0, k12m1, k12m2]
  instanceTypes := #[.char]
  staticTypes := #[.int, .int, .char, .char, (.object "java/lang/Class"), .byte, .byte, .byte, .byte, .byte, .byte, .byte, .byte, .byte, .byte, .byte, .byte, .byte, .byte, .byte, .byte, .byte, .byte, .byte, .byte, .byte, .byte, .byte, .byte, .byte, .byte, .byte, .byte, .byte, .byte, .int, .byte, .byte, .byte, .byte, .byte, .byte, .byte, .byte, .byte, .byte, .byte, .byte, .byte, .byte, .byte, .byte, .byte, .byte, .byte, .byte, .byte, .byte, .byte, .byte, .char, .char, .char, .char, .char, .char, .int, .int, .int, .long, .int, .int, .boolean]
  resolved := Array.replicate 604 none
  statics := none }

def pool13 : Array CpInfo := pool [(2, .class_ 4), (1, u "java/lang/Object"), (0, u "<init>"), (0, u "()V"), (17, .class_ 26), (1, u "jdk/internal/util/Preconditions"), (6, u "checkIndex"), (13, u "checkFromToIndex"), (7, .class_ 56), (0, u "jdk/internal/util/Preconditions$4"), (57, .class_ 115), (0, u "jdk/internal/util/Preconditions$1"), (7, u "SIOOBE_FORMATTER"), (0, u "Ljava/util/function/BiFunction;"), (0, .class_ 126), (0, u "jdk/internal/util/Preconditions$2"), (3, u "AIOOBE_FORMATTER"), (0, .class_ 132), (0, u "jdk/internal/util/Preconditions$3"), (3, u "IOOBE_FORMATTER"), (41, u "(IILjava/util/function/BiFunction;)I"), (4, u "(IIILjava/util/function/BiFunction;)I")] 10

def k13m0 : Method := { name := "<init>", desc := "()V", sig := { parameters := [], returnType := none }, accessFlags := 1, code := none }
def k13c1 : Code := { maxStack := 3, maxLocals := 3, code := jdk_41_method_11_code, exceptionTable := #[], attributes := #[] }
def k13m1 : Method := { name := "checkIndex", desc := "(IILjava/util/function/BiFunction;)I", sig := { parameters := [.int, .int, (.object "java/util/function/BiFunction")], returnType := some .int }, accessFlags := 9, code := some k13c1 }
def k13c2 : Code := { maxStack := 4, maxLocals := 4, code := jdk_41_method_12_code, exceptionTable := #[], attributes := #[] }
def k13m2 : Method := { name := "checkFromToIndex", desc := "(IIILjava/util/function/BiFunction;)I", sig := { parameters := [.int, .int, .int, (.object "java/util/function/BiFunction")], returnType := some .int }, accessFlags := 9, code := some k13c2 }
/-- jdk/internal/util/Preconditions -/
def k13 : Class := { plain "jdk/internal/util/Preconditions" (some 0) with
  accessFlags := 33
  interfaces := #[]
  cf := some (fileOf pool13 24 #[.nestMembers #[55, 131, 125, 114]] #[{ accessFlags := 1, nameIndex := 5, descriptorIndex := 6, attributes := #[] }, { accessFlags := 9, nameIndex := 33, descriptorIndex := 178, attributes := #[] }, { accessFlags := 9, nameIndex := 47, descriptorIndex := 183, attributes := #[] }] 33 2 #[] #[{ accessFlags := 25, nameIndex := 123, descriptorIndex := 124, attributes := #[] }, { accessFlags := 25, nameIndex := 130, descriptorIndex := 124, attributes := #[] }, { accessFlags := 25, nameIndex := 136, descriptorIndex := 124, attributes := #[] }])
  fields := #[{ name := "SIOOBE_FORMATTER", type := (.object "java/util/function/BiFunction"), accessFlags := 25, slot := 0, constantValue := 0 }, { name := "AIOOBE_FORMATTER", type := (.object "java/util/function/BiFunction"), accessFlags := 25, slot := 1, constantValue := 0 }, { name := "IOOBE_FORMATTER", type := (.object "java/util/function/BiFunction"), accessFlags := 25, slot := 2, constantValue := 0 }]
  methods := #[k13m0, k13m1, k13m2]
  instanceTypes := #[]
  staticTypes := #[(.object "java/util/function/BiFunction"), (.object "java/util/function/BiFunction"), (.object "java/util/function/BiFunction")]
  resolved := Array.replicate 194 none
  statics := some 2 }

def pool14 : Array CpInfo := pool [(1, .class_ 2), (0, u "java/lang/String"), (1, .class_ 6), (1, u "java/lang/Object"), (0, u "<init>"), (0, u "()V"), (0, .methodref 1 10), (0, .nameAndType 11 12), (0, u "checkIndex"), (0, u "(II)V"), (1, .class_ 16), (1, u "java/lang/StringLatin1"), (36, u "([BI)C"), (67, u "$assertionsDisabled"), (0, u "Z"), (98, .class_ 223), (1, u "java/lang/StringLatin1$LinesSpliterator"), (28, u "charAt"), (137, .class_ 391), (0, u "java/lang/StringLatin1$CharsSpliterator")] 3

def k14m0 : Method := { name := "<init>", desc := "()V", sig := { parameters := [], returnType := none }, accessFlags := 0, code := none }
def k14c1 : Code := { maxStack := 2, maxLocals := 2, code := jdk_43_method_2_code, exceptionTable := #[], attributes := #[] }
def k14m1 : Method := { name := "charAt", desc := "([BI)C", sig := { parameters := [(.array .byte), .int], returnType := some .char }, accessFlags := 9, code := some k14c1 }
/-- java/lang/StringLatin1 -/
def k14 : Class := { plain "java/lang/StringLatin1" (some 0) with
  accessFlags := 48
  interfaces := #[]
  cf := some (fileOf pool14 14 #[.nestMembers #[390, 221]] #[{ accessFlags := 0, nameIndex := 7, descriptorIndex := 8, attributes := #[] }, { accessFlags := 9, nameIndex := 252, descriptorIndex := 53, attributes := #[] }] 48 4 #[] #[{ accessFlags := 4120, nameIndex := 121, descriptorIndex := 122, attributes := #[] }])
  fields := #[{ name := "$assertionsDisabled", type := .boolean, accessFlags := 4120, slot := 0, constantValue := 0 }]
  methods := #[k14m0, k14m1]
  instanceTypes := #[]
  staticTypes := #[.boolean]
  resolved := Array.replicate 395 none
  statics := none }

def pool15 : Array CpInfo := pool [(9, u "<init>"), (6, .class_ 18), (1, u "java/lang/Object"), (0, u "()V"), (1, .class_ 23), (1, u "jdk/internal/util/ArraysSupport"), (0, u "LOG2_ARRAY_LONG_INDEX_SCALE"), (0, u "I"), (2, u "U"), (0, u "Ljdk/internal/misc/Unsafe;"), (8, u "BIG_ENDIAN"), (0, u "Z"), (8, u "LOG2_BYTE_BIT_SIZE"), (4, u "LOG2_ARRAY_INT_INDEX_SCALE"), (54, u "JLA"), (0, u "Ljdk/internal/access/JavaLangAccess;"), (11, u "LOG2_ARRAY_BOOLEAN_INDEX_SCALE"), (9, u "LOG2_ARRAY_BYTE_INDEX_SCALE"), (5, u "LOG2_ARRAY_CHAR_INDEX_SCALE"), (5, u "LOG2_ARRAY_SHORT_INDEX_SCALE"), (18, u "LOG2_ARRAY_FLOAT_INDEX_SCALE"), (24, u "LOG2_ARRAY_DOUBLE_INDEX_SCALE"), (89, u "T_BOOLEAN"), (2, u "T_CHAR"), (1, u "T_FLOAT"), (1, u "T_DOUBLE"), (1, u "T_BYTE"), (1, u "T_SHORT"), (1, u "T_INT"), (1, u "T_LONG"), (1, u "SOFT_MAX_ARRAY_LENGTH")] 83

def k15m0 : Method := { name := "<init>", desc := "()V", sig := { parameters := [], returnType := none }, accessFlags := 2, code := none }
/-- jdk/internal/util/ArraysSupport -/
def k15 : Class := { plain "jdk/internal/util/ArraysSupport" (some 0) with
  accessFlags := 33
  interfaces := #[]
  cf := some (fileOf pool15 21 #[] #[{ accessFlags := 2, nameIndex := 9, descriptorIndex := 19, attributes := #[] }] 33 16 #[] #[{ accessFlags := 24, nameIndex := 28, descriptorIndex := 29, attributes := #[] }, { accessFlags := 26, nameIndex := 38, descriptorIndex := 39, attributes := #[] }, { accessFlags := 25, nameIndex := 121, descriptorIndex := 25, attributes := #[] }, { accessFlags := 25, nameIndex := 131, descriptorIndex := 25, attributes := #[] }, { accessFlags := 25, nameIndex := 137, descriptorIndex := 25, attributes := #[] }, { accessFlags := 25, nameIndex := 143, descriptorIndex := 25, attributes := #[] }, { accessFlags := 25, nameIndex := 53, descriptorIndex := 25, attributes := #[] }, { accessFlags := 25, nameIndex := 24, descriptorIndex := 25, attributes := #[] }, { accessFlags := 25, nameIndex := 162, descriptorIndex := 25, attributes := #[] }, { accessFlags := 25, nameIndex := 187, descriptorIndex := 25, attributes := #[] }, { accessFlags := 26, nameIndex := 48, descriptorIndex := 25, attributes := #[] }, { accessFlags := 25, nameIndex := 277, descriptorIndex := 25, attributes := #[] }, { accessFlags := 25, nameIndex := 280, descriptorIndex := 25, attributes := #[] }, { accessFlags := 25, nameIndex := 282, descriptorIndex := 25, attributes := #[] }, { accessFlags := 25, nameIndex := 284, descriptorIndex := 25, attributes := #[] }, { accessFlags := 25, nameIndex := 286, descriptorIndex := 25, attributes := #[] }, { accessFlags := 25, nameIndex := 288, descriptorIndex := 25, attributes := #[] }, { accessFlags := 25, nameIndex := 290, descriptorIndex := 25, attributes := #[] }, { accessFlags := 25, nameIndex := 292, descriptorIndex := 25, attributes := #[] }, { accessFlags := 26, nameIndex := 108, descriptorIndex := 109, attributes := #[] }, { accessFlags := 25, nameIndex := 294, descriptorIndex := 25, attributes := #[] }])
  fields := #[{ name := "U", type := (.object "jdk/internal/misc/Unsafe"), accessFlags := 24, slot := 0, constantValue := 0 }, { name := "BIG_ENDIAN", type := .boolean, accessFlags := 26, slot := 1, constantValue := 0 }, { name := "LOG2_ARRAY_BOOLEAN_INDEX_SCALE", type := .int, accessFlags := 25, slot := 2, constantValue := 0 }, { name := "LOG2_ARRAY_BYTE_INDEX_SCALE", type := .int, accessFlags := 25, slot := 3, constantValue := 0 }, { name := "LOG2_ARRAY_CHAR_INDEX_SCALE", type := .int, accessFlags := 25, slot := 4, constantValue := 0 }, { name := "LOG2_ARRAY_SHORT_INDEX_SCALE", type := .int, accessFlags := 25, slot := 5, constantValue := 0 }, { name := "LOG2_ARRAY_INT_INDEX_SCALE", type := .int, accessFlags := 25, slot := 6, constantValue := 0 }, { name := "LOG2_ARRAY_LONG_INDEX_SCALE", type := .int, accessFlags := 25, slot := 7, constantValue := 0 }, { name := "LOG2_ARRAY_FLOAT_INDEX_SCALE", type := .int, accessFlags := 25, slot := 8, constantValue := 0 }, { name := "LOG2_ARRAY_DOUBLE_INDEX_SCALE", type := .int, accessFlags := 25, slot := 9, constantValue := 0 }, { name := "LOG2_BYTE_BIT_SIZE", type := .int, accessFlags := 26, slot := 10, constantValue := 0 }, { name := "T_BOOLEAN", type := .int, accessFlags := 25, slot := 11, constantValue := 0 }, { name := "T_CHAR", type := .int, accessFlags := 25, slot := 12, constantValue := 0 }, { name := "T_FLOAT", type := .int, accessFlags := 25, slot := 13, constantValue := 0 }, { name := "T_DOUBLE", type := .int, accessFlags := 25, slot := 14, constantValue := 0 }, { name := "T_BYTE", type := .int, accessFlags := 25, slot := 15, constantValue := 0 }, { name := "T_SHORT", type := .int, accessFlags := 25, slot := 16, constantValue := 0 }, { name := "T_INT", type := .int, accessFlags := 25, slot := 17, constantValue := 0 }, { name := "T_LONG", type := .int, accessFlags := 25, slot := 18, constantValue := 0 }, { name := "JLA", type := (.object "jdk/internal/access/JavaLangAccess"), accessFlags := 26, slot := 19, constantValue := 0 }, { name := "SOFT_MAX_ARRAY_LENGTH", type := .int, accessFlags := 25, slot := 20, constantValue := 0 }]
  methods := #[k15m0]
  instanceTypes := #[]
  staticTypes := #[(.object "jdk/internal/misc/Unsafe"), .boolean, .int, .int, .int, .int, .int, .int, .int, .int, .int, .int, .int, .int, .int, .int, .int, .int, .int, (.object "jdk/internal/access/JavaLangAccess"), .int]
  resolved := Array.replicate 378 none
  statics := none }

def pool16 : Array CpInfo := pool [(1, u "java/lang/Cloneable"), (0, .class_ 1), (0, u "java/lang/Object"), (0, .class_ 3)] 3

/-- java/lang/Cloneable -/
def k16 : Class := { plain "java/lang/Cloneable" (some 0) with
  accessFlags := 1537
  interfaces := #[]
  cf := some (fileOf pool16 2 #[] #[] 1537 4 #[] #[])
  fields := #[]
  methods := #[]
  instanceTypes := #[]
  staticTypes := #[]
  resolved := Array.replicate 8 none
  statics := none }

/-- the primitive byte -/
def k17 : Class := { plain "byte" none with kind := .primitive 'B', accessFlags := 0x411 }
/-- [B -/
def k18 : Class := { plain "[B" (some 0) with kind := .array 17 .byte, interfaces := #[16, 2], accessFlags := 1041 }

/-- the primitive char -/
def k19 : Class := { plain "char" none with kind := .primitive 'C', accessFlags := 0x411 }
/-- [C -/
def k20 : Class := { plain "[C" (some 0) with kind := .array 19 .char, interfaces := #[16, 2], accessFlags := 1041 }

/-- the primitive int -/
def k21 : Class := { plain "int" none with kind := .primitive 'I', accessFlags := 0x411 }
/-- [I -/
def k22 : Class := { plain "[I" (some 0) with kind := .array 21 .int, interfaces := #[16, 2], accessFlags := 1041 }

def heap : Heap := #[{ cls := 7, slots := #[.long 0, .int 1, .null, .int 0, .null, .int 0, .int 0], vm := .statics 7 },
  { cls := 8, slots := #[.int 0, .int 8, .int 0, .int 1], vm := .statics 8 },
  { cls := 13, slots := #[.null, .null, .null], vm := .statics 13 }]
def classes : Array Class := #[k0, k1, k2, k3, k4, k5, k6, k7, k8, k9, k10, k11, k12, k13, k14, k15, k16, k17, k18, k19, k20, k21, k22]
def interned : List (Array UInt16 × Addr) := []
def slotsUsed : Nat := 14
def theMethod : MethodId := ⟨1, 7⟩
def args0 : Array Value := #[.int 5, .int 6, .int 7, .int 8, .int 9]
def aboutOver (below : List Frame) : State where
  vm := { classes := classes, interned := interned.toArray }
  heap := heap
  slotsUsed := slotsUsed
  threads := #[{ frames := .invoking theMethod args0 :: below }]
def below0 : List Frame := [.native { method := ⟨0, 0⟩, args := #[] }]
def about1 : State := aboutOver below0
def p0 : Program := .bare "" "" ""
def e0 : Env := launch0.env 0 0 0
theorem w_frames : about1.frames = Frame.invoking theMethod args0 :: below0 := rfl
set_option maxRecDepth 65536 in
theorem w_args : argsFit about1.vm theMethod args0 = true := by decide +kernel
set_option maxRecDepth 65536 in
theorem w_heap : heapFits about1 = true := by decide +kernel
set_option maxRecDepth 65536 in
theorem w_runnable : about1.curStatus? = some .runnable := by decide +kernel
set_option maxRecDepth 65536 in
theorem w_alone : about1.alone = true := by decide +kernel
set_option maxRecDepth 65536 in
theorem w_named : about1.methodNamed? x = some theMethod := by decide +kernel
set_option maxRecDepth 65536 in
theorem w_hears : about1.hears theMethod below0 = true := by decide +kernel
set_option maxRecDepth 65536 in
theorem w_ripe : about1.ripe theMethod args0 below0 = true := by decide +kernel
theorem w_running : about1.status = .running := rfl
set_option maxRecDepth 65536 in
theorem w_room : about1.hasRoom e0.platform room_1 = true :=
  launch0.hasRoom_least _ room_1 (by decide +kernel) (by decide +kernel) (by decide +kernel) (by decide +kernel) (by decide +kernel) (by decide +kernel)
theorem allAtoms_all (ts : List Jvm.Cond) (a : Array Jvm.Value) (st : Jvm.State) : (allAtoms ts).before a st = ts.all (fun c => c.before a st) := by
  induction ts with
  | nil => rfl
  | cons c t ih =>
    show (Jvm.Cond.and c (allAtoms t)).before a st = _
    rw [Jvm.Cond.before_and, ih, List.all_cons]
def words1 : List Jvm.Cond := Jvm.Cond.code x code maxLocals ret :: tables_1
/-- a 'code' word, met by the world's own term for the bytes: nothing is compared byte by byte -/
theorem code_word {y : MethodName} {bytes : ByteArray} {mx : Nat} {rt : Option FieldType} {a : Array Value} {s : State} {m : MethodId} {meth : Method} {c : Code} (h1 : s.methodNamed? y = some m) (h2 : s.vm.method? m = some meth) (h3 : meth.code = some c) (h4 : c.code = bytes)
    (h5 : (c.maxLocals == mx && c.exceptionTable.isEmpty && decide (c.maxStack ≤ mostOperands) && decide (meth.sig.returnType = rt) && !meth.locks && decide (parseMethodDescriptor y.desc = some meth.sig)) = true) : (Jvm.Cond.code y bytes mx rt).before a s = true := by
  simp only [Bool.and_eq_true, beq_iff_eq, Bool.not_eq_true', decide_eq_true_eq] at h5
  obtain ⟨⟨⟨⟨⟨g1, g2⟩, g3⟩, g4⟩, g5⟩, g6⟩ := h5
  simp [Cond.before, Cond.holds, Cond.value, h1, h2, h3, h4, g1, g2, g3, g4, g5, g6]
def isCode : Jvm.Cond → Bool
  | .code _ _ _ _ => true
  | _ => false
theorem all_split {L : List Jvm.Cond} {P : Jvm.Cond → Bool} (h1 : L.all (fun c => isCode c || P c) = true) (h2 : ∀ c ∈ L.filter isCode, P c = true) : L.all P = true := by
  refine List.all_eq_true.mpr fun c hc => ?_
  have h := List.all_eq_true.mp h1 c hc
  rcases Bool.eq_false_or_eq_true (isCode c) with hi | hi
  · exact h2 c (List.mem_filter.mpr ⟨hc, hi⟩)
  · simpa [hi] using h
set_option maxRecDepth 65536 in
theorem w_c0 : (Jvm.Cond.code x code maxLocals ret).before args0 about1 = true := code_word (m := ⟨1, 7⟩) (meth := k1m7) (c := k1c7) (by decide +kernel) rfl rfl rfl (by decide +kernel)
set_option maxRecDepth 65536 in
theorem w_c1 : (Jvm.Cond.code ({ cls := "com/example/neat_mapper/neatmapper/jpql/SourcePositionOfPinLaw", name := "draw", desc := "(I)C" } : Jvm.MethodName) method_2_code (2 : Nat) (Option.some Jvm.ClassFile.FieldType.char)).before args0 about1 = true := code_word (m := ⟨1, 1⟩) (meth := k1m1) (c := k1c1) (by decide +kernel) rfl rfl rfl (by decide +kernel)
set_option maxRecDepth 65536 in
theorem w_c2 : (Jvm.Cond.code ({ cls := "java/lang/String", name := "<init>", desc := "([C)V" } : Jvm.MethodName) jdk_42_method_3_code (2 : Nat) (Option.none : Option Jvm.ClassFile.FieldType)).before args0 about1 = true := code_word (m := ⟨7, 1⟩) (meth := k7m1) (c := k7c1) (by decide +kernel) rfl rfl rfl (by decide +kernel)
set_option maxRecDepth 65536 in
theorem w_c3 : (Jvm.Cond.code ({ cls := "java/lang/String", name := "<init>", desc := "([CIILjava/lang/Void;)V" } : Jvm.MethodName) jdk_42_method_149_code (6 : Nat) (Option.none : Option Jvm.ClassFile.FieldType)).before args0 about1 = true := code_word (m := ⟨7, 4⟩) (meth := k7m4) (c := k7c4) (by decide +kernel) rfl rfl rfl (by decide +kernel)
set_option maxRecDepth 65536 in
theorem w_c4 : (Jvm.Cond.code ({ cls := "java/lang/Object", name := "<init>", desc := "()V" } : Jvm.MethodName) object_method_1_code (1 : Nat) (Option.none : Option Jvm.ClassFile.FieldType)).before args0 about1 = true := code_word (m := ⟨0, 0⟩) (meth := k0m0) (c := k0c0) (by decide +kernel) rfl rfl rfl (by decide +kernel)
set_option maxRecDepth 65536 in
theorem w_c5 : (Jvm.Cond.code ({ cls := "java/lang/StringUTF16", name := "compress", desc := "([CII)[B" } : Jvm.MethodName) jdk_52_method_16_code (6 : Nat) (Option.some (Jvm.ClassFile.FieldType.array Jvm.ClassFile.FieldType.byte))).before args0 about1 = true := code_word (m := ⟨8, 8⟩) (meth := k8m8) (c := k8c8) (by decide +kernel) rfl rfl rfl (by decide +kernel)
set_option maxRecDepth 65536 in
theorem w_c6 : (Jvm.Cond.code ({ cls := "java/lang/StringUTF16", name := "compress", desc := "([CI[BII)I" } : Jvm.MethodName) jdk_52_method_21_code (7 : Nat) (Option.some Jvm.ClassFile.FieldType.int)).before args0 about1 = true := code_word (m := ⟨8, 9⟩) (meth := k8m9) (c := k8c9) (by decide +kernel) rfl rfl rfl (by decide +kernel)
set_option maxRecDepth 65536 in
theorem w_c7 : (Jvm.Cond.code ({ cls := "java/lang/StringUTF16", name := "toBytes", desc := "([CII)[B" } : Jvm.MethodName) jdk_52_method_14_code (5 : Nat) (Option.some (Jvm.ClassFile.FieldType.array Jvm.ClassFile.FieldType.byte))).before args0 about1 = true := code_word (m := ⟨8, 6⟩) (meth := k8m6) (c := k8c6) (by decide +kernel) rfl rfl rfl (by decide +kernel)
set_option maxRecDepth 65536 in
theorem w_c8 : (Jvm.Cond.code ({ cls := "java/lang/StringUTF16", name := "newBytesFor", desc := "(I)[B" } : Jvm.MethodName) jdk_52_method_2_code (1 : Nat) (Option.some (Jvm.ClassFile.FieldType.array Jvm.ClassFile.FieldType.byte))).before args0 about1 = true := code_word (m := ⟨8, 1⟩) (meth := k8m1) (c := k8c1) (by decide +kernel) rfl rfl rfl (by decide +kernel)
set_option maxRecDepth 65536 in
theorem w_c9 : (Jvm.Cond.code ({ cls := "java/lang/StringUTF16", name := "newBytesLength", desc := "(I)I" } : Jvm.MethodName) jdk_52_method_3_code (1 : Nat) (Option.some Jvm.ClassFile.FieldType.int)).before args0 about1 = true := code_word (m := ⟨8, 2⟩) (meth := k8m2) (c := k8c2) (by decide +kernel) rfl rfl rfl (by decide +kernel)
set_option maxRecDepth 65536 in
theorem w_c10 : (Jvm.Cond.code ({ cls := "java/lang/StringUTF16", name := "putChar", desc := "([BII)V" } : Jvm.MethodName) jdk_52_method_4_code (3 : Nat) (Option.none : Option Jvm.ClassFile.FieldType)).before args0 about1 = true := code_word (m := ⟨8, 3⟩) (meth := k8m3) (c := k8c3) (by decide +kernel) rfl rfl rfl (by decide +kernel)
set_option maxRecDepth 65536 in
theorem w_c11 : (Jvm.Cond.code ({ cls := "java/lang/StringUTF16", name := "getChar", desc := "([BI)C" } : Jvm.MethodName) jdk_52_method_5_code (2 : Nat) (Option.some Jvm.ClassFile.FieldType.char)).before args0 about1 = true := code_word (m := ⟨8, 4⟩) (meth := k8m4) (c := k8c4) (by decide +kernel) rfl rfl rfl (by decide +kernel)
set_option maxRecDepth 65536 in
theorem w_c12 : (Jvm.Cond.code ({ cls := "java/lang/StringUTF16", name := "coderFromArrayLen", desc := "([BI)B" } : Jvm.MethodName) jdk_52_method_15_code (2 : Nat) (Option.some Jvm.ClassFile.FieldType.byte)).before args0 about1 = true := code_word (m := ⟨8, 7⟩) (meth := k8m7) (c := k8c7) (by decide +kernel) rfl rfl rfl (by decide +kernel)
set_option maxRecDepth 65536 in
theorem w_c13 : (Jvm.Cond.code ({ cls := "com/example/neat_mapper/neatmapper/jpql/SourcePositionOfPinLaw", name := "brk", desc := "([CII)I" } : Jvm.MethodName) method_6_code (3 : Nat) (Option.some Jvm.ClassFile.FieldType.int)).before args0 about1 = true := code_word (m := ⟨1, 5⟩) (meth := k1m5) (c := k1c5) (by decide +kernel) rfl rfl rfl (by decide +kernel)
set_option maxRecDepth 65536 in
theorem w_c14 : (Jvm.Cond.code ({ cls := "com/example/neat_mapper/neatmapper/jpql/SourcePositionOfPinLaw", name := "pair", desc := "([CIII)I" } : Jvm.MethodName) method_7_code (4 : Nat) (Option.some Jvm.ClassFile.FieldType.int)).before args0 about1 = true := code_word (m := ⟨1, 6⟩) (meth := k1m6) (c := k1c6) (by decide +kernel) rfl rfl rfl (by decide +kernel)
set_option maxRecDepth 65536 in
theorem w_c15 : (Jvm.Cond.code ({ cls := "com/example/neat_mapper/neatmapper/jpql/SourcePosition", name := "of", desc := "(Ljava/lang/String;I)Lcom/example/neat_mapper/neatmapper/jpql/SourcePosition;" } : Jvm.MethodName) prog_43_method_2_code (7 : Nat) (Option.some (Jvm.ClassFile.FieldType.object "com/example/neat_mapper/neatmapper/jpql/SourcePosition"))).before args0 about1 = true := code_word (m := ⟨10, 1⟩) (meth := k10m1) (c := k10c1) (by decide +kernel) rfl rfl rfl (by decide +kernel)
set_option maxRecDepth 65536 in
theorem w_c16 : (Jvm.Cond.code ({ cls := "java/util/Objects", name := "requireNonNull", desc := "(Ljava/lang/Object;Ljava/lang/String;)Ljava/lang/Object;" } : Jvm.MethodName) jdk_31_method_11_code (2 : Nat) (Option.some (Jvm.ClassFile.FieldType.object "java/lang/Object"))).before args0 about1 = true := code_word (m := ⟨11, 1⟩) (meth := k11m1) (c := k11c1) (by decide +kernel) rfl rfl rfl (by decide +kernel)
set_option maxRecDepth 65536 in
theorem w_c17 : (Jvm.Cond.code ({ cls := "java/lang/String", name := "length", desc := "()I" } : Jvm.MethodName) jdk_42_method_54_code (1 : Nat) (Option.some Jvm.ClassFile.FieldType.int)).before args0 about1 = true := code_word (m := ⟨7, 2⟩) (meth := k7m2) (c := k7c2) (by decide +kernel) rfl rfl rfl (by decide +kernel)
set_option maxRecDepth 65536 in
theorem w_c18 : (Jvm.Cond.code ({ cls := "java/lang/String", name := "coder", desc := "()B" } : Jvm.MethodName) jdk_42_method_152_code (1 : Nat) (Option.some Jvm.ClassFile.FieldType.byte)).before args0 about1 = true := code_word (m := ⟨7, 5⟩) (meth := k7m5) (c := k7c5) (by decide +kernel) rfl rfl rfl (by decide +kernel)
set_option maxRecDepth 65536 in
theorem w_c19 : (Jvm.Cond.code ({ cls := "java/lang/Character", name := "codePointCount", desc := "(Ljava/lang/CharSequence;II)I" } : Jvm.MethodName) jdk_89_method_33_code (5 : Nat) (Option.some Jvm.ClassFile.FieldType.int)).before args0 about1 = true := code_word (m := ⟨12, 2⟩) (meth := k12m2) (c := k12c2) (by decide +kernel) rfl rfl rfl (by decide +kernel)
set_option maxRecDepth 65536 in
theorem w_c20 : (Jvm.Cond.code ({ cls := "java/util/Objects", name := "checkFromToIndex", desc := "(III)I" } : Jvm.MethodName) jdk_31_method_18_code (3 : Nat) (Option.some Jvm.ClassFile.FieldType.int)).before args0 about1 = true := code_word (m := ⟨11, 2⟩) (meth := k11m2) (c := k11c2) (by decide +kernel) rfl rfl rfl (by decide +kernel)
set_option maxRecDepth 65536 in
theorem w_c21 : (Jvm.Cond.code ({ cls := "jdk/internal/util/Preconditions", name := "checkFromToIndex", desc := "(IIILjava/util/function/BiFunction;)I" } : Jvm.MethodName) jdk_41_method_12_code (4 : Nat) (Option.some Jvm.ClassFile.FieldType.int)).before args0 about1 = true := code_word (m := ⟨13, 2⟩) (meth := k13m2) (c := k13c2) (by decide +kernel) rfl rfl rfl (by decide +kernel)
set_option maxRecDepth 65536 in
theorem w_c22 : (Jvm.Cond.code ({ cls := "com/example/neat_mapper/neatmapper/jpql/SourcePosition", name := "<init>", desc := "(II)V" } : Jvm.MethodName) prog_43_method_1_code (3 : Nat) (Option.none : Option Jvm.ClassFile.FieldType)).before args0 about1 = true := code_word (m := ⟨10, 0⟩) (meth := k10m0) (c := k10c0) (by decide +kernel) rfl rfl rfl (by decide +kernel)
set_option maxRecDepth 65536 in
theorem w_c23 : (Jvm.Cond.code ({ cls := "java/lang/Record", name := "<init>", desc := "()V" } : Jvm.MethodName) jdk_30_method_1_code (1 : Nat) (Option.none : Option Jvm.ClassFile.FieldType)).before args0 about1 = true := code_word (m := ⟨9, 0⟩) (meth := k9m0) (c := k9c0) (by decide +kernel) rfl rfl rfl (by decide +kernel)
set_option maxRecDepth 65536 in
theorem w_c24 : (Jvm.Cond.code ({ cls := "com/example/neat_mapper/neatmapper/jpql/SourcePosition", name := "line", desc := "()I" } : Jvm.MethodName) prog_43_method_6_code (1 : Nat) (Option.some Jvm.ClassFile.FieldType.int)).before args0 about1 = true := code_word (m := ⟨10, 2⟩) (meth := k10m2) (c := k10c2) (by decide +kernel) rfl rfl rfl (by decide +kernel)
set_option maxRecDepth 65536 in
theorem w_c25 : (Jvm.Cond.code ({ cls := "com/example/neat_mapper/neatmapper/jpql/SourcePosition", name := "column", desc := "()I" } : Jvm.MethodName) prog_43_method_7_code (1 : Nat) (Option.some Jvm.ClassFile.FieldType.int)).before args0 about1 = true := code_word (m := ⟨10, 3⟩) (meth := k10m3) (c := k10c3) (by decide +kernel) rfl rfl rfl (by decide +kernel)
set_option maxRecDepth 65536 in
theorem w_c26 : (Jvm.Cond.code ({ cls := "com/example/neat_mapper/neatmapper/jpql/SourcePositionOfPinLaw", name := "hi", desc := "(C)Z" } : Jvm.MethodName) method_3_code (1 : Nat) (Option.some Jvm.ClassFile.FieldType.boolean)).before args0 about1 = true := code_word (m := ⟨1, 2⟩) (meth := k1m2) (c := k1c2) (by decide +kernel) rfl rfl rfl (by decide +kernel)
set_option maxRecDepth 65536 in
theorem w_c27 : (Jvm.Cond.code ({ cls := "com/example/neat_mapper/neatmapper/jpql/SourcePositionOfPinLaw", name := "ends", desc := "([CI)Z" } : Jvm.MethodName) method_5_code (2 : Nat) (Option.some Jvm.ClassFile.FieldType.boolean)).before args0 about1 = true := code_word (m := ⟨1, 4⟩) (meth := k1m4) (c := k1c4) (by decide +kernel) rfl rfl rfl (by decide +kernel)
set_option maxRecDepth 65536 in
theorem w_c28 : (Jvm.Cond.code ({ cls := "java/lang/String", name := "charAt", desc := "(I)C" } : Jvm.MethodName) jdk_42_method_56_code (2 : Nat) (Option.some Jvm.ClassFile.FieldType.char)).before args0 about1 = true := code_word (m := ⟨7, 3⟩) (meth := k7m3) (c := k7c3) (by decide +kernel) rfl rfl rfl (by decide +kernel)
set_option maxRecDepth 65536 in
theorem w_c29 : (Jvm.Cond.code ({ cls := "java/lang/String", name := "isLatin1", desc := "()Z" } : Jvm.MethodName) jdk_42_method_154_code (1 : Nat) (Option.some Jvm.ClassFile.FieldType.boolean)).before args0 about1 = true := code_word (m := ⟨7, 6⟩) (meth := k7m6) (c := k7c6) (by decide +kernel) rfl rfl rfl (by decide +kernel)
set_option maxRecDepth 65536 in
theorem w_c30 : (Jvm.Cond.code ({ cls := "java/lang/StringUTF16", name := "charAt", desc := "([BI)C" } : Jvm.MethodName) jdk_52_method_83_code (2 : Nat) (Option.some Jvm.ClassFile.FieldType.char)).before args0 about1 = true := code_word (m := ⟨8, 10⟩) (meth := k8m10) (c := k8c10) (by decide +kernel) rfl rfl rfl (by decide +kernel)
set_option maxRecDepth 65536 in
theorem w_c31 : (Jvm.Cond.code ({ cls := "java/lang/StringUTF16", name := "checkIndex", desc := "(I[B)V" } : Jvm.MethodName) jdk_52_method_91_code (2 : Nat) (Option.none : Option Jvm.ClassFile.FieldType)).before args0 about1 = true := code_word (m := ⟨8, 11⟩) (meth := k8m11) (c := k8c11) (by decide +kernel) rfl rfl rfl (by decide +kernel)
set_option maxRecDepth 65536 in
theorem w_c32 : (Jvm.Cond.code ({ cls := "java/lang/StringUTF16", name := "length", desc := "([B)I" } : Jvm.MethodName) jdk_52_method_6_code (1 : Nat) (Option.some Jvm.ClassFile.FieldType.int)).before args0 about1 = true := code_word (m := ⟨8, 5⟩) (meth := k8m5) (c := k8c5) (by decide +kernel) rfl rfl rfl (by decide +kernel)
set_option maxRecDepth 65536 in
theorem w_c33 : (Jvm.Cond.code ({ cls := "java/lang/String", name := "checkIndex", desc := "(II)V" } : Jvm.MethodName) jdk_42_method_155_code (2 : Nat) (Option.none : Option Jvm.ClassFile.FieldType)).before args0 about1 = true := code_word (m := ⟨7, 7⟩) (meth := k7m7) (c := k7c7) (by decide +kernel) rfl rfl rfl (by decide +kernel)
set_option maxRecDepth 65536 in
theorem w_c34 : (Jvm.Cond.code ({ cls := "jdk/internal/util/Preconditions", name := "checkIndex", desc := "(IILjava/util/function/BiFunction;)I" } : Jvm.MethodName) jdk_41_method_11_code (3 : Nat) (Option.some Jvm.ClassFile.FieldType.int)).before args0 about1 = true := code_word (m := ⟨13, 1⟩) (meth := k13m1) (c := k13c1) (by decide +kernel) rfl rfl rfl (by decide +kernel)
set_option maxRecDepth 65536 in
theorem w_c35 : (Jvm.Cond.code ({ cls := "java/lang/Character", name := "isHighSurrogate", desc := "(C)Z" } : Jvm.MethodName) jdk_89_method_14_code (1 : Nat) (Option.some Jvm.ClassFile.FieldType.boolean)).before args0 about1 = true := code_word (m := ⟨12, 0⟩) (meth := k12m0) (c := k12c0) (by decide +kernel) rfl rfl rfl (by decide +kernel)
set_option maxRecDepth 65536 in
theorem w_c36 : (Jvm.Cond.code ({ cls := "java/lang/StringLatin1", name := "charAt", desc := "([BI)C" } : Jvm.MethodName) jdk_43_method_2_code (2 : Nat) (Option.some Jvm.ClassFile.FieldType.char)).before args0 about1 = true := code_word (m := ⟨14, 1⟩) (meth := k14m1) (c := k14c1) (by decide +kernel) rfl rfl rfl (by decide +kernel)
set_option maxRecDepth 65536 in
theorem w_c37 : (Jvm.Cond.code ({ cls := "com/example/neat_mapper/neatmapper/jpql/SourcePositionOfPinLaw", name := "lo", desc := "(C)Z" } : Jvm.MethodName) method_4_code (1 : Nat) (Option.some Jvm.ClassFile.FieldType.boolean)).before args0 about1 = true := code_word (m := ⟨1, 3⟩) (meth := k1m3) (c := k1c3) (by decide +kernel) rfl rfl rfl (by decide +kernel)
set_option maxRecDepth 65536 in
theorem w_c38 : (Jvm.Cond.code ({ cls := "java/lang/Character", name := "isLowSurrogate", desc := "(C)Z" } : Jvm.MethodName) jdk_89_method_15_code (1 : Nat) (Option.some Jvm.ClassFile.FieldType.boolean)).before args0 about1 = true := code_word (m := ⟨12, 1⟩) (meth := k12m1) (c := k12c1) (by decide +kernel) rfl rfl rfl (by decide +kernel)
def codes1 : List Jvm.Cond := [Jvm.Cond.code x code maxLocals ret, Jvm.Cond.code ({ cls := "com/example/neat_mapper/neatmapper/jpql/SourcePositionOfPinLaw", name := "draw", desc := "(I)C" } : Jvm.MethodName) method_2_code (2 : Nat) (Option.some Jvm.ClassFile.FieldType.char), Jvm.Cond.code ({ cls := "java/lang/String", name := "<init>", desc := "([C)V" } : Jvm.MethodName) jdk_42_method_3_code (2 : Nat) (Option.none : Option Jvm.ClassFile.FieldType), Jvm.Cond.code ({ cls := "java/lang/String", name := "<init>", desc := "([CIILjava/lang/Void;)V" } : Jvm.MethodName) jdk_42_method_149_code (6 : Nat) (Option.none : Option Jvm.ClassFile.FieldType), Jvm.Cond.code ({ cls := "java/lang/Object", name := "<init>", desc := "()V" } : Jvm.MethodName) object_method_1_code (1 : Nat) (Option.none : Option Jvm.ClassFile.FieldType), Jvm.Cond.code ({ cls := "java/lang/StringUTF16", name := "compress", desc := "([CII)[B" } : Jvm.MethodName) jdk_52_method_16_code (6 : Nat) (Option.some (Jvm.ClassFile.FieldType.array Jvm.ClassFile.FieldType.byte)), Jvm.Cond.code ({ cls := "java/lang/StringUTF16", name := "compress", desc := "([CI[BII)I" } : Jvm.MethodName) jdk_52_method_21_code (7 : Nat) (Option.some Jvm.ClassFile.FieldType.int), Jvm.Cond.code ({ cls := "java/lang/StringUTF16", name := "toBytes", desc := "([CII)[B" } : Jvm.MethodName) jdk_52_method_14_code (5 : Nat) (Option.some (Jvm.ClassFile.FieldType.array Jvm.ClassFile.FieldType.byte)), Jvm.Cond.code ({ cls := "java/lang/StringUTF16", name := "newBytesFor", desc := "(I)[B" } : Jvm.MethodName) jdk_52_method_2_code (1 : Nat) (Option.some (Jvm.ClassFile.FieldType.array Jvm.ClassFile.FieldType.byte)), Jvm.Cond.code ({ cls := "java/lang/StringUTF16", name := "newBytesLength", desc := "(I)I" } : Jvm.MethodName) jdk_52_method_3_code (1 : Nat) (Option.some Jvm.ClassFile.FieldType.int), Jvm.Cond.code ({ cls := "java/lang/StringUTF16", name := "putChar", desc := "([BII)V" } : Jvm.MethodName) jdk_52_method_4_code (3 : Nat) (Option.none : Option Jvm.ClassFile.FieldType), Jvm.Cond.code ({ cls := "java/lang/StringUTF16", name := "getChar", desc := "([BI)C" } : Jvm.MethodName) jdk_52_method_5_code (2 : Nat) (Option.some Jvm.ClassFile.FieldType.char), Jvm.Cond.code ({ cls := "java/lang/StringUTF16", name := "coderFromArrayLen", desc := "([BI)B" } : Jvm.MethodName) jdk_52_method_15_code (2 : Nat) (Option.some Jvm.ClassFile.FieldType.byte), Jvm.Cond.code ({ cls := "com/example/neat_mapper/neatmapper/jpql/SourcePositionOfPinLaw", name := "brk", desc := "([CII)I" } : Jvm.MethodName) method_6_code (3 : Nat) (Option.some Jvm.ClassFile.FieldType.int), Jvm.Cond.code ({ cls := "com/example/neat_mapper/neatmapper/jpql/SourcePositionOfPinLaw", name := "pair", desc := "([CIII)I" } : Jvm.MethodName) method_7_code (4 : Nat) (Option.some Jvm.ClassFile.FieldType.int), Jvm.Cond.code ({ cls := "com/example/neat_mapper/neatmapper/jpql/SourcePosition", name := "of", desc := "(Ljava/lang/String;I)Lcom/example/neat_mapper/neatmapper/jpql/SourcePosition;" } : Jvm.MethodName) prog_43_method_2_code (7 : Nat) (Option.some (Jvm.ClassFile.FieldType.object "com/example/neat_mapper/neatmapper/jpql/SourcePosition")), Jvm.Cond.code ({ cls := "java/util/Objects", name := "requireNonNull", desc := "(Ljava/lang/Object;Ljava/lang/String;)Ljava/lang/Object;" } : Jvm.MethodName) jdk_31_method_11_code (2 : Nat) (Option.some (Jvm.ClassFile.FieldType.object "java/lang/Object")), Jvm.Cond.code ({ cls := "java/lang/String", name := "length", desc := "()I" } : Jvm.MethodName) jdk_42_method_54_code (1 : Nat) (Option.some Jvm.ClassFile.FieldType.int), Jvm.Cond.code ({ cls := "java/lang/String", name := "coder", desc := "()B" } : Jvm.MethodName) jdk_42_method_152_code (1 : Nat) (Option.some Jvm.ClassFile.FieldType.byte), Jvm.Cond.code ({ cls := "java/lang/Character", name := "codePointCount", desc := "(Ljava/lang/CharSequence;II)I" } : Jvm.MethodName) jdk_89_method_33_code (5 : Nat) (Option.some Jvm.ClassFile.FieldType.int), Jvm.Cond.code ({ cls := "java/util/Objects", name := "checkFromToIndex", desc := "(III)I" } : Jvm.MethodName) jdk_31_method_18_code (3 : Nat) (Option.some Jvm.ClassFile.FieldType.int), Jvm.Cond.code ({ cls := "jdk/internal/util/Preconditions", name := "checkFromToIndex", desc := "(IIILjava/util/function/BiFunction;)I" } : Jvm.MethodName) jdk_41_method_12_code (4 : Nat) (Option.some Jvm.ClassFile.FieldType.int), Jvm.Cond.code ({ cls := "com/example/neat_mapper/neatmapper/jpql/SourcePosition", name := "<init>", desc := "(II)V" } : Jvm.MethodName) prog_43_method_1_code (3 : Nat) (Option.none : Option Jvm.ClassFile.FieldType), Jvm.Cond.code ({ cls := "java/lang/Record", name := "<init>", desc := "()V" } : Jvm.MethodName) jdk_30_method_1_code (1 : Nat) (Option.none : Option Jvm.ClassFile.FieldType), Jvm.Cond.code ({ cls := "com/example/neat_mapper/neatmapper/jpql/SourcePosition", name := "line", desc := "()I" } : Jvm.MethodName) prog_43_method_6_code (1 : Nat) (Option.some Jvm.ClassFile.FieldType.int), Jvm.Cond.code ({ cls := "com/example/neat_mapper/neatmapper/jpql/SourcePosition", name := "column", desc := "()I" } : Jvm.MethodName) prog_43_method_7_code (1 : Nat) (Option.some Jvm.ClassFile.FieldType.int), Jvm.Cond.code ({ cls := "com/example/neat_mapper/neatmapper/jpql/SourcePositionOfPinLaw", name := "hi", desc := "(C)Z" } : Jvm.MethodName) method_3_code (1 : Nat) (Option.some Jvm.ClassFile.FieldType.boolean), Jvm.Cond.code ({ cls := "com/example/neat_mapper/neatmapper/jpql/SourcePositionOfPinLaw", name := "ends", desc := "([CI)Z" } : Jvm.MethodName) method_5_code (2 : Nat) (Option.some Jvm.ClassFile.FieldType.boolean), Jvm.Cond.code ({ cls := "java/lang/String", name := "charAt", desc := "(I)C" } : Jvm.MethodName) jdk_42_method_56_code (2 : Nat) (Option.some Jvm.ClassFile.FieldType.char), Jvm.Cond.code ({ cls := "java/lang/String", name := "isLatin1", desc := "()Z" } : Jvm.MethodName) jdk_42_method_154_code (1 : Nat) (Option.some Jvm.ClassFile.FieldType.boolean), Jvm.Cond.code ({ cls := "java/lang/StringUTF16", name := "charAt", desc := "([BI)C" } : Jvm.MethodName) jdk_52_method_83_code (2 : Nat) (Option.some Jvm.ClassFile.FieldType.char), Jvm.Cond.code ({ cls := "java/lang/StringUTF16", name := "checkIndex", desc := "(I[B)V" } : Jvm.MethodName) jdk_52_method_91_code (2 : Nat) (Option.none : Option Jvm.ClassFile.FieldType), Jvm.Cond.code ({ cls := "java/lang/StringUTF16", name := "length", desc := "([B)I" } : Jvm.MethodName) jdk_52_method_6_code (1 : Nat) (Option.some Jvm.ClassFile.FieldType.int), Jvm.Cond.code ({ cls := "java/lang/String", name := "checkIndex", desc := "(II)V" } : Jvm.MethodName) jdk_42_method_155_code (2 : Nat) (Option.none : Option Jvm.ClassFile.FieldType), Jvm.Cond.code ({ cls := "jdk/internal/util/Preconditions", name := "checkIndex", desc := "(IILjava/util/function/BiFunction;)I" } : Jvm.MethodName) jdk_41_method_11_code (3 : Nat) (Option.some Jvm.ClassFile.FieldType.int), Jvm.Cond.code ({ cls := "java/lang/Character", name := "isHighSurrogate", desc := "(C)Z" } : Jvm.MethodName) jdk_89_method_14_code (1 : Nat) (Option.some Jvm.ClassFile.FieldType.boolean), Jvm.Cond.code ({ cls := "java/lang/StringLatin1", name := "charAt", desc := "([BI)C" } : Jvm.MethodName) jdk_43_method_2_code (2 : Nat) (Option.some Jvm.ClassFile.FieldType.char), Jvm.Cond.code ({ cls := "com/example/neat_mapper/neatmapper/jpql/SourcePositionOfPinLaw", name := "lo", desc := "(C)Z" } : Jvm.MethodName) method_4_code (1 : Nat) (Option.some Jvm.ClassFile.FieldType.boolean), Jvm.Cond.code ({ cls := "java/lang/Character", name := "isLowSurrogate", desc := "(C)Z" } : Jvm.MethodName) jdk_89_method_15_code (1 : Nat) (Option.some Jvm.ClassFile.FieldType.boolean)]
set_option maxRecDepth 65536 in
theorem codes_eq : words1.filter isCode = codes1 := rfl
theorem w_codes : ∀ c ∈ words1.filter isCode, c.before args0 about1 = true := by
  rw [codes_eq]
  intro c hc
  simp only [codes1, List.mem_cons, List.not_mem_nil, or_false] at hc
  rcases hc with rfl | rfl | rfl | rfl | rfl | rfl | rfl | rfl | rfl | rfl | rfl | rfl | rfl | rfl | rfl | rfl | rfl | rfl | rfl | rfl | rfl | rfl | rfl | rfl | rfl | rfl | rfl | rfl | rfl | rfl | rfl | rfl | rfl | rfl | rfl | rfl | rfl | rfl | rfl
  · exact w_c0
  · exact w_c1
  · exact w_c2
  · exact w_c3
  · exact w_c4
  · exact w_c5
  · exact w_c6
  · exact w_c7
  · exact w_c8
  · exact w_c9
  · exact w_c10
  · exact w_c11
  · exact w_c12
  · exact w_c13
  · exact w_c14
  · exact w_c15
  · exact w_c16
  · exact w_c17
  · exact w_c18
  · exact w_c19
  · exact w_c20
  · exact w_c21
  · exact w_c22
  · exact w_c23
  · exact w_c24
  · exact w_c25
  · exact w_c26
  · exact w_c27
  · exact w_c28
  · exact w_c29
  · exact w_c30
  · exact w_c31
  · exact w_c32
  · exact w_c33
  · exact w_c34
  · exact w_c35
  · exact w_c36
  · exact w_c37
  · exact w_c38
set_option maxRecDepth 65536 in
theorem w_t1 : (words1.take 24).all (fun c => isCode c || c.before args0 about1) = true := by decide +kernel
set_option maxRecDepth 65536 in
theorem w_t2 : ((words1.drop 24).take 24).all (fun c => isCode c || c.before args0 about1) = true := by decide +kernel
set_option maxRecDepth 65536 in
theorem w_t3 : (((words1.drop 24).drop 24).take 24).all (fun c => isCode c || c.before args0 about1) = true := by decide +kernel
set_option maxRecDepth 65536 in
theorem w_t4 : ((((words1.drop 24).drop 24).drop 24).take 24).all (fun c => isCode c || c.before args0 about1) = true := by decide +kernel
set_option maxRecDepth 65536 in
theorem w_t5 : (((((words1.drop 24).drop 24).drop 24).drop 24).take 24).all (fun c => isCode c || c.before args0 about1) = true := by decide +kernel
set_option maxRecDepth 65536 in
theorem w_t6 : ((((((words1.drop 24).drop 24).drop 24).drop 24).drop 24).take 24).all (fun c => isCode c || c.before args0 about1) = true := by decide +kernel
set_option maxRecDepth 65536 in
theorem w_t7 : (((((((words1.drop 24).drop 24).drop 24).drop 24).drop 24).drop 24).take 24).all (fun c => isCode c || c.before args0 about1) = true := by decide +kernel
set_option maxRecDepth 65536 in
theorem w_t8 : (((((((words1.drop 24).drop 24).drop 24).drop 24).drop 24).drop 24).drop 24).all (fun c => isCode c || c.before args0 about1) = true := by decide +kernel
theorem w_tables : (allAtoms (Jvm.Cond.code x code maxLocals ret :: tables_1)).before args0 about1 = true := by
  rw [allAtoms_all]
  show words1.all (fun c => c.before args0 about1) = true
  refine all_split ?_ w_codes
  rw [← List.take_append_drop 24 words1, List.all_append, w_t1, ← List.take_append_drop 24 (words1.drop 24), List.all_append, w_t2, ← List.take_append_drop 24 ((words1.drop 24).drop 24), List.all_append, w_t3, ← List.take_append_drop 24 (((words1.drop 24).drop 24).drop 24), List.all_append, w_t4, ← List.take_append_drop 24 ((((words1.drop 24).drop 24).drop 24).drop 24), List.all_append, w_t5, ← List.take_append_drop 24 (((((words1.drop 24).drop 24).drop 24).drop 24).drop 24), List.all_append, w_t6, ← List.take_append_drop 24 ((((((words1.drop 24).drop 24).drop 24).drop 24).drop 24).drop 24), List.all_append, w_t7, w_t8]
  rfl
set_option maxRecDepth 65536 in
theorem w_rest : rest_1_c.before args0 about1 = true := by decide +kernel
set_option maxRecDepth 65536 in
theorem w_case : (Jvm.Cond.and given_1 narrow_1).before args0 about1 = true := by decide +kernel
theorem w_applies : (headSpec (Jvm.Cond.code x code maxLocals ret :: tables_1) room_1).applies x e0.platform about1 = true :=
  (Spec.applies_iff w_frames).mpr ⟨w_running, w_runnable, w_alone, w_named, w_hears, w_ripe, w_room, w_tables⟩
theorem atStart : AtStart classFile x code maxLocals ret World_1 tables_1 room_1 Calls_1 rest_1 Pre_1 launch0 p0 e0 about1 theMethod args0 below0 :=
  ⟨lists_1, trivial, launch0.admits_env _ _ _, launch0.least_env, fairChoices_fair.cas, fairChoices_fair.clock, w_frames, w_args, w_heap, w_applies, trivial, w_rest, w_case⟩
end start1
theorem witness_1 : WitnessClaimed_1 := ⟨start1.p0, start1.e0, start1.about1, start1.theMethod, start1.args0, start1.below0, start1.atStart⟩
end Jvm.Pilot.@@N@@
