import JvmDerived
import JvmDerived.Pilot.@@N@@Statement
import JvmDerived.Pilot.@@N@@Code
set_option linter.unusedVariables false
set_option linter.unusedSimpArgs false
namespace Jvm.Pilot.@@N@@
open Jvm Jvm.ClassFile Sem Op Lib Jvm.Free Jvm.Stand Jvm.LawKit Jvm.RoadKit Bundle Jvm.Pilot.@@N@@.Jvm.D
/-! OWN KIT: a walk as a judgement on (heap, frame) alone. Wl says: from every state that stands at this pc, with these locals and this stack over the heap h, the body runs to its return and Q holds there. -/
/-- own objects: no literal's cells, made since the law began, and there -/
def Mine (Z : State) (EL : List (String × Nat)) (vm : Vm) (h : Heap) (sf : List Addr) : Prop := ∀ x ∈ sf, Safe Z EL vm h x ∧ Z.heap.size ≤ x ∧ x < h.size
def Wk (l : Launch) (Z : State) (a0 : Array Value) (EL : List (String × Nat)) (y : MethodName) (bs : ByteArray) (ml : Nat) (rt : Option FieldType) (R : Room) (as : Array Value)
    (p : Program) (e : Env) (s : State) (m : MethodId) (below : List Frame) (meth : Method) (c : Code) (sf : List Addr) (T : State) (h : Heap) (k n : Nat) : Prop :=
  (p.tables.exec = Jvm.exec ∧ c.code = bs ∧ c.maxLocals = ml ∧ meth.sig.returnType = rt ∧ meth.locks = false ∧ meth.name = y.name ∧ s.vm.findClass y.cls = some m.cls ∧ EW Z a0 EL ∧ Ext Z.heap s.heap) ∧
  ∃ (vm0 : Vm) (locs : List Loc) (k0 : Nat), Stand p l e R (s.setVm vm0) m as below meth c T locs k n ∧ T.heap = h ∧ s.Since vm0 k0 ∧ k0 ≤ h.size ∧ Fr Z.heap.size locs ∧ Z.Warmed39 vm0 ∧ CHr Z EL s.vm s.heap vm0 h ∧ Mine Z EL vm0 h sf ∧ (EL = [] → s.WarmedH vm0)
def Go (Z : State) (EL : List (String × Nat)) (out : List Addr) (p : Program) (e : Env) (s : State) (below : List Frame) (C S : Nat) (Q : Option Value → Heap → Prop) (U : State) : Prop :=
  ∃ s₂ o, Steps p.tables e below U s₂ ∧ s₂.status = .running ∧ Ended s₂ below o ∧ ∃ v L, o = .returned v ∧ (Q v s₂.heap ∧ Fr Z.heap.size L) ∧ CHr Z EL s.vm s.heap s₂.vm s₂.heap ∧ ReturnedEndW s o s₂ L C S ∧ (EL = [] → s.WarmedH s₂.vm) ∧ Mine Z EL s₂.vm s₂.heap out
def WlO (l : Launch) (Z : State) (a0 : Array Value) (EL : List (String × Nat)) (y : MethodName) (bs : ByteArray) (ml : Nat) (rt : Option FieldType) (R : Room) (as : Array Value) (out : List Addr) (Q : Option Value → Heap → Prop)
    (sf : List Addr) (h : Heap) (k n : Nat) (pc : Nat) (Ls : Array Slot) (st : List Value) : Prop :=
  ∀ (p : Program) (e : Env) (s : State) (m : MethodId) (below : List Frame) (meth : Method) (c : Code) (T : State), Wk l Z a0 EL y bs ml rt R as p e s m below meth c sf T h k n → Go Z EL out p e s below R.cells R.slots Q (T.setTop (mkF m pc Ls st))
abbrev Wl (l : Launch) (Z : State) (a0 : Array Value) (EL : List (String × Nat)) (y : MethodName) (bs : ByteArray) (ml : Nat) (rt : Option FieldType) (R : Room) (as : Array Value) (Q : Option Value → Heap → Prop)
    (sf : List Addr) (h : Heap) (k n : Nat) (pc : Nat) (Ls : Array Slot) (st : List Value) : Prop := WlO l Z a0 EL y bs ml rt R as [] Q sf h k n pc Ls st
/-- the contract of a body at given arguments and a given heap -/
def MetO (l : Launch) (Z : State) (EL : List (String × Nat)) (y : MethodName) (bs : ByteArray) (ml : Nat) (rt : Option FieldType) (ws : List Jvm.Cond) (rm : Room) (as : Array Value) (h : Heap) (sf out : List Addr) (Q : Option Value → Heap → Prop) : Prop :=
  MetFree l y (head1 (Jvm.Cond.code y bs ml rt :: ws) rm) (fun a U => a = as ∧ Z.Warmed39 U.vm ∧ U.heap = h ∧ CHv Z EL U.vm h ∧ Ext Z.heap h ∧ Mine Z EL U.vm h sf) (fun _ _ _ _ _ => True)
    (fun _ U o U' => ∃ v L, o = .returned v ∧ (Q v U'.heap ∧ Fr Z.heap.size L) ∧ CHr Z EL U.vm U.heap U'.vm U'.heap ∧ ReturnedEndW U o U' L rm.cells rm.slots ∧ (EL = [] → U.WarmedH U'.vm) ∧ Mine Z EL U'.vm U'.heap out)
abbrev Met (l : Launch) (Z : State) (EL : List (String × Nat)) (y : MethodName) (bs : ByteArray) (ml : Nat) (rt : Option FieldType) (ws : List Jvm.Cond) (rm : Room) (as : Array Value) (h : Heap) (sf : List Addr) (Q : Option Value → Heap → Prop) : Prop := MetO l Z EL y bs ml rt ws rm as h sf [] Q
section OwnKit
variable {l : Launch} {Z : State} {a0 : Array Value} {EL : List (String × Nat)} {y : MethodName} {bs : ByteArray} {ml : Nat} {rt : Option FieldType} {R : Room} {as : Array Value} {Q : Option Value → Heap → Prop}
variable {p : Program} {e : Env} {s : State} {m : MethodId} {below : List Frame} {meth : Method} {c : Code} {T : State} {sf out : List Addr} {h h' : Heap} {k n pc : Nat} {Ls : Array Slot} {st : List Value} {C S : Nat}
theorem Go.of {U U' : State} (f : ∀ t, Steps p.tables e below U' t → Steps p.tables e below U t) (g : Go Z EL out p e s below C S Q U') : Go Z EL out p e s below C S Q U := by
  obtain ⟨s₂, o, h1, r⟩ := g
  exact ⟨s₂, o, f _ h1, r⟩
theorem Mine.nil {vm : Vm} : Mine Z EL vm h [] := fun _ q => nomatch q
theorem Mine.sub {vm : Vm} {sf' : List Addr} (M : Mine Z EL vm h sf) (q : ∀ x ∈ sf', x ∈ sf) : Mine Z EL vm h sf' := fun x hx => M x (q x hx)
theorem Mine.chr {vm vm1 : Vm} (M : Mine Z EL vm h sf) (A : CHr Z EL vm h vm1 h') : Mine Z EL vm1 h' sf := fun x hx => ⟨A.safe (M x hx).2.2 (M x hx).1, (M x hx).2.1, Nat.lt_of_lt_of_le (M x hx).2.2 A.2.1⟩
theorem Mine.cons {vm : Vm} {x : Addr} (M : Mine Z EL vm h sf) (q : Safe Z EL vm h x ∧ Z.heap.size ≤ x ∧ x < h.size) : Mine Z EL vm h (x :: sf) := fun z hz => (List.mem_cons.mp hz).elim (fun u => u ▸ q) (M z)
/-- the cells that stood when the law began stand -/
theorem Wk.old (W : Wk l Z a0 EL y bs ml rt R as p e s m below meth c sf T h k n) : Ext Z.heap h := by
  obtain ⟨⟨-, -, -, -, -, -, -, -, hO⟩, vm0, locs, k0, X, eT, -, -, hF, -, hC, -, -⟩ := W
  refine ⟨Nat.le_trans hO.1 hC.2.1, fun b cl hb => ?_⟩
  have hs := hO.2 b cl hb
  obtain ⟨c', h1, h2, -, h4⟩ := X.same.2.2.2.2.2 b cl hs
  have hlt := (Array.getElem?_eq_some_iff.mp hb).1
  have hsl : c'.slots = cl.slots := Array.ext_getElem? fun i => h4 i fun hm => absurd (hF _ hm) (Nat.not_le.mpr hlt)
  have hcc : c' = cl := by rw [h2, hsl]
  rw [← hcc, ← eT]; exact h1
theorem Wl.old (f : Ext Z.heap h → WlO l Z a0 EL y bs ml rt R as out Q sf h k n pc Ls st) : WlO l Z a0 EL y bs ml rt R as out Q sf h k n pc Ls st :=
  fun p e s m below meth c T W => f W.old p e s m below meth c T W
theorem Wl.mine {x : Addr} (hx : x ∈ sf) (f : Z.heap.size ≤ x → x < h.size → WlO l Z a0 EL y bs ml rt R as out Q sf h k n pc Ls st) : WlO l Z a0 EL y bs ml rt R as out Q sf h k n pc Ls st :=
  fun p e s m below meth c T W => by
    have W' := W
    obtain ⟨-, vm0, locs, k0, -, -, -, -, -, -, -, M, -⟩ := W'
    exact f (M x hx).2.1 (M x hx).2.2 p e s m below meth c T W
/-- fewer own objects, more room used -/
theorem Wl.weak {sf' : List Addr} {k' n' : Nat} (q : ∀ x ∈ sf', x ∈ sf) (hk : k ≤ k') (hn : n ≤ n') (hr : WlO l Z a0 EL y bs ml rt R as out Q sf' h k' n' pc Ls st) : WlO l Z a0 EL y bs ml rt R as out Q sf h k n pc Ls st :=
  fun p e s m below meth c T W => by
    obtain ⟨A, vm0, locs, k0, X, eT, hS, hk0, hF, hZ, hC, hM, hH⟩ := W
    exact hr p e s m below meth c T ⟨A, vm0, locs, k0, X.mono hk hn, eT, hS, hk0, hF, hZ, hC, hM.sub q, hH⟩
/-- a step that leaves the heap and writes nothing -/
theorem Wl.same {pc' : Nat} {Ls' : Array Slot} {st' : List Value}
    (f : ∀ (p : Program) (e : Env) (s : State) (m : MethodId) (below : List Frame) (meth : Method) (c : Code) (T : State) (vm0 : Vm) (locs : List Loc),
      p.tables.exec = Jvm.exec → c.code = bs → c.maxLocals = ml → vm0.findClass y.cls = some m.cls → Z.Warmed39 vm0 → Stand p l e R (s.setVm vm0) m as below meth c T locs k n → T.heap = h → Ext Z.heap h →
      ∃ T', Stand p l e R (s.setVm vm0) m as below meth c T' locs k n ∧ T'.heap = h ∧ ∀ t, Steps p.tables e below (T'.setTop (mkF m pc' Ls' st')) t → Steps p.tables e below (T.setTop (mkF m pc Ls st)) t)
    (hr : WlO l Z a0 EL y bs ml rt R as out Q sf h k n pc' Ls' st') : WlO l Z a0 EL y bs ml rt R as out Q sf h k n pc Ls st := by
  intro p e s m below meth c T W
  have hO := W.old
  obtain ⟨A, vm0, locs, k0, X, eT, hS, hk, hF, hZ, hC, hM, hH⟩ := W
  obtain ⟨T', X', e', stp⟩ := f p e s m below meth c T vm0 locs A.1 A.2.1 A.2.2.1 (by rw [hS.1.alike.findClass]; exact A.2.2.2.2.2.2.1) hZ X eT hO
  exact Go.of stp (hr p e s m below meth c T' ⟨A, vm0, locs, k0, X', e', hS, hk, hF, hZ, hC, hM, hH⟩)
theorem Wl.plain {pc' : Nat} {Ls' : Array Slot} {st' : List Value}
    (f : ∀ (p : Program) (e : Env) (m : MethodId) (below : List Frame) (c : Code) (T : State), p.tables.exec = Jvm.exec → c.code = bs → At T m c below → ∀ t, Steps p.tables e below (T.setTop (mkF m pc' Ls' st')) t → Steps p.tables e below (T.setTop (mkF m pc Ls st)) t)
    (hr : WlO l Z a0 EL y bs ml rt R as out Q sf h k n pc' Ls' st') : WlO l Z a0 EL y bs ml rt R as out Q sf h k n pc Ls st :=
  Wl.same (fun p e s m below meth c T vm0 locs hx hby _ _ _ X eT _ => ⟨T, X, eT, f p e m below c T hx hby X.here⟩) hr
/-- a step that makes one cell -/
theorem Wl.grow {pc' : Nat} {Ls' : Array Slot} {st' : Addr → List Value} {dk dn : Nat} {F : Heap → Addr → Prop}
    (f : ∀ (p : Program) (e : Env) (s : State) (m : MethodId) (below : List Frame) (meth : Method) (c : Code) (T : State) (vm0 : Vm) (locs : List Loc),
      p.tables.exec = Jvm.exec → c.code = bs → c.maxLocals = ml → vm0.findClass y.cls = some m.cls → Z.Warmed39 vm0 → Stand p l e R (s.setVm vm0) m as below meth c T locs k n → T.heap = h → Ext Z.heap h →
      ∃ T' h', Stand p l e R (s.setVm vm0) m as below meth c T' locs (k + dk) (n + dn) ∧ T'.heap = h' ∧ Ext h h' ∧ h.size < h'.size ∧ F h' h.size ∧ ∀ t, Steps p.tables e below (T'.setTop (mkF m pc' Ls' (st' h.size))) t → Steps p.tables e below (T.setTop (mkF m pc Ls st)) t)
    (hr : ∀ (a : Addr) (h' : Heap), a = h.size → Ext h h' → F h' a → WlO l Z a0 EL y bs ml rt R as out Q (a :: sf) h' (k + dk) (n + dn) pc' Ls' (st' a)) : WlO l Z a0 EL y bs ml rt R as out Q sf h k n pc Ls st := by
  intro p e s m below meth c T W
  have hO := W.old
  obtain ⟨A, vm0, locs, k0, X, eT, hS, hk, hF, hZ, hC, hM, hH⟩ := W
  obtain ⟨T', h', X', e', E, hlt, G, stp⟩ := f p e s m below meth c T vm0 locs A.1 A.2.1 A.2.2.1 (by rw [hS.1.alike.findClass]; exact A.2.2.2.2.2.2.1) hZ X eT hO
  have B := CHr.ext (Z := Z) (EL := EL) (vm := vm0) E hC.1
  exact Go.of stp (hr h.size h' rfl E G p e s m below meth c T' ⟨A, vm0, locs, k0, X', e', hS, Nat.le_trans hk E.1, hF, hZ, hC.trans B, (hM.chr B).cons ⟨Safe.ext E hC.1 (Safe.new (Nat.le_refl _)), hO.1, hlt⟩, hH⟩)
/-- a step that writes one place of an own object -/
theorem Wl.write {pc' : Nat} {Ls' : Array Slot} {st' : List Value} {a : Addr} {sl : Nat} {v : Value} (ha : a ∈ sf)
    (f : ∀ (p : Program) (e : Env) (s : State) (m : MethodId) (below : List Frame) (meth : Method) (c : Code) (T : State) (vm0 : Vm) (locs : List Loc),
      p.tables.exec = Jvm.exec → c.code = bs → meth.name = y.name → vm0.findClass y.cls = some m.cls → Z.Warmed39 vm0 → Stand p l e R (s.setVm vm0) m as below meth c T locs k n → T.heap = h →
      ∃ T' h', Stand p l e R (s.setVm vm0) m as below meth c T' (locs ++ [⟨a, sl⟩]) k n ∧ T'.heap = h' ∧ Wr h h' a sl v ∧ ∀ t, Steps p.tables e below (T'.setTop (mkF m pc' Ls' st')) t → Steps p.tables e below (T.setTop (mkF m pc Ls st)) t)
    (hr : ∀ h', Wr h h' a sl v → WlO l Z a0 EL y bs ml rt R as out Q sf h' k n pc' Ls' st') : WlO l Z a0 EL y bs ml rt R as out Q sf h k n pc Ls st := by
  intro p e s m below meth c T W
  obtain ⟨A, vm0, locs, k0, X, eT, hS, hk, hF, hZ, hC, hM, hH⟩ := W
  obtain ⟨T', h', X', e', Wv, stp⟩ := f p e s m below meth c T vm0 locs A.1 A.2.1 A.2.2.2.2.2.1 (by rw [hS.1.alike.findClass]; exact A.2.2.2.2.2.2.1) hZ X eT
  have B := CHr.wr (Z := Z) (EL := EL) (vm := vm0) Wv (hM a ha).1 hC.1
  exact Go.of stp (hr h' Wv p e s m below meth c T' ⟨A, vm0, locs ++ [⟨a, sl⟩], k0, X', e', hS, by rw [Wv.size]; exact hk, Fr.snoc X' hF (hM a ha).2.1, hZ, hC.trans B, hM.chr B, hH⟩)
/-! plain steps -/
theorem Wl.aload_n (pc' : Nat) {i : Fin 4} {v : Value} (hd : decode bs pc = .ok (.aload_n i, 1)) (hl : Ls[i.val]? = some (.val v)) (hv : v.isRef = true) (hr : WlO l Z a0 EL y bs ml rt R as out Q sf h k n pc' Ls (v :: st)) (hp : pc + 1 = pc' := by rfl) : WlO l Z a0 EL y bs ml rt R as out Q sf h k n pc Ls st := by
  subst hp; exact Wl.plain (fun p e m below c T hx hby A t kk => XS.aloadN A hx rfl (hb hby hd) hl hv kk) hr
theorem Wl.aload (pc' : Nat) {i : Nat} {v : Value} (hd : decode bs pc = .ok (.aload i, 2)) (hl : Ls[i]? = some (.val v)) (hv : v.isRef = true) (hr : WlO l Z a0 EL y bs ml rt R as out Q sf h k n pc' Ls (v :: st)) (hp : pc + 2 = pc' := by rfl) : WlO l Z a0 EL y bs ml rt R as out Q sf h k n pc Ls st := by
  subst hp; exact Wl.plain (fun p e m below c T hx hby A t kk => XS.aload A hx rfl (hb hby hd) hl hv kk) hr
theorem Wl.iload_n (pc' : Nat) {i : Fin 4} {v : Int32} (hd : decode bs pc = .ok (.iload_n i, 1)) (hl : Ls[i.val]? = some (.val (.int v))) (hr : WlO l Z a0 EL y bs ml rt R as out Q sf h k n pc' Ls (.int v :: st)) (hp : pc + 1 = pc' := by rfl) : WlO l Z a0 EL y bs ml rt R as out Q sf h k n pc Ls st := by
  subst hp; exact Wl.plain (fun p e m below c T hx hby A t kk => XS.iloadN A hx rfl (hb hby hd) hl kk) hr
theorem Wl.iload (pc' : Nat) {i : Nat} {v : Int32} (hd : decode bs pc = .ok (.iload i, 2)) (hl : Ls[i]? = some (.val (.int v))) (hr : WlO l Z a0 EL y bs ml rt R as out Q sf h k n pc' Ls (.int v :: st)) (hp : pc + 2 = pc' := by rfl) : WlO l Z a0 EL y bs ml rt R as out Q sf h k n pc Ls st := by
  subst hp; exact Wl.plain (fun p e m below c T hx hby A t kk => XS.iload A hx rfl (hb hby hd) hl kk) hr
theorem Wl.lload_n (pc' : Nat) {i : Fin 4} {v : Int64} (hd : decode bs pc = .ok (.lload_n i, 1)) (hl : Ls[i.val]? = some (.val (.long v))) (hr : WlO l Z a0 EL y bs ml rt R as out Q sf h k n pc' Ls (.long v :: st)) (hp : pc + 1 = pc' := by rfl) : WlO l Z a0 EL y bs ml rt R as out Q sf h k n pc Ls st := by
  subst hp; exact Wl.plain (fun p e m below c T hx hby A t kk => XS.lloadN A hx rfl (hb hby hd) hl kk) hr
theorem Wl.lload (pc' : Nat) {i : Nat} {v : Int64} (hd : decode bs pc = .ok (.lload i, 2)) (hl : Ls[i]? = some (.val (.long v))) (hr : WlO l Z a0 EL y bs ml rt R as out Q sf h k n pc' Ls (.long v :: st)) (hp : pc + 2 = pc' := by rfl) : WlO l Z a0 EL y bs ml rt R as out Q sf h k n pc Ls st := by
  subst hp; exact Wl.plain (fun p e m below c T hx hby A t kk => XS.lload A hx rfl (hb hby hd) hl kk) hr
theorem Wl.istore_n (pc' : Nat) (Ls' : Array Slot) {i : Fin 4} {v : Int32} (hd : decode bs pc = .ok (.istore_n i, 1)) (hl : storeLocals Ls i.val (.int v) = some Ls') (hr : WlO l Z a0 EL y bs ml rt R as out Q sf h k n pc' Ls' st) (hp : pc + 1 = pc' := by rfl) : WlO l Z a0 EL y bs ml rt R as out Q sf h k n pc Ls (.int v :: st) := by
  subst hp; exact Wl.plain (fun p e m below c T hx hby A t kk => XS.istoreN A hx rfl (hb hby hd) rfl hl kk) hr
theorem Wl.istore (pc' : Nat) (Ls' : Array Slot) {i : Nat} {v : Int32} (hd : decode bs pc = .ok (.istore i, 2)) (hl : storeLocals Ls i (.int v) = some Ls') (hr : WlO l Z a0 EL y bs ml rt R as out Q sf h k n pc' Ls' st) (hp : pc + 2 = pc' := by rfl) : WlO l Z a0 EL y bs ml rt R as out Q sf h k n pc Ls (.int v :: st) := by
  subst hp; exact Wl.plain (fun p e m below c T hx hby A t kk => XS.istore A hx rfl (hb hby hd) rfl hl kk) hr
theorem Wl.lstore (pc' : Nat) (Ls' : Array Slot) {i : Nat} {v : Int64} (hd : decode bs pc = .ok (.lstore i, 2)) (hl : storeLocals Ls i (.long v) = some Ls') (hr : WlO l Z a0 EL y bs ml rt R as out Q sf h k n pc' Ls' st) (hp : pc + 2 = pc' := by rfl) : WlO l Z a0 EL y bs ml rt R as out Q sf h k n pc Ls (.long v :: st) := by
  subst hp; exact Wl.plain (fun p e m below c T hx hby A t kk => XS.lstore A hx rfl (hb hby hd) rfl hl kk) hr
theorem Wl.astore_n (pc' : Nat) (Ls' : Array Slot) {i : Fin 4} {v : Value} (hd : decode bs pc = .ok (.astore_n i, 1)) (hv : v.isRef = true) (hl : storeLocals Ls i.val v = some Ls') (hr : WlO l Z a0 EL y bs ml rt R as out Q sf h k n pc' Ls' st) (hp : pc + 1 = pc' := by rfl) : WlO l Z a0 EL y bs ml rt R as out Q sf h k n pc Ls (v :: st) := by
  subst hp; exact Wl.plain (fun p e m below c T hx hby A t kk => XS.astoreN A hx rfl (hb hby hd) rfl hv hl kk) hr
theorem Wl.astore (pc' : Nat) (Ls' : Array Slot) {i : Nat} {v : Value} (hd : decode bs pc = .ok (.astore i, 2)) (hv : v.isRef = true) (hl : storeLocals Ls i v = some Ls') (hr : WlO l Z a0 EL y bs ml rt R as out Q sf h k n pc' Ls' st) (hp : pc + 2 = pc' := by rfl) : WlO l Z a0 EL y bs ml rt R as out Q sf h k n pc Ls (v :: st) := by
  subst hp; exact Wl.plain (fun p e m below c T hx hby A t kk => XS.astore A hx rfl (hb hby hd) rfl hv hl kk) hr
theorem Wl.iinc (pc' : Nat) (Ls' : Array Slot) {i : Nat} {cst : Int} {x : Int32} (v : Int32) (hd : decode bs pc = .ok (.iinc i cst, 3)) (hv : Int32.ofInt cst = v) (hl : Ls[i]? = some (.val (.int x))) (hl' : storeLocals Ls i (.int (x + v)) = some Ls') (hr : WlO l Z a0 EL y bs ml rt R as out Q sf h k n pc' Ls' st) (hp : pc + 3 = pc' := by rfl) : WlO l Z a0 EL y bs ml rt R as out Q sf h k n pc Ls st := by
  subst hp hv; exact Wl.plain (fun p e m below c T hx hby A t kk => XS.iinc A hx rfl (hb hby hd) hl hl' kk) hr
theorem Wl.iconst (pc' : Nat) (v : Int32) {i : Int} (hd : decode bs pc = .ok (.iconst i, 1)) (hv : Int32.ofInt i = v) (hr : WlO l Z a0 EL y bs ml rt R as out Q sf h k n pc' Ls (.int v :: st)) (hp : pc + 1 = pc' := by rfl) : WlO l Z a0 EL y bs ml rt R as out Q sf h k n pc Ls st := by
  subst hp hv; exact Wl.plain (fun p e m below c T hx hby A t kk => XS.iconst A hx rfl (hb hby hd) kk) hr
theorem Wl.bipush (pc' : Nat) (v : Int32) {i : Int} (hd : decode bs pc = .ok (.bipush i, 2)) (hv : (Int8.ofInt i).toInt32 = v) (hr : WlO l Z a0 EL y bs ml rt R as out Q sf h k n pc' Ls (.int v :: st)) (hp : pc + 2 = pc' := by rfl) : WlO l Z a0 EL y bs ml rt R as out Q sf h k n pc Ls st := by
  subst hp hv; exact Wl.plain (fun p e m below c T hx hby A t kk => XS.bipush A hx rfl (hb hby hd) kk) hr
theorem Wl.sipush (pc' : Nat) (v : Int32) {i : Int} (hd : decode bs pc = .ok (.sipush i, 3)) (hv : (Int16.ofInt i).toInt32 = v) (hr : WlO l Z a0 EL y bs ml rt R as out Q sf h k n pc' Ls (.int v :: st)) (hp : pc + 3 = pc' := by rfl) : WlO l Z a0 EL y bs ml rt R as out Q sf h k n pc Ls st := by
  subst hp hv; exact Wl.plain (fun p e m below c T hx hby A t kk => XS.sipush A hx rfl (hb hby hd) kk) hr
theorem Wl.aconst_null (pc' : Nat) (hd : decode bs pc = .ok (.aconst_null, 1)) (hr : WlO l Z a0 EL y bs ml rt R as out Q sf h k n pc' Ls (.null :: st)) (hp : pc + 1 = pc' := by rfl) : WlO l Z a0 EL y bs ml rt R as out Q sf h k n pc Ls st := by
  subst hp; exact Wl.plain (fun p e m below c T hx hby A t kk => XS.aconstNull A hx rfl (hb hby hd) kk) hr
theorem Wl.iadd (pc' : Nat) {x z : Int32} (hd : decode bs pc = .ok (.iadd, 1)) (hr : WlO l Z a0 EL y bs ml rt R as out Q sf h k n pc' Ls (.int (x + z) :: st)) (hp : pc + 1 = pc' := by rfl) : WlO l Z a0 EL y bs ml rt R as out Q sf h k n pc Ls (.int z :: .int x :: st) := by
  subst hp; exact Wl.plain (fun p e m below c T hx hby A t kk => XS.iadd A hx rfl (hb hby hd) rfl kk) hr
theorem Wl.isub (pc' : Nat) {x z : Int32} (hd : decode bs pc = .ok (.isub, 1)) (hr : WlO l Z a0 EL y bs ml rt R as out Q sf h k n pc' Ls (.int (x - z) :: st)) (hp : pc + 1 = pc' := by rfl) : WlO l Z a0 EL y bs ml rt R as out Q sf h k n pc Ls (.int z :: .int x :: st) := by
  subst hp; exact Wl.plain (fun p e m below c T hx hby A t kk => XS.isub A hx rfl (hb hby hd) rfl kk) hr
theorem Wl.imul (pc' : Nat) {x z : Int32} (hd : decode bs pc = .ok (.imul, 1)) (hr : WlO l Z a0 EL y bs ml rt R as out Q sf h k n pc' Ls (.int (x * z) :: st)) (hp : pc + 1 = pc' := by rfl) : WlO l Z a0 EL y bs ml rt R as out Q sf h k n pc Ls (.int z :: .int x :: st) := by
  subst hp; exact Wl.plain (fun p e m below c T hx hby A t kk => XS.imul A hx rfl (hb hby hd) rfl kk) hr
theorem Wl.irem (pc' : Nat) {x z : Int32} (hd : decode bs pc = .ok (.irem, 1)) (hz : z ≠ 0) (hr : WlO l Z a0 EL y bs ml rt R as out Q sf h k n pc' Ls (.int (x % z) :: st)) (hp : pc + 1 = pc' := by rfl) : WlO l Z a0 EL y bs ml rt R as out Q sf h k n pc Ls (.int z :: .int x :: st) := by
  subst hp; exact Wl.same (fun p e s m below meth c T vm0 locs hx hby _ _ _ X eT _ => ⟨T, X, eT, fun t kk => iremM X hx rfl (hb hby hd) rfl hz kk⟩) hr
theorem Wl.iand (pc' : Nat) {x z : Int32} (hd : decode bs pc = .ok (.iand, 1)) (hr : WlO l Z a0 EL y bs ml rt R as out Q sf h k n pc' Ls (.int (x &&& z) :: st)) (hp : pc + 1 = pc' := by rfl) : WlO l Z a0 EL y bs ml rt R as out Q sf h k n pc Ls (.int z :: .int x :: st) := by
  subst hp; exact Wl.plain (fun p e m below c T hx hby A t kk => XS.iand A hx rfl (hb hby hd) rfl kk) hr
theorem Wl.ior (pc' : Nat) {x z : Int32} (hd : decode bs pc = .ok (.ior, 1)) (hr : WlO l Z a0 EL y bs ml rt R as out Q sf h k n pc' Ls (.int (x ||| z) :: st)) (hp : pc + 1 = pc' := by rfl) : WlO l Z a0 EL y bs ml rt R as out Q sf h k n pc Ls (.int z :: .int x :: st) := by
  subst hp; exact Wl.plain (fun p e m below c T hx hby A t kk => XT.ior A hx rfl (hb hby hd) rfl kk) hr
theorem Wl.ixor (pc' : Nat) {x z : Int32} (hd : decode bs pc = .ok (.ixor, 1)) (hr : WlO l Z a0 EL y bs ml rt R as out Q sf h k n pc' Ls (.int (x ^^^ z) :: st)) (hp : pc + 1 = pc' := by rfl) : WlO l Z a0 EL y bs ml rt R as out Q sf h k n pc Ls (.int z :: .int x :: st) := by
  subst hp; exact Wl.plain (fun p e m below c T hx hby A t kk => XT.ixor A hx rfl (hb hby hd) rfl kk) hr
theorem Wl.ishl (pc' : Nat) {x z : Int32} (hd : decode bs pc = .ok (.ishl, 1)) (hr : WlO l Z a0 EL y bs ml rt R as out Q sf h k n pc' Ls (.int (x <<< (z &&& 31)) :: st)) (hp : pc + 1 = pc' := by rfl) : WlO l Z a0 EL y bs ml rt R as out Q sf h k n pc Ls (.int z :: .int x :: st) := by
  subst hp; exact Wl.plain (fun p e m below c T hx hby A t kk => XT.ishl A hx rfl (hb hby hd) rfl kk) hr
theorem Wl.ishr (pc' : Nat) {x z : Int32} (hd : decode bs pc = .ok (.ishr, 1)) (hr : WlO l Z a0 EL y bs ml rt R as out Q sf h k n pc' Ls (.int (x >>> (z &&& 31)) :: st)) (hp : pc + 1 = pc' := by rfl) : WlO l Z a0 EL y bs ml rt R as out Q sf h k n pc Ls (.int z :: .int x :: st) := by
  subst hp; exact Wl.plain (fun p e m below c T hx hby A t kk => XT.ishr A hx rfl (hb hby hd) rfl kk) hr
theorem Wl.iushr (pc' : Nat) {x z : Int32} (hd : decode bs pc = .ok (.iushr, 1)) (hr : WlO l Z a0 EL y bs ml rt R as out Q sf h k n pc' Ls (.int ((x.toUInt32 >>> (z &&& 31).toUInt32).toInt32) :: st)) (hp : pc + 1 = pc' := by rfl) : WlO l Z a0 EL y bs ml rt R as out Q sf h k n pc Ls (.int z :: .int x :: st) := by
  subst hp; exact Wl.plain (fun p e m below c T hx hby A t kk => XT.iushr A hx rfl (hb hby hd) rfl kk) hr
theorem Wl.ladd (pc' : Nat) {x z : Int64} (hd : decode bs pc = .ok (.ladd, 1)) (hr : WlO l Z a0 EL y bs ml rt R as out Q sf h k n pc' Ls (.long (x + z) :: st)) (hp : pc + 1 = pc' := by rfl) : WlO l Z a0 EL y bs ml rt R as out Q sf h k n pc Ls (.long z :: .long x :: st) := by
  subst hp; exact Wl.plain (fun p e m below c T hx hby A t kk => XT.ladd A hx rfl (hb hby hd) rfl kk) hr
theorem Wl.land (pc' : Nat) {x z : Int64} (hd : decode bs pc = .ok (.land, 1)) (hr : WlO l Z a0 EL y bs ml rt R as out Q sf h k n pc' Ls (.long (x &&& z) :: st)) (hp : pc + 1 = pc' := by rfl) : WlO l Z a0 EL y bs ml rt R as out Q sf h k n pc Ls (.long z :: .long x :: st) := by
  subst hp; exact Wl.plain (fun p e m below c T hx hby A t kk => XT.land A hx rfl (hb hby hd) rfl kk) hr
theorem Wl.lushr (pc' : Nat) {x : Int64} {z : Int32} (hd : decode bs pc = .ok (.lushr, 1)) (hr : WlO l Z a0 EL y bs ml rt R as out Q sf h k n pc' Ls (.long (Jvm.Free.XT.ushrL x z) :: st)) (hp : pc + 1 = pc' := by rfl) : WlO l Z a0 EL y bs ml rt R as out Q sf h k n pc Ls (.int z :: .long x :: st) := by
  subst hp; exact Wl.plain (fun p e m below c T hx hby A t kk => XT.lushr A hx rfl (hb hby hd) rfl kk) hr
theorem Wl.lcmp (pc' : Nat) {x z : Int64} (hd : decode bs pc = .ok (.lcmp, 1)) (hr : WlO l Z a0 EL y bs ml rt R as out Q sf h k n pc' Ls (.int (lcmpW x z) :: st)) (hp : pc + 1 = pc' := by rfl) : WlO l Z a0 EL y bs ml rt R as out Q sf h k n pc Ls (.long z :: .long x :: st) := by
  subst hp; exact Wl.plain (fun p e m below c T hx hby A t kk => XT.lcmp A hx rfl (hb hby hd) rfl kk) hr
theorem Wl.i2l (pc' : Nat) {x : Int32} (hd : decode bs pc = .ok (.i2l, 1)) (hr : WlO l Z a0 EL y bs ml rt R as out Q sf h k n pc' Ls (.long x.toInt64 :: st)) (hp : pc + 1 = pc' := by rfl) : WlO l Z a0 EL y bs ml rt R as out Q sf h k n pc Ls (.int x :: st) := by
  subst hp; exact Wl.plain (fun p e m below c T hx hby A t kk => XT.i2l A hx rfl (hb hby hd) rfl kk) hr
theorem Wl.l2i (pc' : Nat) {x : Int64} (hd : decode bs pc = .ok (.l2i, 1)) (hr : WlO l Z a0 EL y bs ml rt R as out Q sf h k n pc' Ls (.int x.toInt32 :: st)) (hp : pc + 1 = pc' := by rfl) : WlO l Z a0 EL y bs ml rt R as out Q sf h k n pc Ls (.long x :: st) := by
  subst hp; exact Wl.plain (fun p e m below c T hx hby A t kk => XT.l2i A hx rfl (hb hby hd) rfl kk) hr
theorem Wl.i2b (pc' : Nat) {x : Int32} (hd : decode bs pc = .ok (.i2b, 1)) (hr : WlO l Z a0 EL y bs ml rt R as out Q sf h k n pc' Ls (.int x.toInt8.toInt32 :: st)) (hp : pc + 1 = pc' := by rfl) : WlO l Z a0 EL y bs ml rt R as out Q sf h k n pc Ls (.int x :: st) := by
  subst hp; exact Wl.plain (fun p e m below c T hx hby A t kk => XT.i2b A hx rfl (hb hby hd) rfl kk) hr
theorem Wl.i2c (pc' : Nat) {x : Int32} (hd : decode bs pc = .ok (.i2c, 1)) (hr : WlO l Z a0 EL y bs ml rt R as out Q sf h k n pc' Ls (.int x.toUInt32.toUInt16.toUInt32.toInt32 :: st)) (hp : pc + 1 = pc' := by rfl) : WlO l Z a0 EL y bs ml rt R as out Q sf h k n pc Ls (.int x :: st) := by
  subst hp; exact Wl.plain (fun p e m below c T hx hby A t kk => XT.i2c A hx rfl (hb hby hd) rfl kk) hr
theorem Wl.dup (pc' : Nat) {v : Value} (hd : decode bs pc = .ok (.dup, 1)) (hc : v.category = 1) (hr : WlO l Z a0 EL y bs ml rt R as out Q sf h k n pc' Ls (v :: v :: st)) (hp : pc + 1 = pc' := by rfl) : WlO l Z a0 EL y bs ml rt R as out Q sf h k n pc Ls (v :: st) := by
  subst hp; exact Wl.plain (fun p e m below c T hx hby A t kk => XS.dup A hx rfl (hb hby hd) rfl hc kk) hr
theorem Wl.pop (pc' : Nat) {v : Value} (hd : decode bs pc = .ok (.pop, 1)) (hc : v.category = 1) (hr : WlO l Z a0 EL y bs ml rt R as out Q sf h k n pc' Ls st) (hp : pc + 1 = pc' := by rfl) : WlO l Z a0 EL y bs ml rt R as out Q sf h k n pc Ls (v :: st) := by
  subst hp; exact Wl.plain (fun p e m below c T hx hby A t kk => XT.pop A hx rfl (hb hby hd) rfl hc kk) hr
theorem Wl.goto (pc' : Nat) {o : Int} (hd : decode bs pc = .ok (.goto o, 3)) (hr : WlO l Z a0 EL y bs ml rt R as out Q sf h k n pc' Ls st) (ho : 0 ≤ (pc : Int) + o := by decide) (hp : ((pc : Int) + o).toNat = pc' := by decide) : WlO l Z a0 EL y bs ml rt R as out Q sf h k n pc Ls st :=
  Wl.plain (fun p e m below c T hx hby A t kk => XS.goto A hx rfl rfl (hb hby hd) ho hp kk) hr
theorem Wl.ifY (pc' : Nat) {cd : ClassFile.Cond} {o : Int} {x : Int32} (hd : decode bs pc = .ok (.ifCond cd o, 3)) (hc : if_icmp.holds cd x 0 = true) (hr : WlO l Z a0 EL y bs ml rt R as out Q sf h k n pc' Ls st) (ho : 0 ≤ (pc : Int) + o := by decide) (hp : ((pc : Int) + o).toNat = pc' := by decide) : WlO l Z a0 EL y bs ml rt R as out Q sf h k n pc Ls (.int x :: st) :=
  Wl.plain (fun p e m below c T hx hby A t kk => XS.ifYes A hx rfl rfl (hb hby hd) rfl ((if0 _ _).trans hc) ho hp kk) hr
theorem Wl.ifN (pc' : Nat) {cd : ClassFile.Cond} {o : Int} {x : Int32} (hd : decode bs pc = .ok (.ifCond cd o, 3)) (hc : if_icmp.holds cd x 0 = false) (hr : WlO l Z a0 EL y bs ml rt R as out Q sf h k n pc' Ls st) (hp : pc + 3 = pc' := by rfl) : WlO l Z a0 EL y bs ml rt R as out Q sf h k n pc Ls (.int x :: st) := by
  subst hp; exact Wl.plain (fun p e m below c T hx hby A t kk => XS.ifNo A hx rfl (hb hby hd) rfl ((if0 _ _).trans hc) kk) hr
theorem Wl.icmpY (pc' : Nat) {cd : ClassFile.Cond} {o : Int} {x z : Int32} (hd : decode bs pc = .ok (.if_icmp cd o, 3)) (hc : if_icmp.holds cd x z = true) (hr : WlO l Z a0 EL y bs ml rt R as out Q sf h k n pc' Ls st) (ho : 0 ≤ (pc : Int) + o := by decide) (hp : ((pc : Int) + o).toNat = pc' := by decide) : WlO l Z a0 EL y bs ml rt R as out Q sf h k n pc Ls (.int z :: .int x :: st) :=
  Wl.plain (fun p e m below c T hx hby A t kk => XS.icmpYes A hx rfl rfl (hb hby hd) rfl hc ho hp kk) hr
theorem Wl.icmpN (pc' : Nat) {cd : ClassFile.Cond} {o : Int} {x z : Int32} (hd : decode bs pc = .ok (.if_icmp cd o, 3)) (hc : if_icmp.holds cd x z = false) (hr : WlO l Z a0 EL y bs ml rt R as out Q sf h k n pc' Ls st) (hp : pc + 3 = pc' := by rfl) : WlO l Z a0 EL y bs ml rt R as out Q sf h k n pc Ls (.int z :: .int x :: st) := by
  subst hp; exact Wl.plain (fun p e m below c T hx hby A t kk => XS.icmpNo A hx rfl (hb hby hd) rfl hc kk) hr
theorem Wl.ifnullY (pc' : Nat) {o : Int} (hd : decode bs pc = .ok (.ifnull o, 3)) (hr : WlO l Z a0 EL y bs ml rt R as out Q sf h k n pc' Ls st) (ho : 0 ≤ (pc : Int) + o := by decide) (hp : ((pc : Int) + o).toNat = pc' := by decide) : WlO l Z a0 EL y bs ml rt R as out Q sf h k n pc Ls (.null :: st) :=
  Wl.plain (fun p e m below c T hx hby A t kk => XS.ifnullYes A hx rfl rfl (hb hby hd) rfl ho hp kk) hr
theorem Wl.ifnullN (pc' : Nat) {o : Int} {b : Addr} (hd : decode bs pc = .ok (.ifnull o, 3)) (hr : WlO l Z a0 EL y bs ml rt R as out Q sf h k n pc' Ls st) (hp : pc + 3 = pc' := by rfl) : WlO l Z a0 EL y bs ml rt R as out Q sf h k n pc Ls (.ref b :: st) := by
  subst hp; exact Wl.plain (fun p e m below c T hx hby A t kk => XS.ifnullNo A hx rfl (hb hby hd) rfl kk) hr
theorem Wl.ifnonnullY (pc' : Nat) {o : Int} {b : Addr} (hd : decode bs pc = .ok (.ifnonnull o, 3)) (hr : WlO l Z a0 EL y bs ml rt R as out Q sf h k n pc' Ls st) (ho : 0 ≤ (pc : Int) + o := by decide) (hp : ((pc : Int) + o).toNat = pc' := by decide) : WlO l Z a0 EL y bs ml rt R as out Q sf h k n pc Ls (.ref b :: st) :=
  Wl.plain (fun p e m below c T hx hby A t kk => XT.ifnonnullYes A hx rfl rfl (hb hby hd) rfl ho hp kk) hr
theorem Wl.ifnonnullN (pc' : Nat) {o : Int} (hd : decode bs pc = .ok (.ifnonnull o, 3)) (hr : WlO l Z a0 EL y bs ml rt R as out Q sf h k n pc' Ls st) (hp : pc + 3 = pc' := by rfl) : WlO l Z a0 EL y bs ml rt R as out Q sf h k n pc Ls (.null :: st) := by
  subst hp; exact Wl.plain (fun p e m below c T hx hby A t kk => XT.ifnonnullNo A hx rfl (hb hby hd) rfl kk) hr
theorem Wl.acmp (pc' : Nat) {cd : ACond} {o : Int} {v w : Value} (same : Bool) (hd : decode bs pc = .ok (.if_acmp cd o, 3)) (h1 : v.isRef = true) (h2 : w.isRef = true) (hq : decide (v = w) = same) (hr : WlO l Z a0 EL y bs ml rt R as out Q sf h k n pc' Ls st) (ho : 0 ≤ (pc : Int) + o := by decide) (hp : pc' = if acV cd same = true then ((pc : Int) + o).toNat else pc + 3 := by decide) : WlO l Z a0 EL y bs ml rt R as out Q sf h k n pc Ls (w :: v :: st) :=
  Wl.same (fun p e s m below meth c T vm0 locs hx hby _ _ _ X eT _ => ⟨T, X, eT, fun t kk => Jvm.RoadKit.acmp (g := mkF m pc Ls (w :: v :: st)) X hx rfl h1 h2 rfl (hb hby hd) rfl hq ho hp kk⟩) hr
/-! constants of the pool -/
theorem Wl.ldcI (pc' : Nat) {i : Nat} {v : Int32} (hd : decode bs pc = .ok (.ldc i, 2)) (w : (Jvm.Cond.constant y.cls i v).before a0 Z = true) (hr : WlO l Z a0 EL y bs ml rt R as out Q sf h k n pc' Ls (.int v :: st)) (hp : pc + 2 = pc' := by rfl) : WlO l Z a0 EL y bs ml rt R as out Q sf h k n pc Ls st := by
  subst hp; exact Wl.same (fun p e s m below meth c T vm0 locs hx hby _ hown hZ X eT _ => ⟨T, X, eT, fun t kk => Jvm.Stand.ldcI X hx (s := s.setVm vm0) hown (mv hZ w) rfl (hb hby hd) kk⟩) hr
theorem Wl.ldc_wI (pc' : Nat) {i : Nat} {v : Int32} (hd : decode bs pc = .ok (.ldc_w i, 3)) (w : (Jvm.Cond.constant y.cls i v).before a0 Z = true) (hr : WlO l Z a0 EL y bs ml rt R as out Q sf h k n pc' Ls (.int v :: st)) (hp : pc + 3 = pc' := by rfl) : WlO l Z a0 EL y bs ml rt R as out Q sf h k n pc Ls st := by
  subst hp; exact Wl.same (fun p e s m below meth c T vm0 locs hx hby _ hown hZ X eT _ => ⟨T, X, eT, fun t kk => Jvm.Stand.ldcWI X hx (s := s.setVm vm0) hown (mv hZ w) rfl (hb hby hd) kk⟩) hr
theorem Wl.ldc2J (pc' : Nat) {i : Nat} {v : Int64} (hd : decode bs pc = .ok (.ldc2_w i, 3)) (w : (Jvm.Cond.constantLong y.cls i v).before a0 Z = true) (hr : WlO l Z a0 EL y bs ml rt R as out Q sf h k n pc' Ls (.long v :: st)) (hp : pc + 3 = pc' := by rfl) : WlO l Z a0 EL y bs ml rt R as out Q sf h k n pc Ls st := by
  subst hp; exact Wl.same (fun p e s m below meth c T vm0 locs hx hby _ hown hZ X eT _ => ⟨T, X, eT, fun t kk => Jvm.Stand.ldc2J X hx (s := s.setVm vm0) hown (mv hZ w) rfl (hb hby hd) kk⟩) hr
/-! fields -/
theorem Wl.getfield (pc' : Nat) {i : Nat} {O fn d : String} {a : Addr} {v : Value} (hd : decode bs pc = .ok (.getfield i, 3)) (w : (Jvm.Cond.fieldLink y.cls i O fn d).before a0 Z = true) (F : Fld Z h a O fn d v) (hr : WlO l Z a0 EL y bs ml rt R as out Q sf h k n pc' Ls (v :: st)) (hp : pc + 3 = pc' := by rfl) : WlO l Z a0 EL y bs ml rt R as out Q sf h k n pc Ls (.ref a :: st) := by
  subst hp; exact Wl.same (fun p e s m below meth c T vm0 locs hx hby _ hown hZ X eT _ => getF X hx (s := s.setVm vm0) hZ hown (host := "") (Or.inl w) Via.refl eT F (g := mkF m pc Ls (.ref a :: st)) rfl rfl (hb hby hd)) hr
theorem Wl.getstatic (pc' : Nat) {i : Nat} {O fn d : String} {v : Value} (hd : decode bs pc = .ok (.getstatic i, 3)) (w : (Jvm.Cond.fieldLink y.cls i O fn d).before a0 Z = true) (F : Sta Z Z.heap O fn d v) (hr : WlO l Z a0 EL y bs ml rt R as out Q sf h k n pc' Ls (v :: st)) (hp : pc + 3 = pc' := by rfl) : WlO l Z a0 EL y bs ml rt R as out Q sf h k n pc Ls st := by
  subst hp; exact Wl.same (fun p e s m below meth c T vm0 locs hx hby _ hown hZ X eT hO => getS (host := "") X hx (s := s.setVm vm0) hZ hown w Via.refl eT (F.ext hO) (g := mkF m pc Ls st) rfl (hb hby hd)) hr
theorem Wl.getstaticN (pc' : Nat) {i : Nat} {O fn d host : String} {v : Value} (hd : decode bs pc = .ok (.getstatic i, 3)) (w : (Jvm.Cond.fieldLinkNest y.cls i O fn d host).before a0 Z = true) (F : Sta Z Z.heap O fn d v) (hr : WlO l Z a0 EL y bs ml rt R as out Q sf h k n pc' Ls (v :: st)) (hp : pc + 3 = pc' := by rfl) : WlO l Z a0 EL y bs ml rt R as out Q sf h k n pc Ls st := by
  subst hp; exact Wl.same (fun p e s m below meth c T vm0 locs hx hby _ hown hZ X eT hO => getS2 X hx (s := s.setVm vm0) hZ hown (Or.inr w) Via.refl eT (F.ext hO) (g := mkF m pc Ls st) rfl (hb hby hd)) hr
theorem Wl.putfield (pc' : Nat) {i kk : Nat} {O fn d K : String} {ty : FieldType} {a : Addr} {v old : Value} (hd : decode bs pc = .ok (.putfield i, 3)) (w : (Jvm.Cond.fieldLink y.cls i O fn d).before a0 Z = true) (F : Fld Z h a O fn d old) (E : Exa Z h a K)
    (L : (Jvm.Cond.lays K O fn d).before a0 Z = true ∨ ((Jvm.Cond.laysFinal K O fn d).before a0 Z = true ∧ y.cls = O ∧ y.name = "<init>")) (wi : (Jvm.Cond.instantiable K kk).before a0 Z = true) (hty : parseFieldDescriptor d = some ty) (hn : narrow ty v = v) (hf : fits ty v = true) (ha : a ∈ sf)
    (hr : ∀ h', Wr h h' a (Jvm.RoadKit.slotOf Z O fn d) v → WlO l Z a0 EL y bs ml rt R as out Q sf h' k n pc' Ls st) (hp : pc + 3 = pc' := by rfl) : WlO l Z a0 EL y bs ml rt R as out Q sf h k n pc Ls (v :: .ref a :: st) := by
  subst hp; exact Wl.write ha (fun p e s m below meth c T vm0 locs hx hby hnm hown hZ X eT => putF X hx (s := s.setVm vm0) hZ hown (host := "") (Or.inl w) Via.refl eT F E (L.imp id fun q => ⟨q.1, q.2.1, hnm.trans q.2.2⟩) wi hty hn hf (g := mkF m pc Ls (v :: .ref a :: st)) rfl rfl (hb hby hd)) hr
/-! new things -/
theorem Wl.new (pc' : Nat) {i cnt : Nat} {K : String} (hd : decode bs pc = .ok (.new i, 3)) (w : (Jvm.Cond.classLink y.cls i K).before a0 Z = true) (wi : (Jvm.Cond.instantiable K cnt).before a0 Z = true) (wz : (Jvm.Cond.initialized K).before a0 Z = true) (hc : k + 1 ≤ R.cells) (hl : n + cnt ≤ R.slots)
    (hr : ∀ (a : Addr) (h' : Heap), a = h.size → Ext h h' → Exa Z h' a K → (∀ {O nm d : String} {ty : FieldType}, Laid Z a0 K O nm d → parseFieldDescriptor d = some ty → Fld Z h' a O nm d (defaultValue ty)) → WlO l Z a0 EL y bs ml rt R as out Q (a :: sf) h' (k + 1) (n + cnt) pc' Ls (.ref a :: st)) (hp : pc + 3 = pc' := by rfl) : WlO l Z a0 EL y bs ml rt R as out Q sf h k n pc Ls st := by
  subst hp
  refine Wl.grow (st' := fun a => .ref a :: st) (F := fun h' a => Exa Z h' a K ∧ ∀ {O nm d : String} {ty : FieldType}, Laid Z a0 K O nm d → parseFieldDescriptor d = some ty → Fld Z h' a O nm d (defaultValue ty)) (fun p e s m below meth c T vm0 locs hx hby _ hown hZ X eT _ => ?_) (fun a h' ea E G => hr a h' ea E G.1 G.2)
  obtain ⟨T', h', X', e', E, G, D, -, stp⟩ := newO X hx (s := s.setVm vm0) hZ hown w wi wz eT (g := mkF m pc Ls st) rfl (hb hby hd) hc hl
  exact ⟨T', h', X', e', E, G.lt, ⟨G, D⟩, stp⟩
theorem Wl.newarray (pc' : Nat) {aty : ArrayType} {z : Int32} (cap : Nat) (hd : decode bs pc = .ok (.newarray aty, 2)) (w : (Jvm.Cond.arrayClass (newarray.typeOf aty)).before a0 Z = true) (hz : ¬ z < 0) (hcap : z.toNatClampNeg ≤ cap) (hb8 : cap * 8 ≤ 536870912) (hc : k + 1 ≤ R.cells) (hl : n + cap ≤ R.slots)
    (hr : ∀ (a : Addr) (h' : Heap) (cA : ClassId), a = h.size → Ext h h' → Arv Z h' a cA (newarray.typeOf aty) z (List.replicate z.toNatClampNeg (defaultValue (newarray.typeOf aty))) (defaultValue (newarray.typeOf aty)) → WlO l Z a0 EL y bs ml rt R as out Q (a :: sf) h' (k + 1) (n + cap) pc' Ls (.ref a :: st)) (hp : pc + 2 = pc' := by rfl) : WlO l Z a0 EL y bs ml rt R as out Q sf h k n pc Ls (.int z :: st) := by
  subst hp
  refine Wl.grow (st' := fun a => .ref a :: st) (F := fun h' a => ∃ cA, Arv Z h' a cA (newarray.typeOf aty) z (List.replicate z.toNatClampNeg (defaultValue (newarray.typeOf aty))) (defaultValue (newarray.typeOf aty))) (fun p e s m below meth c T vm0 locs hx hby _ hown hZ X eT _ => ?_) (fun a h' ea E G => by obtain ⟨cA, G⟩ := G; exact hr a h' cA ea E G)
  obtain ⟨T', h', cA, X', e', E, G, stp⟩ := newP X hx (s := s.setVm vm0) hZ w eT (g := mkF m pc Ls (.int z :: st)) rfl (hb hby hd) rfl hz hcap hb8 hc hl
  exact ⟨T', h', X', e', E, G.lt, ⟨cA, (Arv.new G hz).pad fun i => by simpa using pad_rep [] (defaultValue (newarray.typeOf aty)) z.toNatClampNeg i⟩, stp⟩
/-! arrays -/
theorem Wl.arraylength (pc' : Nat) {a : Addr} {kc : ClassId} {ty : FieldType} {z : Int32} {vs : List Value} {dv : Value} (hd : decode bs pc = .ok (.arraylength, 1)) (F : Arv Z h a kc ty z vs dv) (hr : WlO l Z a0 EL y bs ml rt R as out Q sf h k n pc' Ls (.int z :: st)) (hp : pc + 1 = pc' := by rfl) : WlO l Z a0 EL y bs ml rt R as out Q sf h k n pc Ls (.ref a :: st) := by
  subst hp
  refine Wl.same (fun p e s m below meth c T vm0 locs hx hby _ hown hZ X eT _ => ⟨T, X, eT, fun t kk => ?_⟩) hr
  obtain ⟨cl, A, q1, q2, q3, -⟩ := F
  refine X.arraylength hx (by rw [eT]; exact A.1) (State.isArrayOf_alike (T := s.setVm vm0) hZ.alike A.2.1) (g := mkF m pc Ls (.ref a :: st)) rfl rfl (hb hby hd) t ?_
  rw [len_of q2 q3]; exact kk
theorem inb {cl : Cell} {z j : Int32} {i : Nat} (S : cl.slots.size = z.toNatClampNeg) (hj : ¬ j < 0) (e : j.toNatClampNeg = i) (hi : i < z.toNatClampNeg) : ¬ (j < 0 ∨ cl.slots.size ≤ j.toNatClampNeg) := fun q => by
  rcases q with q | q
  · exact hj q
  · rw [S, e] at q; omega
theorem Wl.caload (pc' : Nat) {a : Addr} {kc : ClassId} {z j : Int32} {vs : List Value} {dv v : Value} (i : Nat) (hd : decode bs pc = .ok (.caload, 1)) (F : Arv Z h a kc .char z vs dv) (hj : ¬ j < 0) (ej : j.toNatClampNeg = i) (hi : i < z.toNatClampNeg) (hv : vs.getD i dv = v) (hr : WlO l Z a0 EL y bs ml rt R as out Q sf h k n pc' Ls (v :: st)) (hp : pc + 1 = pc' := by rfl) : WlO l Z a0 EL y bs ml rt R as out Q sf h k n pc Ls (.int j :: .ref a :: st) := by
  subst hp
  refine Wl.same (fun p e s m below meth c T vm0 locs hx hby _ hown hZ X eT _ => ⟨T, X, eT, fun t kk => ?_⟩) hr
  obtain ⟨cl, A, q1, q2, q3, H, -⟩ := F
  exact X.caload hx (by rw [eT]; exact A.1) (State.isArrayOf_alike (T := s.setVm vm0) hZ.alike A.2.1) A.2.2 (inb q2 hj ej hi) (H.at (inb q2 hj ej hi) (by rw [ej]; exact hv)) (g := mkF m pc Ls (.int j :: .ref a :: st)) rfl rfl (hb hby hd) t kk
theorem Wl.baload (pc' : Nat) {a : Addr} {kc : ClassId} {z j : Int32} {vs : List Value} {dv v : Value} (i : Nat) (hd : decode bs pc = .ok (.baload, 1)) (F : Arv Z h a kc .byte z vs dv) (hj : ¬ j < 0) (ej : j.toNatClampNeg = i) (hi : i < z.toNatClampNeg) (hv : vs.getD i dv = v) (hr : WlO l Z a0 EL y bs ml rt R as out Q sf h k n pc' Ls (v :: st)) (hp : pc + 1 = pc' := by rfl) : WlO l Z a0 EL y bs ml rt R as out Q sf h k n pc Ls (.int j :: .ref a :: st) := by
  subst hp
  refine Wl.same (fun p e s m below meth c T vm0 locs hx hby _ hown hZ X eT _ => ⟨T, X, eT, fun t kk => ?_⟩) hr
  obtain ⟨cl, A, q1, q2, q3, H, -⟩ := F
  exact X.baloadBytes hx (by rw [eT]; exact A.1) (State.isArrayOf_alike (T := s.setVm vm0) hZ.alike A.2.1) A.2.2 (inb q2 hj ej hi) (H.at (inb q2 hj ej hi) (by rw [ej]; exact hv)) (g := mkF m pc Ls (.int j :: .ref a :: st)) rfl rfl (hb hby hd) t kk
theorem Wl.castore (pc' : Nat) {a : Addr} {kc : ClassId} {z j x : Int32} {vs : List Value} {dv : Value} (i : Nat) (hd : decode bs pc = .ok (.castore, 1)) (F : Arv Z h a kc .char z vs dv) (ha : a ∈ sf) (hj : ¬ j < 0) (ej : j.toNatClampNeg = i) (hi : i < z.toNatClampNeg) (hi' : i < vs.length)
    (hr : ∀ h', Wr h h' a i (.int (nar .char x)) → Arv Z h' a kc .char z (vs.set i (.int (nar .char x))) dv → WlO l Z a0 EL y bs ml rt R as out Q sf h' k n pc' Ls st) (hp : pc + 1 = pc' := by rfl) : WlO l Z a0 EL y bs ml rt R as out Q sf h k n pc Ls (.int x :: .int j :: .ref a :: st) := by
  subst hp
  obtain ⟨cl, A, q1, q2, q3, H, G⟩ := F
  refine Wl.write (sl := i) (v := .int (nar .char x)) ha (fun p e s m below meth c T vm0 locs hx hby _ hown hZ X eT => ?_) (fun h' Wv => hr h' Wv (Arv.set A q1 q2 q3 H G (fits_nar_char x) (ej ▸ Wv) i ej hi'))
  subst ej
  exact stC X hx (s := s.setVm vm0) hZ eT A (inb q2 hj rfl hi) (g := mkF m pc Ls (.int x :: .int j :: .ref a :: st)) rfl rfl (hb hby hd)
theorem Wl.bastore (pc' : Nat) {a : Addr} {kc : ClassId} {z j x : Int32} {vs : List Value} {dv : Value} (i : Nat) (hd : decode bs pc = .ok (.bastore, 1)) (F : Arv Z h a kc .byte z vs dv) (ha : a ∈ sf) (hj : ¬ j < 0) (ej : j.toNatClampNeg = i) (hi : i < z.toNatClampNeg) (hi' : i < vs.length)
    (hr : ∀ h', Wr h h' a i (.int (nar .byte x)) → Arv Z h' a kc .byte z (vs.set i (.int (nar .byte x))) dv → WlO l Z a0 EL y bs ml rt R as out Q sf h' k n pc' Ls st) (hp : pc + 1 = pc' := by rfl) : WlO l Z a0 EL y bs ml rt R as out Q sf h k n pc Ls (.int x :: .int j :: .ref a :: st) := by
  subst hp
  obtain ⟨cl, A, q1, q2, q3, H, G⟩ := F
  refine Wl.write (sl := i) (v := .int (nar .byte x)) ha (fun p e s m below meth c T vm0 locs hx hby _ hown hZ X eT => ?_) (fun h' Wv => hr h' Wv (Arv.set A q1 q2 q3 H G (fits_nar_byte x) (ej ▸ Wv) i ej hi'))
  subst ej
  exact stB X hx (s := s.setVm vm0) hZ eT A (inb q2 hj rfl hi) (g := mkF m pc Ls (.int x :: .int j :: .ref a :: st)) rfl rfl (hb hby hd)
/-- System.arraycopy between arrays of one primitive kind, into an own array -/
theorem Wl.arraycopy (pc' : Nat) {i : Nat} {a b : Addr} {kc kc' : ClassId} {ty : FieldType} {z z' sp dp nn : Int32} {vs vd : List Value} {dv dd : Value} (hd : decode bs pc = .ok (.invokestatic i, 3))
    (w1 : (Jvm.Cond.methodLink y.cls i Jvm.Stand.acN).before a0 Z = true) (w2 : (Jvm.Cond.native Jvm.Stand.acN).before a0 Z = true) (w3 : (Jvm.Cond.static Jvm.Stand.acN).before a0 Z = true) (w4 : (Jvm.Cond.initialized "java/lang/System").before a0 Z = true)
    (A : Arv Z h a kc ty z vs dv) (B : Arv Z h b kc' ty z' vd dd) (hty : refKind ty = false) (h1 : ¬ sp < 0) (h2 : ¬ dp < 0) (h3 : ¬ nn < 0) (h4 : sp.toNatClampNeg + nn.toNatClampNeg ≤ z.toNatClampNeg) (h5 : dp.toNatClampNeg + nn.toNatClampNeg ≤ z'.toNatClampNeg) (hl : dp.toNatClampNeg + nn.toNatClampNeg ≤ vd.length) (hbs : b ∈ sf) (hsz : Ls.size = ml) (hf : 1 ≤ R.frames) (hlo : (st.map fun v => v.category).sum + (nativeFrameWords "java/lang/System" "arraycopy" 5 + 11) ≤ R.locals)
    (hr : ∀ h', Keep h h' [b] → Arv Z h' b kc' ty z' (vd.take dp.toNatClampNeg ++ ((List.range nn.toNatClampNeg).map fun i => vs.getD (sp.toNatClampNeg + i) dv) ++ vd.drop (dp.toNatClampNeg + nn.toNatClampNeg)) dd → WlO l Z a0 EL y bs ml rt R as out Q sf h' k n pc' Ls st) (hp : pc + 3 = pc' := by rfl) : WlO l Z a0 EL y bs ml rt R as out Q sf h k n pc Ls (.int nn :: .int dp :: .ref b :: .int sp :: .ref a :: st) := by
  subst hp
  intro p e s m below meth c T W
  obtain ⟨A0, vm0, locs, k0, X, eT, hS, hk, hF, hZ, hC, hM, hH⟩ := W
  obtain ⟨T', h', L', X', e', hF', K, G, stp⟩ := cpA X A0.1 (s := s.setVm vm0) hZ (by show vm0.findClass y.cls = _; rw [hS.1.alike.findClass]; exact A0.2.2.2.2.2.2.1) w1 w2 w3 w4 eT A B (Or.inl ⟨rfl, hty⟩) h1 h2 h3 h4 h5 rfl hl hF (hM b hbs).2.1 (g := mkF m pc Ls (.int nn :: .int dp :: .ref b :: .int sp :: .ref a :: st)) rfl (by rw [A0.2.2.1]; exact hsz) rfl (hb A0.2.1 hd) hf (W := (st.map fun v => v.category).sum) (by show 2 * 0 + _ ≤ _; omega) hlo
  have Bc := CHr.keep (Z := Z) (EL := EL) (vm := vm0) K (fun x hx => by cases List.mem_singleton.mp hx; exact (hM b hbs).1) hC.1
  exact Go.of stp (hr h' K G p e s m below meth c T' ⟨A0, vm0, L', k0, X', e', hS, Nat.le_trans hk K.1, hF', hZ, hC.trans Bc, hM.chr Bc, hH⟩)
/-! Object.<init>, classes -/
theorem Wl.initO (pc' : Nat) {i : Nat} {a : Addr} (hd : decode bs pc = .ok (.invokespecial i, 3)) (w1 : (Jvm.Cond.methodLink y.cls i Lib.objectInit).before a0 Z = true) (w2 : (Jvm.Cond.instanceMethod Lib.objectInit).before a0 Z = true) (w3 : (Jvm.Cond.code Lib.objectInit ⟨#[0xb1]⟩ 1 none).before a0 Z = true) (hsz : Ls.size = ml) (hf : 1 ≤ R.frames) (hl : (st.map fun v => v.category).sum + 12 ≤ R.locals)
    (hr : WlO l Z a0 EL y bs ml rt R as out Q sf h k n pc' Ls st) (hp : pc + 3 = pc' := by rfl) : WlO l Z a0 EL y bs ml rt R as out Q sf h k n pc Ls (.ref a :: st) := by
  subst hp; exact Wl.same (fun p e s m below meth c T vm0 locs hx hby hml hown hZ X eT _ => Jvm.RoadKit.initO X hx (s := s.setVm vm0) hZ hown w1 w2 w3 eT (g := mkF m pc Ls (.ref a :: st)) rfl (by rw [hml]; exact hsz) rfl (hb hby hd) hf (W := (st.map fun v => v.category).sum) (by show 2 * 0 + _ ≤ _; omega) hl) hr
theorem Wl.checkcast (pc' : Nat) {i : Nat} {K : String} {a : Addr} (hd : decode bs pc = .ok (.checkcast i, 3)) (w : (Jvm.Cond.classLink y.cls i K).before a0 Z = true) (F : Ins Z h a K true) (hr : WlO l Z a0 EL y bs ml rt R as out Q sf h k n pc' Ls (.ref a :: st)) (hp : pc + 3 = pc' := by rfl) : WlO l Z a0 EL y bs ml rt R as out Q sf h k n pc Ls (.ref a :: st) := by
  subst hp; exact Wl.same (fun p e s m below meth c T vm0 locs hx hby hml hown hZ X eT _ => castY X hx (s := s.setVm vm0) hZ hown w eT F (g := mkF m pc Ls (.ref a :: st)) rfl rfl (hb hby hd)) hr
theorem Wl.instY (pc' : Nat) {i : Nat} {K : String} {a : Addr} (hd : decode bs pc = .ok (.instanceof i, 3)) (w : (Jvm.Cond.classLink y.cls i K).before a0 Z = true) (F : Ins Z h a K true) (hr : WlO l Z a0 EL y bs ml rt R as out Q sf h k n pc' Ls (.int 1 :: st)) (hp : pc + 3 = pc' := by rfl) : WlO l Z a0 EL y bs ml rt R as out Q sf h k n pc Ls (.ref a :: st) := by
  subst hp; exact Wl.same (fun p e s m below meth c T vm0 locs hx hby hml hown hZ X eT _ => Jvm.RoadKit.instY X hx (s := s.setVm vm0) hZ hown w eT F (g := mkF m pc Ls (.ref a :: st)) rfl rfl (hb hby hd)) hr
theorem Wl.instN (pc' : Nat) {i : Nat} {K K' : String} {a : Addr} (hd : decode bs pc = .ok (.instanceof i, 3)) (w : (Jvm.Cond.classLink y.cls i K).before a0 Z = true) (E : Exa Z h a K') (F : ∃ c t, Z.vm.findClass K' = some c ∧ Z.vm.findClass K = some t ∧ Z.vm.assignable c t = false) (hr : WlO l Z a0 EL y bs ml rt R as out Q sf h k n pc' Ls (.int 0 :: st)) (hp : pc + 3 = pc' := by rfl) : WlO l Z a0 EL y bs ml rt R as out Q sf h k n pc Ls (.ref a :: st) := by
  subst hp; exact Wl.same (fun p e s m below meth c T vm0 locs hx hby hml hown hZ X eT _ => instNo X hx (s := s.setVm vm0) hZ hown w eT E F (g := mkF m pc Ls (.ref a :: st)) rfl rfl (hb hby hd)) hr
theorem Wl.instNull (pc' : Nat) {i : Nat} (hd : decode bs pc = .ok (.instanceof i, 3)) (hr : WlO l Z a0 EL y bs ml rt R as out Q sf h k n pc' Ls (.int 0 :: st)) (hp : pc + 3 = pc' := by rfl) : WlO l Z a0 EL y bs ml rt R as out Q sf h k n pc Ls (.null :: st) := by
  subst hp; exact Wl.same (fun p e s m below meth c T vm0 locs hx hby hml hown hZ X eT _ => ⟨T, X, eT, X.instanceofNull hx (g := mkF m pc Ls (.null :: st)) rfl rfl (hb hby hd)⟩) hr
/-- C's only superclass is S, who has none; K is another plain class -/
theorem notInst {K' S K : String} {cnt : Nat} (w : (Jvm.Cond.superclass K' S).before a0 Z = true) (wo : (Jvm.Cond.noSuperclass S).before a0 Z = true) (wi : (Jvm.Cond.instantiable K cnt).before a0 Z = true) (h1 : S ≠ K) (h2 : K' ≠ K) : ∃ c t, Z.vm.findClass K' = some c ∧ Z.vm.findClass K = some t ∧ Z.vm.assignable c t = false := by
  obtain ⟨t, kt, g0, g2, g5, g7, -⟩ := Cond.instantiable_spec wi
  obtain ⟨c', k', s1, s2, s3, -, -⟩ := Cond.noSuperclass_spec wo
  obtain ⟨c, h0⟩ := found_sup w
  obtain ⟨p, k, kp, q1, q2, q3, q4, q5, -, q7⟩ := Cond.superclass_spec h0 w
  cases s1.symm.trans q1
  have ne := ids_ne h0 g0 h2
  have ne' := ids_ne s1 g0 h1
  have hi : kt.isInterface = false := by
    cases hq : kt.isInterface with
    | false => rfl
    | true => rw [hq] at g7; simp at g7
  have n3 : ∀ fuel, Z.vm.isSubclassAux fuel c t = false := fun fuel => by
    cases fuel with
    | zero => rfl
    | succ f =>
      have m3 : Z.vm.isSubclassAux f c' t = false := by
        cases f with
        | zero => rfl
        | succ f => simp [Vm.isSubclassAux, ne', s2, s3]
      simp [Vm.isSubclassAux, ne, q2, q4, m3]
  refine ⟨c, t, h0, g0, ?_⟩
  show Z.vm.assignableAux (255 + 1) c t = false
  simp [Vm.assignableAux, ne, q2, g2, q5, g5, hi, Vm.isSubclass, n3]
/-! returns -/
theorem Wl.ret {v : Option Value} (hv : rt = none → v = none) (hk : k ≤ R.cells) (hn : n ≤ R.slots)
    (f : ∀ (p : Program) (e : Env) (s : State) (m : MethodId) (below : List Frame) (meth : Method) (c : Code) (T : State) (vm0 : Vm) (locs : List Loc) (fs : List Frame), p.tables.exec = Jvm.exec → c.code = bs → meth.sig.returnType = rt → Stand p l e R (s.setVm vm0) m as below meth c T locs k n →
      (∀ (f : JFrame) (acts : List Action), f.method = m → f.locked = none → f.entered = [] → (doReturn e (T.setTop f) acts v).1 = T.setFrames fs) → Steps p.tables e below (T.setTop (mkF m pc Ls st)) (T.setFrames fs))
    (hq : Q v h) (ho : ∀ x ∈ out, x ∈ sf) : WlO l Z a0 EL y bs ml rt R as out Q sf h k n pc Ls st := by
  intro p e s m below meth c T W
  obtain ⟨⟨hx, hby, hml, hrt, hlk, hnm, hown, hEL, hO⟩, vm0, locs, k0, X, eT, hS, hk0, hF, hZ, hC, hM, hH⟩ := W
  obtain ⟨fs, hr, hrun, hend, hE⟩ := X.leaveW hS (by rw [eT]; exact hk0) (v := v) (fun q => hv (hrt ▸ q)) hlk
  refine ⟨_, _, f p e s m below meth c T vm0 locs fs hx hby hrt X hr, hrun, hend, v, locs, rfl, ⟨by show Q v T.heap; rw [eT]; exact hq, hF⟩, ?_, ⟨hE.1, hE.2.1, hE.2.2.1, hE.2.2.2.mono hk hn⟩, fun q => State.WarmedH.trans (t := s.setVm vm0) (hH q) X.warmed, ?_⟩
  · show CHr Z EL s.vm s.heap T.vm T.heap
    rw [eT]
    exact hC.trans (CHv.at X hZ hEL hC.1)
  · show Mine Z EL T.vm T.heap out
    rw [eT]
    exact (hM.chr (CHv.at X hZ hEL hC.1)).sub ho
theorem Wl.return_ (hd : decode bs pc = .ok (.return_, 1)) (hrt : rt = none) (hk : k ≤ R.cells) (hn : n ≤ R.slots) (hq : Q none h) (ho : ∀ x ∈ out, x ∈ sf := by exact fun _ q => nomatch q) : WlO l Z a0 EL y bs ml rt R as out Q sf h k n pc Ls [] :=
  Wl.ret (fun _ => rfl) hk hn (fun p e s m below meth c T vm0 locs fs hx hby hr X hl => X.returnOut hx (hr.trans hrt) (hb hby hd) hl) hq ho
theorem Wl.areturn {v : Value} {t : FieldType} (hd : decode bs pc = .ok (.areturn, 1)) (hrt : rt = some t) (ht : t.isReference = true) (hv : v.isRef = true) (hk : k ≤ R.cells) (hn : n ≤ R.slots) (hq : Q (some v) h) (ho : ∀ x ∈ out, x ∈ sf := by exact fun _ q => nomatch q) : WlO l Z a0 EL y bs ml rt R as out Q sf h k n pc Ls [v] :=
  Wl.ret (fun q => by rw [hrt] at q; cases q) hk hn (fun p e s m below meth c T vm0 locs fs hx hby hr X hl => X.areturnOut hx hv (hr.trans hrt) ht (hb hby hd) hl) hq ho
theorem Wl.ireturn {x : Int32} {t : FieldType} (hd : decode bs pc = .ok (.ireturn, 1)) (hrt : rt = some t) (hn1 : narrow t (.int x) = .int x) (ht : t = .int ∨ t = .boolean ∨ t = .byte ∨ t = .char ∨ t = .short) (hk : k ≤ R.cells) (hn : n ≤ R.slots) (hq : Q (some (.int x)) h) (ho : ∀ x ∈ out, x ∈ sf := by exact fun _ q => nomatch q) : WlO l Z a0 EL y bs ml rt R as out Q sf h k n pc Ls [.int x] :=
  Wl.ret (fun q => by rw [hrt] at q; cases q) hk hn (fun p e s m below meth c T vm0 locs fs hx hby hr X hl => X.ireturnOut hx (hr.trans hrt) hn1 ht (hb hby hd) hl) hq ho
/-! a body's walk is its contract; a contract pays a call -/
theorem Met.of_walk {ws : List Jvm.Cond} (hpn : plainFor y = true) (hEL : EW Z a0 EL) (hE : argsToLocals as ml = Ls) (hw : WlO l Z a0 EL y bs ml rt R as out Q sf h 0 0 0 Ls []) : MetO l Z EL y bs ml rt ws R as h sf out Q := by
  refine MetFree.of_bodySF hpn hisR ?_
  intro p e s m args below meth c s₁ Bd hml0 hP hK
  obtain ⟨rfl, hZ, hh, hC, hO, hM⟩ := hP
  have X0 : Stand p l e R s m args below meth c s₁ [] 0 0 := Stand.of_body Bd
  have e0 : s₁.heap = h := by rw [← hh, Bd.state]; rfl
  have hown : s.vm.findClass y.cls = some m.cls := findClass_of_methodNamed Bd.named
  have g := hw p e s m below meth c s₁ ⟨⟨Bd.exec, Bd.bytes, hml0, Bd.returns, Bd.notSynchronized, (name_of_methodNamed Bd.named Bd.method).1, hown, hEL, by rw [hh]; exact hO⟩, s.vm, [], h.size, X0, e0, (State.WarmedH.refl s).since _, Nat.le_refl _, Fr.nil _, hZ, by rw [hh]; exact CHr.refl hC, hM, fun _ => State.WarmedH.refl s⟩
  obtain ⟨s₂, o, g1, g2, g3, g4⟩ := g
  refine ⟨s₂, o, ?_, g2, g3, g4⟩
  have q : entryFrame m args ml = mkF m 0 Ls [] := by rw [← hE]; rfl
  exact castTop q g1
theorem Met.back {y2 : MethodName} {bs2 : ByteArray} {ml2 : Nat} {rt2 : Option FieldType} {rm : Room} {as2 : Array Value} {sf2 out2 : List Addr} {Q2 : Option Value → Heap → Prop} {len W : Nat} {vm0 : Vm} {args : Array Value}
    (hM : MetO l Z EL y2 bs2 ml2 rt2 [] rm as2 h sf2 out2 Q2) (hZ : Z.Warmed39 vm0) (wc : (Jvm.Cond.code y2 bs2 ml2 rt2).before a0 Z = true) (wz : (Jvm.Cond.initialized y2.cls).before a0 Z = true) (hf : rm.frames + 1 ≤ R.frames) (hl : W + (ml2 + 11) + rm.locals ≤ R.locals) (hEL : EW Z a0 EL) (H : CHv Z EL vm0 h) (hO : Ext Z.heap h) (hS : Mine Z EL vm0 h sf2) :
    BackS l R p e below (s.setVm vm0) args y2 len W (fun A a => a = as2 ∧ A.U.heap = h ∧ A.cells + rm.cells ≤ R.cells ∧ A.slots + rm.slots ≤ R.slots)
      (fun A _ v B => ∃ L, (Q2 v B.U.heap ∧ Fr Z.heap.size L) ∧ B.locs = A.locs ++ L ∧ B.cells = A.cells + rm.cells ∧ B.slots = A.slots + rm.slots ∧ CHr Z EL vm0 h B.U.vm B.U.heap ∧ (EL = [] → (s.setVm vm0).WarmedH B.U.vm) ∧ Mine Z EL B.U.vm B.U.heap out2) :=
  BackS.of_freeW (bytes := bs2) (maxL := ml2) (ret := rt2) (E := fun _ first o t L k n => k = rm.cells ∧ n = rm.slots ∧ (∃ v, o = .returned v ∧ (Q2 v t.heap ∧ Fr Z.heap.size L)) ∧ CHr Z EL first.vm first.heap t.vm t.heap ∧ (EL = [] → first.WarmedH t.vm) ∧ Mine Z EL t.vm t.heap out2) hM hf hl
    (fun m meth c A a Y hp => have hU : Z.Warmed39 A.U.vm := wtrans (s := s.setVm vm0) hZ Y.warmed
      ⟨by show (Jvm.Cond.and _ .tt).before a A.U = true; rw [Cond.before_and, mv hU wc]; rfl, mv hU wc, mv hU wz, hp.2.2.1, hp.2.2.2⟩)
    (fun m meth c A a g mk Y hp => ⟨hp.1, wtrans (s := s.setVm vm0) hZ Y.warmed, hp.2.1, (show CHv Z EL A.U.vm h from (CHv.at Y hZ hEL H).1), hO, (show Mine Z EL A.U.vm h sf2 from hS.chr (CHv.at Y hZ hEL H))⟩) (fun _ _ _ _ _ _ _ _ _ => trivial)
    (fun _ _ _ _ ⟨v, L, h1, h2, h3, h4, h5⟩ => ⟨L, _, _, h4, rfl, rfl, ⟨v, h1, h2⟩, h3, h5⟩)
    (fun m meth c A a g mk v t L k n Y hp _ _ ⟨e1, e2, ⟨v', e3, e4⟩, e5, e6, e7⟩ => by
      cases e3; subst e1 e2
      refine ⟨L, e4, rfl, rfl, rfl, (CHv.at Y hZ hEL H).trans ?_, fun q => State.WarmedH.trans (t := A.U.calling g mk a) Y.warmed (e6 q), e7⟩
      rw [← hp.2.1]; exact e5)
/-- a call: what the three kinds share -/
theorem Wl.call {st0 : List Value} {y2 : MethodName} {bs2 : ByteArray} {ml2 : Nat} {rt2 : Option FieldType} {rm : Room} {as2 : Array Value} {sf2 out2 sf' : List Addr} {Q2 : Option Value → Heap → Prop} {len pc' : Nat}
    (hM : MetO l Z EL y2 bs2 ml2 rt2 [] rm as2 h sf2 out2 Q2) (wc : (Jvm.Cond.code y2 bs2 ml2 rt2).before a0 Z = true) (wz : (Jvm.Cond.initialized y2.cls).before a0 Z = true) (hsub : ∀ x ∈ sf2, x ∈ sf) (hf : rm.frames + 1 ≤ R.frames) (hl : (st.map fun v => v.category).sum + (ml2 + 11) + rm.locals ≤ R.locals) (hc : k + rm.cells ≤ R.cells) (hs : n + rm.slots ≤ R.slots)
    (f : ∀ (p : Program) (e : Env) (s : State) (m : MethodId) (below : List Frame) (meth : Method) (c : Code) (T : State) (vm0 : Vm) (locs : List Loc),
      p.tables.exec = Jvm.exec → c.code = bs → c.maxLocals = ml → vm0.findClass y.cls = some m.cls → Z.Warmed39 vm0 → Stand p l e R (s.setVm vm0) m as below meth c T locs k n → T.heap = h →
      ∀ {Post : Pt → Array Value → Option Value → Pt → Prop}, BackS l R p e below (s.setVm vm0) as y2 len (st.map fun v => v.category).sum (fun A a => a = as2 ∧ A.U.heap = h ∧ A.cells + rm.cells ≤ R.cells ∧ A.slots + rm.slots ≤ R.slots) Post →
      ∃ (v : Option Value) (vm₁ : Vm) (B : Pt), (s.setVm vm0).WarmedH vm₁ ∧ Stand p l e R ((s.setVm vm0).setVm B.U.vm) m as below meth c B.U B.locs B.cells B.slots ∧ (s.setVm vm0).Since B.U.vm B.U.heap.size ∧ T.heap.size ≤ B.U.heap.size ∧ Post ⟨T.setVm vm₁, locs, k, n⟩ as2 v B ∧
        Steps p.tables e below (T.setTop (mkF m pc Ls st0)) (B.U.setTop (mkF m pc' Ls (v.toList ++ st))))
    (hsf' : ∀ x ∈ sf', x ∈ out2 ∨ x ∈ sf) (hr : ∀ v h', Q2 v h' → h.size ≤ h'.size → WlO l Z a0 EL y bs ml rt R as out Q sf' h' (k + rm.cells) (n + rm.slots) pc' Ls (v.toList ++ st)) : WlO l Z a0 EL y bs ml rt R as out Q sf h k n pc Ls st0 := by
  intro p e s m below meth c T W
  have hO := W.old
  obtain ⟨A, vm0, locs, k0, X, eT, hS, hk, hF, hZ, hC, hMi, hH⟩ := W
  obtain ⟨v, vm₁, ⟨T', L', k', n'⟩, -, X', hS', hg, ⟨Lc, ⟨hq, hFc⟩, l1, l2, l3, hC', hH', hMo⟩, stp⟩ := f p e s m below meth c T vm0 locs A.1 A.2.1 A.2.2.1 (by rw [hS.1.alike.findClass]; exact A.2.2.2.2.2.2.1) hZ X eT (Met.back (W := (st.map fun v => v.category).sum) (R := R) (a0 := a0) hM hZ wc wz hf hl A.2.2.2.2.2.2.2.1 hC.1 hO (hMi.sub hsub))
  dsimp only [Pt.U, Pt.locs, Pt.cells, Pt.slots] at X' hS' hg hq l1 l2 l3 hC' hH' hMo stp
  subst l1 l2 l3
  have hS2 := hS.trans hS' (Nat.le_trans hk (by rw [← eT]; exact hg))
  refine Go.of (fun t kk => stp.trans kk) (hr v T'.heap hq hC'.2.1 p e s m below meth c T' ⟨A, T'.vm, locs ++ Lc, T'.heap.size, X', rfl, hS2, Nat.le_refl _, Fr.app hF hFc, State.Warmed39.trans (t := s.setVm vm0) hZ hS'.1, hC.trans hC', fun x hx => (hsf' x hx).elim (hMo x) ((hMi.chr hC') x), fun q => State.WarmedH.trans (s := s) (t := s.setVm vm0) (hH q) (hH' q)⟩)
theorem Wl.static (pc' : Nat) {st0 : List Value} {i : Nat} {y2 : MethodName} {bs2 : ByteArray} {ml2 : Nat} {rt2 : Option FieldType} {rm : Room} {argsL : List Value} {sf2 out2 : List Addr} {Q2 : Option Value → Heap → Prop} {ps : List FieldType} {r : Option FieldType}
    (hd : decode bs pc = .ok (.invokestatic i, 3)) (w1 : (Jvm.Cond.methodLink y.cls i y2).before a0 Z = true) (w2 : (Jvm.Cond.static y2).before a0 Z = true) (wz : (Jvm.Cond.initialized y2.cls).before a0 Z = true) (wc : (Jvm.Cond.code y2 bs2 ml2 rt2).before a0 Z = true)
    (hsig : parseMethodDescriptor y2.desc = some ⟨ps, r⟩) (hlen : argsL.length = ps.length) (hM : MetO l Z EL y2 bs2 ml2 rt2 [] rm argsL.toArray h sf2 out2 Q2) (hsub : ∀ x ∈ sf2, x ∈ sf) (hst : st0 = argsL.reverse ++ st) (hsz : Ls.size = ml) (hp : pc + 3 = pc') (hy : y2.cls ≠ "java/lang/invoke/MethodHandle" ∧ y2.cls ≠ "java/lang/invoke/VarHandle")
    (hroom : (rm.frames + 1 ≤ R.frames ∧ (st.map fun v => v.category).sum + (ml2 + 11) + rm.locals ≤ R.locals) ∧ k + rm.cells ≤ R.cells ∧ n + rm.slots ≤ R.slots)
    (hr : ∀ v h', Q2 v h' → h.size ≤ h'.size → WlO l Z a0 EL y bs ml rt R as out Q sf h' (k + rm.cells) (n + rm.slots) pc' Ls (v.toList ++ st)) : WlO l Z a0 EL y bs ml rt R as out Q sf h k n pc Ls st0 := by
  subst hp
  exact Wl.call (len := 3) hM wc wz hsub hroom.1.1 hroom.1.2 hroom.2.1 hroom.2.2 (fun p e s m below meth c T vm0 locs hx hby hml hown hZ X eT {Post} hK =>
    callSS X hx (s := s.setVm vm0) hown (mvT hZ w1) (mvT hZ w2) (mvT hZ wz) (mvT hZ wc) hy hK (g := mkF m pc Ls st0) rfl (by rw [hml]; exact hsz) (argsL := argsL) (rest := st) (lenOf hsig hlen) hst (by show 2 * 0 + _ ≤ _; omega) (hb hby hd) (fun _ _ => ⟨rfl, eT, hroom.2.1, hroom.2.2⟩)) (fun _ q => Or.inr q) hr
theorem Wl.staticO (pc' : Nat) {st0 : List Value} {i : Nat} {y2 : MethodName} {bs2 : ByteArray} {ml2 : Nat} {rt2 : Option FieldType} {rm : Room} {argsL : List Value} {sf2 : List Addr} {d : Addr} {Q2 : Option Value → Heap → Prop} {ps : List FieldType} {r : Option FieldType}
    (hd : decode bs pc = .ok (.invokestatic i, 3)) (w1 : (Jvm.Cond.methodLink y.cls i y2).before a0 Z = true) (w2 : (Jvm.Cond.static y2).before a0 Z = true) (wz : (Jvm.Cond.initialized y2.cls).before a0 Z = true) (wc : (Jvm.Cond.code y2 bs2 ml2 rt2).before a0 Z = true)
    (hsig : parseMethodDescriptor y2.desc = some ⟨ps, r⟩) (hlen : argsL.length = ps.length) (hM : MetO l Z EL y2 bs2 ml2 rt2 [] rm argsL.toArray h sf2 [d] Q2) (hsub : ∀ x ∈ sf2, x ∈ sf) (hst : st0 = argsL.reverse ++ st) (hsz : Ls.size = ml) (hp : pc + 3 = pc') (hy : y2.cls ≠ "java/lang/invoke/MethodHandle" ∧ y2.cls ≠ "java/lang/invoke/VarHandle")
    (hroom : (rm.frames + 1 ≤ R.frames ∧ (st.map fun v => v.category).sum + (ml2 + 11) + rm.locals ≤ R.locals) ∧ k + rm.cells ≤ R.cells ∧ n + rm.slots ≤ R.slots)
    (hr : ∀ v h', Q2 v h' → h.size ≤ h'.size → WlO l Z a0 EL y bs ml rt R as out Q (d :: sf) h' (k + rm.cells) (n + rm.slots) pc' Ls (v.toList ++ st)) : WlO l Z a0 EL y bs ml rt R as out Q sf h k n pc Ls st0 := by
  subst hp
  exact Wl.call (len := 3) hM wc wz hsub hroom.1.1 hroom.1.2 hroom.2.1 hroom.2.2 (fun p e s m below meth c T vm0 locs hx hby hml hown hZ X eT {Post} hK =>
    callSS X hx (s := s.setVm vm0) hown (mvT hZ w1) (mvT hZ w2) (mvT hZ wz) (mvT hZ wc) hy hK (g := mkF m pc Ls st0) rfl (by rw [hml]; exact hsz) (argsL := argsL) (rest := st) (lenOf hsig hlen) hst (by show 2 * 0 + _ ≤ _; omega) (hb hby hd) (fun _ _ => ⟨rfl, eT, hroom.2.1, hroom.2.2⟩)) (fun x q => (List.mem_cons.mp q).elim (fun e => Or.inl (e ▸ List.mem_singleton.mpr rfl)) Or.inr) hr
theorem Wl.special (pc' : Nat) {st0 : List Value} {i : Nat} {y2 : MethodName} {bs2 : ByteArray} {ml2 : Nat} {rm : Room} {a : Addr} {argsL : List Value} {sf2 out2 : List Addr} {Q2 : Option Value → Heap → Prop} {ps : List FieldType} {r : Option FieldType}
    (hd : decode bs pc = .ok (.invokespecial i, 3)) (w1 : (Jvm.Cond.methodLink y.cls i y2).before a0 Z = true) (w2 : (Jvm.Cond.instanceMethod y2).before a0 Z = true) (wz : (Jvm.Cond.initialized y2.cls).before a0 Z = true) (wc : (Jvm.Cond.code y2 bs2 ml2 none).before a0 Z = true)
    (hsig : parseMethodDescriptor y2.desc = some ⟨ps, r⟩) (hlen : argsL.length = ps.length) (hM : MetO l Z EL y2 bs2 ml2 none [] rm (.ref a :: argsL).toArray h sf2 out2 Q2) (hsub : ∀ x ∈ sf2, x ∈ sf) (hst : st0 = argsL.reverse ++ .ref a :: st) (hsz : Ls.size = ml) (hp : pc + 3 = pc') (hni : y2.name = "<init>") (hy : y2.cls ≠ "java/lang/invoke/MethodHandle" ∧ y2.cls ≠ "java/lang/invoke/VarHandle")
    (hroom : (rm.frames + 1 ≤ R.frames ∧ (st.map fun v => v.category).sum + (ml2 + 11) + rm.locals ≤ R.locals) ∧ k + rm.cells ≤ R.cells ∧ n + rm.slots ≤ R.slots)
    (hr : ∀ v h', Q2 v h' → h.size ≤ h'.size → WlO l Z a0 EL y bs ml rt R as out Q sf h' (k + rm.cells) (n + rm.slots) pc' Ls (v.toList ++ st)) : WlO l Z a0 EL y bs ml rt R as out Q sf h k n pc Ls st0 := by
  subst hp
  exact Wl.call (len := 3) hM wc wz hsub hroom.1.1 hroom.1.2 hroom.2.1 hroom.2.2 (fun p e s m below meth c T vm0 locs hx hby hml hown hZ X eT {Post} hK =>
    X.specialBackS hx (s := s.setVm vm0) hni hown (mvT hZ w1) (mvT hZ w2) (mvT hZ wc) hy hK (g := mkF m pc Ls st0) rfl (by rw [hml]; exact hsz) (Steps.refl _) (a := a) (argsL := argsL) (rest := st) (lenOf hsig hlen) hst (by show 2 * 0 + _ ≤ _; omega) (hb hby hd) (fun _ _ => ⟨rfl, eT, hroom.2.1, hroom.2.2⟩)) (fun _ q => Or.inr q) hr
theorem Wl.specialO (pc' : Nat) {st0 : List Value} {i : Nat} {y2 : MethodName} {bs2 : ByteArray} {ml2 : Nat} {rm : Room} {a : Addr} {argsL : List Value} {sf2 : List Addr} {d : Addr} {Q2 : Option Value → Heap → Prop} {ps : List FieldType} {r : Option FieldType}
    (hd : decode bs pc = .ok (.invokespecial i, 3)) (w1 : (Jvm.Cond.methodLink y.cls i y2).before a0 Z = true) (w2 : (Jvm.Cond.instanceMethod y2).before a0 Z = true) (wz : (Jvm.Cond.initialized y2.cls).before a0 Z = true) (wc : (Jvm.Cond.code y2 bs2 ml2 none).before a0 Z = true)
    (hsig : parseMethodDescriptor y2.desc = some ⟨ps, r⟩) (hlen : argsL.length = ps.length) (hM : MetO l Z EL y2 bs2 ml2 none [] rm (.ref a :: argsL).toArray h sf2 [d] Q2) (hsub : ∀ x ∈ sf2, x ∈ sf) (hst : st0 = argsL.reverse ++ .ref a :: st) (hsz : Ls.size = ml) (hp : pc + 3 = pc') (hni : y2.name = "<init>") (hy : y2.cls ≠ "java/lang/invoke/MethodHandle" ∧ y2.cls ≠ "java/lang/invoke/VarHandle")
    (hroom : (rm.frames + 1 ≤ R.frames ∧ (st.map fun v => v.category).sum + (ml2 + 11) + rm.locals ≤ R.locals) ∧ k + rm.cells ≤ R.cells ∧ n + rm.slots ≤ R.slots)
    (hr : ∀ v h', Q2 v h' → h.size ≤ h'.size → WlO l Z a0 EL y bs ml rt R as out Q (d :: sf) h' (k + rm.cells) (n + rm.slots) pc' Ls (v.toList ++ st)) : WlO l Z a0 EL y bs ml rt R as out Q sf h k n pc Ls st0 := by
  subst hp
  exact Wl.call (len := 3) hM wc wz hsub hroom.1.1 hroom.1.2 hroom.2.1 hroom.2.2 (fun p e s m below meth c T vm0 locs hx hby hml hown hZ X eT {Post} hK =>
    X.specialBackS hx (s := s.setVm vm0) hni hown (mvT hZ w1) (mvT hZ w2) (mvT hZ wc) hy hK (g := mkF m pc Ls st0) rfl (by rw [hml]; exact hsz) (Steps.refl _) (a := a) (argsL := argsL) (rest := st) (lenOf hsig hlen) hst (by show 2 * 0 + _ ≤ _; omega) (hb hby hd) (fun _ _ => ⟨rfl, eT, hroom.2.1, hroom.2.2⟩)) (fun x q => (List.mem_cons.mp q).elim (fun e => Or.inl (e ▸ List.mem_singleton.mpr rfl)) Or.inr) hr
theorem Wl.virtual (pc' : Nat) {st0 : List Value} {i : Nat} {y1 y2 : MethodName} {K : String} {bs2 : ByteArray} {ml2 : Nat} {rt2 : Option FieldType} {rm : Room} {a : Addr} {argsL : List Value} {sf2 out2 : List Addr} {Q2 : Option Value → Heap → Prop} {ps : List FieldType} {r : Option FieldType}
    (hd : decode bs pc = .ok (.invokevirtual i, 3)) (w1 : (Jvm.Cond.methodLink y.cls i y1).before a0 Z = true) (w2 : (Jvm.Cond.declares y1).before a0 Z = true) (w3 : (Jvm.Cond.selects K y1 y2).before a0 Z = true) (w4 : (Jvm.Cond.instanceMethod y2).before a0 Z = true) (wz : (Jvm.Cond.initialized y2.cls).before a0 Z = true) (wc : (Jvm.Cond.code y2 bs2 ml2 rt2).before a0 Z = true) (hnf : ∀ {vm0 : Vm} {s : State}, Z.Warmed39 vm0 → NotFace (s.setVm vm0) y1)
    (hE : Exa Z h a K) (hsig : parseMethodDescriptor y1.desc = some ⟨ps, r⟩) (hlen : argsL.length = ps.length) (hM : MetO l Z EL y2 bs2 ml2 rt2 [] rm (.ref a :: argsL).toArray h sf2 out2 Q2) (hsub : ∀ x ∈ sf2, x ∈ sf) (hst : st0 = argsL.reverse ++ .ref a :: st) (hsz : Ls.size = ml) (hp : pc + 3 = pc') (hy : y1.cls ≠ "java/lang/invoke/MethodHandle" ∧ y1.cls ≠ "java/lang/invoke/VarHandle")
    (hroom : (rm.frames + 1 ≤ R.frames ∧ (st.map fun v => v.category).sum + (ml2 + 11) + rm.locals ≤ R.locals) ∧ k + rm.cells ≤ R.cells ∧ n + rm.slots ≤ R.slots)
    (hr : ∀ v h', Q2 v h' → h.size ≤ h'.size → WlO l Z a0 EL y bs ml rt R as out Q sf h' (k + rm.cells) (n + rm.slots) pc' Ls (v.toList ++ st)) : WlO l Z a0 EL y bs ml rt R as out Q sf h k n pc Ls st0 := by
  subst hp
  refine Wl.call (len := 3) hM wc wz hsub hroom.1.1 hroom.1.2 hroom.2.1 hroom.2.2 (fun p e s m below meth c T vm0 locs hx hby hml hown hZ X eT {Post} hK => ?_) (fun _ q => Or.inr q) hr
  obtain ⟨cB, kB, i1, i2, i3⟩ := isOf (s := s.setVm vm0) hZ eT hE
  exact X.virtualBackS hx (s := s.setVm vm0) hown (mvT hZ w1) (mvT hZ w2) (hnf hZ) (mvT hZ w3) (mvT hZ w4) hy hK i1 i3 (g := mkF m pc Ls st0) rfl (by rw [hml]; exact hsz) (Steps.refl _) (argsL := argsL) (rest := st) (lenOf hsig hlen) hst (by show 2 * 0 + _ ≤ _; omega) (hb hby hd) (fun _ _ => ⟨rfl, eT, hroom.2.1, hroom.2.2⟩)
theorem Wl.virtualO (pc' : Nat) {st0 : List Value} {i : Nat} {y1 y2 : MethodName} {K : String} {bs2 : ByteArray} {ml2 : Nat} {rt2 : Option FieldType} {rm : Room} {a : Addr} {argsL : List Value} {sf2 : List Addr} {d : Addr} {Q2 : Option Value → Heap → Prop} {ps : List FieldType} {r : Option FieldType}
    (hd : decode bs pc = .ok (.invokevirtual i, 3)) (w1 : (Jvm.Cond.methodLink y.cls i y1).before a0 Z = true) (w2 : (Jvm.Cond.declares y1).before a0 Z = true) (w3 : (Jvm.Cond.selects K y1 y2).before a0 Z = true) (w4 : (Jvm.Cond.instanceMethod y2).before a0 Z = true) (wz : (Jvm.Cond.initialized y2.cls).before a0 Z = true) (wc : (Jvm.Cond.code y2 bs2 ml2 rt2).before a0 Z = true) (hnf : ∀ {vm0 : Vm} {s : State}, Z.Warmed39 vm0 → NotFace (s.setVm vm0) y1)
    (hE : Exa Z h a K) (hsig : parseMethodDescriptor y1.desc = some ⟨ps, r⟩) (hlen : argsL.length = ps.length) (hM : MetO l Z EL y2 bs2 ml2 rt2 [] rm (.ref a :: argsL).toArray h sf2 [d] Q2) (hsub : ∀ x ∈ sf2, x ∈ sf) (hst : st0 = argsL.reverse ++ .ref a :: st) (hsz : Ls.size = ml) (hp : pc + 3 = pc') (hy : y1.cls ≠ "java/lang/invoke/MethodHandle" ∧ y1.cls ≠ "java/lang/invoke/VarHandle")
    (hroom : (rm.frames + 1 ≤ R.frames ∧ (st.map fun v => v.category).sum + (ml2 + 11) + rm.locals ≤ R.locals) ∧ k + rm.cells ≤ R.cells ∧ n + rm.slots ≤ R.slots)
    (hr : ∀ v h', Q2 v h' → h.size ≤ h'.size → WlO l Z a0 EL y bs ml rt R as out Q (d :: sf) h' (k + rm.cells) (n + rm.slots) pc' Ls (v.toList ++ st)) : WlO l Z a0 EL y bs ml rt R as out Q sf h k n pc Ls st0 := by
  subst hp
  refine Wl.call (len := 3) hM wc wz hsub hroom.1.1 hroom.1.2 hroom.2.1 hroom.2.2 (fun p e s m below meth c T vm0 locs hx hby hml hown hZ X eT {Post} hK => ?_) (fun x q => (List.mem_cons.mp q).elim (fun e => Or.inl (e ▸ List.mem_singleton.mpr rfl)) Or.inr) hr
  obtain ⟨cB, kB, i1, i2, i3⟩ := isOf (s := s.setVm vm0) hZ eT hE
  exact X.virtualBackS hx (s := s.setVm vm0) hown (mvT hZ w1) (mvT hZ w2) (hnf hZ) (mvT hZ w3) (mvT hZ w4) hy hK i1 i3 (g := mkF m pc Ls st0) rfl (by rw [hml]; exact hsz) (Steps.refl _) (argsL := argsL) (rest := st) (lenOf hsig hlen) hst (by show 2 * 0 + _ ≤ _; omega) (hb hby hd) (fun _ _ => ⟨rfl, eT, hroom.2.1, hroom.2.2⟩)
theorem nf_sel {K : String} {y1 y2 : MethodName} (w : (Jvm.Cond.selects K y1 y2).before a0 Z = true) (e : y1 = y2) : ∀ {vm0 : Vm} {s : State}, Z.Warmed39 vm0 → NotFace (s.setVm vm0) y1 := fun {vm0 s} hZ => by
  subst e; exact notFace_of_selects (args := #[]) (mvT (s := s.setVm vm0) hZ w)
theorem Wl.interface (pc' : Nat) {st0 : List Value} {i cnt : Nat} {y1 y2 : MethodName} {K : String} {bs2 : ByteArray} {ml2 : Nat} {rt2 : Option FieldType} {rm : Room} {a : Addr} {argsL : List Value} {sf2 out2 : List Addr} {Q2 : Option Value → Heap → Prop} {ps : List FieldType} {r : Option FieldType}
    (hd : decode bs pc = .ok (.invokeinterface i cnt, 5)) (w1 : (Jvm.Cond.methodLink y.cls i y1).before a0 Z = true) (w2 : (Jvm.Cond.declares y1).before a0 Z = true) (w3 : ∀ {vm0 : Vm} {s : State}, Z.Warmed39 vm0 → (Jvm.Cond.interfaceMethod y1.cls y1.cls y1.name y1.desc).before as (s.setVm vm0) = true) (w4 : (Jvm.Cond.selects K y1 y2).before a0 Z = true) (w5 : (Jvm.Cond.instanceMethod y2).before a0 Z = true) (w6 : (Jvm.Cond.publicMethod y2).before a0 Z = true) (w7 : (Jvm.Cond.unhidden K y1.name y1.desc).before a0 Z = true) (w8 : (Jvm.Cond.castable K y1.cls).before a0 Z = true) (wz : (Jvm.Cond.initialized y2.cls).before a0 Z = true) (wc : (Jvm.Cond.code y2 bs2 ml2 rt2).before a0 Z = true)
    (hE : Exa Z h a K) (hsig : parseMethodDescriptor y1.desc = some ⟨ps, r⟩) (hlen : argsL.length = ps.length) (hM : MetO l Z EL y2 bs2 ml2 rt2 [] rm (.ref a :: argsL).toArray h sf2 out2 Q2) (hsub : ∀ x ∈ sf2, x ∈ sf) (hst : st0 = argsL.reverse ++ .ref a :: st) (hsz : Ls.size = ml) (hp : pc + 5 = pc') (hy : y1.cls ≠ "java/lang/invoke/MethodHandle" ∧ y1.cls ≠ "java/lang/invoke/VarHandle")
    (hroom : (rm.frames + 1 ≤ R.frames ∧ (st.map fun v => v.category).sum + (ml2 + 11) + rm.locals ≤ R.locals) ∧ k + rm.cells ≤ R.cells ∧ n + rm.slots ≤ R.slots)
    (hr : ∀ v h', Q2 v h' → h.size ≤ h'.size → WlO l Z a0 EL y bs ml rt R as out Q sf h' (k + rm.cells) (n + rm.slots) pc' Ls (v.toList ++ st)) : WlO l Z a0 EL y bs ml rt R as out Q sf h k n pc Ls st0 := by
  subst hp
  refine Wl.call (len := 5) hM wc wz hsub hroom.1.1 hroom.1.2 hroom.2.1 hroom.2.2 (fun p e s m below meth c T vm0 locs hx hby hml hown hZ X eT {Post} hK => ?_) (fun _ q => Or.inr q) hr
  obtain ⟨cB, kB, i1, i2, i3⟩ := isOf (s := s.setVm vm0) hZ eT hE
  exact X.interfaceBackS hx (s := s.setVm vm0) hown (mvT hZ w1) (mvT hZ w2) (w3 hZ) (mvT hZ w4) (mvT hZ w5) (mvT hZ w6) (mvT hZ w7) (mvT hZ w8) hy hK i1 i2 i3 (g := mkF m pc Ls st0) rfl (by rw [hml]; exact hsz) (Steps.refl _) (argsL := argsL) (rest := st) (lenOf hsig hlen) hst (by show 2 * 0 + _ ≤ _; omega) (hb hby hd) (fun _ _ => ⟨rfl, eT, hroom.2.1, hroom.2.2⟩)
theorem Wl.interfaceO (pc' : Nat) {st0 : List Value} {i cnt : Nat} {y1 y2 : MethodName} {K : String} {bs2 : ByteArray} {ml2 : Nat} {rt2 : Option FieldType} {rm : Room} {a : Addr} {argsL : List Value} {sf2 : List Addr} {d : Addr} {Q2 : Option Value → Heap → Prop} {ps : List FieldType} {r : Option FieldType}
    (hd : decode bs pc = .ok (.invokeinterface i cnt, 5)) (w1 : (Jvm.Cond.methodLink y.cls i y1).before a0 Z = true) (w2 : (Jvm.Cond.declares y1).before a0 Z = true) (w3 : ∀ {vm0 : Vm} {s : State}, Z.Warmed39 vm0 → (Jvm.Cond.interfaceMethod y1.cls y1.cls y1.name y1.desc).before as (s.setVm vm0) = true) (w4 : (Jvm.Cond.selects K y1 y2).before a0 Z = true) (w5 : (Jvm.Cond.instanceMethod y2).before a0 Z = true) (w6 : (Jvm.Cond.publicMethod y2).before a0 Z = true) (w7 : (Jvm.Cond.unhidden K y1.name y1.desc).before a0 Z = true) (w8 : (Jvm.Cond.castable K y1.cls).before a0 Z = true) (wz : (Jvm.Cond.initialized y2.cls).before a0 Z = true) (wc : (Jvm.Cond.code y2 bs2 ml2 rt2).before a0 Z = true)
    (hE : Exa Z h a K) (hsig : parseMethodDescriptor y1.desc = some ⟨ps, r⟩) (hlen : argsL.length = ps.length) (hM : MetO l Z EL y2 bs2 ml2 rt2 [] rm (.ref a :: argsL).toArray h sf2 [d] Q2) (hsub : ∀ x ∈ sf2, x ∈ sf) (hst : st0 = argsL.reverse ++ .ref a :: st) (hsz : Ls.size = ml) (hp : pc + 5 = pc') (hy : y1.cls ≠ "java/lang/invoke/MethodHandle" ∧ y1.cls ≠ "java/lang/invoke/VarHandle")
    (hroom : (rm.frames + 1 ≤ R.frames ∧ (st.map fun v => v.category).sum + (ml2 + 11) + rm.locals ≤ R.locals) ∧ k + rm.cells ≤ R.cells ∧ n + rm.slots ≤ R.slots)
    (hr : ∀ v h', Q2 v h' → h.size ≤ h'.size → WlO l Z a0 EL y bs ml rt R as out Q (d :: sf) h' (k + rm.cells) (n + rm.slots) pc' Ls (v.toList ++ st)) : WlO l Z a0 EL y bs ml rt R as out Q sf h k n pc Ls st0 := by
  subst hp
  refine Wl.call (len := 5) hM wc wz hsub hroom.1.1 hroom.1.2 hroom.2.1 hroom.2.2 (fun p e s m below meth c T vm0 locs hx hby hml hown hZ X eT {Post} hK => ?_) (fun x q => (List.mem_cons.mp q).elim (fun e => Or.inl (e ▸ List.mem_singleton.mpr rfl)) Or.inr) hr
  obtain ⟨cB, kB, i1, i2, i3⟩ := isOf (s := s.setVm vm0) hZ eT hE
  exact X.interfaceBackS hx (s := s.setVm vm0) hown (mvT hZ w1) (mvT hZ w2) (w3 hZ) (mvT hZ w4) (mvT hZ w5) (mvT hZ w6) (mvT hZ w7) (mvT hZ w8) hy hK i1 i2 i3 (g := mkF m pc Ls st0) rfl (by rw [hml]; exact hsz) (Steps.refl _) (argsL := argsL) (rest := st) (lenOf hsig hlen) hst (by show 2 * 0 + _ ≤ _; omega) (hb hby hd) (fun _ _ => ⟨rfl, eT, hroom.2.1, hroom.2.2⟩)
/-- invokevirtual of a private method -/
theorem Wl.priv (pc' : Nat) {st0 : List Value} {i : Nat} {y2 : MethodName} {K : String} {bs2 : ByteArray} {ml2 : Nat} {rt2 : Option FieldType} {rm : Room} {a : Addr} {argsL : List Value} {sf2 out2 : List Addr} {Q2 : Option Value → Heap → Prop} {ps : List FieldType} {r : Option FieldType}
    (hd : decode bs pc = .ok (.invokevirtual i, 3)) (w1 : (Jvm.Cond.methodLink y.cls i y2).before a0 Z = true) (w2 : (Jvm.Cond.privateMethod y2).before a0 Z = true) (w3 : (Jvm.Cond.selects K y2 y2).before a0 Z = true) (w4 : (Jvm.Cond.instanceMethod y2).before a0 Z = true) (wz : (Jvm.Cond.initialized y2.cls).before a0 Z = true) (wc : (Jvm.Cond.code y2 bs2 ml2 rt2).before a0 Z = true)
    (hE : Exa Z h a K) (hsig : parseMethodDescriptor y2.desc = some ⟨ps, r⟩) (hlen : argsL.length = ps.length) (hM : MetO l Z EL y2 bs2 ml2 rt2 [] rm (.ref a :: argsL).toArray h sf2 out2 Q2) (hsub : ∀ x ∈ sf2, x ∈ sf) (hst : st0 = argsL.reverse ++ .ref a :: st) (hsz : Ls.size = ml) (hp : pc + 3 = pc') (hy : y2.cls ≠ "java/lang/invoke/MethodHandle" ∧ y2.cls ≠ "java/lang/invoke/VarHandle")
    (hroom : (rm.frames + 1 ≤ R.frames ∧ (st.map fun v => v.category).sum + (ml2 + 11) + rm.locals ≤ R.locals) ∧ k + rm.cells ≤ R.cells ∧ n + rm.slots ≤ R.slots)
    (hr : ∀ v h', Q2 v h' → h.size ≤ h'.size → WlO l Z a0 EL y bs ml rt R as out Q sf h' (k + rm.cells) (n + rm.slots) pc' Ls (v.toList ++ st)) : WlO l Z a0 EL y bs ml rt R as out Q sf h k n pc Ls st0 := by
  subst hp
  refine Wl.call (len := 3) hM wc wz hsub hroom.1.1 hroom.1.2 hroom.2.1 hroom.2.2 (fun p e s m below meth c T vm0 locs hx hby hml hown hZ X eT {Post} hK => ?_) (fun _ q => Or.inr q) hr
  obtain ⟨cB, kB, i1, i2, cell, i3, i4, i5⟩ := isOf (s := s.setVm vm0) hZ eT hE
  obtain ⟨mk, methM, hnamed, hmethM, hstM, habM⟩ := Cond.instanceMethod_spec (mvT (s := s.setVm vm0) (args := as) hZ w4)
  obtain ⟨methM', cM, hmethM', -, -, -, -, -, -, hsigM⟩ := Cond.code_spec hnamed (mvT (s := s.setVm vm0) (args := as) hZ wc)
  cases hmethM.symm.trans hmethM'
  obtain ⟨c2, r2, m2, -, -, q3, -, kP, hkP, hkPi⟩ := Cond.selects_spec (mvT (s := s.setVm vm0) (args := as) hZ w3)
  cases hnamed.symm.trans q3
  have hselP : selectMethod e.platform (s.setVm vm0).vm cell.cls mk = .method mk := selectMethod_private hmethM (Cond.privateMethod_at (mvP (s := s.setVm vm0) (args := as) hZ w2) mk methM hnamed hmethM)
  obtain ⟨vm₁, X₁, hstep₁⟩ := X.invokevirtual hx hown (mvT hZ w1) hnamed hmethM hstM hkP hkPi hy (a := a) (cell := cell) i3 (fun z h => by rw [h] at i5; cases i5) hselP hmethM habM hkP hkPi (g := mkF m pc Ls st0) rfl (argsL := argsL) (rest := st) (lenOf hsig hlen _ hsigM) hst (hb hby hd)
  obtain ⟨v, B, X', hS, hgr, hpost, hsteps⟩ := hK m meth c ⟨T.setVm vm₁, locs, k, n⟩ { mkF m pc Ls st0 with stack := st } (.invokevirtual i) mk (.ref a :: argsL).toArray X₁ rfl (by show Ls.size = c.maxLocals; rw [hml]; exact hsz) (hb hby hd) (by show 2 * 0 + (st.map fun v => v.category).sum ≤ (st.map fun v => v.category).sum; omega) (X₁.named hnamed) ⟨rfl, eT, hroom.2.1, hroom.2.2⟩
  exact ⟨v, vm₁, B, X₁.warmed, X', hS, hgr, hpost, (hstep₁ _ fun acts => by rw [doInvoke_state]; exact Steps.refl _).trans hsteps⟩
/-- invokespecial of the superclass's method -/
theorem Wl.up (pc' : Nat) {st0 : List Value} {i : Nat} {y2 : MethodName} {K : String} {bs2 : ByteArray} {ml2 : Nat} {rt2 : Option FieldType} {rm : Room} {a : Addr} {argsL : List Value} {sf2 out2 : List Addr} {Q2 : Option Value → Heap → Prop} {ps : List FieldType} {r : Option FieldType}
    (hd : decode bs pc = .ok (.invokespecial i, 3)) (w1 : (Jvm.Cond.methodLink y.cls i y2).before a0 Z = true) (w2 : (Jvm.Cond.sameMethod y2.cls y2.cls y2.name y2.desc).before a0 Z = true) (w3 : (Jvm.Cond.instanceMethod y2).before a0 Z = true) (w4 : (Jvm.Cond.superclass y.cls y2.cls).before a0 Z = true) (wz : (Jvm.Cond.initialized y2.cls).before a0 Z = true) (wc : (Jvm.Cond.code y2 bs2 ml2 rt2).before a0 Z = true)
    (hE : Exa Z h a K) (hsig : parseMethodDescriptor y2.desc = some ⟨ps, r⟩) (hlen : argsL.length = ps.length) (hM : MetO l Z EL y2 bs2 ml2 rt2 [] rm (.ref a :: argsL).toArray h sf2 out2 Q2) (hsub : ∀ x ∈ sf2, x ∈ sf) (hst : st0 = argsL.reverse ++ .ref a :: st) (hsz : Ls.size = ml) (hp : pc + 3 = pc') (hni : y2.name ≠ "<init>")
    (hroom : (rm.frames + 1 ≤ R.frames ∧ (st.map fun v => v.category).sum + (ml2 + 11) + rm.locals ≤ R.locals) ∧ k + rm.cells ≤ R.cells ∧ n + rm.slots ≤ R.slots)
    (hr : ∀ v h', Q2 v h' → h.size ≤ h'.size → WlO l Z a0 EL y bs ml rt R as out Q sf h' (k + rm.cells) (n + rm.slots) pc' Ls (v.toList ++ st)) : WlO l Z a0 EL y bs ml rt R as out Q sf h k n pc Ls st0 := by
  subst hp
  refine Wl.call (len := 3) hM wc wz hsub hroom.1.1 hroom.1.2 hroom.2.1 hroom.2.2 (fun p e s m below meth c T vm0 locs hx hby hml hown hZ X eT {Post} hK => ?_) (fun _ q => Or.inr q) hr
  exact superBackS X hx (s := s.setVm vm0) hZ hown w1 w2 w3 w4 hni hK eT (Ins.self hE) (g := mkF m pc Ls st0) rfl (by rw [hml]; exact hsz) wc (argsL := argsL) (rest := st) (lenOf hsig hlen) hst (by show 2 * 0 + _ ≤ _; omega) (hb hby hd) (fun _ _ => ⟨rfl, eT, hroom.2.1, hroom.2.2⟩)
/-- a class that declares y and is seen as no interface elsewhere -/
theorem nf_cls {K : String} {y1 y2 : MethodName} (wd : (Jvm.Cond.declares y1).before a0 Z = true) (w : (Jvm.Cond.selects K y2 y2).before a0 Z = true) (e : y2.cls = y1.cls) : ∀ {vm0 : Vm} {s : State}, Z.Warmed39 vm0 → NotFace (s.setVm vm0) y1 := fun {vm0 s} hZ r0 h0 => by
  obtain ⟨c2, r2, m2, q1, q2, q3, q4, kP, hkP, hkPi⟩ := Cond.selects_spec (mvT (s := s.setVm vm0) (args := #[]) hZ w)
  have hc0 := findClass_of_methodNamed h0
  have hc1 := findClass_of_methodNamed q3
  rw [e] at hc1
  have q := Option.some.inj (hc0.symm.trans hc1)
  exact ⟨kP, by rw [q]; exact hkP, hkPi⟩
/-- a String constant of the pool, read -/
theorem Wl.ldcS (pc' : Nat) {i : Nat} {text : String} {vs : List Value} {z : Int32} (cap : Nat) (hd : decode bs pc = .ok (.ldc i, 2)) (w : (Jvm.Cond.stringLink y.cls i text).before a0 Z = true) (wS : ∀ a ∈ Bundle.stringAtoms, a.before a0 Z = true) (hmem : (y.cls, i) ∈ EL)
    (ht : (∀ c ∈ text.toList, c.toNat < 256) ∧ text.toList.map (fun c => Value.int (Jvm.Lit.byteI c.toNat.toUInt16)) = vs) (hz : ¬ z < 0) (hl : z.toNatClampNeg = vs.length) (hn : 4 * text.toList.length ≤ cap) (hbig : cap ≤ 536870912) (hc : k + 2 ≤ R.cells) (hl' : n + (cap + 4) ≤ R.slots)
    (hr : ∀ (a : Addr) (h' : Heap) (b : Addr) (kc : ClassId), Ext h h' → Exa Z h' a "java/lang/String" → Fld Z h' a "java/lang/String" "coder" "B" (.int 0) → Fld Z h' a "java/lang/String" "value" "[B" (.ref b) → Arv Z h' b kc .byte z vs (.int 0) → (∀ x ∈ sf, x ≠ a ∧ x ≠ b) → WlO l Z a0 EL y bs ml rt R as out Q sf h' (k + 2) (n + (cap + 4)) pc' Ls (.ref a :: st)) (hp : pc + 2 = pc' := by rfl) : WlO l Z a0 EL y bs ml rt R as out Q sf h k n pc Ls st := by
  subst hp
  intro p e s m below meth c T W
  obtain ⟨A, vm0, locs, k0, X, eT, hS, hk, hF, hZ, hC, hM, hH⟩ := W
  obtain ⟨a, T', h', k1, b, kc, X', e', E, hS', hk', hZ', hown', r1, r2, r3, r4, r5, r6, hC', r7, r8, stp⟩ := ldcCH X A.1 hZ (by rw [hS.1.alike.findClass]; exact A.2.2.2.2.2.2.1) w wS eT hS hk A.2.2.2.2.2.2.2.1 hmem hC.1 ht hz hl (g := mkF m pc Ls st) rfl (hb A.2.1 hd) hn hbig hc hl'
  exact Go.of stp (hr a h' b kc E r1 r2 r3 r4 (fun x hx => r8 x ((hM.chr hC') x hx).1) p e s m below meth c T' ⟨A, T'.vm, locs, k1, X', e', hS', hk', hF, hZ', hC.trans hC', hM.chr hC', fun q => by rw [q] at hmem; cases hmem⟩)
end OwnKit

/-! own small facts on ints, chars, lists and heaps -/
section OwnNums
theorem extTr {h h1 h2 : Heap} (A : Ext h h1) (B : Ext h1 h2) : Ext h h2 := ⟨Nat.le_trans A.1 B.1, fun a c q => B.2 a c (A.2 a c q)⟩
theorem ext_rfl (h : Heap) : Ext h h := ⟨Nat.le_refl _, fun _ _ q => q⟩
theorem extKeep {h h1 h2 : Heap} {ws : List Addr} (A : Ext h h1) (K : Keep h1 h2 ws) (q : ∀ x ∈ ws, h.size ≤ x) : Ext h h2 :=
  ⟨Nat.le_trans A.1 K.1, fun a c r => K.2.1 a c (A.2 a c r) fun z => absurd (Array.getElem?_eq_some_iff.mp r).1 (Nat.not_lt.mpr (q a z))⟩
theorem extWr {h h1 h2 : Heap} {a : Addr} {sl : Nat} {v : Value} (A : Ext h h1) (W : Wr h1 h2 a sl v) (q : h.size ≤ a) : Ext h h2 := extKeep A (Keep.of_wr W) (allS q all0)
/-- a char; a char below 256 -/
abbrev Ch (x : Int32) : Prop := 0 ≤ x.toInt ∧ x.toInt < 65536
abbrev Lat (x : Int32) : Prop := 0 ≤ x.toInt ∧ x.toInt < 256
theorem Lat.ch {x : Int32} (q : Lat x) : Ch x := ⟨q.1, by have := q.2; omega⟩
theorem i2c_ch (x : Int32) : Ch x.toUInt32.toUInt16.toUInt32.toInt32 := (c_i2c x).2
theorem i2c_id {x : Int32} (q : Ch x) : x.toUInt32.toUInt16.toUInt32.toInt32 = x := by
  have h := c_i2c x
  apply Int32.toInt_inj.mp
  have := q.1; have := q.2
  omega
theorem nar_ch {x : Int32} (q : Ch x) : nar .char x = x := i2c_id q
theorem mask_lat (x : Int32) : Lat (x &&& 255) := by
  have h := c_and x 255 (by decide)
  have e : (255 : Int32).toInt = 255 := by decide
  exact ⟨h.1, by have := h.2; omega⟩
theorem i2c_mask_lat (x : Int32) : Lat ((x &&& 255).toUInt32.toUInt16.toUInt32.toInt32) := by rw [i2c_id (mask_lat x).ch]; exact mask_lat x
theorem i2b_id (x : Int32) : x.toInt8.toInt32.toInt8.toInt32 = x.toInt8.toInt32 := by simp
/-- small nats as ints -/
theorem nI {i : Nat} (hi : i < 2147483648) : (Int32.ofNat i).toInt = i := Int32.toInt_ofNat_small hi
theorem nCl {i : Nat} (hi : i < 2147483648) : (Int32.ofNat i).toNatClampNeg = i := by rw [Int32.toNatClampNeg, nI hi]; simp
theorem nNn {i : Nat} (hi : i < 2147483648) : ¬ Int32.ofNat i < 0 := by rw [Int32.lt_iff_toInt_lt, nI hi]; simp
theorem nLt {i j : Nat} (hi : i < 2147483648) (hj : j < 2147483648) : Int32.ofNat i < Int32.ofNat j ↔ i < j := by rw [Int32.lt_iff_toInt_lt, nI hi, nI hj]; omega
theorem nEq {i j : Nat} (hi : i < 2147483648) (hj : j < 2147483648) : Int32.ofNat i = Int32.ofNat j ↔ i = j := by rw [← Int32.toInt_inj, nI hi, nI hj]; omega
theorem nS (i : Nat) : Int32.ofNat i + 1 = Int32.ofNat (i + 1) := by simp [Int32.ofNat_add]
theorem nAdd (i j : Nat) : Int32.ofNat i + Int32.ofNat j = Int32.ofNat (i + j) := by simp [Int32.ofNat_add]
theorem nSub {i j : Nat} (hj : j ≤ i) (hi : i < 2147483648) : Int32.ofNat i - Int32.ofNat j = Int32.ofNat (i - j) := by
  apply Int32.toInt_inj.mp
  have h := c_isub (Int32.ofNat i) (Int32.ofNat j)
  have r := rng32 (Int32.ofNat i - Int32.ofNat j)
  rw [nI hi, nI (by omega)] at h
  rw [nI (by omega)]
  omega
/-- a byte read back -/
theorem lo8 {c : Int32} (q : Lat c) : c.toInt8.toInt32 &&& 255 = c := by
  apply Int32.toInt_inj.mp
  have h1 := c_mask c.toInt8.toInt32 255 8 (by decide) (by decide)
  have h2 := c_i2b c
  have := q.1; have := q.2
  omega
theorem lat_le {c : Int32} (q : Lat c) : ¬ (255 : Int32) < c := by
  rw [Int32.lt_iff_toInt_lt]
  have e : (255 : Int32).toInt = 255 := by decide
  have := q.2; omega
def byV (c : Int32) : Value := .int c.toInt8.toInt32
/-- a list filled from the left -/
def fil {α : Type} (xs : List α) (z : α) (i : Nat) : List α := xs.take i ++ List.replicate (xs.length - i) z
theorem fil_len {α : Type} (xs : List α) (z : α) (i : Nat) (hi : i ≤ xs.length) : (fil xs z i).length = xs.length := by simp [fil]; omega
theorem fil_zero {α : Type} (xs : List α) (z : α) : fil xs z 0 = List.replicate xs.length z := by simp [fil]
theorem fil_all {α : Type} (xs : List α) (z : α) : fil xs z xs.length = xs := by simp [fil]
theorem fil_set {α : Type} (xs : List α) (z v : α) (i : Nat) (hi : i < xs.length) (hv : xs[i] = v) : (fil xs z i).set i v = fil xs z (i + 1) := by
  subst hv
  apply List.ext_getElem?
  intro j
  simp only [fil, List.getElem?_set, List.getElem?_append, List.length_take, List.getElem?_take, List.getElem?_replicate, List.length_append, List.length_replicate]
  rw [show min i xs.length = i by omega, show min (i + 1) xs.length = i + 1 by omega]
  by_cases h1 : i = j
  · subst h1
    rw [if_pos rfl, if_pos (by omega), if_pos (by omega), if_pos (by omega)]
    exact (List.getElem?_eq_getElem hi).symm
  · rw [if_neg h1]
    by_cases h2 : j < i
    · rw [if_pos h2, if_pos h2, if_pos (by omega), if_pos (by omega)]
    · rw [if_neg h2, if_neg (show ¬ j < i + 1 by omega)]
      by_cases h3 : j - i < xs.length - i
      · rw [if_pos h3, if_pos (by omega)]
      · rw [if_neg h3, if_neg (by omega)]
theorem narC {x : Int32} (q : Ch x) : narrow .char (.int x) = .int x := by have := Jvm.Free.XT.narrow_c x; rwa [i2c_id q] at this
theorem ref_cat {v : Value} (r : v.isRef = true) : v.category = 1 := by cases v <;> first | rfl | (simp [Value.isRef] at r)
theorem latNn {c : Int32} (q : Lat c) : ¬ c < 0 := by
  rw [Int32.lt_iff_toInt_lt, show (0 : Int32).toInt = 0 by decide]
  have := q.1
  omega
theorem small30 {n : Nat} (h : n < 1048576) : Int32.ofNat n < 1073741823 := by
  rw [Int32.lt_iff_toInt_lt, nI (by omega), show (1073741823 : Int32).toInt = 1073741823 by decide]
  omega
end OwnNums
/-! a Latin-1 String: its chars -/
def Stl (Z : State) (h : Heap) (a : Addr) (cs : List Int32) : Prop :=
  ∃ (b : Addr) (kb : ClassId), Exa Z h a "java/lang/String" ∧ Fld Z h a "java/lang/String" "coder" "B" (.int 0) ∧ Fld Z h a "java/lang/String" "value" "[B" (.ref b) ∧ Arv Z h b kb .byte (Int32.ofNat cs.length) (cs.map byV) (.int 0) ∧ (∀ c ∈ cs, Lat c) ∧ cs.length < 65536
theorem Stl.ext {Z : State} {h h' : Heap} {a : Addr} {cs : List Int32} (S : Stl Z h a cs) (E : Ext h h') : Stl Z h' a cs := by
  obtain ⟨b, kb, h1, h2, h3, h4, r⟩ := S
  exact ⟨b, kb, h1.ext E, h2.ext E, h3.ext E, h4.ext E, r⟩
theorem Stl.exa {Z : State} {h : Heap} {a : Addr} {cs : List Int32} (S : Stl Z h a cs) : Exa Z h a "java/lang/String" := by obtain ⟨b, kb, h1, -⟩ := S; exact h1
/-- a char[] that holds cs -/
def Cha (Z : State) (h : Heap) (b : Addr) (cs : List Int32) : Prop := ∃ kb, Arv Z h b kb .char (Int32.ofNat cs.length) (cs.map Value.int) (.int 0)
theorem Cha.ext {Z : State} {h h' : Heap} {a : Addr} {cs : List Int32} (S : Cha Z h a cs) (E : Ext h h') : Cha Z h' a cs := by obtain ⟨k, A⟩ := S; exact ⟨k, A.ext E⟩
/-- compact strings are on -/
def CSon (Z : State) : Prop := ∃ c : Int32, Sta Z Z.heap "java/lang/String" "COMPACT_STRINGS" "Z" (.int c) ∧ c ≠ 0
theorem nle {n m : Nat} (h : Nat.ble n m = true) : n ≤ m := Nat.le_of_ble_eq_true h
theorem narO {v : Value} {s : String} (r : v.isRef = true) : narrow (.object s) v = v := by cases v <;> first | rfl | (simp [Value.isRef] at r)
theorem fitO {v : Value} {s : String} (r : v.isRef = true) : fits (.object s) v = true := by cases v <;> first | rfl | (simp [Value.isRef] at r)
theorem latN : ∀ c ∈ ([] : List Int32), Lat c := fun _ q => nomatch q
theorem latC {x : Int32} {xs : List Int32} (p : Lat x) (r : ∀ c ∈ xs, Lat c) : ∀ c ∈ x :: xs, Lat c := fun c q => (List.mem_cons.mp q).elim (fun e => e ▸ p) (r c)

theorem pn_str : plainName "java/lang/String" = true := by first | (simp [plainName, overriddenIn]; done) | decide +kernel
section Words
variable {Z : State} {a0 : Array Value}
theorem w0 (hw : ∀ d ∈ tables_1, d.before a0 Z = true) : (Jvm.Cond.methodLink "com/example/portunus/portunus/LockKeysFenceKeyPinLaw" (7 : Nat) ({ cls := "com/example/portunus/portunus/LockKeysFenceKeyPinLaw", name := "noBrace", desc := "(C)C" } : Jvm.MethodName)).before a0 Z = true := hw _ (List.mem_of_getElem? (i := 0) rfl)
theorem w1 (hw : ∀ d ∈ tables_1, d.before a0 Z = true) : (Jvm.Cond.static ({ cls := "com/example/portunus/portunus/LockKeysFenceKeyPinLaw", name := "noBrace", desc := "(C)C" } : Jvm.MethodName)).before a0 Z = true := hw _ (List.mem_of_getElem? (i := 1) rfl)
theorem w2 (hw : ∀ d ∈ tables_1, d.before a0 Z = true) : (Jvm.Cond.initialized "com/example/portunus/portunus/LockKeysFenceKeyPinLaw").before a0 Z = true := hw _ (List.mem_of_getElem? (i := 2) rfl)
theorem w3 (hw : ∀ d ∈ tables_1, d.before a0 Z = true) : (Jvm.Cond.code ({ cls := "com/example/portunus/portunus/LockKeysFenceKeyPinLaw", name := "noBrace", desc := "(C)C" } : Jvm.MethodName) method_3_code (1 : Nat) (Option.some Jvm.ClassFile.FieldType.char)).before a0 Z = true := hw _ (List.mem_of_getElem? (i := 3) rfl)
theorem w4 (hw : ∀ d ∈ tables_1, d.before a0 Z = true) : (Jvm.Cond.classLink "com/example/portunus/portunus/LockKeysFenceKeyPinLaw" (13 : Nat) "java/lang/String").before a0 Z = true := hw _ (List.mem_of_getElem? (i := 4) rfl)
theorem w5 (hw : ∀ d ∈ tables_1, d.before a0 Z = true) : (Jvm.Cond.instantiable "java/lang/String" (4 : Nat)).before a0 Z = true := hw _ (List.mem_of_getElem? (i := 5) rfl)
theorem w6 (hw : ∀ d ∈ tables_1, d.before a0 Z = true) : (Jvm.Cond.initialized "java/lang/String").before a0 Z = true := hw _ (List.mem_of_getElem? (i := 6) rfl)
theorem w7 (hw : ∀ d ∈ tables_1, d.before a0 Z = true) : (Jvm.Cond.arrayClass Jvm.ClassFile.FieldType.char).before a0 Z = true := hw _ (List.mem_of_getElem? (i := 7) rfl)
theorem w8 (hw : ∀ d ∈ tables_1, d.before a0 Z = true) : (Jvm.Cond.methodLink "com/example/portunus/portunus/LockKeysFenceKeyPinLaw" (15 : Nat) ({ cls := "java/lang/String", name := "<init>", desc := "([C)V" } : Jvm.MethodName)).before a0 Z = true := hw _ (List.mem_of_getElem? (i := 8) rfl)
theorem w9 (hw : ∀ d ∈ tables_1, d.before a0 Z = true) : (Jvm.Cond.instanceMethod ({ cls := "java/lang/String", name := "<init>", desc := "([C)V" } : Jvm.MethodName)).before a0 Z = true := hw _ (List.mem_of_getElem? (i := 9) rfl)
theorem w10 (hw : ∀ d ∈ tables_1, d.before a0 Z = true) : (Jvm.Cond.code ({ cls := "java/lang/String", name := "<init>", desc := "([C)V" } : Jvm.MethodName) jdk_42_method_3_code (2 : Nat) (Option.none : Option Jvm.ClassFile.FieldType)).before a0 Z = true := hw _ (List.mem_of_getElem? (i := 10) rfl)
theorem w11 (hw : ∀ d ∈ tables_1, d.before a0 Z = true) : (Jvm.Cond.methodLink "java/lang/String" (27 : Nat) ({ cls := "java/lang/String", name := "<init>", desc := "([CIILjava/lang/Void;)V" } : Jvm.MethodName)).before a0 Z = true := hw _ (List.mem_of_getElem? (i := 11) rfl)
theorem w12 (hw : ∀ d ∈ tables_1, d.before a0 Z = true) : (Jvm.Cond.instanceMethod ({ cls := "java/lang/String", name := "<init>", desc := "([CIILjava/lang/Void;)V" } : Jvm.MethodName)).before a0 Z = true := hw _ (List.mem_of_getElem? (i := 12) rfl)
theorem w14 (hw : ∀ d ∈ tables_1, d.before a0 Z = true) : (Jvm.Cond.code ({ cls := "java/lang/String", name := "<init>", desc := "([CIILjava/lang/Void;)V" } : Jvm.MethodName) jdk_42_method_149_code (6 : Nat) (Option.none : Option Jvm.ClassFile.FieldType)).before a0 Z = true := hw _ (List.mem_of_getElem? (i := 14) rfl)
theorem w15 (hw : ∀ d ∈ tables_1, d.before a0 Z = true) : (Jvm.Cond.methodLink "java/lang/String" (1 : Nat) ({ cls := "java/lang/Object", name := "<init>", desc := "()V" } : Jvm.MethodName)).before a0 Z = true := hw _ (List.mem_of_getElem? (i := 15) rfl)
theorem w16 (hw : ∀ d ∈ tables_1, d.before a0 Z = true) : (Jvm.Cond.instanceMethod ({ cls := "java/lang/Object", name := "<init>", desc := "()V" } : Jvm.MethodName)).before a0 Z = true := hw _ (List.mem_of_getElem? (i := 16) rfl)
theorem w17 (hw : ∀ d ∈ tables_1, d.before a0 Z = true) : (Jvm.Cond.code ({ cls := "java/lang/Object", name := "<init>", desc := "()V" } : Jvm.MethodName) object_method_1_code (1 : Nat) (Option.none : Option Jvm.ClassFile.FieldType)).before a0 Z = true := hw _ (List.mem_of_getElem? (i := 17) rfl)
theorem w18 (hw : ∀ d ∈ tables_1, d.before a0 Z = true) : (Jvm.Cond.stringLink "java/lang/String" (7 : Nat) "").before a0 Z = true := hw _ (List.mem_of_getElem? (i := 18) rfl)
theorem w19 (hw : ∀ d ∈ tables_1, d.before a0 Z = true) : (Jvm.Cond.arrayClass Jvm.ClassFile.FieldType.byte).before a0 Z = true := hw _ (List.mem_of_getElem? (i := 19) rfl)
theorem w20 (hw : ∀ d ∈ tables_1, d.before a0 Z = true) : (Jvm.Cond.laysFinal "java/lang/String" "java/lang/String" "value" "[B").before a0 Z = true := hw _ (List.mem_of_getElem? (i := 20) rfl)
theorem w21 (hw : ∀ d ∈ tables_1, d.before a0 Z = true) : (Jvm.Cond.laysFinal "java/lang/String" "java/lang/String" "coder" "B").before a0 Z = true := hw _ (List.mem_of_getElem? (i := 21) rfl)
theorem w22 (hw : ∀ d ∈ tables_1, d.before a0 Z = true) : (Jvm.Cond.soleField "java/lang/String" "value").before a0 Z = true := hw _ (List.mem_of_getElem? (i := 22) rfl)
theorem w23 (hw : ∀ d ∈ tables_1, d.before a0 Z = true) : (Jvm.Cond.soleField "java/lang/String" "coder").before a0 Z = true := hw _ (List.mem_of_getElem? (i := 23) rfl)
theorem w24 (hw : ∀ d ∈ tables_1, d.before a0 Z = true) : (Jvm.Cond.fieldLink "java/lang/String" (9 : Nat) "java/lang/String" "value" "[B").before a0 Z = true := hw _ (List.mem_of_getElem? (i := 24) rfl)
theorem w25 (hw : ∀ d ∈ tables_1, d.before a0 Z = true) : (Jvm.Cond.fieldLink "java/lang/String" (15 : Nat) "java/lang/String" "coder" "B").before a0 Z = true := hw _ (List.mem_of_getElem? (i := 25) rfl)
theorem w26 (hw : ∀ d ∈ tables_1, d.before a0 Z = true) : (Jvm.Cond.fieldLink "java/lang/String" (38 : Nat) "java/lang/String" "COMPACT_STRINGS" "Z").before a0 Z = true := hw _ (List.mem_of_getElem? (i := 26) rfl)
theorem w27 (hw : ∀ d ∈ tables_1, d.before a0 Z = true) : (Jvm.Cond.methodLink "java/lang/String" (177 : Nat) ({ cls := "java/lang/StringUTF16", name := "compress", desc := "([CII)[B" } : Jvm.MethodName)).before a0 Z = true := hw _ (List.mem_of_getElem? (i := 27) rfl)
theorem w28 (hw : ∀ d ∈ tables_1, d.before a0 Z = true) : (Jvm.Cond.static ({ cls := "java/lang/StringUTF16", name := "compress", desc := "([CII)[B" } : Jvm.MethodName)).before a0 Z = true := hw _ (List.mem_of_getElem? (i := 28) rfl)
theorem w29 (hw : ∀ d ∈ tables_1, d.before a0 Z = true) : (Jvm.Cond.initialized "java/lang/StringUTF16").before a0 Z = true := hw _ (List.mem_of_getElem? (i := 29) rfl)
theorem w30 (hw : ∀ d ∈ tables_1, d.before a0 Z = true) : (Jvm.Cond.code ({ cls := "java/lang/StringUTF16", name := "compress", desc := "([CII)[B" } : Jvm.MethodName) jdk_52_method_16_code (6 : Nat) (Option.some (Jvm.ClassFile.FieldType.array Jvm.ClassFile.FieldType.byte))).before a0 Z = true := hw _ (List.mem_of_getElem? (i := 30) rfl)
theorem w31 (hw : ∀ d ∈ tables_1, d.before a0 Z = true) : (Jvm.Cond.methodLink "java/lang/StringUTF16" (115 : Nat) ({ cls := "java/lang/StringUTF16", name := "compress", desc := "([CI[BII)I" } : Jvm.MethodName)).before a0 Z = true := hw _ (List.mem_of_getElem? (i := 31) rfl)
theorem w32 (hw : ∀ d ∈ tables_1, d.before a0 Z = true) : (Jvm.Cond.static ({ cls := "java/lang/StringUTF16", name := "compress", desc := "([CI[BII)I" } : Jvm.MethodName)).before a0 Z = true := hw _ (List.mem_of_getElem? (i := 32) rfl)
theorem w33 (hw : ∀ d ∈ tables_1, d.before a0 Z = true) : (Jvm.Cond.code ({ cls := "java/lang/StringUTF16", name := "compress", desc := "([CI[BII)I" } : Jvm.MethodName) jdk_52_method_21_code (7 : Nat) (Option.some Jvm.ClassFile.FieldType.int)).before a0 Z = true := hw _ (List.mem_of_getElem? (i := 33) rfl)
theorem w34 (hw : ∀ d ∈ tables_1, d.before a0 Z = true) : (Jvm.Cond.methodLink "java/lang/String" (47 : Nat) ({ cls := "java/lang/StringUTF16", name := "coderFromArrayLen", desc := "([BI)B" } : Jvm.MethodName)).before a0 Z = true := hw _ (List.mem_of_getElem? (i := 34) rfl)
theorem w35 (hw : ∀ d ∈ tables_1, d.before a0 Z = true) : (Jvm.Cond.static ({ cls := "java/lang/StringUTF16", name := "coderFromArrayLen", desc := "([BI)B" } : Jvm.MethodName)).before a0 Z = true := hw _ (List.mem_of_getElem? (i := 35) rfl)
theorem w36 (hw : ∀ d ∈ tables_1, d.before a0 Z = true) : (Jvm.Cond.code ({ cls := "java/lang/StringUTF16", name := "coderFromArrayLen", desc := "([BI)B" } : Jvm.MethodName) jdk_52_method_15_code (2 : Nat) (Option.some Jvm.ClassFile.FieldType.byte)).before a0 Z = true := hw _ (List.mem_of_getElem? (i := 36) rfl)
theorem w37 (hw : ∀ d ∈ tables_1, d.before a0 Z = true) : (Jvm.Cond.classLink "com/example/portunus/portunus/LockKeysFenceKeyPinLaw" (18 : Nat) "com/example/portunus/portunus/LockKeys").before a0 Z = true := hw _ (List.mem_of_getElem? (i := 37) rfl)
theorem w38 (hw : ∀ d ∈ tables_1, d.before a0 Z = true) : (Jvm.Cond.instantiable "com/example/portunus/portunus/LockKeys" (1 : Nat)).before a0 Z = true := hw _ (List.mem_of_getElem? (i := 38) rfl)
theorem w39 (hw : ∀ d ∈ tables_1, d.before a0 Z = true) : (Jvm.Cond.initialized "com/example/portunus/portunus/LockKeys").before a0 Z = true := hw _ (List.mem_of_getElem? (i := 39) rfl)
theorem w40 (hw : ∀ d ∈ tables_1, d.before a0 Z = true) : (Jvm.Cond.methodLink "com/example/portunus/portunus/LockKeysFenceKeyPinLaw" (20 : Nat) ({ cls := "com/example/portunus/portunus/LockKeys", name := "<init>", desc := "(Ljava/lang/String;)V" } : Jvm.MethodName)).before a0 Z = true := hw _ (List.mem_of_getElem? (i := 40) rfl)
theorem w41 (hw : ∀ d ∈ tables_1, d.before a0 Z = true) : (Jvm.Cond.instanceMethod ({ cls := "com/example/portunus/portunus/LockKeys", name := "<init>", desc := "(Ljava/lang/String;)V" } : Jvm.MethodName)).before a0 Z = true := hw _ (List.mem_of_getElem? (i := 41) rfl)
theorem w42 (hw : ∀ d ∈ tables_1, d.before a0 Z = true) : (Jvm.Cond.code ({ cls := "com/example/portunus/portunus/LockKeys", name := "<init>", desc := "(Ljava/lang/String;)V" } : Jvm.MethodName) prog_6_method_1_code (2 : Nat) (Option.none : Option Jvm.ClassFile.FieldType)).before a0 Z = true := hw _ (List.mem_of_getElem? (i := 42) rfl)
theorem w43 (hw : ∀ d ∈ tables_1, d.before a0 Z = true) : (Jvm.Cond.methodLink "com/example/portunus/portunus/LockKeys" (1 : Nat) ({ cls := "java/lang/Object", name := "<init>", desc := "()V" } : Jvm.MethodName)).before a0 Z = true := hw _ (List.mem_of_getElem? (i := 43) rfl)
theorem w44 (hw : ∀ d ∈ tables_1, d.before a0 Z = true) : (Jvm.Cond.stringLink "com/example/portunus/portunus/LockKeys" (7 : Nat) "prefix").before a0 Z = true := hw _ (List.mem_of_getElem? (i := 44) rfl)
theorem w45 (hw : ∀ d ∈ tables_1, d.before a0 Z = true) : (Jvm.Cond.methodLink "com/example/portunus/portunus/LockKeys" (9 : Nat) ({ cls := "java/util/Objects", name := "requireNonNull", desc := "(Ljava/lang/Object;Ljava/lang/String;)Ljava/lang/Object;" } : Jvm.MethodName)).before a0 Z = true := hw _ (List.mem_of_getElem? (i := 45) rfl)
theorem w46 (hw : ∀ d ∈ tables_1, d.before a0 Z = true) : (Jvm.Cond.static ({ cls := "java/util/Objects", name := "requireNonNull", desc := "(Ljava/lang/Object;Ljava/lang/String;)Ljava/lang/Object;" } : Jvm.MethodName)).before a0 Z = true := hw _ (List.mem_of_getElem? (i := 46) rfl)
theorem w47 (hw : ∀ d ∈ tables_1, d.before a0 Z = true) : (Jvm.Cond.initialized "java/util/Objects").before a0 Z = true := hw _ (List.mem_of_getElem? (i := 47) rfl)
theorem w48 (hw : ∀ d ∈ tables_1, d.before a0 Z = true) : (Jvm.Cond.code ({ cls := "java/util/Objects", name := "requireNonNull", desc := "(Ljava/lang/Object;Ljava/lang/String;)Ljava/lang/Object;" } : Jvm.MethodName) jdk_31_method_11_code (2 : Nat) (Option.some (Jvm.ClassFile.FieldType.object "java/lang/Object"))).before a0 Z = true := hw _ (List.mem_of_getElem? (i := 48) rfl)
theorem w49 (hw : ∀ d ∈ tables_1, d.before a0 Z = true) : (Jvm.Cond.methodLink "com/example/portunus/portunus/LockKeys" (15 : Nat) ({ cls := "java/lang/String", name := "indexOf", desc := "(I)I" } : Jvm.MethodName)).before a0 Z = true := hw _ (List.mem_of_getElem? (i := 49) rfl)
theorem w50 (hw : ∀ d ∈ tables_1, d.before a0 Z = true) : (Jvm.Cond.declares ({ cls := "java/lang/String", name := "indexOf", desc := "(I)I" } : Jvm.MethodName)).before a0 Z = true := hw _ (List.mem_of_getElem? (i := 50) rfl)
theorem w51 (hw : ∀ d ∈ tables_1, d.before a0 Z = true) : (Jvm.Cond.instanceMethod ({ cls := "java/lang/String", name := "indexOf", desc := "(I)I" } : Jvm.MethodName)).before a0 Z = true := hw _ (List.mem_of_getElem? (i := 51) rfl)
theorem w52 (hw : ∀ d ∈ tables_1, d.before a0 Z = true) : (Jvm.Cond.selects "java/lang/String" ({ cls := "java/lang/String", name := "indexOf", desc := "(I)I" } : Jvm.MethodName) ({ cls := "java/lang/String", name := "indexOf", desc := "(I)I" } : Jvm.MethodName)).before a0 Z = true := hw _ (List.mem_of_getElem? (i := 52) rfl)
theorem w53 (hw : ∀ d ∈ tables_1, d.before a0 Z = true) : (Jvm.Cond.code ({ cls := "java/lang/String", name := "indexOf", desc := "(I)I" } : Jvm.MethodName) jdk_42_method_79_code (2 : Nat) (Option.some Jvm.ClassFile.FieldType.int)).before a0 Z = true := hw _ (List.mem_of_getElem? (i := 53) rfl)
theorem w54 (hw : ∀ d ∈ tables_1, d.before a0 Z = true) : (Jvm.Cond.methodLink "java/lang/String" (633 : Nat) ({ cls := "java/lang/String", name := "indexOf", desc := "(II)I" } : Jvm.MethodName)).before a0 Z = true := hw _ (List.mem_of_getElem? (i := 54) rfl)
theorem w55 (hw : ∀ d ∈ tables_1, d.before a0 Z = true) : (Jvm.Cond.declares ({ cls := "java/lang/String", name := "indexOf", desc := "(II)I" } : Jvm.MethodName)).before a0 Z = true := hw _ (List.mem_of_getElem? (i := 55) rfl)
theorem w56 (hw : ∀ d ∈ tables_1, d.before a0 Z = true) : (Jvm.Cond.instanceMethod ({ cls := "java/lang/String", name := "indexOf", desc := "(II)I" } : Jvm.MethodName)).before a0 Z = true := hw _ (List.mem_of_getElem? (i := 56) rfl)
theorem w57 (hw : ∀ d ∈ tables_1, d.before a0 Z = true) : (Jvm.Cond.selects "java/lang/String" ({ cls := "java/lang/String", name := "indexOf", desc := "(II)I" } : Jvm.MethodName) ({ cls := "java/lang/String", name := "indexOf", desc := "(II)I" } : Jvm.MethodName)).before a0 Z = true := hw _ (List.mem_of_getElem? (i := 57) rfl)
theorem w58 (hw : ∀ d ∈ tables_1, d.before a0 Z = true) : (Jvm.Cond.code ({ cls := "java/lang/String", name := "indexOf", desc := "(II)I" } : Jvm.MethodName) jdk_42_method_80_code (3 : Nat) (Option.some Jvm.ClassFile.FieldType.int)).before a0 Z = true := hw _ (List.mem_of_getElem? (i := 58) rfl)
theorem w59 (hw : ∀ d ∈ tables_1, d.before a0 Z = true) : (Jvm.Cond.methodLink "java/lang/String" (492 : Nat) ({ cls := "java/lang/String", name := "isLatin1", desc := "()Z" } : Jvm.MethodName)).before a0 Z = true := hw _ (List.mem_of_getElem? (i := 59) rfl)
theorem w60 (hw : ∀ d ∈ tables_1, d.before a0 Z = true) : (Jvm.Cond.declares ({ cls := "java/lang/String", name := "isLatin1", desc := "()Z" } : Jvm.MethodName)).before a0 Z = true := hw _ (List.mem_of_getElem? (i := 60) rfl)
theorem w61 (hw : ∀ d ∈ tables_1, d.before a0 Z = true) : (Jvm.Cond.instanceMethod ({ cls := "java/lang/String", name := "isLatin1", desc := "()Z" } : Jvm.MethodName)).before a0 Z = true := hw _ (List.mem_of_getElem? (i := 61) rfl)
theorem w62 (hw : ∀ d ∈ tables_1, d.before a0 Z = true) : (Jvm.Cond.selects "java/lang/String" ({ cls := "java/lang/String", name := "isLatin1", desc := "()Z" } : Jvm.MethodName) ({ cls := "java/lang/String", name := "isLatin1", desc := "()Z" } : Jvm.MethodName)).before a0 Z = true := hw _ (List.mem_of_getElem? (i := 62) rfl)
theorem w63 (hw : ∀ d ∈ tables_1, d.before a0 Z = true) : (Jvm.Cond.code ({ cls := "java/lang/String", name := "isLatin1", desc := "()Z" } : Jvm.MethodName) jdk_42_method_154_code (1 : Nat) (Option.some Jvm.ClassFile.FieldType.boolean)).before a0 Z = true := hw _ (List.mem_of_getElem? (i := 63) rfl)
theorem w64 (hw : ∀ d ∈ tables_1, d.before a0 Z = true) : (Jvm.Cond.methodLink "java/lang/String" (505 : Nat) ({ cls := "java/lang/String", name := "length", desc := "()I" } : Jvm.MethodName)).before a0 Z = true := hw _ (List.mem_of_getElem? (i := 64) rfl)
theorem w65 (hw : ∀ d ∈ tables_1, d.before a0 Z = true) : (Jvm.Cond.declares ({ cls := "java/lang/String", name := "length", desc := "()I" } : Jvm.MethodName)).before a0 Z = true := hw _ (List.mem_of_getElem? (i := 65) rfl)
theorem w66 (hw : ∀ d ∈ tables_1, d.before a0 Z = true) : (Jvm.Cond.instanceMethod ({ cls := "java/lang/String", name := "length", desc := "()I" } : Jvm.MethodName)).before a0 Z = true := hw _ (List.mem_of_getElem? (i := 66) rfl)
theorem w67 (hw : ∀ d ∈ tables_1, d.before a0 Z = true) : (Jvm.Cond.selects "java/lang/String" ({ cls := "java/lang/String", name := "length", desc := "()I" } : Jvm.MethodName) ({ cls := "java/lang/String", name := "length", desc := "()I" } : Jvm.MethodName)).before a0 Z = true := hw _ (List.mem_of_getElem? (i := 67) rfl)
theorem w68 (hw : ∀ d ∈ tables_1, d.before a0 Z = true) : (Jvm.Cond.code ({ cls := "java/lang/String", name := "length", desc := "()I" } : Jvm.MethodName) jdk_42_method_54_code (1 : Nat) (Option.some Jvm.ClassFile.FieldType.int)).before a0 Z = true := hw _ (List.mem_of_getElem? (i := 68) rfl)
theorem w69 (hw : ∀ d ∈ tables_1, d.before a0 Z = true) : (Jvm.Cond.methodLink "java/lang/String" (335 : Nat) ({ cls := "java/lang/String", name := "coder", desc := "()B" } : Jvm.MethodName)).before a0 Z = true := hw _ (List.mem_of_getElem? (i := 69) rfl)
theorem w70 (hw : ∀ d ∈ tables_1, d.before a0 Z = true) : (Jvm.Cond.declares ({ cls := "java/lang/String", name := "coder", desc := "()B" } : Jvm.MethodName)).before a0 Z = true := hw _ (List.mem_of_getElem? (i := 70) rfl)
theorem w71 (hw : ∀ d ∈ tables_1, d.before a0 Z = true) : (Jvm.Cond.instanceMethod ({ cls := "java/lang/String", name := "coder", desc := "()B" } : Jvm.MethodName)).before a0 Z = true := hw _ (List.mem_of_getElem? (i := 71) rfl)
theorem w72 (hw : ∀ d ∈ tables_1, d.before a0 Z = true) : (Jvm.Cond.selects "java/lang/String" ({ cls := "java/lang/String", name := "coder", desc := "()B" } : Jvm.MethodName) ({ cls := "java/lang/String", name := "coder", desc := "()B" } : Jvm.MethodName)).before a0 Z = true := hw _ (List.mem_of_getElem? (i := 72) rfl)
theorem w73 (hw : ∀ d ∈ tables_1, d.before a0 Z = true) : (Jvm.Cond.code ({ cls := "java/lang/String", name := "coder", desc := "()B" } : Jvm.MethodName) jdk_42_method_152_code (1 : Nat) (Option.some Jvm.ClassFile.FieldType.byte)).before a0 Z = true := hw _ (List.mem_of_getElem? (i := 73) rfl)
theorem w74 (hw : ∀ d ∈ tables_1, d.before a0 Z = true) : (Jvm.Cond.methodLink "java/lang/String" (637 : Nat) ({ cls := "java/lang/StringLatin1", name := "indexOf", desc := "([BIII)I" } : Jvm.MethodName)).before a0 Z = true := hw _ (List.mem_of_getElem? (i := 74) rfl)
theorem w75 (hw : ∀ d ∈ tables_1, d.before a0 Z = true) : (Jvm.Cond.static ({ cls := "java/lang/StringLatin1", name := "indexOf", desc := "([BIII)I" } : Jvm.MethodName)).before a0 Z = true := hw _ (List.mem_of_getElem? (i := 75) rfl)
theorem w76 (hw : ∀ d ∈ tables_1, d.before a0 Z = true) : (Jvm.Cond.initialized "java/lang/StringLatin1").before a0 Z = true := hw _ (List.mem_of_getElem? (i := 76) rfl)
theorem w77 (hw : ∀ d ∈ tables_1, d.before a0 Z = true) : (Jvm.Cond.code ({ cls := "java/lang/StringLatin1", name := "indexOf", desc := "([BIII)I" } : Jvm.MethodName) jdk_43_method_22_code (4 : Nat) (Option.some Jvm.ClassFile.FieldType.int)).before a0 Z = true := hw _ (List.mem_of_getElem? (i := 77) rfl)
theorem w78 (hw : ∀ d ∈ tables_1, d.before a0 Z = true) : (Jvm.Cond.methodLink "java/lang/StringLatin1" (88 : Nat) ({ cls := "java/lang/StringLatin1", name := "canEncode", desc := "(I)Z" } : Jvm.MethodName)).before a0 Z = true := hw _ (List.mem_of_getElem? (i := 78) rfl)
theorem w79 (hw : ∀ d ∈ tables_1, d.before a0 Z = true) : (Jvm.Cond.static ({ cls := "java/lang/StringLatin1", name := "canEncode", desc := "(I)Z" } : Jvm.MethodName)).before a0 Z = true := hw _ (List.mem_of_getElem? (i := 79) rfl)
theorem w80 (hw : ∀ d ∈ tables_1, d.before a0 Z = true) : (Jvm.Cond.code ({ cls := "java/lang/StringLatin1", name := "canEncode", desc := "(I)Z" } : Jvm.MethodName) jdk_43_method_4_code (1 : Nat) (Option.some Jvm.ClassFile.FieldType.boolean)).before a0 Z = true := hw _ (List.mem_of_getElem? (i := 80) rfl)
theorem w81 (hw : ∀ d ∈ tables_1, d.before a0 Z = true) : (Jvm.Cond.methodLink "java/lang/StringLatin1" (92 : Nat) ({ cls := "java/lang/Math", name := "max", desc := "(II)I" } : Jvm.MethodName)).before a0 Z = true := hw _ (List.mem_of_getElem? (i := 81) rfl)
theorem w82 (hw : ∀ d ∈ tables_1, d.before a0 Z = true) : (Jvm.Cond.static ({ cls := "java/lang/Math", name := "max", desc := "(II)I" } : Jvm.MethodName)).before a0 Z = true := hw _ (List.mem_of_getElem? (i := 82) rfl)
theorem w83 (hw : ∀ d ∈ tables_1, d.before a0 Z = true) : (Jvm.Cond.initialized "java/lang/Math").before a0 Z = true := hw _ (List.mem_of_getElem? (i := 83) rfl)
theorem w84 (hw : ∀ d ∈ tables_1, d.before a0 Z = true) : (Jvm.Cond.code ({ cls := "java/lang/Math", name := "max", desc := "(II)I" } : Jvm.MethodName) jdk_29_method_65_code (2 : Nat) (Option.some Jvm.ClassFile.FieldType.int)).before a0 Z = true := hw _ (List.mem_of_getElem? (i := 84) rfl)
theorem w85 (hw : ∀ d ∈ tables_1, d.before a0 Z = true) : (Jvm.Cond.methodLink "java/lang/StringLatin1" (38 : Nat) ({ cls := "java/lang/Math", name := "min", desc := "(II)I" } : Jvm.MethodName)).before a0 Z = true := hw _ (List.mem_of_getElem? (i := 85) rfl)
theorem w86 (hw : ∀ d ∈ tables_1, d.before a0 Z = true) : (Jvm.Cond.static ({ cls := "java/lang/Math", name := "min", desc := "(II)I" } : Jvm.MethodName)).before a0 Z = true := hw _ (List.mem_of_getElem? (i := 86) rfl)
theorem w87 (hw : ∀ d ∈ tables_1, d.before a0 Z = true) : (Jvm.Cond.code ({ cls := "java/lang/Math", name := "min", desc := "(II)I" } : Jvm.MethodName) jdk_29_method_69_code (2 : Nat) (Option.some Jvm.ClassFile.FieldType.int)).before a0 Z = true := hw _ (List.mem_of_getElem? (i := 87) rfl)
theorem w88 (hw : ∀ d ∈ tables_1, d.before a0 Z = true) : (Jvm.Cond.fieldLink "com/example/portunus/portunus/LockKeys" (39 : Nat) "com/example/portunus/portunus/LockKeys" "prefix" "Ljava/lang/String;").before a0 Z = true := hw _ (List.mem_of_getElem? (i := 88) rfl)
theorem w89 (hw : ∀ d ∈ tables_1, d.before a0 Z = true) : (Jvm.Cond.laysFinal "com/example/portunus/portunus/LockKeys" "com/example/portunus/portunus/LockKeys" "prefix" "Ljava/lang/String;").before a0 Z = true := hw _ (List.mem_of_getElem? (i := 89) rfl)
theorem w90 (hw : ∀ d ∈ tables_1, d.before a0 Z = true) : (Jvm.Cond.methodLink "com/example/portunus/portunus/LockKeysFenceKeyPinLaw" (23 : Nat) ({ cls := "com/example/portunus/portunus/LockKeys", name := "fenceKey", desc := "(Ljava/lang/String;)Ljava/lang/String;" } : Jvm.MethodName)).before a0 Z = true := hw _ (List.mem_of_getElem? (i := 90) rfl)
theorem w91 (hw : ∀ d ∈ tables_1, d.before a0 Z = true) : (Jvm.Cond.declares ({ cls := "com/example/portunus/portunus/LockKeys", name := "fenceKey", desc := "(Ljava/lang/String;)Ljava/lang/String;" } : Jvm.MethodName)).before a0 Z = true := hw _ (List.mem_of_getElem? (i := 91) rfl)
theorem w92 (hw : ∀ d ∈ tables_1, d.before a0 Z = true) : (Jvm.Cond.instanceMethod ({ cls := "com/example/portunus/portunus/LockKeys", name := "fenceKey", desc := "(Ljava/lang/String;)Ljava/lang/String;" } : Jvm.MethodName)).before a0 Z = true := hw _ (List.mem_of_getElem? (i := 92) rfl)
theorem w93 (hw : ∀ d ∈ tables_1, d.before a0 Z = true) : (Jvm.Cond.selects "com/example/portunus/portunus/LockKeys" ({ cls := "com/example/portunus/portunus/LockKeys", name := "fenceKey", desc := "(Ljava/lang/String;)Ljava/lang/String;" } : Jvm.MethodName) ({ cls := "com/example/portunus/portunus/LockKeys", name := "fenceKey", desc := "(Ljava/lang/String;)Ljava/lang/String;" } : Jvm.MethodName)).before a0 Z = true := hw _ (List.mem_of_getElem? (i := 93) rfl)
theorem w94 (hw : ∀ d ∈ tables_1, d.before a0 Z = true) : (Jvm.Cond.code ({ cls := "com/example/portunus/portunus/LockKeys", name := "fenceKey", desc := "(Ljava/lang/String;)Ljava/lang/String;" } : Jvm.MethodName) prog_6_method_3_code (2 : Nat) (Option.some (Jvm.ClassFile.FieldType.object "java/lang/String"))).before a0 Z = true := hw _ (List.mem_of_getElem? (i := 94) rfl)
theorem w95 (hw : ∀ d ∈ tables_1, d.before a0 Z = true) : (Jvm.Cond.classLink "com/example/portunus/portunus/LockKeys" (23 : Nat) "java/lang/StringBuilder").before a0 Z = true := hw _ (List.mem_of_getElem? (i := 95) rfl)
theorem w96 (hw : ∀ d ∈ tables_1, d.before a0 Z = true) : (Jvm.Cond.instantiable "java/lang/StringBuilder" (4 : Nat)).before a0 Z = true := hw _ (List.mem_of_getElem? (i := 96) rfl)
theorem w97 (hw : ∀ d ∈ tables_1, d.before a0 Z = true) : (Jvm.Cond.initialized "java/lang/StringBuilder").before a0 Z = true := hw _ (List.mem_of_getElem? (i := 97) rfl)
theorem w98 (hw : ∀ d ∈ tables_1, d.before a0 Z = true) : (Jvm.Cond.methodLink "com/example/portunus/portunus/LockKeys" (25 : Nat) ({ cls := "java/lang/StringBuilder", name := "<init>", desc := "()V" } : Jvm.MethodName)).before a0 Z = true := hw _ (List.mem_of_getElem? (i := 98) rfl)
theorem w99 (hw : ∀ d ∈ tables_1, d.before a0 Z = true) : (Jvm.Cond.instanceMethod ({ cls := "java/lang/StringBuilder", name := "<init>", desc := "()V" } : Jvm.MethodName)).before a0 Z = true := hw _ (List.mem_of_getElem? (i := 99) rfl)
theorem w100 (hw : ∀ d ∈ tables_1, d.before a0 Z = true) : (Jvm.Cond.code ({ cls := "java/lang/StringBuilder", name := "<init>", desc := "()V" } : Jvm.MethodName) jdk_67_method_1_code (1 : Nat) (Option.none : Option Jvm.ClassFile.FieldType)).before a0 Z = true := hw _ (List.mem_of_getElem? (i := 100) rfl)
theorem w101 (hw : ∀ d ∈ tables_1, d.before a0 Z = true) : (Jvm.Cond.methodLink "java/lang/StringBuilder" (1 : Nat) ({ cls := "java/lang/AbstractStringBuilder", name := "<init>", desc := "(I)V" } : Jvm.MethodName)).before a0 Z = true := hw _ (List.mem_of_getElem? (i := 101) rfl)
theorem w102 (hw : ∀ d ∈ tables_1, d.before a0 Z = true) : (Jvm.Cond.instanceMethod ({ cls := "java/lang/AbstractStringBuilder", name := "<init>", desc := "(I)V" } : Jvm.MethodName)).before a0 Z = true := hw _ (List.mem_of_getElem? (i := 102) rfl)
theorem w105 (hw : ∀ d ∈ tables_1, d.before a0 Z = true) : (Jvm.Cond.initialized "java/lang/AbstractStringBuilder").before a0 Z = true := hw _ (List.mem_of_getElem? (i := 105) rfl)
theorem w106 (hw : ∀ d ∈ tables_1, d.before a0 Z = true) : (Jvm.Cond.code ({ cls := "java/lang/AbstractStringBuilder", name := "<init>", desc := "(I)V" } : Jvm.MethodName) jdk_68_method_2_code (2 : Nat) (Option.none : Option Jvm.ClassFile.FieldType)).before a0 Z = true := hw _ (List.mem_of_getElem? (i := 106) rfl)
theorem w107 (hw : ∀ d ∈ tables_1, d.before a0 Z = true) : (Jvm.Cond.methodLink "java/lang/AbstractStringBuilder" (3 : Nat) ({ cls := "java/lang/Object", name := "<init>", desc := "()V" } : Jvm.MethodName)).before a0 Z = true := hw _ (List.mem_of_getElem? (i := 107) rfl)
theorem w108 (hw : ∀ d ∈ tables_1, d.before a0 Z = true) : (Jvm.Cond.fieldLink "java/lang/AbstractStringBuilder" (18 : Nat) "java/lang/String" "COMPACT_STRINGS" "Z").before a0 Z = true := hw _ (List.mem_of_getElem? (i := 108) rfl)
theorem w109 (hw : ∀ d ∈ tables_1, d.before a0 Z = true) : (Jvm.Cond.fieldLink "java/lang/AbstractStringBuilder" (15 : Nat) "java/lang/AbstractStringBuilder" "value" "[B").before a0 Z = true := hw _ (List.mem_of_getElem? (i := 109) rfl)
theorem w110 (hw : ∀ d ∈ tables_1, d.before a0 Z = true) : (Jvm.Cond.lays "java/lang/StringBuilder" "java/lang/AbstractStringBuilder" "value" "[B").before a0 Z = true := hw _ (List.mem_of_getElem? (i := 110) rfl)
theorem w111 (hw : ∀ d ∈ tables_1, d.before a0 Z = true) : (Jvm.Cond.fieldLink "java/lang/AbstractStringBuilder" (22 : Nat) "java/lang/AbstractStringBuilder" "coder" "B").before a0 Z = true := hw _ (List.mem_of_getElem? (i := 111) rfl)
theorem w112 (hw : ∀ d ∈ tables_1, d.before a0 Z = true) : (Jvm.Cond.lays "java/lang/StringBuilder" "java/lang/AbstractStringBuilder" "coder" "B").before a0 Z = true := hw _ (List.mem_of_getElem? (i := 112) rfl)
theorem w113 (hw : ∀ d ∈ tables_1, d.before a0 Z = true) : (Jvm.Cond.methodLink "com/example/portunus/portunus/LockKeys" (28 : Nat) ({ cls := "java/lang/StringBuilder", name := "append", desc := "(Ljava/lang/String;)Ljava/lang/StringBuilder;" } : Jvm.MethodName)).before a0 Z = true := hw _ (List.mem_of_getElem? (i := 113) rfl)
theorem w114 (hw : ∀ d ∈ tables_1, d.before a0 Z = true) : (Jvm.Cond.declares ({ cls := "java/lang/StringBuilder", name := "append", desc := "(Ljava/lang/String;)Ljava/lang/StringBuilder;" } : Jvm.MethodName)).before a0 Z = true := hw _ (List.mem_of_getElem? (i := 114) rfl)
theorem w115 (hw : ∀ d ∈ tables_1, d.before a0 Z = true) : (Jvm.Cond.instanceMethod ({ cls := "java/lang/StringBuilder", name := "append", desc := "(Ljava/lang/String;)Ljava/lang/StringBuilder;" } : Jvm.MethodName)).before a0 Z = true := hw _ (List.mem_of_getElem? (i := 115) rfl)
theorem w116 (hw : ∀ d ∈ tables_1, d.before a0 Z = true) : (Jvm.Cond.selects "java/lang/StringBuilder" ({ cls := "java/lang/StringBuilder", name := "append", desc := "(Ljava/lang/String;)Ljava/lang/StringBuilder;" } : Jvm.MethodName) ({ cls := "java/lang/StringBuilder", name := "append", desc := "(Ljava/lang/String;)Ljava/lang/StringBuilder;" } : Jvm.MethodName)).before a0 Z = true := hw _ (List.mem_of_getElem? (i := 116) rfl)
theorem w117 (hw : ∀ d ∈ tables_1, d.before a0 Z = true) : (Jvm.Cond.code ({ cls := "java/lang/StringBuilder", name := "append", desc := "(Ljava/lang/String;)Ljava/lang/StringBuilder;" } : Jvm.MethodName) jdk_67_method_7_code (2 : Nat) (Option.some (Jvm.ClassFile.FieldType.object "java/lang/StringBuilder"))).before a0 Z = true := hw _ (List.mem_of_getElem? (i := 117) rfl)
theorem w118 (hw : ∀ d ∈ tables_1, d.before a0 Z = true) : (Jvm.Cond.methodLink "java/lang/StringBuilder" (29 : Nat) ({ cls := "java/lang/AbstractStringBuilder", name := "append", desc := "(Ljava/lang/String;)Ljava/lang/AbstractStringBuilder;" } : Jvm.MethodName)).before a0 Z = true := hw _ (List.mem_of_getElem? (i := 118) rfl)
theorem w119 (hw : ∀ d ∈ tables_1, d.before a0 Z = true) : (Jvm.Cond.instanceMethod ({ cls := "java/lang/AbstractStringBuilder", name := "append", desc := "(Ljava/lang/String;)Ljava/lang/AbstractStringBuilder;" } : Jvm.MethodName)).before a0 Z = true := hw _ (List.mem_of_getElem? (i := 119) rfl)
theorem w120 (hw : ∀ d ∈ tables_1, d.before a0 Z = true) : (Jvm.Cond.superclass "java/lang/StringBuilder" "java/lang/AbstractStringBuilder").before a0 Z = true := hw _ (List.mem_of_getElem? (i := 120) rfl)
theorem w121 (hw : ∀ d ∈ tables_1, d.before a0 Z = true) : (Jvm.Cond.declares ({ cls := "java/lang/AbstractStringBuilder", name := "append", desc := "(Ljava/lang/String;)Ljava/lang/AbstractStringBuilder;" } : Jvm.MethodName)).before a0 Z = true := hw _ (List.mem_of_getElem? (i := 121) rfl)
theorem w122 (hw : ∀ d ∈ tables_1, d.before a0 Z = true) : (Jvm.Cond.code ({ cls := "java/lang/AbstractStringBuilder", name := "append", desc := "(Ljava/lang/String;)Ljava/lang/AbstractStringBuilder;" } : Jvm.MethodName) jdk_68_method_22_code (3 : Nat) (Option.some (Jvm.ClassFile.FieldType.object "java/lang/AbstractStringBuilder"))).before a0 Z = true := hw _ (List.mem_of_getElem? (i := 122) rfl)
theorem w123 (hw : ∀ d ∈ tables_1, d.before a0 Z = true) : (Jvm.Cond.methodLink "java/lang/AbstractStringBuilder" (32 : Nat) ({ cls := "java/lang/String", name := "length", desc := "()I" } : Jvm.MethodName)).before a0 Z = true := hw _ (List.mem_of_getElem? (i := 123) rfl)
theorem w124 (hw : ∀ d ∈ tables_1, d.before a0 Z = true) : (Jvm.Cond.fieldLink "java/lang/AbstractStringBuilder" (79 : Nat) "java/lang/AbstractStringBuilder" "count" "I").before a0 Z = true := hw _ (List.mem_of_getElem? (i := 124) rfl)
theorem w125 (hw : ∀ d ∈ tables_1, d.before a0 Z = true) : (Jvm.Cond.lays "java/lang/StringBuilder" "java/lang/AbstractStringBuilder" "count" "I").before a0 Z = true := hw _ (List.mem_of_getElem? (i := 125) rfl)
theorem w126 (hw : ∀ d ∈ tables_1, d.before a0 Z = true) : (Jvm.Cond.methodLink "java/lang/AbstractStringBuilder" (100 : Nat) ({ cls := "java/lang/AbstractStringBuilder", name := "ensureCapacityInternal", desc := "(I)V" } : Jvm.MethodName)).before a0 Z = true := hw _ (List.mem_of_getElem? (i := 126) rfl)
theorem w127 (hw : ∀ d ∈ tables_1, d.before a0 Z = true) : (Jvm.Cond.instanceMethod ({ cls := "java/lang/AbstractStringBuilder", name := "ensureCapacityInternal", desc := "(I)V" } : Jvm.MethodName)).before a0 Z = true := hw _ (List.mem_of_getElem? (i := 127) rfl)
theorem w128 (hw : ∀ d ∈ tables_1, d.before a0 Z = true) : (Jvm.Cond.privateMethod ({ cls := "java/lang/AbstractStringBuilder", name := "ensureCapacityInternal", desc := "(I)V" } : Jvm.MethodName)).before a0 Z = true := hw _ (List.mem_of_getElem? (i := 128) rfl)
theorem w129 (hw : ∀ d ∈ tables_1, d.before a0 Z = true) : (Jvm.Cond.selects "java/lang/StringBuilder" ({ cls := "java/lang/AbstractStringBuilder", name := "ensureCapacityInternal", desc := "(I)V" } : Jvm.MethodName) ({ cls := "java/lang/AbstractStringBuilder", name := "ensureCapacityInternal", desc := "(I)V" } : Jvm.MethodName)).before a0 Z = true := hw _ (List.mem_of_getElem? (i := 129) rfl)
theorem w130 (hw : ∀ d ∈ tables_1, d.before a0 Z = true) : (Jvm.Cond.code ({ cls := "java/lang/AbstractStringBuilder", name := "ensureCapacityInternal", desc := "(I)V" } : Jvm.MethodName) jdk_68_method_9_code (3 : Nat) (Option.none : Option Jvm.ClassFile.FieldType)).before a0 Z = true := hw _ (List.mem_of_getElem? (i := 130) rfl)
theorem w131 (hw : ∀ d ∈ tables_1, d.before a0 Z = true) : (Jvm.Cond.methodLink "java/lang/AbstractStringBuilder" (208 : Nat) ({ cls := "java/lang/AbstractStringBuilder", name := "putStringAt", desc := "(ILjava/lang/String;)V" } : Jvm.MethodName)).before a0 Z = true := hw _ (List.mem_of_getElem? (i := 131) rfl)
theorem w132 (hw : ∀ d ∈ tables_1, d.before a0 Z = true) : (Jvm.Cond.instanceMethod ({ cls := "java/lang/AbstractStringBuilder", name := "putStringAt", desc := "(ILjava/lang/String;)V" } : Jvm.MethodName)).before a0 Z = true := hw _ (List.mem_of_getElem? (i := 132) rfl)
theorem w133 (hw : ∀ d ∈ tables_1, d.before a0 Z = true) : (Jvm.Cond.privateMethod ({ cls := "java/lang/AbstractStringBuilder", name := "putStringAt", desc := "(ILjava/lang/String;)V" } : Jvm.MethodName)).before a0 Z = true := hw _ (List.mem_of_getElem? (i := 133) rfl)
theorem w134 (hw : ∀ d ∈ tables_1, d.before a0 Z = true) : (Jvm.Cond.selects "java/lang/StringBuilder" ({ cls := "java/lang/AbstractStringBuilder", name := "putStringAt", desc := "(ILjava/lang/String;)V" } : Jvm.MethodName) ({ cls := "java/lang/AbstractStringBuilder", name := "putStringAt", desc := "(ILjava/lang/String;)V" } : Jvm.MethodName)).before a0 Z = true := hw _ (List.mem_of_getElem? (i := 134) rfl)
theorem w135 (hw : ∀ d ∈ tables_1, d.before a0 Z = true) : (Jvm.Cond.code ({ cls := "java/lang/AbstractStringBuilder", name := "putStringAt", desc := "(ILjava/lang/String;)V" } : Jvm.MethodName) jdk_68_method_73_code (3 : Nat) (Option.none : Option Jvm.ClassFile.FieldType)).before a0 Z = true := hw _ (List.mem_of_getElem? (i := 135) rfl)
theorem w136 (hw : ∀ d ∈ tables_1, d.before a0 Z = true) : (Jvm.Cond.methodLink "java/lang/AbstractStringBuilder" (397 : Nat) ({ cls := "java/lang/AbstractStringBuilder", name := "inflateIfNeededFor", desc := "(Ljava/lang/String;)V" } : Jvm.MethodName)).before a0 Z = true := hw _ (List.mem_of_getElem? (i := 136) rfl)
theorem w137 (hw : ∀ d ∈ tables_1, d.before a0 Z = true) : (Jvm.Cond.instanceMethod ({ cls := "java/lang/AbstractStringBuilder", name := "inflateIfNeededFor", desc := "(Ljava/lang/String;)V" } : Jvm.MethodName)).before a0 Z = true := hw _ (List.mem_of_getElem? (i := 137) rfl)
theorem w138 (hw : ∀ d ∈ tables_1, d.before a0 Z = true) : (Jvm.Cond.privateMethod ({ cls := "java/lang/AbstractStringBuilder", name := "inflateIfNeededFor", desc := "(Ljava/lang/String;)V" } : Jvm.MethodName)).before a0 Z = true := hw _ (List.mem_of_getElem? (i := 138) rfl)
theorem w139 (hw : ∀ d ∈ tables_1, d.before a0 Z = true) : (Jvm.Cond.selects "java/lang/StringBuilder" ({ cls := "java/lang/AbstractStringBuilder", name := "inflateIfNeededFor", desc := "(Ljava/lang/String;)V" } : Jvm.MethodName) ({ cls := "java/lang/AbstractStringBuilder", name := "inflateIfNeededFor", desc := "(Ljava/lang/String;)V" } : Jvm.MethodName)).before a0 Z = true := hw _ (List.mem_of_getElem? (i := 139) rfl)
theorem w140 (hw : ∀ d ∈ tables_1, d.before a0 Z = true) : (Jvm.Cond.code ({ cls := "java/lang/AbstractStringBuilder", name := "inflateIfNeededFor", desc := "(Ljava/lang/String;)V" } : Jvm.MethodName) jdk_68_method_71_code (2 : Nat) (Option.none : Option Jvm.ClassFile.FieldType)).before a0 Z = true := hw _ (List.mem_of_getElem? (i := 140) rfl)
theorem w141 (hw : ∀ d ∈ tables_1, d.before a0 Z = true) : (Jvm.Cond.methodLink "java/lang/AbstractStringBuilder" (40 : Nat) ({ cls := "java/lang/String", name := "coder", desc := "()B" } : Jvm.MethodName)).before a0 Z = true := hw _ (List.mem_of_getElem? (i := 141) rfl)
theorem w142 (hw : ∀ d ∈ tables_1, d.before a0 Z = true) : (Jvm.Cond.methodLink "java/lang/AbstractStringBuilder" (399 : Nat) ({ cls := "java/lang/String", name := "getBytes", desc := "([BIB)V" } : Jvm.MethodName)).before a0 Z = true := hw _ (List.mem_of_getElem? (i := 142) rfl)
theorem w143 (hw : ∀ d ∈ tables_1, d.before a0 Z = true) : (Jvm.Cond.declares ({ cls := "java/lang/String", name := "getBytes", desc := "([BIB)V" } : Jvm.MethodName)).before a0 Z = true := hw _ (List.mem_of_getElem? (i := 143) rfl)
theorem w144 (hw : ∀ d ∈ tables_1, d.before a0 Z = true) : (Jvm.Cond.instanceMethod ({ cls := "java/lang/String", name := "getBytes", desc := "([BIB)V" } : Jvm.MethodName)).before a0 Z = true := hw _ (List.mem_of_getElem? (i := 144) rfl)
theorem w145 (hw : ∀ d ∈ tables_1, d.before a0 Z = true) : (Jvm.Cond.selects "java/lang/String" ({ cls := "java/lang/String", name := "getBytes", desc := "([BIB)V" } : Jvm.MethodName) ({ cls := "java/lang/String", name := "getBytes", desc := "([BIB)V" } : Jvm.MethodName)).before a0 Z = true := hw _ (List.mem_of_getElem? (i := 145) rfl)
theorem w146 (hw : ∀ d ∈ tables_1, d.before a0 Z = true) : (Jvm.Cond.code ({ cls := "java/lang/String", name := "getBytes", desc := "([BIB)V" } : Jvm.MethodName) jdk_42_method_147_code (4 : Nat) (Option.none : Option Jvm.ClassFile.FieldType)).before a0 Z = true := hw _ (List.mem_of_getElem? (i := 146) rfl)
theorem w147 (hw : ∀ d ∈ tables_1, d.before a0 Z = true) : (Jvm.Cond.methodLink "java/lang/String" (212 : Nat) ({ cls := "java/lang/System", name := "arraycopy", desc := "(Ljava/lang/Object;ILjava/lang/Object;II)V" } : Jvm.MethodName)).before a0 Z = true := hw _ (List.mem_of_getElem? (i := 147) rfl)
theorem w148 (hw : ∀ d ∈ tables_1, d.before a0 Z = true) : (Jvm.Cond.static ({ cls := "java/lang/System", name := "arraycopy", desc := "(Ljava/lang/Object;ILjava/lang/Object;II)V" } : Jvm.MethodName)).before a0 Z = true := hw _ (List.mem_of_getElem? (i := 148) rfl)
theorem w149 (hw : ∀ d ∈ tables_1, d.before a0 Z = true) : (Jvm.Cond.initialized "java/lang/System").before a0 Z = true := hw _ (List.mem_of_getElem? (i := 149) rfl)
theorem w150 (hw : ∀ d ∈ tables_1, d.before a0 Z = true) : (Jvm.Cond.native ({ cls := "java/lang/System", name := "arraycopy", desc := "(Ljava/lang/Object;ILjava/lang/Object;II)V" } : Jvm.MethodName)).before a0 Z = true := hw _ (List.mem_of_getElem? (i := 150) rfl)
theorem w151 (hw : ∀ d ∈ tables_1, d.before a0 Z = true) : (Jvm.Cond.stringLink "com/example/portunus/portunus/LockKeys" (50 : Nat) "fence:").before a0 Z = true := hw _ (List.mem_of_getElem? (i := 151) rfl)
theorem w152 (hw : ∀ d ∈ tables_1, d.before a0 Z = true) : (Jvm.Cond.methodLink "com/example/portunus/portunus/LockKeys" (46 : Nat) ({ cls := "com/example/portunus/portunus/LockKeys", name := "braced", desc := "(Ljava/lang/String;)Ljava/lang/String;" } : Jvm.MethodName)).before a0 Z = true := hw _ (List.mem_of_getElem? (i := 152) rfl)
theorem w153 (hw : ∀ d ∈ tables_1, d.before a0 Z = true) : (Jvm.Cond.static ({ cls := "com/example/portunus/portunus/LockKeys", name := "braced", desc := "(Ljava/lang/String;)Ljava/lang/String;" } : Jvm.MethodName)).before a0 Z = true := hw _ (List.mem_of_getElem? (i := 153) rfl)
theorem w154 (hw : ∀ d ∈ tables_1, d.before a0 Z = true) : (Jvm.Cond.code ({ cls := "com/example/portunus/portunus/LockKeys", name := "braced", desc := "(Ljava/lang/String;)Ljava/lang/String;" } : Jvm.MethodName) prog_6_method_8_code (1 : Nat) (Option.some (Jvm.ClassFile.FieldType.object "java/lang/String"))).before a0 Z = true := hw _ (List.mem_of_getElem? (i := 154) rfl)
theorem w155 (hw : ∀ d ∈ tables_1, d.before a0 Z = true) : (Jvm.Cond.stringLink "com/example/portunus/portunus/LockKeys" (60 : Nat) "name").before a0 Z = true := hw _ (List.mem_of_getElem? (i := 155) rfl)
theorem w156 (hw : ∀ d ∈ tables_1, d.before a0 Z = true) : (Jvm.Cond.methodLink "com/example/portunus/portunus/LockKeys" (62 : Nat) ({ cls := "java/lang/String", name := "isEmpty", desc := "()Z" } : Jvm.MethodName)).before a0 Z = true := hw _ (List.mem_of_getElem? (i := 156) rfl)
theorem w157 (hw : ∀ d ∈ tables_1, d.before a0 Z = true) : (Jvm.Cond.declares ({ cls := "java/lang/String", name := "isEmpty", desc := "()Z" } : Jvm.MethodName)).before a0 Z = true := hw _ (List.mem_of_getElem? (i := 157) rfl)
theorem w158 (hw : ∀ d ∈ tables_1, d.before a0 Z = true) : (Jvm.Cond.instanceMethod ({ cls := "java/lang/String", name := "isEmpty", desc := "()Z" } : Jvm.MethodName)).before a0 Z = true := hw _ (List.mem_of_getElem? (i := 158) rfl)
theorem w159 (hw : ∀ d ∈ tables_1, d.before a0 Z = true) : (Jvm.Cond.selects "java/lang/String" ({ cls := "java/lang/String", name := "isEmpty", desc := "()Z" } : Jvm.MethodName) ({ cls := "java/lang/String", name := "isEmpty", desc := "()Z" } : Jvm.MethodName)).before a0 Z = true := hw _ (List.mem_of_getElem? (i := 159) rfl)
theorem w160 (hw : ∀ d ∈ tables_1, d.before a0 Z = true) : (Jvm.Cond.code ({ cls := "java/lang/String", name := "isEmpty", desc := "()Z" } : Jvm.MethodName) jdk_42_method_55_code (1 : Nat) (Option.some Jvm.ClassFile.FieldType.boolean)).before a0 Z = true := hw _ (List.mem_of_getElem? (i := 160) rfl)
theorem w161 (hw : ∀ d ∈ tables_1, d.before a0 Z = true) : (Jvm.Cond.methodLink "com/example/portunus/portunus/LockKeys" (66 : Nat) ({ cls := "java/lang/String", name := "charAt", desc := "(I)C" } : Jvm.MethodName)).before a0 Z = true := hw _ (List.mem_of_getElem? (i := 161) rfl)
theorem w162 (hw : ∀ d ∈ tables_1, d.before a0 Z = true) : (Jvm.Cond.declares ({ cls := "java/lang/String", name := "charAt", desc := "(I)C" } : Jvm.MethodName)).before a0 Z = true := hw _ (List.mem_of_getElem? (i := 162) rfl)
theorem w163 (hw : ∀ d ∈ tables_1, d.before a0 Z = true) : (Jvm.Cond.instanceMethod ({ cls := "java/lang/String", name := "charAt", desc := "(I)C" } : Jvm.MethodName)).before a0 Z = true := hw _ (List.mem_of_getElem? (i := 163) rfl)
theorem w164 (hw : ∀ d ∈ tables_1, d.before a0 Z = true) : (Jvm.Cond.selects "java/lang/String" ({ cls := "java/lang/String", name := "charAt", desc := "(I)C" } : Jvm.MethodName) ({ cls := "java/lang/String", name := "charAt", desc := "(I)C" } : Jvm.MethodName)).before a0 Z = true := hw _ (List.mem_of_getElem? (i := 164) rfl)
theorem w165 (hw : ∀ d ∈ tables_1, d.before a0 Z = true) : (Jvm.Cond.code ({ cls := "java/lang/String", name := "charAt", desc := "(I)C" } : Jvm.MethodName) jdk_42_method_56_code (2 : Nat) (Option.some Jvm.ClassFile.FieldType.char)).before a0 Z = true := hw _ (List.mem_of_getElem? (i := 165) rfl)
theorem w166 (hw : ∀ d ∈ tables_1, d.before a0 Z = true) : (Jvm.Cond.methodLink "java/lang/String" (495 : Nat) ({ cls := "java/lang/StringLatin1", name := "charAt", desc := "([BI)C" } : Jvm.MethodName)).before a0 Z = true := hw _ (List.mem_of_getElem? (i := 166) rfl)
theorem w167 (hw : ∀ d ∈ tables_1, d.before a0 Z = true) : (Jvm.Cond.static ({ cls := "java/lang/StringLatin1", name := "charAt", desc := "([BI)C" } : Jvm.MethodName)).before a0 Z = true := hw _ (List.mem_of_getElem? (i := 167) rfl)
theorem w168 (hw : ∀ d ∈ tables_1, d.before a0 Z = true) : (Jvm.Cond.code ({ cls := "java/lang/StringLatin1", name := "charAt", desc := "([BI)C" } : Jvm.MethodName) jdk_43_method_2_code (2 : Nat) (Option.some Jvm.ClassFile.FieldType.char)).before a0 Z = true := hw _ (List.mem_of_getElem? (i := 168) rfl)
theorem w169 (hw : ∀ d ∈ tables_1, d.before a0 Z = true) : (Jvm.Cond.methodLink "java/lang/StringLatin1" (9 : Nat) ({ cls := "java/lang/String", name := "checkIndex", desc := "(II)V" } : Jvm.MethodName)).before a0 Z = true := hw _ (List.mem_of_getElem? (i := 169) rfl)
theorem w170 (hw : ∀ d ∈ tables_1, d.before a0 Z = true) : (Jvm.Cond.static ({ cls := "java/lang/String", name := "checkIndex", desc := "(II)V" } : Jvm.MethodName)).before a0 Z = true := hw _ (List.mem_of_getElem? (i := 170) rfl)
theorem w171 (hw : ∀ d ∈ tables_1, d.before a0 Z = true) : (Jvm.Cond.code ({ cls := "java/lang/String", name := "checkIndex", desc := "(II)V" } : Jvm.MethodName) jdk_42_method_155_code (2 : Nat) (Option.none : Option Jvm.ClassFile.FieldType)).before a0 Z = true := hw _ (List.mem_of_getElem? (i := 171) rfl)
theorem w172 (hw : ∀ d ∈ tables_1, d.before a0 Z = true) : (Jvm.Cond.fieldLink "java/lang/String" (1053 : Nat) "jdk/internal/util/Preconditions" "SIOOBE_FORMATTER" "Ljava/util/function/BiFunction;").before a0 Z = true := hw _ (List.mem_of_getElem? (i := 172) rfl)
theorem w173 (hw : ∀ d ∈ tables_1, d.before a0 Z = true) : (Jvm.Cond.initialized "jdk/internal/util/Preconditions").before a0 Z = true := hw _ (List.mem_of_getElem? (i := 173) rfl)
theorem w174 (hw : ∀ d ∈ tables_1, d.before a0 Z = true) : (Jvm.Cond.methodLink "java/lang/String" (1059 : Nat) ({ cls := "jdk/internal/util/Preconditions", name := "checkIndex", desc := "(IILjava/util/function/BiFunction;)I" } : Jvm.MethodName)).before a0 Z = true := hw _ (List.mem_of_getElem? (i := 174) rfl)
theorem w175 (hw : ∀ d ∈ tables_1, d.before a0 Z = true) : (Jvm.Cond.static ({ cls := "jdk/internal/util/Preconditions", name := "checkIndex", desc := "(IILjava/util/function/BiFunction;)I" } : Jvm.MethodName)).before a0 Z = true := hw _ (List.mem_of_getElem? (i := 175) rfl)
theorem w176 (hw : ∀ d ∈ tables_1, d.before a0 Z = true) : (Jvm.Cond.code ({ cls := "jdk/internal/util/Preconditions", name := "checkIndex", desc := "(IILjava/util/function/BiFunction;)I" } : Jvm.MethodName) jdk_41_method_11_code (3 : Nat) (Option.some Jvm.ClassFile.FieldType.int)).before a0 Z = true := hw _ (List.mem_of_getElem? (i := 176) rfl)
theorem w177 (hw : ∀ d ∈ tables_1, d.before a0 Z = true) : (Jvm.Cond.stringLink "com/example/portunus/portunus/LockKeys" (72 : Nat) "{").before a0 Z = true := hw _ (List.mem_of_getElem? (i := 177) rfl)
theorem w178 (hw : ∀ d ∈ tables_1, d.before a0 Z = true) : (Jvm.Cond.stringLink "com/example/portunus/portunus/LockKeys" (74 : Nat) "}").before a0 Z = true := hw _ (List.mem_of_getElem? (i := 178) rfl)
theorem w179 (hw : ∀ d ∈ tables_1, d.before a0 Z = true) : (Jvm.Cond.methodLink "com/example/portunus/portunus/LockKeys" (32 : Nat) ({ cls := "java/lang/StringBuilder", name := "toString", desc := "()Ljava/lang/String;" } : Jvm.MethodName)).before a0 Z = true := hw _ (List.mem_of_getElem? (i := 179) rfl)
theorem w180 (hw : ∀ d ∈ tables_1, d.before a0 Z = true) : (Jvm.Cond.declares ({ cls := "java/lang/StringBuilder", name := "toString", desc := "()Ljava/lang/String;" } : Jvm.MethodName)).before a0 Z = true := hw _ (List.mem_of_getElem? (i := 180) rfl)
theorem w181 (hw : ∀ d ∈ tables_1, d.before a0 Z = true) : (Jvm.Cond.instanceMethod ({ cls := "java/lang/StringBuilder", name := "toString", desc := "()Ljava/lang/String;" } : Jvm.MethodName)).before a0 Z = true := hw _ (List.mem_of_getElem? (i := 181) rfl)
theorem w182 (hw : ∀ d ∈ tables_1, d.before a0 Z = true) : (Jvm.Cond.selects "java/lang/StringBuilder" ({ cls := "java/lang/StringBuilder", name := "toString", desc := "()Ljava/lang/String;" } : Jvm.MethodName) ({ cls := "java/lang/StringBuilder", name := "toString", desc := "()Ljava/lang/String;" } : Jvm.MethodName)).before a0 Z = true := hw _ (List.mem_of_getElem? (i := 182) rfl)
theorem w183 (hw : ∀ d ∈ tables_1, d.before a0 Z = true) : (Jvm.Cond.code ({ cls := "java/lang/StringBuilder", name := "toString", desc := "()Ljava/lang/String;" } : Jvm.MethodName) jdk_67_method_42_code (1 : Nat) (Option.some (Jvm.ClassFile.FieldType.object "java/lang/String"))).before a0 Z = true := hw _ (List.mem_of_getElem? (i := 183) rfl)
theorem w184 (hw : ∀ d ∈ tables_1, d.before a0 Z = true) : (Jvm.Cond.classLink "java/lang/StringBuilder" (18 : Nat) "java/lang/String").before a0 Z = true := hw _ (List.mem_of_getElem? (i := 184) rfl)
theorem w185 (hw : ∀ d ∈ tables_1, d.before a0 Z = true) : (Jvm.Cond.methodLink "java/lang/StringBuilder" (137 : Nat) ({ cls := "java/lang/String", name := "<init>", desc := "(Ljava/lang/StringBuilder;)V" } : Jvm.MethodName)).before a0 Z = true := hw _ (List.mem_of_getElem? (i := 185) rfl)
theorem w186 (hw : ∀ d ∈ tables_1, d.before a0 Z = true) : (Jvm.Cond.instanceMethod ({ cls := "java/lang/String", name := "<init>", desc := "(Ljava/lang/StringBuilder;)V" } : Jvm.MethodName)).before a0 Z = true := hw _ (List.mem_of_getElem? (i := 186) rfl)
theorem w187 (hw : ∀ d ∈ tables_1, d.before a0 Z = true) : (Jvm.Cond.code ({ cls := "java/lang/String", name := "<init>", desc := "(Ljava/lang/StringBuilder;)V" } : Jvm.MethodName) jdk_42_method_53_code (2 : Nat) (Option.none : Option Jvm.ClassFile.FieldType)).before a0 Z = true := hw _ (List.mem_of_getElem? (i := 187) rfl)
theorem w188 (hw : ∀ d ∈ tables_1, d.before a0 Z = true) : (Jvm.Cond.methodLink "java/lang/String" (489 : Nat) ({ cls := "java/lang/String", name := "<init>", desc := "(Ljava/lang/AbstractStringBuilder;Ljava/lang/Void;)V" } : Jvm.MethodName)).before a0 Z = true := hw _ (List.mem_of_getElem? (i := 188) rfl)
theorem w189 (hw : ∀ d ∈ tables_1, d.before a0 Z = true) : (Jvm.Cond.instanceMethod ({ cls := "java/lang/String", name := "<init>", desc := "(Ljava/lang/AbstractStringBuilder;Ljava/lang/Void;)V" } : Jvm.MethodName)).before a0 Z = true := hw _ (List.mem_of_getElem? (i := 189) rfl)
theorem w190 (hw : ∀ d ∈ tables_1, d.before a0 Z = true) : (Jvm.Cond.code ({ cls := "java/lang/String", name := "<init>", desc := "(Ljava/lang/AbstractStringBuilder;Ljava/lang/Void;)V" } : Jvm.MethodName) jdk_42_method_150_code (5 : Nat) (Option.none : Option Jvm.ClassFile.FieldType)).before a0 Z = true := hw _ (List.mem_of_getElem? (i := 190) rfl)
theorem w191 (hw : ∀ d ∈ tables_1, d.before a0 Z = true) : (Jvm.Cond.methodLink "java/lang/String" (552 : Nat) ({ cls := "java/lang/AbstractStringBuilder", name := "getValue", desc := "()[B" } : Jvm.MethodName)).before a0 Z = true := hw _ (List.mem_of_getElem? (i := 191) rfl)
theorem w192 (hw : ∀ d ∈ tables_1, d.before a0 Z = true) : (Jvm.Cond.declares ({ cls := "java/lang/AbstractStringBuilder", name := "getValue", desc := "()[B" } : Jvm.MethodName)).before a0 Z = true := hw _ (List.mem_of_getElem? (i := 192) rfl)
theorem w193 (hw : ∀ d ∈ tables_1, d.before a0 Z = true) : (Jvm.Cond.instanceMethod ({ cls := "java/lang/AbstractStringBuilder", name := "getValue", desc := "()[B" } : Jvm.MethodName)).before a0 Z = true := hw _ (List.mem_of_getElem? (i := 193) rfl)
theorem w194 (hw : ∀ d ∈ tables_1, d.before a0 Z = true) : (Jvm.Cond.selects "java/lang/StringBuilder" ({ cls := "java/lang/AbstractStringBuilder", name := "getValue", desc := "()[B" } : Jvm.MethodName) ({ cls := "java/lang/AbstractStringBuilder", name := "getValue", desc := "()[B" } : Jvm.MethodName)).before a0 Z = true := hw _ (List.mem_of_getElem? (i := 194) rfl)
theorem w195 (hw : ∀ d ∈ tables_1, d.before a0 Z = true) : (Jvm.Cond.code ({ cls := "java/lang/AbstractStringBuilder", name := "getValue", desc := "()[B" } : Jvm.MethodName) jdk_68_method_64_code (1 : Nat) (Option.some (Jvm.ClassFile.FieldType.array Jvm.ClassFile.FieldType.byte))).before a0 Z = true := hw _ (List.mem_of_getElem? (i := 195) rfl)
theorem w196 (hw : ∀ d ∈ tables_1, d.before a0 Z = true) : (Jvm.Cond.methodLink "java/lang/String" (549 : Nat) ({ cls := "java/lang/AbstractStringBuilder", name := "length", desc := "()I" } : Jvm.MethodName)).before a0 Z = true := hw _ (List.mem_of_getElem? (i := 196) rfl)
theorem w197 (hw : ∀ d ∈ tables_1, d.before a0 Z = true) : (Jvm.Cond.declares ({ cls := "java/lang/AbstractStringBuilder", name := "length", desc := "()I" } : Jvm.MethodName)).before a0 Z = true := hw _ (List.mem_of_getElem? (i := 197) rfl)
theorem w198 (hw : ∀ d ∈ tables_1, d.before a0 Z = true) : (Jvm.Cond.instanceMethod ({ cls := "java/lang/AbstractStringBuilder", name := "length", desc := "()I" } : Jvm.MethodName)).before a0 Z = true := hw _ (List.mem_of_getElem? (i := 198) rfl)
theorem w199 (hw : ∀ d ∈ tables_1, d.before a0 Z = true) : (Jvm.Cond.selects "java/lang/StringBuilder" ({ cls := "java/lang/AbstractStringBuilder", name := "length", desc := "()I" } : Jvm.MethodName) ({ cls := "java/lang/StringBuilder", name := "length", desc := "()I" } : Jvm.MethodName)).before a0 Z = true := hw _ (List.mem_of_getElem? (i := 199) rfl)
theorem w200 (hw : ∀ d ∈ tables_1, d.before a0 Z = true) : (Jvm.Cond.instanceMethod ({ cls := "java/lang/StringBuilder", name := "length", desc := "()I" } : Jvm.MethodName)).before a0 Z = true := hw _ (List.mem_of_getElem? (i := 200) rfl)
theorem w201 (hw : ∀ d ∈ tables_1, d.before a0 Z = true) : (Jvm.Cond.code ({ cls := "java/lang/StringBuilder", name := "length", desc := "()I" } : Jvm.MethodName) jdk_67_method_93_code (1 : Nat) (Option.some Jvm.ClassFile.FieldType.int)).before a0 Z = true := hw _ (List.mem_of_getElem? (i := 201) rfl)
theorem w202 (hw : ∀ d ∈ tables_1, d.before a0 Z = true) : (Jvm.Cond.methodLink "java/lang/StringBuilder" (343 : Nat) ({ cls := "java/lang/AbstractStringBuilder", name := "length", desc := "()I" } : Jvm.MethodName)).before a0 Z = true := hw _ (List.mem_of_getElem? (i := 202) rfl)
theorem w203 (hw : ∀ d ∈ tables_1, d.before a0 Z = true) : (Jvm.Cond.code ({ cls := "java/lang/AbstractStringBuilder", name := "length", desc := "()I" } : Jvm.MethodName) jdk_68_method_6_code (1 : Nat) (Option.some Jvm.ClassFile.FieldType.int)).before a0 Z = true := hw _ (List.mem_of_getElem? (i := 203) rfl)
theorem w204 (hw : ∀ d ∈ tables_1, d.before a0 Z = true) : (Jvm.Cond.methodLink "java/lang/String" (1047 : Nat) ({ cls := "java/lang/AbstractStringBuilder", name := "isLatin1", desc := "()Z" } : Jvm.MethodName)).before a0 Z = true := hw _ (List.mem_of_getElem? (i := 204) rfl)
theorem w205 (hw : ∀ d ∈ tables_1, d.before a0 Z = true) : (Jvm.Cond.declares ({ cls := "java/lang/AbstractStringBuilder", name := "isLatin1", desc := "()Z" } : Jvm.MethodName)).before a0 Z = true := hw _ (List.mem_of_getElem? (i := 205) rfl)
theorem w206 (hw : ∀ d ∈ tables_1, d.before a0 Z = true) : (Jvm.Cond.instanceMethod ({ cls := "java/lang/AbstractStringBuilder", name := "isLatin1", desc := "()Z" } : Jvm.MethodName)).before a0 Z = true := hw _ (List.mem_of_getElem? (i := 206) rfl)
theorem w207 (hw : ∀ d ∈ tables_1, d.before a0 Z = true) : (Jvm.Cond.selects "java/lang/StringBuilder" ({ cls := "java/lang/AbstractStringBuilder", name := "isLatin1", desc := "()Z" } : Jvm.MethodName) ({ cls := "java/lang/AbstractStringBuilder", name := "isLatin1", desc := "()Z" } : Jvm.MethodName)).before a0 Z = true := hw _ (List.mem_of_getElem? (i := 207) rfl)
theorem w208 (hw : ∀ d ∈ tables_1, d.before a0 Z = true) : (Jvm.Cond.code ({ cls := "java/lang/AbstractStringBuilder", name := "isLatin1", desc := "()Z" } : Jvm.MethodName) jdk_68_method_68_code (1 : Nat) (Option.some Jvm.ClassFile.FieldType.boolean)).before a0 Z = true := hw _ (List.mem_of_getElem? (i := 208) rfl)
theorem w209 (hw : ∀ d ∈ tables_1, d.before a0 Z = true) : (Jvm.Cond.methodLink "java/lang/String" (54 : Nat) ({ cls := "java/util/Arrays", name := "copyOfRange", desc := "([BII)[B" } : Jvm.MethodName)).before a0 Z = true := hw _ (List.mem_of_getElem? (i := 209) rfl)
theorem w210 (hw : ∀ d ∈ tables_1, d.before a0 Z = true) : (Jvm.Cond.static ({ cls := "java/util/Arrays", name := "copyOfRange", desc := "([BII)[B" } : Jvm.MethodName)).before a0 Z = true := hw _ (List.mem_of_getElem? (i := 210) rfl)
theorem w211 (hw : ∀ d ∈ tables_1, d.before a0 Z = true) : (Jvm.Cond.initialized "java/util/Arrays").before a0 Z = true := hw _ (List.mem_of_getElem? (i := 211) rfl)
theorem w212 (hw : ∀ d ∈ tables_1, d.before a0 Z = true) : (Jvm.Cond.code ({ cls := "java/util/Arrays", name := "copyOfRange", desc := "([BII)[B" } : Jvm.MethodName) jdk_65_method_132_code (3 : Nat) (Option.some (Jvm.ClassFile.FieldType.array Jvm.ClassFile.FieldType.byte))).before a0 Z = true := hw _ (List.mem_of_getElem? (i := 212) rfl)
theorem w213 (hw : ∀ d ∈ tables_1, d.before a0 Z = true) : (Jvm.Cond.methodLink "java/util/Arrays" (339 : Nat) ({ cls := "java/util/Arrays", name := "copyOfRangeByte", desc := "([BII)[B" } : Jvm.MethodName)).before a0 Z = true := hw _ (List.mem_of_getElem? (i := 213) rfl)
theorem w214 (hw : ∀ d ∈ tables_1, d.before a0 Z = true) : (Jvm.Cond.static ({ cls := "java/util/Arrays", name := "copyOfRangeByte", desc := "([BII)[B" } : Jvm.MethodName)).before a0 Z = true := hw _ (List.mem_of_getElem? (i := 214) rfl)
theorem w215 (hw : ∀ d ∈ tables_1, d.before a0 Z = true) : (Jvm.Cond.code ({ cls := "java/util/Arrays", name := "copyOfRangeByte", desc := "([BII)[B" } : Jvm.MethodName) jdk_65_method_133_code (5 : Nat) (Option.some (Jvm.ClassFile.FieldType.array Jvm.ClassFile.FieldType.byte))).before a0 Z = true := hw _ (List.mem_of_getElem? (i := 215) rfl)
theorem w216 (hw : ∀ d ∈ tables_1, d.before a0 Z = true) : (Jvm.Cond.methodLink "java/util/Arrays" (343 : Nat) ({ cls := "java/util/Arrays", name := "checkLength", desc := "(II)V" } : Jvm.MethodName)).before a0 Z = true := hw _ (List.mem_of_getElem? (i := 216) rfl)
theorem w217 (hw : ∀ d ∈ tables_1, d.before a0 Z = true) : (Jvm.Cond.static ({ cls := "java/util/Arrays", name := "checkLength", desc := "(II)V" } : Jvm.MethodName)).before a0 Z = true := hw _ (List.mem_of_getElem? (i := 217) rfl)
theorem w218 (hw : ∀ d ∈ tables_1, d.before a0 Z = true) : (Jvm.Cond.code ({ cls := "java/util/Arrays", name := "checkLength", desc := "(II)V" } : Jvm.MethodName) jdk_65_method_131_code (2 : Nat) (Option.none : Option Jvm.ClassFile.FieldType)).before a0 Z = true := hw _ (List.mem_of_getElem? (i := 218) rfl)
theorem w219 (hw : ∀ d ∈ tables_1, d.before a0 Z = true) : (Jvm.Cond.methodLink "java/util/Arrays" (304 : Nat) ({ cls := "java/lang/Math", name := "min", desc := "(II)I" } : Jvm.MethodName)).before a0 Z = true := hw _ (List.mem_of_getElem? (i := 219) rfl)
theorem w220 (hw : ∀ d ∈ tables_1, d.before a0 Z = true) : (Jvm.Cond.methodLink "java/util/Arrays" (150 : Nat) ({ cls := "java/lang/System", name := "arraycopy", desc := "(Ljava/lang/Object;ILjava/lang/Object;II)V" } : Jvm.MethodName)).before a0 Z = true := hw _ (List.mem_of_getElem? (i := 220) rfl)
theorem w221 (hw : ∀ d ∈ tables_1, d.before a0 Z = true) : (Jvm.Cond.methodLink "com/example/portunus/portunus/LockKeysFenceKeyPinLaw" (27 : Nat) ({ cls := "java/lang/String", name := "length", desc := "()I" } : Jvm.MethodName)).before a0 Z = true := hw _ (List.mem_of_getElem? (i := 221) rfl)
theorem w222 (hw : ∀ d ∈ tables_1, d.before a0 Z = true) : (Jvm.Cond.methodLink "com/example/portunus/portunus/LockKeysFenceKeyPinLaw" (31 : Nat) ({ cls := "com/example/portunus/portunus/LockKeysFenceKeyPinLaw", name := "at", desc := "(Ljava/lang/String;[CII)Z" } : Jvm.MethodName)).before a0 Z = true := hw _ (List.mem_of_getElem? (i := 222) rfl)
theorem w223 (hw : ∀ d ∈ tables_1, d.before a0 Z = true) : (Jvm.Cond.static ({ cls := "com/example/portunus/portunus/LockKeysFenceKeyPinLaw", name := "at", desc := "(Ljava/lang/String;[CII)Z" } : Jvm.MethodName)).before a0 Z = true := hw _ (List.mem_of_getElem? (i := 223) rfl)
theorem w224 (hw : ∀ d ∈ tables_1, d.before a0 Z = true) : (Jvm.Cond.code ({ cls := "com/example/portunus/portunus/LockKeysFenceKeyPinLaw", name := "at", desc := "(Ljava/lang/String;[CII)Z" } : Jvm.MethodName) method_4_code (4 : Nat) (Option.some Jvm.ClassFile.FieldType.boolean)).before a0 Z = true := hw _ (List.mem_of_getElem? (i := 224) rfl)
theorem w225 (hw : ∀ d ∈ tables_1, d.before a0 Z = true) : (Jvm.Cond.methodLink "com/example/portunus/portunus/LockKeysFenceKeyPinLaw" (35 : Nat) ({ cls := "java/lang/String", name := "charAt", desc := "(I)C" } : Jvm.MethodName)).before a0 Z = true := hw _ (List.mem_of_getElem? (i := 225) rfl)
theorem w226 (hw : ∀ d ∈ tables_1, d.before a0 Z = true) : (Jvm.Cond.methodLink "java/lang/StringLatin1" (95 : Nat) ({ cls := "java/lang/StringLatin1", name := "indexOfChar", desc := "([BIII)I" } : Jvm.MethodName)).before a0 Z = true := hw _ (List.mem_of_getElem? (i := 226) rfl)
theorem w227 (hw : ∀ d ∈ tables_1, d.before a0 Z = true) : (Jvm.Cond.static ({ cls := "java/lang/StringLatin1", name := "indexOfChar", desc := "([BIII)I" } : Jvm.MethodName)).before a0 Z = true := hw _ (List.mem_of_getElem? (i := 227) rfl)
theorem w228 (hw : ∀ d ∈ tables_1, d.before a0 Z = true) : (Jvm.Cond.code ({ cls := "java/lang/StringLatin1", name := "indexOfChar", desc := "([BIII)I" } : Jvm.MethodName) jdk_43_method_23_code (6 : Nat) (Option.some Jvm.ClassFile.FieldType.int)).before a0 Z = true := hw _ (List.mem_of_getElem? (i := 228) rfl)
end Words
theorem d1_0 : decode method_3_code 0 = .ok (.iload_n 0, 1) := by decide +kernel
theorem d1_1 : decode method_3_code 1 = .ok (.bipush 123, 2) := by decide +kernel
theorem d1_3 : decode method_3_code 3 = .ok (.if_icmp .eq 9, 3) := by decide +kernel
theorem d1_6 : decode method_3_code 6 = .ok (.iload_n 0, 1) := by decide +kernel
theorem d1_7 : decode method_3_code 7 = .ok (.bipush 125, 2) := by decide +kernel
theorem d1_9 : decode method_3_code 9 = .ok (.if_icmp .ne 10, 3) := by decide +kernel
theorem d1_12 : decode method_3_code 12 = .ok (.iload_n 0, 1) := by decide +kernel
theorem d1_13 : decode method_3_code 13 = .ok (.iconst 1, 1) := by decide +kernel
theorem d1_14 : decode method_3_code 14 = .ok (.ixor, 1) := by decide +kernel
theorem d1_15 : decode method_3_code 15 = .ok (.i2c, 1) := by decide +kernel
theorem d1_16 : decode method_3_code 16 = .ok (.goto 4, 3) := by decide +kernel
theorem d1_19 : decode method_3_code 19 = .ok (.iload_n 0, 1) := by decide +kernel
theorem d1_20 : decode method_3_code 20 = .ok (.ireturn, 1) := by decide +kernel
theorem d2_0 : decode jdk_42_method_3_code 0 = .ok (.aload_n 0, 1) := by decide +kernel
theorem d2_1 : decode jdk_42_method_3_code 1 = .ok (.aload_n 1, 1) := by decide +kernel
theorem d2_2 : decode jdk_42_method_3_code 2 = .ok (.iconst 0, 1) := by decide +kernel
theorem d2_3 : decode jdk_42_method_3_code 3 = .ok (.aload_n 1, 1) := by decide +kernel
theorem d2_4 : decode jdk_42_method_3_code 4 = .ok (.arraylength, 1) := by decide +kernel
theorem d2_5 : decode jdk_42_method_3_code 5 = .ok (.aconst_null, 1) := by decide +kernel
theorem d2_6 : decode jdk_42_method_3_code 6 = .ok (.invokespecial 27, 3) := by decide +kernel
theorem d2_9 : decode jdk_42_method_3_code 9 = .ok (.return_, 1) := by decide +kernel
theorem d3_0 : decode jdk_42_method_149_code 0 = .ok (.aload_n 0, 1) := by decide +kernel
theorem d3_1 : decode jdk_42_method_149_code 1 = .ok (.invokespecial 1, 3) := by decide +kernel
theorem d3_4 : decode jdk_42_method_149_code 4 = .ok (.iload_n 3, 1) := by decide +kernel
theorem d3_5 : decode jdk_42_method_149_code 5 = .ok (.ifCond .ne 22, 3) := by decide +kernel
theorem d3_8 : decode jdk_42_method_149_code 8 = .ok (.aload_n 0, 1) := by decide +kernel
theorem d3_9 : decode jdk_42_method_149_code 9 = .ok (.ldc 7, 2) := by decide +kernel
theorem d3_11 : decode jdk_42_method_149_code 11 = .ok (.getfield 9, 3) := by decide +kernel
theorem d3_14 : decode jdk_42_method_149_code 14 = .ok (.putfield 9, 3) := by decide +kernel
theorem d3_17 : decode jdk_42_method_149_code 17 = .ok (.aload_n 0, 1) := by decide +kernel
theorem d3_18 : decode jdk_42_method_149_code 18 = .ok (.ldc 7, 2) := by decide +kernel
theorem d3_20 : decode jdk_42_method_149_code 20 = .ok (.getfield 15, 3) := by decide +kernel
theorem d3_23 : decode jdk_42_method_149_code 23 = .ok (.putfield 15, 3) := by decide +kernel
theorem d3_26 : decode jdk_42_method_149_code 26 = .ok (.return_, 1) := by decide +kernel
theorem d3_27 : decode jdk_42_method_149_code 27 = .ok (.getstatic 38, 3) := by decide +kernel
theorem d3_30 : decode jdk_42_method_149_code 30 = .ok (.ifCond .eq 28, 3) := by decide +kernel
theorem d3_33 : decode jdk_42_method_149_code 33 = .ok (.aload_n 1, 1) := by decide +kernel
theorem d3_34 : decode jdk_42_method_149_code 34 = .ok (.iload_n 2, 1) := by decide +kernel
theorem d3_35 : decode jdk_42_method_149_code 35 = .ok (.iload_n 3, 1) := by decide +kernel
theorem d3_36 : decode jdk_42_method_149_code 36 = .ok (.invokestatic 177, 3) := by decide +kernel
theorem d3_39 : decode jdk_42_method_149_code 39 = .ok (.astore 5, 2) := by decide +kernel
theorem d3_41 : decode jdk_42_method_149_code 41 = .ok (.aload_n 0, 1) := by decide +kernel
theorem d3_42 : decode jdk_42_method_149_code 42 = .ok (.aload 5, 2) := by decide +kernel
theorem d3_44 : decode jdk_42_method_149_code 44 = .ok (.iload_n 3, 1) := by decide +kernel
theorem d3_45 : decode jdk_42_method_149_code 45 = .ok (.invokestatic 47, 3) := by decide +kernel
theorem d3_48 : decode jdk_42_method_149_code 48 = .ok (.putfield 15, 3) := by decide +kernel
theorem d3_51 : decode jdk_42_method_149_code 51 = .ok (.aload_n 0, 1) := by decide +kernel
theorem d3_52 : decode jdk_42_method_149_code 52 = .ok (.aload 5, 2) := by decide +kernel
theorem d3_54 : decode jdk_42_method_149_code 54 = .ok (.putfield 9, 3) := by decide +kernel
theorem d3_57 : decode jdk_42_method_149_code 57 = .ok (.return_, 1) := by decide +kernel
theorem d5_0 : decode jdk_52_method_16_code 0 = .ok (.iload_n 2, 1) := by decide +kernel
theorem d5_1 : decode jdk_52_method_16_code 1 = .ok (.newarray .byte, 2) := by decide +kernel
theorem d5_3 : decode jdk_52_method_16_code 3 = .ok (.astore_n 3, 1) := by decide +kernel
theorem d5_4 : decode jdk_52_method_16_code 4 = .ok (.aload_n 0, 1) := by decide +kernel
theorem d5_5 : decode jdk_52_method_16_code 5 = .ok (.iload_n 1, 1) := by decide +kernel
theorem d5_6 : decode jdk_52_method_16_code 6 = .ok (.aload_n 3, 1) := by decide +kernel
theorem d5_7 : decode jdk_52_method_16_code 7 = .ok (.iconst 0, 1) := by decide +kernel
theorem d5_8 : decode jdk_52_method_16_code 8 = .ok (.iload_n 2, 1) := by decide +kernel
theorem d5_9 : decode jdk_52_method_16_code 9 = .ok (.invokestatic 115, 3) := by decide +kernel
theorem d5_12 : decode jdk_52_method_16_code 12 = .ok (.istore 4, 2) := by decide +kernel
theorem d5_14 : decode jdk_52_method_16_code 14 = .ok (.iload 4, 2) := by decide +kernel
theorem d5_16 : decode jdk_52_method_16_code 16 = .ok (.iload_n 2, 1) := by decide +kernel
theorem d5_17 : decode jdk_52_method_16_code 17 = .ok (.if_icmp .eq 40, 3) := by decide +kernel
theorem d5_57 : decode jdk_52_method_16_code 57 = .ok (.aload_n 3, 1) := by decide +kernel
theorem d5_58 : decode jdk_52_method_16_code 58 = .ok (.areturn, 1) := by decide +kernel
theorem d6_0 : decode jdk_52_method_21_code 0 = .ok (.iconst 0, 1) := by decide +kernel
theorem d6_1 : decode jdk_52_method_21_code 1 = .ok (.istore 5, 2) := by decide +kernel
theorem d6_3 : decode jdk_52_method_21_code 3 = .ok (.iload 5, 2) := by decide +kernel
theorem d6_5 : decode jdk_52_method_21_code 5 = .ok (.iload 4, 2) := by decide +kernel
theorem d6_7 : decode jdk_52_method_21_code 7 = .ok (.if_icmp .ge 37, 3) := by decide +kernel
theorem d6_10 : decode jdk_52_method_21_code 10 = .ok (.aload_n 0, 1) := by decide +kernel
theorem d6_11 : decode jdk_52_method_21_code 11 = .ok (.iload_n 1, 1) := by decide +kernel
theorem d6_12 : decode jdk_52_method_21_code 12 = .ok (.caload, 1) := by decide +kernel
theorem d6_13 : decode jdk_52_method_21_code 13 = .ok (.istore 6, 2) := by decide +kernel
theorem d6_15 : decode jdk_52_method_21_code 15 = .ok (.iload 6, 2) := by decide +kernel
theorem d6_17 : decode jdk_52_method_21_code 17 = .ok (.sipush 255, 3) := by decide +kernel
theorem d6_20 : decode jdk_52_method_21_code 20 = .ok (.if_icmp .le 6, 3) := by decide +kernel
theorem d6_26 : decode jdk_52_method_21_code 26 = .ok (.aload_n 2, 1) := by decide +kernel
theorem d6_27 : decode jdk_52_method_21_code 27 = .ok (.iload_n 3, 1) := by decide +kernel
theorem d6_28 : decode jdk_52_method_21_code 28 = .ok (.iload 6, 2) := by decide +kernel
theorem d6_30 : decode jdk_52_method_21_code 30 = .ok (.i2b, 1) := by decide +kernel
theorem d6_31 : decode jdk_52_method_21_code 31 = .ok (.bastore, 1) := by decide +kernel
theorem d6_32 : decode jdk_52_method_21_code 32 = .ok (.iinc 1 1, 3) := by decide +kernel
theorem d6_35 : decode jdk_52_method_21_code 35 = .ok (.iinc 3 1, 3) := by decide +kernel
theorem d6_38 : decode jdk_52_method_21_code 38 = .ok (.iinc 5 1, 3) := by decide +kernel
theorem d6_41 : decode jdk_52_method_21_code 41 = .ok (.goto (-38), 3) := by decide +kernel
theorem d6_44 : decode jdk_52_method_21_code 44 = .ok (.iload 4, 2) := by decide +kernel
theorem d6_46 : decode jdk_52_method_21_code 46 = .ok (.ireturn, 1) := by decide +kernel
theorem d7_0 : decode jdk_52_method_15_code 0 = .ok (.iload_n 1, 1) := by decide +kernel
theorem d7_1 : decode jdk_52_method_15_code 1 = .ok (.aload_n 0, 1) := by decide +kernel
theorem d7_2 : decode jdk_52_method_15_code 2 = .ok (.arraylength, 1) := by decide +kernel
theorem d7_3 : decode jdk_52_method_15_code 3 = .ok (.isub, 1) := by decide +kernel
theorem d7_4 : decode jdk_52_method_15_code 4 = .ok (.bipush 31, 2) := by decide +kernel
theorem d7_6 : decode jdk_52_method_15_code 6 = .ok (.iushr, 1) := by decide +kernel
theorem d7_7 : decode jdk_52_method_15_code 7 = .ok (.i2b, 1) := by decide +kernel
theorem d7_8 : decode jdk_52_method_15_code 8 = .ok (.ireturn, 1) := by decide +kernel
theorem d8_0 : decode prog_6_method_1_code 0 = .ok (.aload_n 0, 1) := by decide +kernel
theorem d8_1 : decode prog_6_method_1_code 1 = .ok (.invokespecial 1, 3) := by decide +kernel
theorem d8_4 : decode prog_6_method_1_code 4 = .ok (.aload_n 1, 1) := by decide +kernel
theorem d8_5 : decode prog_6_method_1_code 5 = .ok (.ldc 7, 2) := by decide +kernel
theorem d8_7 : decode prog_6_method_1_code 7 = .ok (.invokestatic 9, 3) := by decide +kernel
theorem d8_10 : decode prog_6_method_1_code 10 = .ok (.pop, 1) := by decide +kernel
theorem d8_11 : decode prog_6_method_1_code 11 = .ok (.aload_n 1, 1) := by decide +kernel
theorem d8_12 : decode prog_6_method_1_code 12 = .ok (.bipush 123, 2) := by decide +kernel
theorem d8_14 : decode prog_6_method_1_code 14 = .ok (.invokevirtual 15, 3) := by decide +kernel
theorem d8_17 : decode prog_6_method_1_code 17 = .ok (.ifCond .ge 12, 3) := by decide +kernel
theorem d8_20 : decode prog_6_method_1_code 20 = .ok (.aload_n 1, 1) := by decide +kernel
theorem d8_21 : decode prog_6_method_1_code 21 = .ok (.bipush 125, 2) := by decide +kernel
theorem d8_23 : decode prog_6_method_1_code 23 = .ok (.invokevirtual 15, 3) := by decide +kernel
theorem d8_26 : decode prog_6_method_1_code 26 = .ok (.ifCond .lt 30, 3) := by decide +kernel
theorem d8_56 : decode prog_6_method_1_code 56 = .ok (.aload_n 0, 1) := by decide +kernel
theorem d8_57 : decode prog_6_method_1_code 57 = .ok (.aload_n 1, 1) := by decide +kernel
theorem d8_58 : decode prog_6_method_1_code 58 = .ok (.putfield 39, 3) := by decide +kernel
theorem d8_61 : decode prog_6_method_1_code 61 = .ok (.return_, 1) := by decide +kernel
theorem d9_0 : decode jdk_31_method_11_code 0 = .ok (.aload_n 0, 1) := by decide +kernel
theorem d9_1 : decode jdk_31_method_11_code 1 = .ok (.ifnonnull 12, 3) := by decide +kernel
theorem d9_13 : decode jdk_31_method_11_code 13 = .ok (.aload_n 0, 1) := by decide +kernel
theorem d9_14 : decode jdk_31_method_11_code 14 = .ok (.areturn, 1) := by decide +kernel
theorem d10_0 : decode jdk_42_method_79_code 0 = .ok (.aload_n 0, 1) := by decide +kernel
theorem d10_1 : decode jdk_42_method_79_code 1 = .ok (.iload_n 1, 1) := by decide +kernel
theorem d10_2 : decode jdk_42_method_79_code 2 = .ok (.iconst 0, 1) := by decide +kernel
theorem d10_3 : decode jdk_42_method_79_code 3 = .ok (.invokevirtual 633, 3) := by decide +kernel
theorem d10_6 : decode jdk_42_method_79_code 6 = .ok (.ireturn, 1) := by decide +kernel
theorem d11_0 : decode jdk_42_method_80_code 0 = .ok (.aload_n 0, 1) := by decide +kernel
theorem d11_1 : decode jdk_42_method_80_code 1 = .ok (.invokevirtual 492, 3) := by decide +kernel
theorem d11_4 : decode jdk_42_method_80_code 4 = .ok (.ifCond .eq 19, 3) := by decide +kernel
theorem d11_7 : decode jdk_42_method_80_code 7 = .ok (.aload_n 0, 1) := by decide +kernel
theorem d11_8 : decode jdk_42_method_80_code 8 = .ok (.getfield 9, 3) := by decide +kernel
theorem d11_11 : decode jdk_42_method_80_code 11 = .ok (.iload_n 1, 1) := by decide +kernel
theorem d11_12 : decode jdk_42_method_80_code 12 = .ok (.iload_n 2, 1) := by decide +kernel
theorem d11_13 : decode jdk_42_method_80_code 13 = .ok (.aload_n 0, 1) := by decide +kernel
theorem d11_14 : decode jdk_42_method_80_code 14 = .ok (.invokevirtual 505, 3) := by decide +kernel
theorem d11_17 : decode jdk_42_method_80_code 17 = .ok (.invokestatic 637, 3) := by decide +kernel
theorem d11_20 : decode jdk_42_method_80_code 20 = .ok (.goto 16, 3) := by decide +kernel
theorem d11_36 : decode jdk_42_method_80_code 36 = .ok (.ireturn, 1) := by decide +kernel
theorem d12_0 : decode jdk_42_method_154_code 0 = .ok (.getstatic 38, 3) := by decide +kernel
theorem d12_3 : decode jdk_42_method_154_code 3 = .ok (.ifCond .eq 14, 3) := by decide +kernel
theorem d12_6 : decode jdk_42_method_154_code 6 = .ok (.aload_n 0, 1) := by decide +kernel
theorem d12_7 : decode jdk_42_method_154_code 7 = .ok (.getfield 15, 3) := by decide +kernel
theorem d12_10 : decode jdk_42_method_154_code 10 = .ok (.ifCond .ne 7, 3) := by decide +kernel
theorem d12_13 : decode jdk_42_method_154_code 13 = .ok (.iconst 1, 1) := by decide +kernel
theorem d12_14 : decode jdk_42_method_154_code 14 = .ok (.goto 4, 3) := by decide +kernel
theorem d12_18 : decode jdk_42_method_154_code 18 = .ok (.ireturn, 1) := by decide +kernel
theorem d13_0 : decode jdk_42_method_54_code 0 = .ok (.aload_n 0, 1) := by decide +kernel
theorem d13_1 : decode jdk_42_method_54_code 1 = .ok (.getfield 9, 3) := by decide +kernel
theorem d13_4 : decode jdk_42_method_54_code 4 = .ok (.arraylength, 1) := by decide +kernel
theorem d13_5 : decode jdk_42_method_54_code 5 = .ok (.aload_n 0, 1) := by decide +kernel
theorem d13_6 : decode jdk_42_method_54_code 6 = .ok (.invokevirtual 335, 3) := by decide +kernel
theorem d13_9 : decode jdk_42_method_54_code 9 = .ok (.ishr, 1) := by decide +kernel
theorem d13_10 : decode jdk_42_method_54_code 10 = .ok (.ireturn, 1) := by decide +kernel
theorem d14_0 : decode jdk_42_method_152_code 0 = .ok (.getstatic 38, 3) := by decide +kernel
theorem d14_3 : decode jdk_42_method_152_code 3 = .ok (.ifCond .eq 10, 3) := by decide +kernel
theorem d14_6 : decode jdk_42_method_152_code 6 = .ok (.aload_n 0, 1) := by decide +kernel
theorem d14_7 : decode jdk_42_method_152_code 7 = .ok (.getfield 15, 3) := by decide +kernel
theorem d14_10 : decode jdk_42_method_152_code 10 = .ok (.goto 4, 3) := by decide +kernel
theorem d14_14 : decode jdk_42_method_152_code 14 = .ok (.ireturn, 1) := by decide +kernel
theorem d15_0 : decode jdk_43_method_22_code 0 = .ok (.iload_n 1, 1) := by decide +kernel
theorem d15_1 : decode jdk_43_method_22_code 1 = .ok (.invokestatic 88, 3) := by decide +kernel
theorem d15_4 : decode jdk_43_method_22_code 4 = .ok (.ifCond .ne 5, 3) := by decide +kernel
theorem d15_9 : decode jdk_43_method_22_code 9 = .ok (.iload_n 2, 1) := by decide +kernel
theorem d15_10 : decode jdk_43_method_22_code 10 = .ok (.iconst 0, 1) := by decide +kernel
theorem d15_11 : decode jdk_43_method_22_code 11 = .ok (.invokestatic 92, 3) := by decide +kernel
theorem d15_14 : decode jdk_43_method_22_code 14 = .ok (.istore_n 2, 1) := by decide +kernel
theorem d15_15 : decode jdk_43_method_22_code 15 = .ok (.iload_n 3, 1) := by decide +kernel
theorem d15_16 : decode jdk_43_method_22_code 16 = .ok (.aload_n 0, 1) := by decide +kernel
theorem d15_17 : decode jdk_43_method_22_code 17 = .ok (.arraylength, 1) := by decide +kernel
theorem d15_18 : decode jdk_43_method_22_code 18 = .ok (.invokestatic 38, 3) := by decide +kernel
theorem d15_21 : decode jdk_43_method_22_code 21 = .ok (.istore_n 3, 1) := by decide +kernel
theorem d15_22 : decode jdk_43_method_22_code 22 = .ok (.iload_n 2, 1) := by decide +kernel
theorem d15_23 : decode jdk_43_method_22_code 23 = .ok (.iload_n 3, 1) := by decide +kernel
theorem d15_24 : decode jdk_43_method_22_code 24 = .ok (.if_icmp .lt 5, 3) := by decide +kernel
theorem d15_27 : decode jdk_43_method_22_code 27 = .ok (.iconst (-1), 1) := by decide +kernel
theorem d15_28 : decode jdk_43_method_22_code 28 = .ok (.ireturn, 1) := by decide +kernel
theorem d15_29 : decode jdk_43_method_22_code 29 = .ok (.aload_n 0, 1) := by decide +kernel
theorem d15_30 : decode jdk_43_method_22_code 30 = .ok (.iload_n 1, 1) := by decide +kernel
theorem d15_31 : decode jdk_43_method_22_code 31 = .ok (.iload_n 2, 1) := by decide +kernel
theorem d15_32 : decode jdk_43_method_22_code 32 = .ok (.iload_n 3, 1) := by decide +kernel
theorem d15_33 : decode jdk_43_method_22_code 33 = .ok (.invokestatic 95, 3) := by decide +kernel
theorem d15_36 : decode jdk_43_method_22_code 36 = .ok (.ireturn, 1) := by decide +kernel
theorem d16_0 : decode jdk_43_method_4_code 0 = .ok (.iload_n 0, 1) := by decide +kernel
theorem d16_1 : decode jdk_43_method_4_code 1 = .ok (.ifCond .lt 14, 3) := by decide +kernel
theorem d16_4 : decode jdk_43_method_4_code 4 = .ok (.iload_n 0, 1) := by decide +kernel
theorem d16_5 : decode jdk_43_method_4_code 5 = .ok (.sipush 255, 3) := by decide +kernel
theorem d16_8 : decode jdk_43_method_4_code 8 = .ok (.if_icmp .gt 7, 3) := by decide +kernel
theorem d16_11 : decode jdk_43_method_4_code 11 = .ok (.iconst 1, 1) := by decide +kernel
theorem d16_12 : decode jdk_43_method_4_code 12 = .ok (.goto 4, 3) := by decide +kernel
theorem d16_16 : decode jdk_43_method_4_code 16 = .ok (.ireturn, 1) := by decide +kernel
theorem d17_0 : decode jdk_29_method_65_code 0 = .ok (.iload_n 0, 1) := by decide +kernel
theorem d17_1 : decode jdk_29_method_65_code 1 = .ok (.iload_n 1, 1) := by decide +kernel
theorem d17_2 : decode jdk_29_method_65_code 2 = .ok (.if_icmp .lt 7, 3) := by decide +kernel
theorem d17_5 : decode jdk_29_method_65_code 5 = .ok (.iload_n 0, 1) := by decide +kernel
theorem d17_6 : decode jdk_29_method_65_code 6 = .ok (.goto 4, 3) := by decide +kernel
theorem d17_10 : decode jdk_29_method_65_code 10 = .ok (.ireturn, 1) := by decide +kernel
theorem d18_0 : decode jdk_29_method_69_code 0 = .ok (.iload_n 0, 1) := by decide +kernel
theorem d18_1 : decode jdk_29_method_69_code 1 = .ok (.iload_n 1, 1) := by decide +kernel
theorem d18_2 : decode jdk_29_method_69_code 2 = .ok (.if_icmp .gt 7, 3) := by decide +kernel
theorem d18_5 : decode jdk_29_method_69_code 5 = .ok (.iload_n 0, 1) := by decide +kernel
theorem d18_6 : decode jdk_29_method_69_code 6 = .ok (.goto 4, 3) := by decide +kernel
theorem d18_9 : decode jdk_29_method_69_code 9 = .ok (.iload_n 1, 1) := by decide +kernel
theorem d18_10 : decode jdk_29_method_69_code 10 = .ok (.ireturn, 1) := by decide +kernel
theorem d19_0 : decode prog_6_method_3_code 0 = .ok (.new 23, 3) := by decide +kernel
theorem d19_3 : decode prog_6_method_3_code 3 = .ok (.dup, 1) := by decide +kernel
theorem d19_4 : decode prog_6_method_3_code 4 = .ok (.invokespecial 25, 3) := by decide +kernel
theorem d19_7 : decode prog_6_method_3_code 7 = .ok (.aload_n 0, 1) := by decide +kernel
theorem d19_8 : decode prog_6_method_3_code 8 = .ok (.getfield 39, 3) := by decide +kernel
theorem d19_11 : decode prog_6_method_3_code 11 = .ok (.invokevirtual 28, 3) := by decide +kernel
theorem d19_14 : decode prog_6_method_3_code 14 = .ok (.ldc 50, 2) := by decide +kernel
theorem d19_16 : decode prog_6_method_3_code 16 = .ok (.invokevirtual 28, 3) := by decide +kernel
theorem d19_19 : decode prog_6_method_3_code 19 = .ok (.aload_n 1, 1) := by decide +kernel
theorem d19_20 : decode prog_6_method_3_code 20 = .ok (.invokestatic 46, 3) := by decide +kernel
theorem d19_23 : decode prog_6_method_3_code 23 = .ok (.invokevirtual 28, 3) := by decide +kernel
theorem d19_26 : decode prog_6_method_3_code 26 = .ok (.invokevirtual 32, 3) := by decide +kernel
theorem d19_29 : decode prog_6_method_3_code 29 = .ok (.areturn, 1) := by decide +kernel
theorem d20_0 : decode jdk_67_method_1_code 0 = .ok (.aload_n 0, 1) := by decide +kernel
theorem d20_1 : decode jdk_67_method_1_code 1 = .ok (.bipush 16, 2) := by decide +kernel
theorem d20_3 : decode jdk_67_method_1_code 3 = .ok (.invokespecial 1, 3) := by decide +kernel
theorem d20_6 : decode jdk_67_method_1_code 6 = .ok (.return_, 1) := by decide +kernel
theorem d21_0 : decode jdk_68_method_2_code 0 = .ok (.aload_n 0, 1) := by decide +kernel
theorem d21_1 : decode jdk_68_method_2_code 1 = .ok (.invokespecial 3, 3) := by decide +kernel
theorem d21_4 : decode jdk_68_method_2_code 4 = .ok (.getstatic 18, 3) := by decide +kernel
theorem d21_7 : decode jdk_68_method_2_code 7 = .ok (.ifCond .eq 18, 3) := by decide +kernel
theorem d21_10 : decode jdk_68_method_2_code 10 = .ok (.aload_n 0, 1) := by decide +kernel
theorem d21_11 : decode jdk_68_method_2_code 11 = .ok (.iload_n 1, 1) := by decide +kernel
theorem d21_12 : decode jdk_68_method_2_code 12 = .ok (.newarray .byte, 2) := by decide +kernel
theorem d21_14 : decode jdk_68_method_2_code 14 = .ok (.putfield 15, 3) := by decide +kernel
theorem d21_17 : decode jdk_68_method_2_code 17 = .ok (.aload_n 0, 1) := by decide +kernel
theorem d21_18 : decode jdk_68_method_2_code 18 = .ok (.iconst 0, 1) := by decide +kernel
theorem d21_19 : decode jdk_68_method_2_code 19 = .ok (.putfield 22, 3) := by decide +kernel
theorem d21_22 : decode jdk_68_method_2_code 22 = .ok (.goto 16, 3) := by decide +kernel
theorem d21_38 : decode jdk_68_method_2_code 38 = .ok (.return_, 1) := by decide +kernel
theorem d22_0 : decode jdk_67_method_7_code 0 = .ok (.aload_n 0, 1) := by decide +kernel
theorem d22_1 : decode jdk_67_method_7_code 1 = .ok (.aload_n 1, 1) := by decide +kernel
theorem d22_2 : decode jdk_67_method_7_code 2 = .ok (.invokespecial 29, 3) := by decide +kernel
theorem d22_5 : decode jdk_67_method_7_code 5 = .ok (.pop, 1) := by decide +kernel
theorem d22_6 : decode jdk_67_method_7_code 6 = .ok (.aload_n 0, 1) := by decide +kernel
theorem d22_7 : decode jdk_67_method_7_code 7 = .ok (.areturn, 1) := by decide +kernel
theorem d23_0 : decode jdk_68_method_22_code 0 = .ok (.aload_n 1, 1) := by decide +kernel
theorem d23_1 : decode jdk_68_method_22_code 1 = .ok (.ifnonnull 8, 3) := by decide +kernel
theorem d23_9 : decode jdk_68_method_22_code 9 = .ok (.aload_n 1, 1) := by decide +kernel
theorem d23_10 : decode jdk_68_method_22_code 10 = .ok (.invokevirtual 32, 3) := by decide +kernel
theorem d23_13 : decode jdk_68_method_22_code 13 = .ok (.istore_n 2, 1) := by decide +kernel
theorem d23_14 : decode jdk_68_method_22_code 14 = .ok (.aload_n 0, 1) := by decide +kernel
theorem d23_15 : decode jdk_68_method_22_code 15 = .ok (.aload_n 0, 1) := by decide +kernel
theorem d23_16 : decode jdk_68_method_22_code 16 = .ok (.getfield 79, 3) := by decide +kernel
theorem d23_19 : decode jdk_68_method_22_code 19 = .ok (.iload_n 2, 1) := by decide +kernel
theorem d23_20 : decode jdk_68_method_22_code 20 = .ok (.iadd, 1) := by decide +kernel
theorem d23_21 : decode jdk_68_method_22_code 21 = .ok (.invokevirtual 100, 3) := by decide +kernel
theorem d23_24 : decode jdk_68_method_22_code 24 = .ok (.aload_n 0, 1) := by decide +kernel
theorem d23_25 : decode jdk_68_method_22_code 25 = .ok (.aload_n 0, 1) := by decide +kernel
theorem d23_26 : decode jdk_68_method_22_code 26 = .ok (.getfield 79, 3) := by decide +kernel
theorem d23_29 : decode jdk_68_method_22_code 29 = .ok (.aload_n 1, 1) := by decide +kernel
theorem d23_30 : decode jdk_68_method_22_code 30 = .ok (.invokevirtual 208, 3) := by decide +kernel
theorem d23_33 : decode jdk_68_method_22_code 33 = .ok (.aload_n 0, 1) := by decide +kernel
theorem d23_34 : decode jdk_68_method_22_code 34 = .ok (.dup, 1) := by decide +kernel
theorem d23_35 : decode jdk_68_method_22_code 35 = .ok (.getfield 79, 3) := by decide +kernel
theorem d23_38 : decode jdk_68_method_22_code 38 = .ok (.iload_n 2, 1) := by decide +kernel
theorem d23_39 : decode jdk_68_method_22_code 39 = .ok (.iadd, 1) := by decide +kernel
theorem d23_40 : decode jdk_68_method_22_code 40 = .ok (.putfield 79, 3) := by decide +kernel
theorem d23_43 : decode jdk_68_method_22_code 43 = .ok (.aload_n 0, 1) := by decide +kernel
theorem d23_44 : decode jdk_68_method_22_code 44 = .ok (.areturn, 1) := by decide +kernel
theorem d24_0 : decode jdk_68_method_9_code 0 = .ok (.aload_n 0, 1) := by decide +kernel
theorem d24_1 : decode jdk_68_method_9_code 1 = .ok (.getfield 15, 3) := by decide +kernel
theorem d24_4 : decode jdk_68_method_9_code 4 = .ok (.arraylength, 1) := by decide +kernel
theorem d24_5 : decode jdk_68_method_9_code 5 = .ok (.aload_n 0, 1) := by decide +kernel
theorem d24_6 : decode jdk_68_method_9_code 6 = .ok (.getfield 22, 3) := by decide +kernel
theorem d24_9 : decode jdk_68_method_9_code 9 = .ok (.ishr, 1) := by decide +kernel
theorem d24_10 : decode jdk_68_method_9_code 10 = .ok (.istore_n 2, 1) := by decide +kernel
theorem d24_11 : decode jdk_68_method_9_code 11 = .ok (.iload_n 1, 1) := by decide +kernel
theorem d24_12 : decode jdk_68_method_9_code 12 = .ok (.iload_n 2, 1) := by decide +kernel
theorem d24_13 : decode jdk_68_method_9_code 13 = .ok (.isub, 1) := by decide +kernel
theorem d24_14 : decode jdk_68_method_9_code 14 = .ok (.ifCond .le 24, 3) := by decide +kernel
theorem d24_38 : decode jdk_68_method_9_code 38 = .ok (.return_, 1) := by decide +kernel
theorem d25_0 : decode jdk_68_method_73_code 0 = .ok (.aload_n 0, 1) := by decide +kernel
theorem d25_1 : decode jdk_68_method_73_code 1 = .ok (.aload_n 2, 1) := by decide +kernel
theorem d25_2 : decode jdk_68_method_73_code 2 = .ok (.invokevirtual 397, 3) := by decide +kernel
theorem d25_5 : decode jdk_68_method_73_code 5 = .ok (.aload_n 2, 1) := by decide +kernel
theorem d25_6 : decode jdk_68_method_73_code 6 = .ok (.aload_n 0, 1) := by decide +kernel
theorem d25_7 : decode jdk_68_method_73_code 7 = .ok (.getfield 15, 3) := by decide +kernel
theorem d25_10 : decode jdk_68_method_73_code 10 = .ok (.iload_n 1, 1) := by decide +kernel
theorem d25_11 : decode jdk_68_method_73_code 11 = .ok (.aload_n 0, 1) := by decide +kernel
theorem d25_12 : decode jdk_68_method_73_code 12 = .ok (.getfield 22, 3) := by decide +kernel
theorem d25_15 : decode jdk_68_method_73_code 15 = .ok (.invokevirtual 399, 3) := by decide +kernel
theorem d25_18 : decode jdk_68_method_73_code 18 = .ok (.return_, 1) := by decide +kernel
theorem d26_0 : decode jdk_68_method_71_code 0 = .ok (.getstatic 18, 3) := by decide +kernel
theorem d26_3 : decode jdk_68_method_71_code 3 = .ok (.ifCond .eq 18, 3) := by decide +kernel
theorem d26_6 : decode jdk_68_method_71_code 6 = .ok (.aload_n 0, 1) := by decide +kernel
theorem d26_7 : decode jdk_68_method_71_code 7 = .ok (.getfield 22, 3) := by decide +kernel
theorem d26_10 : decode jdk_68_method_71_code 10 = .ok (.aload_n 1, 1) := by decide +kernel
theorem d26_11 : decode jdk_68_method_71_code 11 = .ok (.invokevirtual 40, 3) := by decide +kernel
theorem d26_14 : decode jdk_68_method_71_code 14 = .ok (.if_icmp .eq 7, 3) := by decide +kernel
theorem d26_21 : decode jdk_68_method_71_code 21 = .ok (.return_, 1) := by decide +kernel
theorem d27_0 : decode jdk_42_method_147_code 0 = .ok (.aload_n 0, 1) := by decide +kernel
theorem d27_1 : decode jdk_42_method_147_code 1 = .ok (.invokevirtual 335, 3) := by decide +kernel
theorem d27_4 : decode jdk_42_method_147_code 4 = .ok (.iload_n 3, 1) := by decide +kernel
theorem d27_5 : decode jdk_42_method_147_code 5 = .ok (.if_icmp .ne 23, 3) := by decide +kernel
theorem d27_8 : decode jdk_42_method_147_code 8 = .ok (.aload_n 0, 1) := by decide +kernel
theorem d27_9 : decode jdk_42_method_147_code 9 = .ok (.getfield 9, 3) := by decide +kernel
theorem d27_12 : decode jdk_42_method_147_code 12 = .ok (.iconst 0, 1) := by decide +kernel
theorem d27_13 : decode jdk_42_method_147_code 13 = .ok (.aload_n 1, 1) := by decide +kernel
theorem d27_14 : decode jdk_42_method_147_code 14 = .ok (.iload_n 2, 1) := by decide +kernel
theorem d27_15 : decode jdk_42_method_147_code 15 = .ok (.iload_n 3, 1) := by decide +kernel
theorem d27_16 : decode jdk_42_method_147_code 16 = .ok (.ishl, 1) := by decide +kernel
theorem d27_17 : decode jdk_42_method_147_code 17 = .ok (.aload_n 0, 1) := by decide +kernel
theorem d27_18 : decode jdk_42_method_147_code 18 = .ok (.getfield 9, 3) := by decide +kernel
theorem d27_21 : decode jdk_42_method_147_code 21 = .ok (.arraylength, 1) := by decide +kernel
theorem d27_22 : decode jdk_42_method_147_code 22 = .ok (.invokestatic 212, 3) := by decide +kernel
theorem d27_25 : decode jdk_42_method_147_code 25 = .ok (.goto 18, 3) := by decide +kernel
theorem d27_43 : decode jdk_42_method_147_code 43 = .ok (.return_, 1) := by decide +kernel
theorem d28_0 : decode prog_6_method_8_code 0 = .ok (.aload_n 0, 1) := by decide +kernel
theorem d28_1 : decode prog_6_method_8_code 1 = .ok (.ldc 60, 2) := by decide +kernel
theorem d28_3 : decode prog_6_method_8_code 3 = .ok (.invokestatic 9, 3) := by decide +kernel
theorem d28_6 : decode prog_6_method_8_code 6 = .ok (.pop, 1) := by decide +kernel
theorem d28_7 : decode prog_6_method_8_code 7 = .ok (.aload_n 0, 1) := by decide +kernel
theorem d28_8 : decode prog_6_method_8_code 8 = .ok (.invokevirtual 62, 3) := by decide +kernel
theorem d28_11 : decode prog_6_method_8_code 11 = .ok (.ifCond .ne 13, 3) := by decide +kernel
theorem d28_14 : decode prog_6_method_8_code 14 = .ok (.aload_n 0, 1) := by decide +kernel
theorem d28_15 : decode prog_6_method_8_code 15 = .ok (.iconst 0, 1) := by decide +kernel
theorem d28_16 : decode prog_6_method_8_code 16 = .ok (.invokevirtual 66, 3) := by decide +kernel
theorem d28_19 : decode prog_6_method_8_code 19 = .ok (.bipush 125, 2) := by decide +kernel
theorem d28_21 : decode prog_6_method_8_code 21 = .ok (.if_icmp .ne 30, 3) := by decide +kernel
theorem d28_51 : decode prog_6_method_8_code 51 = .ok (.new 23, 3) := by decide +kernel
theorem d28_54 : decode prog_6_method_8_code 54 = .ok (.dup, 1) := by decide +kernel
theorem d28_55 : decode prog_6_method_8_code 55 = .ok (.invokespecial 25, 3) := by decide +kernel
theorem d28_58 : decode prog_6_method_8_code 58 = .ok (.ldc 72, 2) := by decide +kernel
theorem d28_60 : decode prog_6_method_8_code 60 = .ok (.invokevirtual 28, 3) := by decide +kernel
theorem d28_63 : decode prog_6_method_8_code 63 = .ok (.aload_n 0, 1) := by decide +kernel
theorem d28_64 : decode prog_6_method_8_code 64 = .ok (.invokevirtual 28, 3) := by decide +kernel
theorem d28_67 : decode prog_6_method_8_code 67 = .ok (.ldc 74, 2) := by decide +kernel
theorem d28_69 : decode prog_6_method_8_code 69 = .ok (.invokevirtual 28, 3) := by decide +kernel
theorem d28_72 : decode prog_6_method_8_code 72 = .ok (.invokevirtual 32, 3) := by decide +kernel
theorem d28_75 : decode prog_6_method_8_code 75 = .ok (.areturn, 1) := by decide +kernel
theorem d29_0 : decode jdk_42_method_55_code 0 = .ok (.aload_n 0, 1) := by decide +kernel
theorem d29_1 : decode jdk_42_method_55_code 1 = .ok (.getfield 9, 3) := by decide +kernel
theorem d29_4 : decode jdk_42_method_55_code 4 = .ok (.arraylength, 1) := by decide +kernel
theorem d29_5 : decode jdk_42_method_55_code 5 = .ok (.ifCond .ne 7, 3) := by decide +kernel
theorem d29_12 : decode jdk_42_method_55_code 12 = .ok (.iconst 0, 1) := by decide +kernel
theorem d29_13 : decode jdk_42_method_55_code 13 = .ok (.ireturn, 1) := by decide +kernel
theorem d30_0 : decode jdk_42_method_56_code 0 = .ok (.aload_n 0, 1) := by decide +kernel
theorem d30_1 : decode jdk_42_method_56_code 1 = .ok (.invokevirtual 492, 3) := by decide +kernel
theorem d30_4 : decode jdk_42_method_56_code 4 = .ok (.ifCond .eq 12, 3) := by decide +kernel
theorem d30_7 : decode jdk_42_method_56_code 7 = .ok (.aload_n 0, 1) := by decide +kernel
theorem d30_8 : decode jdk_42_method_56_code 8 = .ok (.getfield 9, 3) := by decide +kernel
theorem d30_11 : decode jdk_42_method_56_code 11 = .ok (.iload_n 1, 1) := by decide +kernel
theorem d30_12 : decode jdk_42_method_56_code 12 = .ok (.invokestatic 495, 3) := by decide +kernel
theorem d30_15 : decode jdk_42_method_56_code 15 = .ok (.ireturn, 1) := by decide +kernel
theorem d31_0 : decode jdk_43_method_2_code 0 = .ok (.iload_n 1, 1) := by decide +kernel
theorem d31_1 : decode jdk_43_method_2_code 1 = .ok (.aload_n 0, 1) := by decide +kernel
theorem d31_2 : decode jdk_43_method_2_code 2 = .ok (.arraylength, 1) := by decide +kernel
theorem d31_3 : decode jdk_43_method_2_code 3 = .ok (.invokestatic 9, 3) := by decide +kernel
theorem d31_6 : decode jdk_43_method_2_code 6 = .ok (.aload_n 0, 1) := by decide +kernel
theorem d31_7 : decode jdk_43_method_2_code 7 = .ok (.iload_n 1, 1) := by decide +kernel
theorem d31_8 : decode jdk_43_method_2_code 8 = .ok (.baload, 1) := by decide +kernel
theorem d31_9 : decode jdk_43_method_2_code 9 = .ok (.sipush 255, 3) := by decide +kernel
theorem d31_12 : decode jdk_43_method_2_code 12 = .ok (.iand, 1) := by decide +kernel
theorem d31_13 : decode jdk_43_method_2_code 13 = .ok (.i2c, 1) := by decide +kernel
theorem d31_14 : decode jdk_43_method_2_code 14 = .ok (.ireturn, 1) := by decide +kernel
theorem d32_0 : decode jdk_42_method_155_code 0 = .ok (.iload_n 0, 1) := by decide +kernel
theorem d32_1 : decode jdk_42_method_155_code 1 = .ok (.iload_n 1, 1) := by decide +kernel
theorem d32_2 : decode jdk_42_method_155_code 2 = .ok (.getstatic 1053, 3) := by decide +kernel
theorem d32_5 : decode jdk_42_method_155_code 5 = .ok (.invokestatic 1059, 3) := by decide +kernel
theorem d32_8 : decode jdk_42_method_155_code 8 = .ok (.pop, 1) := by decide +kernel
theorem d32_9 : decode jdk_42_method_155_code 9 = .ok (.return_, 1) := by decide +kernel
theorem d33_0 : decode jdk_41_method_11_code 0 = .ok (.iload_n 0, 1) := by decide +kernel
theorem d33_1 : decode jdk_41_method_11_code 1 = .ok (.ifCond .lt 8, 3) := by decide +kernel
theorem d33_4 : decode jdk_41_method_11_code 4 = .ok (.iload_n 0, 1) := by decide +kernel
theorem d33_5 : decode jdk_41_method_11_code 5 = .ok (.iload_n 1, 1) := by decide +kernel
theorem d33_6 : decode jdk_41_method_11_code 6 = .ok (.if_icmp .lt 10, 3) := by decide +kernel
theorem d33_16 : decode jdk_41_method_11_code 16 = .ok (.iload_n 0, 1) := by decide +kernel
theorem d33_17 : decode jdk_41_method_11_code 17 = .ok (.ireturn, 1) := by decide +kernel
theorem d34_0 : decode jdk_67_method_42_code 0 = .ok (.new 18, 3) := by decide +kernel
theorem d34_3 : decode jdk_67_method_42_code 3 = .ok (.dup, 1) := by decide +kernel
theorem d34_4 : decode jdk_67_method_42_code 4 = .ok (.aload_n 0, 1) := by decide +kernel
theorem d34_5 : decode jdk_67_method_42_code 5 = .ok (.invokespecial 137, 3) := by decide +kernel
theorem d34_8 : decode jdk_67_method_42_code 8 = .ok (.areturn, 1) := by decide +kernel
theorem d35_0 : decode jdk_42_method_53_code 0 = .ok (.aload_n 0, 1) := by decide +kernel
theorem d35_1 : decode jdk_42_method_53_code 1 = .ok (.aload_n 1, 1) := by decide +kernel
theorem d35_2 : decode jdk_42_method_53_code 2 = .ok (.aconst_null, 1) := by decide +kernel
theorem d35_3 : decode jdk_42_method_53_code 3 = .ok (.invokespecial 489, 3) := by decide +kernel
theorem d35_6 : decode jdk_42_method_53_code 6 = .ok (.return_, 1) := by decide +kernel
theorem d36_0 : decode jdk_42_method_150_code 0 = .ok (.aload_n 0, 1) := by decide +kernel
theorem d36_1 : decode jdk_42_method_150_code 1 = .ok (.invokespecial 1, 3) := by decide +kernel
theorem d36_4 : decode jdk_42_method_150_code 4 = .ok (.aload_n 1, 1) := by decide +kernel
theorem d36_5 : decode jdk_42_method_150_code 5 = .ok (.invokevirtual 552, 3) := by decide +kernel
theorem d36_8 : decode jdk_42_method_150_code 8 = .ok (.astore_n 3, 1) := by decide +kernel
theorem d36_9 : decode jdk_42_method_150_code 9 = .ok (.aload_n 1, 1) := by decide +kernel
theorem d36_10 : decode jdk_42_method_150_code 10 = .ok (.invokevirtual 549, 3) := by decide +kernel
theorem d36_13 : decode jdk_42_method_150_code 13 = .ok (.istore 4, 2) := by decide +kernel
theorem d36_15 : decode jdk_42_method_150_code 15 = .ok (.aload_n 1, 1) := by decide +kernel
theorem d36_16 : decode jdk_42_method_150_code 16 = .ok (.invokevirtual 1047, 3) := by decide +kernel
theorem d36_19 : decode jdk_42_method_150_code 19 = .ok (.ifCond .eq 22, 3) := by decide +kernel
theorem d36_22 : decode jdk_42_method_150_code 22 = .ok (.aload_n 0, 1) := by decide +kernel
theorem d36_23 : decode jdk_42_method_150_code 23 = .ok (.iconst 0, 1) := by decide +kernel
theorem d36_24 : decode jdk_42_method_150_code 24 = .ok (.putfield 15, 3) := by decide +kernel
theorem d36_27 : decode jdk_42_method_150_code 27 = .ok (.aload_n 0, 1) := by decide +kernel
theorem d36_28 : decode jdk_42_method_150_code 28 = .ok (.aload_n 3, 1) := by decide +kernel
theorem d36_29 : decode jdk_42_method_150_code 29 = .ok (.iconst 0, 1) := by decide +kernel
theorem d36_30 : decode jdk_42_method_150_code 30 = .ok (.iload 4, 2) := by decide +kernel
theorem d36_32 : decode jdk_42_method_150_code 32 = .ok (.invokestatic 54, 3) := by decide +kernel
theorem d36_35 : decode jdk_42_method_150_code 35 = .ok (.putfield 9, 3) := by decide +kernel
theorem d36_38 : decode jdk_42_method_150_code 38 = .ok (.goto 59, 3) := by decide +kernel
theorem d36_97 : decode jdk_42_method_150_code 97 = .ok (.return_, 1) := by decide +kernel
theorem d37_0 : decode jdk_68_method_64_code 0 = .ok (.aload_n 0, 1) := by decide +kernel
theorem d37_1 : decode jdk_68_method_64_code 1 = .ok (.getfield 15, 3) := by decide +kernel
theorem d37_4 : decode jdk_68_method_64_code 4 = .ok (.areturn, 1) := by decide +kernel
theorem d38_0 : decode jdk_67_method_93_code 0 = .ok (.aload_n 0, 1) := by decide +kernel
theorem d38_1 : decode jdk_67_method_93_code 1 = .ok (.invokespecial 343, 3) := by decide +kernel
theorem d38_4 : decode jdk_67_method_93_code 4 = .ok (.ireturn, 1) := by decide +kernel
theorem d39_0 : decode jdk_68_method_6_code 0 = .ok (.aload_n 0, 1) := by decide +kernel
theorem d39_1 : decode jdk_68_method_6_code 1 = .ok (.getfield 79, 3) := by decide +kernel
theorem d39_4 : decode jdk_68_method_6_code 4 = .ok (.ireturn, 1) := by decide +kernel
theorem d40_0 : decode jdk_68_method_68_code 0 = .ok (.getstatic 18, 3) := by decide +kernel
theorem d40_3 : decode jdk_68_method_68_code 3 = .ok (.ifCond .eq 14, 3) := by decide +kernel
theorem d40_6 : decode jdk_68_method_68_code 6 = .ok (.aload_n 0, 1) := by decide +kernel
theorem d40_7 : decode jdk_68_method_68_code 7 = .ok (.getfield 22, 3) := by decide +kernel
theorem d40_10 : decode jdk_68_method_68_code 10 = .ok (.ifCond .ne 7, 3) := by decide +kernel
theorem d40_13 : decode jdk_68_method_68_code 13 = .ok (.iconst 1, 1) := by decide +kernel
theorem d40_14 : decode jdk_68_method_68_code 14 = .ok (.goto 4, 3) := by decide +kernel
theorem d40_18 : decode jdk_68_method_68_code 18 = .ok (.ireturn, 1) := by decide +kernel
theorem d41_0 : decode jdk_65_method_132_code 0 = .ok (.iload_n 1, 1) := by decide +kernel
theorem d41_1 : decode jdk_65_method_132_code 1 = .ok (.ifCond .ne 9, 3) := by decide +kernel
theorem d41_4 : decode jdk_65_method_132_code 4 = .ok (.iload_n 2, 1) := by decide +kernel
theorem d41_5 : decode jdk_65_method_132_code 5 = .ok (.aload_n 0, 1) := by decide +kernel
theorem d41_6 : decode jdk_65_method_132_code 6 = .ok (.arraylength, 1) := by decide +kernel
theorem d41_7 : decode jdk_65_method_132_code 7 = .ok (.if_icmp .eq 10, 3) := by decide +kernel
theorem d41_10 : decode jdk_65_method_132_code 10 = .ok (.aload_n 0, 1) := by decide +kernel
theorem d41_11 : decode jdk_65_method_132_code 11 = .ok (.iload_n 1, 1) := by decide +kernel
theorem d41_12 : decode jdk_65_method_132_code 12 = .ok (.iload_n 2, 1) := by decide +kernel
theorem d41_13 : decode jdk_65_method_132_code 13 = .ok (.invokestatic 339, 3) := by decide +kernel
theorem d41_16 : decode jdk_65_method_132_code 16 = .ok (.areturn, 1) := by decide +kernel
theorem d42_0 : decode jdk_65_method_133_code 0 = .ok (.iload_n 1, 1) := by decide +kernel
theorem d42_1 : decode jdk_65_method_133_code 1 = .ok (.iload_n 2, 1) := by decide +kernel
theorem d42_2 : decode jdk_65_method_133_code 2 = .ok (.invokestatic 343, 3) := by decide +kernel
theorem d42_5 : decode jdk_65_method_133_code 5 = .ok (.iload_n 2, 1) := by decide +kernel
theorem d42_6 : decode jdk_65_method_133_code 6 = .ok (.iload_n 1, 1) := by decide +kernel
theorem d42_7 : decode jdk_65_method_133_code 7 = .ok (.isub, 1) := by decide +kernel
theorem d42_8 : decode jdk_65_method_133_code 8 = .ok (.istore_n 3, 1) := by decide +kernel
theorem d42_9 : decode jdk_65_method_133_code 9 = .ok (.iload_n 3, 1) := by decide +kernel
theorem d42_10 : decode jdk_65_method_133_code 10 = .ok (.newarray .byte, 2) := by decide +kernel
theorem d42_12 : decode jdk_65_method_133_code 12 = .ok (.astore 4, 2) := by decide +kernel
theorem d42_14 : decode jdk_65_method_133_code 14 = .ok (.aload_n 0, 1) := by decide +kernel
theorem d42_15 : decode jdk_65_method_133_code 15 = .ok (.iload_n 1, 1) := by decide +kernel
theorem d42_16 : decode jdk_65_method_133_code 16 = .ok (.aload 4, 2) := by decide +kernel
theorem d42_18 : decode jdk_65_method_133_code 18 = .ok (.iconst 0, 1) := by decide +kernel
theorem d42_19 : decode jdk_65_method_133_code 19 = .ok (.aload_n 0, 1) := by decide +kernel
theorem d42_20 : decode jdk_65_method_133_code 20 = .ok (.arraylength, 1) := by decide +kernel
theorem d42_21 : decode jdk_65_method_133_code 21 = .ok (.iload_n 1, 1) := by decide +kernel
theorem d42_22 : decode jdk_65_method_133_code 22 = .ok (.isub, 1) := by decide +kernel
theorem d42_23 : decode jdk_65_method_133_code 23 = .ok (.iload_n 3, 1) := by decide +kernel
theorem d42_24 : decode jdk_65_method_133_code 24 = .ok (.invokestatic 304, 3) := by decide +kernel
theorem d42_27 : decode jdk_65_method_133_code 27 = .ok (.invokestatic 150, 3) := by decide +kernel
theorem d42_30 : decode jdk_65_method_133_code 30 = .ok (.aload 4, 2) := by decide +kernel
theorem d42_32 : decode jdk_65_method_133_code 32 = .ok (.areturn, 1) := by decide +kernel
theorem d43_0 : decode jdk_65_method_131_code 0 = .ok (.iload_n 1, 1) := by decide +kernel
theorem d43_1 : decode jdk_65_method_131_code 1 = .ok (.iload_n 0, 1) := by decide +kernel
theorem d43_2 : decode jdk_65_method_131_code 2 = .ok (.if_icmp .ge 35, 3) := by decide +kernel
theorem d43_37 : decode jdk_65_method_131_code 37 = .ok (.return_, 1) := by decide +kernel
theorem d44_0 : decode method_4_code 0 = .ok (.iload_n 3, 1) := by decide +kernel
theorem d44_1 : decode method_4_code 1 = .ok (.iload_n 2, 1) := by decide +kernel
theorem d44_2 : decode method_4_code 2 = .ok (.if_icmp .ge 14, 3) := by decide +kernel
theorem d44_5 : decode method_4_code 5 = .ok (.aload_n 0, 1) := by decide +kernel
theorem d44_6 : decode method_4_code 6 = .ok (.iload_n 3, 1) := by decide +kernel
theorem d44_7 : decode method_4_code 7 = .ok (.invokevirtual 35, 3) := by decide +kernel
theorem d44_10 : decode method_4_code 10 = .ok (.aload_n 1, 1) := by decide +kernel
theorem d44_11 : decode method_4_code 11 = .ok (.iload_n 3, 1) := by decide +kernel
theorem d44_12 : decode method_4_code 12 = .ok (.caload, 1) := by decide +kernel
theorem d44_13 : decode method_4_code 13 = .ok (.if_icmp .ne 7, 3) := by decide +kernel
theorem d44_16 : decode method_4_code 16 = .ok (.iconst 1, 1) := by decide +kernel
theorem d44_17 : decode method_4_code 17 = .ok (.goto 4, 3) := by decide +kernel
theorem d44_21 : decode method_4_code 21 = .ok (.ireturn, 1) := by decide +kernel
theorem d45_0 : decode jdk_43_method_23_code 0 = .ok (.iload_n 1, 1) := by decide +kernel
theorem d45_1 : decode jdk_43_method_23_code 1 = .ok (.i2b, 1) := by decide +kernel
theorem d45_2 : decode jdk_43_method_23_code 2 = .ok (.istore 4, 2) := by decide +kernel
theorem d45_4 : decode jdk_43_method_23_code 4 = .ok (.iload_n 2, 1) := by decide +kernel
theorem d45_5 : decode jdk_43_method_23_code 5 = .ok (.istore 5, 2) := by decide +kernel
theorem d45_7 : decode jdk_43_method_23_code 7 = .ok (.iload 5, 2) := by decide +kernel
theorem d45_9 : decode jdk_43_method_23_code 9 = .ok (.iload_n 3, 1) := by decide +kernel
theorem d45_10 : decode jdk_43_method_23_code 10 = .ok (.if_icmp .ge 21, 3) := by decide +kernel
theorem d45_13 : decode jdk_43_method_23_code 13 = .ok (.aload_n 0, 1) := by decide +kernel
theorem d45_14 : decode jdk_43_method_23_code 14 = .ok (.iload 5, 2) := by decide +kernel
theorem d45_16 : decode jdk_43_method_23_code 16 = .ok (.baload, 1) := by decide +kernel
theorem d45_17 : decode jdk_43_method_23_code 17 = .ok (.iload 4, 2) := by decide +kernel
theorem d45_19 : decode jdk_43_method_23_code 19 = .ok (.if_icmp .ne 6, 3) := by decide +kernel
theorem d45_22 : decode jdk_43_method_23_code 22 = .ok (.iload 5, 2) := by decide +kernel
theorem d45_24 : decode jdk_43_method_23_code 24 = .ok (.ireturn, 1) := by decide +kernel
theorem d45_25 : decode jdk_43_method_23_code 25 = .ok (.iinc 5 1, 3) := by decide +kernel
theorem d45_28 : decode jdk_43_method_23_code 28 = .ok (.goto (-21), 3) := by decide +kernel
theorem d45_31 : decode jdk_43_method_23_code 31 = .ok (.iconst (-1), 1) := by decide +kernel
theorem d45_32 : decode jdk_43_method_23_code 32 = .ok (.ireturn, 1) := by decide +kernel
theorem pn_2 : plainName "java/util/Objects" = true := by first | (simp [plainName, overriddenIn]; done) | decide +kernel
theorem pn_3 : plainName "com/example/portunus/portunus/LockKeys" = true := by first | (simp [plainName, overriddenIn]; done) | decide +kernel
theorem pn_4 : plainName "com/example/portunus/portunus/LockKeysFenceKeyPinLaw" = true := by first | (simp [plainName, overriddenIn]; done) | decide +kernel
/-! new String(char[]), all chars below 256: the JDK's bodies walked -/
section StrInit
variable {l : Launch} {Z : State} {a0 : Array Value}
theorem own_hEL (hw : ∀ d ∈ tables_1, d.before a0 Z = true) : EW Z a0 consts_1 := (EW.cons (w44 hw) (by decide) (EW.cons (w151 hw) (by decide) (EW.cons (w155 hw) (by decide) (EW.cons (w177 hw) (by decide) (EW.cons (w178 hw) (by decide) (EW.cons (w18 hw) (by decide) EW.nil))))))
theorem own_wS (hw : ∀ d ∈ tables_1, d.before a0 Z = true) : ∀ a ∈ Bundle.stringAtoms, a.before a0 Z = true := by
  intro a ha
  simp only [Bundle.stringAtoms, List.mem_cons, List.not_mem_nil, or_false] at ha
  rcases ha with rfl | rfl | rfl | rfl | rfl | rfl | rfl
  · exact (w6 hw)
  · exact (w5 hw)
  · exact (w19 hw)
  · exact (w20 hw)
  · exact (w21 hw)
  · exact (w22 hw)
  · exact (w23 hw)
theorem pn_utf16 : plainName "java/lang/StringUTF16" = true := by first | (simp [plainName, overriddenIn]; done) | decide +kernel
theorem pf_str (n d : String) (q : plainFor ⟨"java/lang/String", n, d⟩ = true) : plainFor ⟨"java/lang/String", n, d⟩ = true := q
abbrev rm0 : Room := { frames := 0, cells := 0, slots := 0, locals := 0 }
theorem coderLen_met (hw : ∀ d ∈ tables_1, d.before a0 Z = true) {h : Heap} {b : Addr} {kb : ClassId} {z zz : Int32} {vs : List Value} {dv : Value} (F : Arv Z h b kb .byte z vs dv) :
    Met l Z consts_1 ⟨"java/lang/StringUTF16", "coderFromArrayLen", "([BI)B"⟩ jdk_52_method_15_code 2 (some .byte) [] rm0 #[.ref b, .int zz] h [] (fun v h' => v = some (.int (((zz - z).toUInt32 >>> ((31 : Int32) &&& 31).toUInt32).toInt32.toInt8.toInt32)) ∧ h = h') := by
  refine Met.of_walk (a0 := a0) (Ls := #[.val (.ref b), .val (.int zz)]) (plainFor_of_name pn_utf16) (own_hEL hw) rfl ?_
  refine Wl.iload_n 1 d7_0 rfl ?_
  refine Wl.aload_n 2 d7_1 rfl rfl ?_
  refine Wl.arraylength 3 d7_2 F ?_
  refine Wl.isub 4 d7_3 ?_
  refine Wl.bipush 6 (31 : Int32) d7_4 (by decide) ?_
  refine Wl.iushr 7 d7_6 ?_
  refine Wl.i2b 8 d7_7 ?_
  exact Wl.ireturn (t := .byte) d7_8 rfl (Jvm.Free.XT.narrow_b _) (by simp) (by decide) (by decide) ⟨rfl, rfl⟩
/-- the inner compress: the loop -/
theorem comp2_loop (hw : ∀ d ∈ tables_1, d.before a0 Z = true) {h0 : Heap} {b d : Addr} {kb kd : ClassId} {cs : List Int32} (hn : cs.length < 65536) (hlat : ∀ c ∈ cs, Lat c) (hne : b ≠ d) (j : Nat) :
    ∀ (i : Nat) (h : Heap) (o : Slot), i + j = cs.length → (o = .unset ∨ ∃ w, o = .val w ∧ w.category = 1) → Arv Z h b kb .char (Int32.ofNat cs.length) (cs.map Value.int) (.int 0) → Arv Z h d kd .byte (Int32.ofNat cs.length) (fil (cs.map byV) (.int 0) i) (.int 0) → Keep h0 h [d] →
    Wl l Z a0 consts_1 ⟨"java/lang/StringUTF16", "compress", "([CI[BII)I"⟩ jdk_52_method_21_code 7 (some .int) rm0 #[.ref b, .int 0, .ref d, .int 0, .int (Int32.ofNat cs.length)] (fun v h' => v = some (.int (Int32.ofNat cs.length)) ∧ Keep h0 h' [d] ∧ Arv Z h' d kd .byte (Int32.ofNat cs.length) (cs.map byV) (.int 0)) [d] h 0 0 3
      #[.val (.ref b), .val (.int (Int32.ofNat i)), .val (.ref d), .val (.int (Int32.ofNat i)), .val (.int (Int32.ofNat cs.length)), .val (.int (Int32.ofNat i)), o] [] := by
  induction j with
  | zero =>
    intro i h o hij ho Kb Kd K
    have hi : i = cs.length := by omega
    subst hi
    refine Wl.iload 5 d6_3 rfl ?_
    refine Wl.iload 7 d6_5 rfl ?_
    refine Wl.icmpY 44 d6_7 (flt Int32.lt_irrefl).2.1 ?_
    refine Wl.iload 46 d6_44 rfl ?_
    have e : fil (cs.map byV) (.int 0) cs.length = cs.map byV := by
      have := fil_all (cs.map byV) (.int 0); rwa [List.length_map] at this
    rw [e] at Kd
    exact Wl.ireturn (t := .int) d6_46 rfl rfl (by simp) (by decide) (by decide) ⟨rfl, K, Kd⟩
  | succ j ih =>
    intro i h o hij ho Kb Kd K
    have hi : i < cs.length := by omega
    have h31 : i < 2147483648 := by omega
    have hl : Lat cs[i] := hlat _ (List.getElem_mem hi)
    have hcl := nCl (i := cs.length) (by omega)
    refine Wl.iload 5 d6_3 rfl ?_
    refine Wl.iload 7 d6_5 rfl ?_
    refine Wl.icmpN 10 d6_7 (tlt ((nLt h31 (by omega)).mpr hi)).2.1 ?_
    refine Wl.aload_n 11 d6_10 rfl rfl ?_
    refine Wl.iload_n 12 d6_11 rfl ?_
    refine Wl.caload 13 i d6_12 Kb (nNn h31) (nCl h31) (by rw [hcl]; exact hi) (v := .int cs[i]) (by simp [List.getD_eq_getElem?_getD, hi]) ?_
    refine Wl.istore 15 #[.val (.ref b), .val (.int (Int32.ofNat i)), .val (.ref d), .val (.int (Int32.ofNat i)), .val (.int (Int32.ofNat cs.length)), .val (.int (Int32.ofNat i)), .val (.int cs[i])] d6_13 (XS.store1 (o := o) rfl ho rfl) ?_
    refine Wl.iload 17 d6_15 rfl ?_
    refine Wl.sipush 20 (255 : Int32) d6_17 (by decide) ?_
    refine Wl.icmpY 26 d6_20 (flt (lat_le hl)).2.2.2 ?_
    refine Wl.aload_n 27 d6_26 rfl rfl ?_
    refine Wl.iload_n 28 d6_27 rfl ?_
    refine Wl.iload 30 d6_28 rfl ?_
    refine Wl.i2b 31 d6_30 ?_
    refine Wl.bastore 32 i d6_31 Kd (List.mem_of_getElem? (i := 0) rfl) (nNn h31) (nCl h31) (by rw [hcl]; exact hi) (by rw [fil_len _ _ _ (by rw [List.length_map]; omega), List.length_map]; exact hi) ?_
    intro h' W Kd'
    rw [show nar .byte (cs[i]).toInt8.toInt32 = (cs[i]).toInt8.toInt32 from i2b_id _, fil_set (cs.map byV) (.int 0) _ i (by rw [List.length_map]; exact hi) (by simp [byV])] at Kd'
    refine Wl.iinc 35 #[.val (.ref b), .val (.int (Int32.ofNat (i + 1))), .val (.ref d), .val (.int (Int32.ofNat i)), .val (.int (Int32.ofNat cs.length)), .val (.int (Int32.ofNat i)), .val (.int cs[i])] (1 : Int32) d6_32 (by decide) rfl (by rw [nS]; rfl) ?_
    refine Wl.iinc 38 #[.val (.ref b), .val (.int (Int32.ofNat (i + 1))), .val (.ref d), .val (.int (Int32.ofNat (i + 1))), .val (.int (Int32.ofNat cs.length)), .val (.int (Int32.ofNat i)), .val (.int cs[i])] (1 : Int32) d6_35 (by decide) rfl (by rw [nS]; rfl) ?_
    refine Wl.iinc 41 #[.val (.ref b), .val (.int (Int32.ofNat (i + 1))), .val (.ref d), .val (.int (Int32.ofNat (i + 1))), .val (.int (Int32.ofNat cs.length)), .val (.int (Int32.ofNat (i + 1))), .val (.int cs[i])] (1 : Int32) d6_38 (by decide) rfl (by rw [nS]; rfl) ?_
    refine Wl.goto 3 d6_41 ?_
    exact ih (i + 1) h' _ (by omega) (Or.inr ⟨_, rfl, rfl⟩) (Kb.other W hne) Kd' (K.wr W (Or.inl (List.mem_of_getElem? (i := 0) rfl)))
theorem comp2_met (hw : ∀ d ∈ tables_1, d.before a0 Z = true) {h : Heap} {b d : Addr} {kb kd : ClassId} {cs : List Int32} (hn : cs.length < 65536) (hlat : ∀ c ∈ cs, Lat c) (hne : b ≠ d) (Kb : Arv Z h b kb .char (Int32.ofNat cs.length) (cs.map Value.int) (.int 0)) (Kd : Arv Z h d kd .byte (Int32.ofNat cs.length) (List.replicate cs.length (.int 0)) (.int 0)) :
    Met l Z consts_1 ⟨"java/lang/StringUTF16", "compress", "([CI[BII)I"⟩ jdk_52_method_21_code 7 (some .int) [] rm0 #[.ref b, .int 0, .ref d, .int 0, .int (Int32.ofNat cs.length)] h [d] (fun v h' => v = some (.int (Int32.ofNat cs.length)) ∧ Keep h h' [d] ∧ Arv Z h' d kd .byte (Int32.ofNat cs.length) (cs.map byV) (.int 0)) := by
  refine Met.of_walk (a0 := a0) (Ls := #[.val (.ref b), .val (.int 0), .val (.ref d), .val (.int 0), .val (.int (Int32.ofNat cs.length)), .unset, .unset]) (plainFor_of_name pn_utf16) (own_hEL hw) rfl ?_
  refine Wl.iconst 1 (0 : Int32) d6_0 (by decide) ?_
  refine Wl.istore 3 #[.val (.ref b), .val (.int 0), .val (.ref d), .val (.int 0), .val (.int (Int32.ofNat cs.length)), .val (.int 0), .unset] d6_1 rfl ?_
  exact comp2_loop hw hn hlat hne cs.length 0 h _ (by omega) (Or.inl rfl) Kb (by have e := fil_zero (cs.map byV) (.int 0); rw [List.length_map] at e; rw [e]; exact Kd) (Keep.refl h [d])
/-- compress(char[], int, int) -/
theorem comp1_met (hw : ∀ d ∈ tables_1, d.before a0 Z = true) {h : Heap} {b : Addr} {kb : ClassId} {cs : List Int32} {N : Nat} (hn : cs.length < 65536) (hN : cs.length ≤ N) (hN2 : N < 65536) (hlat : ∀ c ∈ cs, Lat c) (Kb : Arv Z h b kb .char (Int32.ofNat cs.length) (cs.map Value.int) (.int 0)) :
    Met l Z consts_1 ⟨"java/lang/StringUTF16", "compress", "([CII)[B"⟩ jdk_52_method_16_code 6 (some (.array .byte)) [] { frames := 1, cells := 1, slots := N, locals := 18 } #[.ref b, .int 0, .int (Int32.ofNat cs.length)] h [] (fun v h' => ∃ (d : Addr) (kd : ClassId), v = some (.ref d) ∧ h.size ≤ d ∧ Ext h h' ∧ Arv Z h' d kd .byte (Int32.ofNat cs.length) (cs.map byV) (.int 0)) := by
  refine Met.of_walk (a0 := a0) (Ls := #[.val (.ref b), .val (.int 0), .val (.int (Int32.ofNat cs.length)), .unset, .unset, .unset]) (plainFor_of_name pn_utf16) (own_hEL hw) rfl ?_
  refine Wl.iload_n 1 d5_0 rfl ?_
  refine Wl.newarray 3 N d5_1 (w19 hw) (nNn (by omega)) (by rw [nCl (by omega)]; exact hN) (by omega) (by show 0 + 1 ≤ 1; omega) (by show 0 + N ≤ N; omega) ?_
  intro d h1 kd q E A
  rw [nCl (by omega)] at A
  have A : Arv Z h1 d kd .byte (Int32.ofNat cs.length) (List.replicate cs.length (.int 0)) (.int 0) := A
  have hne : b ≠ d := Nat.ne_of_lt (by rw [q]; exact Kb.lt)
  refine Wl.astore_n 4 #[.val (.ref b), .val (.int 0), .val (.int (Int32.ofNat cs.length)), .val (.ref d), .unset, .unset] d5_3 rfl rfl ?_
  refine Wl.aload_n 5 d5_4 rfl rfl ?_
  refine Wl.iload_n 6 d5_5 rfl ?_
  refine Wl.aload_n 7 d5_6 rfl rfl ?_
  refine Wl.iconst 8 (0 : Int32) d5_7 (by decide) ?_
  refine Wl.iload_n 9 d5_8 rfl ?_
  refine Wl.static 12 (argsL := [.ref b, .int 0, .ref d, .int 0, .int (Int32.ofNat cs.length)]) d5_9 (w31 hw) (w32 hw) (w29 hw) (w33 hw) (show parseMethodDescriptor "([CI[BII)I" = some ⟨[.array .char, .int, .array .byte, .int, .int], some .int⟩ by decide +kernel) rfl (comp2_met hw hn hlat hne (Kb.ext E) A) (allS (List.mem_of_getElem? (i := 0) rfl) (fun _ q => nomatch q)) rfl rfl rfl (by decide) ⟨⟨by show 0 + 1 ≤ 1; omega, by show 0 + (7 + 11) + 0 ≤ 18; omega⟩, by show 0 + 1 + 0 ≤ 1; omega, by show 0 + N + 0 ≤ N; omega⟩ ?_
  intro v h2 hq _
  obtain ⟨rfl, K, A2⟩ := hq
  refine Wl.istore 14 #[.val (.ref b), .val (.int 0), .val (.int (Int32.ofNat cs.length)), .val (.ref d), .val (.int (Int32.ofNat cs.length)), .unset] d5_12 rfl ?_
  refine Wl.iload 16 d5_14 rfl ?_
  refine Wl.iload_n 17 d5_16 rfl ?_
  refine Wl.icmpY 57 d5_17 (teq rfl).1 ?_
  refine Wl.aload_n 58 d5_57 rfl rfl ?_
  exact Wl.areturn d5_58 rfl rfl rfl (by show 0 + 1 + 0 ≤ 1; omega) (by show 0 + N + 0 ≤ N; omega) ⟨d, kd, rfl, Nat.le_of_eq q.symm, extKeep E K (allS (Nat.le_of_eq q.symm) all0), A2⟩
/-- String(char[], int, int, Void) -/
theorem strV_met (hw : ∀ d ∈ tables_1, d.before a0 Z = true) (hcs : CSon Z) {h : Heap} {a b : Addr} {kb : ClassId} {cs : List Int32} {N : Nat} (hN : cs.length ≤ N) (hN2 : N < 65536) (hlat : ∀ c ∈ cs, Lat c) (E : Exa Z h a "java/lang/String") (FV : Fld Z h a "java/lang/String" "value" "[B" .null) (FC : Fld Z h a "java/lang/String" "coder" "B" (.int 0)) (Kb : Arv Z h b kb .char (Int32.ofNat cs.length) (cs.map Value.int) (.int 0)) :
    Met l Z consts_1 ⟨"java/lang/String", "<init>", "([CIILjava/lang/Void;)V"⟩ jdk_42_method_149_code 6 none [] { frames := 2, cells := 4, slots := N + 8, locals := 36 } #[.ref a, .ref b, .int 0, .int (Int32.ofNat cs.length), .null] h [a] (fun v h' => v = none ∧ Keep h h' [a] ∧ Stl Z h' a cs) := by
  refine Met.of_walk (a0 := a0) (Ls := #[.val (.ref a), .val (.ref b), .val (.int 0), .val (.int (Int32.ofNat cs.length)), .val .null, .unset]) (plainFor_of_name pn_str) (own_hEL hw) rfl ?_
  refine Wl.aload_n 1 d3_0 rfl rfl ?_
  refine Wl.initO 4 d3_1 (w15 hw) (w16 hw) (w17 hw) rfl (by show 1 ≤ 2; omega) (by show 0 + 12 ≤ 36; omega) ?_
  refine Wl.iload_n 5 d3_4 rfl ?_
  obtain ⟨cst, hS, hcn⟩ := hcs
  have L1 : Laid Z a0 "java/lang/String" "java/lang/String" "value" "[B" := Or.inr (w20 hw)
  have L2 : Laid Z a0 "java/lang/String" "java/lang/String" "coder" "B" := Or.inr (w21 hw)
  have hsl : Jvm.RoadKit.slotOf Z "java/lang/String" "value" "[B" ≠ Jvm.RoadKit.slotOf Z "java/lang/String" "coder" "B" := slot_ne L1 L2 (by decide) (t := .array .byte) (t' := .byte) (by decide) (by decide)
  by_cases h0 : cs = []
  · subst h0
    refine Wl.ifN 8 d3_5 (teq (by decide)).2 ?_
    refine Wl.aload_n 9 d3_8 rfl rfl ?_
    refine Wl.ldcS 11 0 (text := "") (vs := []) (z := (0 : Int32)) d3_9 (w18 hw) (own_wS hw) (by decide) ⟨by simp, rfl⟩ (by decide) (by decide) (by decide) (by decide) (by show 0 + 2 ≤ 4; omega) (by show 0 + (0 + 4) ≤ N + 8; omega) ?_
    intro x1 h1 b1 k1 E1 X1 C1 V1 A1 hnx1
    refine Wl.getfield 14 d3_11 (w24 hw) V1 ?_
    have na1 := hnx1 a (List.mem_of_getElem? (i := 0) rfl)
    refine Wl.putfield 17 d3_14 (w24 hw) (FV.ext E1) (E.ext E1) (Or.inr ⟨(w20 hw), rfl, rfl⟩) (w5 hw) (ty := .array .byte) (by decide) rfl rfl (List.mem_of_getElem? (i := 0) rfl) ?_
    intro h2 W2
    refine Wl.aload_n 18 d3_17 rfl rfl ?_
    refine Wl.ldcS 20 0 (text := "") (vs := []) (z := (0 : Int32)) d3_18 (w18 hw) (own_wS hw) (by decide) ⟨by simp, rfl⟩ (by decide) (by decide) (by decide) (by decide) (by show 0 + 2 + 2 ≤ 4; omega) (by show 0 + (0 + 4) + (0 + 4) ≤ N + 8; omega) ?_
    intro x3 h3 b3 k3 E3 X3 C3 V3 A3 hnx3
    refine Wl.getfield 23 d3_20 (w25 hw) C3 ?_
    refine Wl.putfield 26 d3_23 (w25 hw) (((FC.ext E1).other W2 (Or.inr hsl.symm)).ext E3) (((E.ext E1).wr W2).ext E3) (Or.inr ⟨(w21 hw), rfl, rfl⟩) (w5 hw) (ty := .byte) (by decide) rfl rfl (List.mem_of_getElem? (i := 0) rfl) ?_
    intro h4 W4
    refine Wl.return_ d3_26 rfl (by show 0 + 2 + 2 ≤ 4; omega) (by show 0 + (0 + 4) + (0 + 4) ≤ N + 8; omega) ⟨rfl, ?_, ?_⟩
    · exact ((((Keep.refl h [a]).ext E1).wr W2 (Or.inl (List.mem_of_getElem? (i := 0) rfl))).ext E3).wr W4 (Or.inl (List.mem_of_getElem? (i := 0) rfl))
    · refine ⟨b1, k1, (((E.ext E1).wr W2).ext E3).wr W4, (((FC.ext E1).other W2 (Or.inr hsl.symm)).ext E3).same W4, ((((FV.ext E1).same W2).ext E3).other W4 (Or.inr hsl)), (((A1.other W2 na1.2.symm).ext E3).other W4 na1.2.symm), (fun c hc => nomatch hc), by decide⟩
  · have hpos : 0 < cs.length := List.length_pos_iff.mpr h0
    refine Wl.ifY 27 d3_5 (feq (fun q => by have := congrArg Int32.toInt q; rw [nI (by omega), show (0 : Int32).toInt = 0 by decide] at this; omega)).2 ?_
    refine Wl.getstatic 30 d3_27 (w26 hw) hS ?_
    refine Wl.ifN 33 d3_30 (feq hcn).1 ?_
    refine Wl.aload_n 34 d3_33 rfl rfl ?_
    refine Wl.iload_n 35 d3_34 rfl ?_
    refine Wl.iload_n 36 d3_35 rfl ?_
    refine Wl.static 39 (argsL := [.ref b, .int 0, .int (Int32.ofNat cs.length)]) d3_36 (w27 hw) (w28 hw) (w29 hw) (w30 hw) (show parseMethodDescriptor "([CII)[B" = some ⟨[.array .char, .int, .int], some (.array .byte)⟩ by decide +kernel) rfl (comp1_met hw (by omega) hN hN2 hlat Kb) (fun _ q => nomatch q) rfl rfl rfl (by decide) ⟨⟨by show 1 + 1 ≤ 2; omega, by show 0 + (6 + 11) + 18 ≤ 36; omega⟩, by show 0 + 1 ≤ 4; omega, by show 0 + N ≤ N + 8; omega⟩ ?_
    intro v h1 hq _
    obtain ⟨d, kd, rfl, hd, E1, A1⟩ := hq
    have hne : d ≠ a := Nat.ne_of_gt (Nat.lt_of_lt_of_le E.lt hd)
    refine Wl.astore 41 #[.val (.ref a), .val (.ref b), .val (.int 0), .val (.int (Int32.ofNat cs.length)), .val .null, .val (.ref d)] d3_39 rfl rfl ?_
    refine Wl.aload_n 42 d3_41 rfl rfl ?_
    refine Wl.aload 44 d3_42 rfl rfl ?_
    refine Wl.iload_n 45 d3_44 rfl ?_
    refine Wl.static 48 (argsL := [.ref d, .int (Int32.ofNat cs.length)]) d3_45 (w34 hw) (w35 hw) (w29 hw) (w36 hw) (show parseMethodDescriptor "([BI)B" = some ⟨[.array .byte, .int], some .byte⟩ by decide +kernel) rfl (coderLen_met hw A1) (fun _ q => nomatch q) rfl rfl rfl (by decide) ⟨⟨by show 0 + 1 ≤ 2; omega, by show 1 + (2 + 11) + 0 ≤ 36; omega⟩, by show 0 + 1 + 0 ≤ 4; omega, by show 0 + N + 0 ≤ N + 8; omega⟩ ?_
    intro v h2 hq _
    obtain ⟨rfl, rfl⟩ := hq
    have e0 : ((Int32.ofNat cs.length - Int32.ofNat cs.length).toUInt32 >>> ((31 : Int32) &&& 31).toUInt32).toInt32.toInt8.toInt32 = 0 := by rw [Int32.sub_self]; decide
    rw [e0]
    refine Wl.putfield 51 d3_48 (w25 hw) (FC.ext E1) (E.ext E1) (Or.inr ⟨(w21 hw), rfl, rfl⟩) (w5 hw) (ty := .byte) (by decide) rfl rfl (List.mem_of_getElem? (i := 0) rfl) ?_
    intro h3 W3
    refine Wl.aload_n 52 d3_51 rfl rfl ?_
    refine Wl.aload 54 d3_52 rfl rfl ?_
    refine Wl.putfield 57 d3_54 (w24 hw) ((FV.ext E1).other W3 (Or.inr hsl)) ((E.ext E1).wr W3) (Or.inr ⟨(w20 hw), rfl, rfl⟩) (w5 hw) (ty := .array .byte) (by decide) rfl rfl (List.mem_of_getElem? (i := 0) rfl) ?_
    intro h4 W4
    refine Wl.return_ d3_57 rfl (by show 0 + 1 + 0 ≤ 4; omega) (by show 0 + N + 0 ≤ N + 8; omega) ⟨rfl, ?_, ?_⟩
    · exact ((((Keep.refl h [a]).ext E1)).wr W3 (Or.inl (List.mem_of_getElem? (i := 0) rfl))).wr W4 (Or.inl (List.mem_of_getElem? (i := 0) rfl))
    · exact ⟨d, kd, ((E.ext E1).wr W3).wr W4, ((FC.ext E1).same W3).other W4 (Or.inr hsl.symm), ((FV.ext E1).other W3 (Or.inr hsl)).same W4, (A1.other W3 hne).other W4 hne, hlat, by omega⟩
/-- String(char[]) -/
theorem strC_met (hw : ∀ d ∈ tables_1, d.before a0 Z = true) (hcs : CSon Z) {h : Heap} {a b : Addr} {kb : ClassId} {cs : List Int32} (N : Nat) (hN : cs.length ≤ N) (hN2 : N < 65536) (hlat : ∀ c ∈ cs, Lat c) (E : Exa Z h a "java/lang/String") (FV : Fld Z h a "java/lang/String" "value" "[B" .null) (FC : Fld Z h a "java/lang/String" "coder" "B" (.int 0)) (Kb : Arv Z h b kb .char (Int32.ofNat cs.length) (cs.map Value.int) (.int 0)) :
    Met l Z consts_1 ⟨"java/lang/String", "<init>", "([C)V"⟩ jdk_42_method_3_code 2 none [] { frames := 3, cells := 4, slots := N + 8, locals := 53 } #[.ref a, .ref b] h [a] (fun v h' => v = none ∧ Keep h h' [a] ∧ Stl Z h' a cs) := by
  refine Met.of_walk (a0 := a0) (Ls := #[.val (.ref a), .val (.ref b)]) (plainFor_of_name pn_str) (own_hEL hw) rfl ?_
  refine Wl.aload_n 1 d2_0 rfl rfl ?_
  refine Wl.aload_n 2 d2_1 rfl rfl ?_
  refine Wl.iconst 3 (0 : Int32) d2_2 (by decide) ?_
  refine Wl.aload_n 4 d2_3 rfl rfl ?_
  refine Wl.arraylength 5 d2_4 Kb ?_
  refine Wl.aconst_null 6 d2_5 ?_
  refine Wl.special 9 (argsL := [.ref b, .int 0, .int (Int32.ofNat cs.length), .null]) d2_6 (w11 hw) (w12 hw) (w6 hw) (w14 hw) (show parseMethodDescriptor "([CIILjava/lang/Void;)V" = some ⟨[.array .char, .int, .int, .object "java/lang/Void"], none⟩ by decide +kernel) rfl (strV_met hw hcs hN hN2 hlat E FV FC Kb) (allS (List.mem_of_getElem? (i := 0) rfl) (fun _ q => nomatch q)) rfl rfl rfl rfl (by decide) ⟨⟨by show 2 + 1 ≤ 3; omega, by show 0 + (6 + 11) + 36 ≤ 53; omega⟩, by show 0 + 4 ≤ 4; omega, by show 0 + (N + 8) ≤ N + 8; omega⟩ ?_
  intro v h1 hq _
  obtain ⟨rfl, K1, S1⟩ := hq
  exact Wl.return_ d2_9 rfl (by show 0 + 4 ≤ 4; omega) (by show 0 + (N + 8) ≤ N + 8; omega) ⟨rfl, K1, S1⟩
end StrInit

section OpLen
variable {l : Launch} {Z : State} {a0 : Array Value}
theorem coder_met (hw : ∀ d ∈ tables_1, d.before a0 Z = true) (hcs : CSon Z) {h : Heap} {a : Addr} {cd : Int32} (hnar : narrow .byte (.int cd) = .int cd) (FC : Fld Z h a "java/lang/String" "coder" "B" (.int cd)) :
    Met l Z consts_1 ⟨"java/lang/String", "coder", "()B"⟩ jdk_42_method_152_code 1 (some .byte) [] rm0 #[.ref a] h [] (fun v h' => v = some (.int cd) ∧ h = h') := by
  obtain ⟨cst, hS, hcn⟩ := hcs
  refine Met.of_walk (a0 := a0) (Ls := #[.val (.ref a)]) (plainFor_of_name pn_str) (own_hEL hw) rfl ?_
  refine Wl.getstatic 3 d14_0 (w26 hw) hS ?_
  refine Wl.ifN 6 d14_3 (feq hcn).1 ?_
  refine Wl.aload_n 7 d14_6 rfl rfl ?_
  refine Wl.getfield 10 d14_7 (w25 hw) FC ?_
  refine Wl.goto 14 d14_10 ?_
  exact Wl.ireturn (t := .byte) d14_14 rfl hnar (by simp) (nle rfl) (nle rfl) ⟨rfl, rfl⟩
theorem len_met (hw : ∀ d ∈ tables_1, d.before a0 Z = true) (hcs : CSon Z) {h : Heap} {a : Addr} {cs : List Int32} (S : Stl Z h a cs) :
    Met l Z consts_1 ⟨"java/lang/String", "length", "()I"⟩ jdk_42_method_54_code 1 (some .int) [] { frames := 1, cells := 0, slots := 0, locals := 13 } #[.ref a] h [] (fun v h' => v = some (.int (Int32.ofNat cs.length)) ∧ h = h') := by
  obtain ⟨b, kb, X, C, Vl, A, hlat, hn⟩ := S
  refine Met.of_walk (a0 := a0) (Ls := #[.val (.ref a)]) (plainFor_of_name pn_str) (own_hEL hw) rfl ?_
  refine Wl.aload_n 1 d13_0 rfl rfl ?_
  refine Wl.getfield 4 d13_1 (w24 hw) Vl ?_
  refine Wl.arraylength 5 d13_4 A ?_
  refine Wl.aload_n 6 d13_5 rfl rfl ?_
  refine Wl.virtual 9 (argsL := []) d13_6 (w69 hw) (w70 hw) (w72 hw) (w71 hw) (w6 hw) (w73 hw) (nf_sel (w72 hw) rfl) X (show parseMethodDescriptor "()B" = some ⟨[], some .byte⟩ by decide +kernel) rfl (coder_met hw hcs rfl C) (fun _ q => nomatch q) rfl rfl rfl (by decide) ⟨⟨nle rfl, nle rfl⟩, nle rfl, nle rfl⟩ ?_
  intro v h1 hq _
  obtain ⟨rfl, rfl⟩ := hq
  show Wl _ _ _ _ _ _ _ _ _ _ _ _ _ _ _ _ _ [.int 0, .int (Int32.ofNat cs.length)]
  refine Wl.ishr 10 d13_9 ?_
  rw [show (Int32.ofNat cs.length >>> ((0 : Int32) &&& 31)) = Int32.ofNat cs.length by simp]
  exact Wl.ireturn (t := .int) d13_10 rfl rfl (by simp) (nle rfl) (nle rfl) ⟨rfl, rfl⟩
end OpLen

/-- the formatter of an index that lies outside: a reference -/
def Fmt (Z : State) : Prop := ∃ f : Value, Sta Z Z.heap "jdk/internal/util/Preconditions" "SIOOBE_FORMATTER" "Ljava/util/function/BiFunction;" f ∧ f.isRef = true
section OpChar
variable {l : Launch} {Z : State} {a0 : Array Value}
theorem pn_prec : plainName "jdk/internal/util/Preconditions" = true := by first | (simp [plainName, overriddenIn]; done) | decide +kernel
theorem pn_lat : plainName "java/lang/StringLatin1" = true := by first | (simp [plainName, overriddenIn]; done) | decide +kernel
theorem isLatin1_met (hw : ∀ d ∈ tables_1, d.before a0 Z = true) (hcs : CSon Z) {h : Heap} {a : Addr} (FC : Fld Z h a "java/lang/String" "coder" "B" (.int 0)) :
    Met l Z consts_1 ⟨"java/lang/String", "isLatin1", "()Z"⟩ jdk_42_method_154_code 1 (some .boolean) [] rm0 #[.ref a] h [] (fun v h' => v = some (.int 1) ∧ h = h') := by
  obtain ⟨cst, hS, hcn⟩ := hcs
  refine Met.of_walk (a0 := a0) (Ls := #[.val (.ref a)]) (plainFor_of_name pn_str) (own_hEL hw) rfl ?_
  refine Wl.getstatic 3 d12_0 (w26 hw) hS ?_
  refine Wl.ifN 6 d12_3 (feq hcn).1 ?_
  refine Wl.aload_n 7 d12_6 rfl rfl ?_
  refine Wl.getfield 10 d12_7 (w25 hw) FC ?_
  refine Wl.ifN 13 d12_10 (teq rfl).2 ?_
  refine Wl.iconst 14 (1 : Int32) d12_13 (by decide) ?_
  refine Wl.goto 18 d12_14 ?_
  exact Wl.ireturn (t := .boolean) d12_18 rfl rfl (by simp) (nle rfl) (nle rfl) ⟨rfl, rfl⟩
theorem chk_met (hw : ∀ d ∈ tables_1, d.before a0 Z = true) {h : Heap} {i z : Int32} {f : Value} (hf : f.isRef = true) (h1 : ¬ i < 0) (h2 : i < z) :
    Met l Z consts_1 ⟨"jdk/internal/util/Preconditions", "checkIndex", "(IILjava/util/function/BiFunction;)I"⟩ jdk_41_method_11_code 3 (some .int) [] rm0 #[.int i, .int z, f] h [] (fun v h' => v = some (.int i) ∧ h = h') := by
  refine Met.of_walk (a0 := a0) (Ls := #[.val (.int i), .val (.int z), .val f]) (plainFor_of_name pn_prec) (own_hEL hw) (by rcases ref_cases hf with rfl | ⟨x, rfl⟩ <;> rfl) ?_
  refine Wl.iload_n 1 d33_0 rfl ?_
  refine Wl.ifN 4 d33_1 (flt h1).1 ?_
  refine Wl.iload_n 5 d33_4 rfl ?_
  refine Wl.iload_n 6 d33_5 rfl ?_
  refine Wl.icmpY 16 d33_6 (tlt h2).1 ?_
  refine Wl.iload_n 17 d33_16 rfl ?_
  exact Wl.ireturn (t := .int) d33_17 rfl rfl (by simp) (nle rfl) (nle rfl) ⟨rfl, rfl⟩
theorem chkS_met (hw : ∀ d ∈ tables_1, d.before a0 Z = true) (hfm : Fmt Z) {h : Heap} {i z : Int32} (h1 : ¬ i < 0) (h2 : i < z) :
    Met l Z consts_1 ⟨"java/lang/String", "checkIndex", "(II)V"⟩ jdk_42_method_155_code 2 none [] { frames := 1, cells := 0, slots := 0, locals := 14 } #[.int i, .int z] h [] (fun v h' => v = none ∧ h = h') := by
  obtain ⟨f, hS, hf⟩ := hfm
  refine Met.of_walk (a0 := a0) (Ls := #[.val (.int i), .val (.int z)]) (plainFor_of_name pn_str) (own_hEL hw) rfl ?_
  refine Wl.iload_n 1 d32_0 rfl ?_
  refine Wl.iload_n 2 d32_1 rfl ?_
  refine Wl.getstatic 5 d32_2 (w172 hw) hS ?_
  refine Wl.static 8 (argsL := [.int i, .int z, f]) d32_5 (w174 hw) (w175 hw) (w173 hw) (w176 hw) (show parseMethodDescriptor "(IILjava/util/function/BiFunction;)I" = some ⟨[.int, .int, .object "java/util/function/BiFunction"], some .int⟩ by decide +kernel) rfl (chk_met hw hf h1 h2) (fun _ q => nomatch q) rfl rfl rfl (by decide) ⟨⟨nle rfl, nle rfl⟩, nle rfl, nle rfl⟩ ?_
  intro v h1 hq _
  obtain ⟨rfl, rfl⟩ := hq
  show Wl _ _ _ _ _ _ _ _ _ _ _ _ _ _ _ _ _ [.int i]
  refine Wl.pop 9 d32_8 rfl ?_
  exact Wl.return_ d32_9 rfl (nle rfl) (nle rfl) ⟨rfl, rfl⟩
theorem charL_met (hw : ∀ d ∈ tables_1, d.before a0 Z = true) (hfm : Fmt Z) {h : Heap} {b : Addr} {kb : ClassId} {cs : List Int32} (A : Arv Z h b kb .byte (Int32.ofNat cs.length) (cs.map byV) (.int 0)) (hlat : ∀ c ∈ cs, Lat c) (hn : cs.length < 65536) {i : Nat} (hi : i < cs.length) :
    Met l Z consts_1 ⟨"java/lang/StringLatin1", "charAt", "([BI)C"⟩ jdk_43_method_2_code 2 (some .char) [] { frames := 2, cells := 0, slots := 0, locals := 27 } #[.ref b, .int (Int32.ofNat i)] h [] (fun v h' => v = some (.int cs[i]) ∧ h = h') := by
  have hl : Lat cs[i] := hlat _ (List.getElem_mem hi)
  refine Met.of_walk (a0 := a0) (Ls := #[.val (.ref b), .val (.int (Int32.ofNat i))]) (plainFor_of_name pn_lat) (own_hEL hw) rfl ?_
  refine Wl.iload_n 1 d31_0 rfl ?_
  refine Wl.aload_n 2 d31_1 rfl rfl ?_
  refine Wl.arraylength 3 d31_2 A ?_
  refine Wl.static 6 (argsL := [.int (Int32.ofNat i), .int (Int32.ofNat cs.length)]) d31_3 (w169 hw) (w170 hw) (w6 hw) (w171 hw) (show parseMethodDescriptor "(II)V" = some ⟨[.int, .int], none⟩ by decide +kernel) rfl (chkS_met hw hfm (nNn (by omega)) ((nLt (by omega) (by omega)).mpr hi)) (fun _ q => nomatch q) rfl rfl rfl (by decide) ⟨⟨nle rfl, nle rfl⟩, nle rfl, nle rfl⟩ ?_
  intro v h1 hq _
  obtain ⟨rfl, rfl⟩ := hq
  show Wl _ _ _ _ _ _ _ _ _ _ _ _ _ _ _ _ _ []
  refine Wl.aload_n 7 d31_6 rfl rfl ?_
  refine Wl.iload_n 8 d31_7 rfl ?_
  refine Wl.baload 9 i d31_8 A (nNn (by omega)) (nCl (by omega)) (by rw [nCl (by omega)]; exact hi) (v := .int (cs[i]).toInt8.toInt32) (by simp [List.getD_eq_getElem?_getD, hi, byV]) ?_
  refine Wl.sipush 12 (255 : Int32) d31_9 (by decide) ?_
  refine Wl.iand 13 d31_12 ?_
  refine Wl.i2c 14 d31_13 ?_
  rw [lo8 hl, i2c_id hl.ch]
  exact Wl.ireturn (t := .char) d31_14 rfl (narC hl.ch) (by simp) (nle rfl) (nle rfl) ⟨rfl, rfl⟩
theorem charAt_met (hw : ∀ d ∈ tables_1, d.before a0 Z = true) (hcs : CSon Z) (hfm : Fmt Z) {h : Heap} {a : Addr} {cs : List Int32} (S : Stl Z h a cs) {i : Nat} (hi : i < cs.length) :
    Met l Z consts_1 ⟨"java/lang/String", "charAt", "(I)C"⟩ jdk_42_method_56_code 2 (some .char) [] { frames := 3, cells := 0, slots := 0, locals := 40 } #[.ref a, .int (Int32.ofNat i)] h [] (fun v h' => v = some (.int cs[i]) ∧ h = h') := by
  obtain ⟨b, kb, X, C, Vl, A, hlat, hn⟩ := S
  have hl : Lat cs[i] := hlat _ (List.getElem_mem hi)
  refine Met.of_walk (a0 := a0) (Ls := #[.val (.ref a), .val (.int (Int32.ofNat i))]) (plainFor_of_name pn_str) (own_hEL hw) rfl ?_
  refine Wl.aload_n 1 d30_0 rfl rfl ?_
  refine Wl.virtual 4 (argsL := []) d30_1 (w59 hw) (w60 hw) (w62 hw) (w61 hw) (w6 hw) (w63 hw) (nf_sel (w62 hw) rfl) X (show parseMethodDescriptor "()Z" = some ⟨[], some .boolean⟩ by decide +kernel) rfl (isLatin1_met hw hcs C) (fun _ q => nomatch q) rfl rfl rfl (by decide) ⟨⟨nle rfl, nle rfl⟩, nle rfl, nle rfl⟩ ?_
  intro v h1 hq _
  obtain ⟨rfl, rfl⟩ := hq
  show Wl _ _ _ _ _ _ _ _ _ _ _ _ _ _ _ _ _ [.int 1]
  refine Wl.ifN 7 d30_4 (by decide) ?_
  refine Wl.aload_n 8 d30_7 rfl rfl ?_
  refine Wl.getfield 11 d30_8 (w24 hw) Vl ?_
  refine Wl.iload_n 12 d30_11 rfl ?_
  refine Wl.static 15 (argsL := [.ref b, .int (Int32.ofNat i)]) d30_12 (w166 hw) (w167 hw) (w76 hw) (w168 hw) (show parseMethodDescriptor "([BI)C" = some ⟨[.array .byte, .int], some .char⟩ by decide +kernel) rfl (charL_met hw hfm A hlat hn hi) (fun _ q => nomatch q) rfl rfl rfl (by decide) ⟨⟨nle rfl, nle rfl⟩, nle rfl, nle rfl⟩ ?_
  intro v h2 hq _
  obtain ⟨rfl, rfl⟩ := hq
  show Wl _ _ _ _ _ _ _ _ _ _ _ _ _ _ _ _ _ [.int cs[i]]
  exact Wl.ireturn (t := .char) d30_15 rfl (narC hl.ch) (by simp) (nle rfl) (nle rfl) ⟨rfl, rfl⟩
end OpChar

/-! String.indexOf(int): the first place of a Latin-1 char -/
def idxF (c : Int32) : Nat → List Int32 → Int32
  | _, [] => -1
  | k, x :: xs => if x = c then Int32.ofNat k else idxF c (k + 1) xs
theorem idxF_spec (c : Int32) : ∀ (xs : List Int32) (k : Nat), (idxF c k xs = -1 ∧ ∀ x ∈ xs, x ≠ c) ∨ (∃ n, n < xs.length ∧ idxF c k xs = Int32.ofNat (k + n) ∧ (∀ m (hm : m < xs.length), m < n → xs[m] ≠ c) ∧ ∀ h : n < xs.length, xs[n] = c)
  | [], k => Or.inl ⟨rfl, fun _ q => nomatch q⟩
  | x :: xs, k => by
    by_cases h : x = c
    · exact Or.inr ⟨0, Nat.zero_lt_succ _, by simp [idxF, h], fun m _ q => absurd q (Nat.not_lt_zero _), fun _ => h⟩
    · have e : idxF c k (x :: xs) = idxF c (k + 1) xs := by simp [idxF, h]
      rcases idxF_spec c xs (k + 1) with ⟨h1, h2⟩ | ⟨n, h1, h2, h3, h4⟩
      · exact Or.inl ⟨e.trans h1, fun z hz => (List.mem_cons.mp hz).elim (fun q => q ▸ h) (h2 z)⟩
      · refine Or.inr ⟨n + 1, Nat.succ_lt_succ h1, by rw [e, h2]; congr 1; omega, fun m hm hn => ?_, fun _ => h4 h1⟩
        cases m with
        | zero => exact h
        | succ m => exact h3 m (Nat.lt_of_succ_lt_succ hm) (Nat.lt_of_succ_lt_succ hn)
section OpIdx
variable {l : Launch} {Z : State} {a0 : Array Value}
theorem canEnc_met (hw : ∀ d ∈ tables_1, d.before a0 Z = true) {h : Heap} {c : Int32} (q : Lat c) :
    Met l Z consts_1 ⟨"java/lang/StringLatin1", "canEncode", "(I)Z"⟩ jdk_43_method_4_code 1 (some .boolean) [] rm0 #[.int c] h [] (fun v h' => v = some (.int 1) ∧ h = h') := by
  refine Met.of_walk (a0 := a0) (Ls := #[.val (.int c)]) (plainFor_of_name pn_lat) (own_hEL hw) rfl ?_
  refine Wl.iload_n 1 d16_0 rfl ?_
  refine Wl.ifN 4 d16_1 (flt (latNn q)).1 ?_
  refine Wl.iload_n 5 d16_4 rfl ?_
  refine Wl.sipush 8 (255 : Int32) d16_5 (by decide) ?_
  refine Wl.icmpN 11 d16_8 (flt (lat_le q)).2.2.1 ?_
  refine Wl.iconst 12 (1 : Int32) d16_11 (by decide) ?_
  refine Wl.goto 16 d16_12 ?_
  exact Wl.ireturn (t := .boolean) d16_16 rfl rfl (by simp) (nle rfl) (nle rfl) ⟨rfl, rfl⟩
theorem max_met (hw : ∀ d ∈ tables_1, d.before a0 Z = true) {h : Heap} {x z : Int32} (q : ¬ x < z) :
    Met l Z consts_1 ⟨"java/lang/Math", "max", "(II)I"⟩ jdk_29_method_65_code 2 (some .int) [] rm0 #[.int x, .int z] h [] (fun v h' => v = some (.int x) ∧ h = h') := by
  refine Met.of_walk (a0 := a0) (Ls := #[.val (.int x), .val (.int z)]) (Jvm.Free.JP.mathPlain rfl (by decide +kernel)) (own_hEL hw) rfl ?_
  refine Wl.iload_n 1 d17_0 rfl ?_
  refine Wl.iload_n 2 d17_1 rfl ?_
  refine Wl.icmpN 5 d17_2 (flt q).1 ?_
  refine Wl.iload_n 6 d17_5 rfl ?_
  refine Wl.goto 10 d17_6 ?_
  exact Wl.ireturn (t := .int) d17_10 rfl rfl (by simp) (nle rfl) (nle rfl) ⟨rfl, rfl⟩
theorem min_met (hw : ∀ d ∈ tables_1, d.before a0 Z = true) {h : Heap} {x z : Int32} (q : ¬ z < x) :
    Met l Z consts_1 ⟨"java/lang/Math", "min", "(II)I"⟩ jdk_29_method_69_code 2 (some .int) [] rm0 #[.int x, .int z] h [] (fun v h' => v = some (.int x) ∧ h = h') := by
  refine Met.of_walk (a0 := a0) (Ls := #[.val (.int x), .val (.int z)]) (Jvm.Free.JP.mathPlain rfl (by decide +kernel)) (own_hEL hw) rfl ?_
  refine Wl.iload_n 1 d18_0 rfl ?_
  refine Wl.iload_n 2 d18_1 rfl ?_
  refine Wl.icmpN 5 d18_2 (flt q).2.2.1 ?_
  refine Wl.iload_n 6 d18_5 rfl ?_
  refine Wl.goto 10 d18_6 ?_
  exact Wl.ireturn (t := .int) d18_10 rfl rfl (by simp) (nle rfl) (nle rfl) ⟨rfl, rfl⟩
theorem min2_met (hw : ∀ d ∈ tables_1, d.before a0 Z = true) {h : Heap} {x z : Int32} (q : z < x) :
    Met l Z consts_1 ⟨"java/lang/Math", "min", "(II)I"⟩ jdk_29_method_69_code 2 (some .int) [] rm0 #[.int x, .int z] h [] (fun v h' => v = some (.int z) ∧ h = h') := by
  refine Met.of_walk (a0 := a0) (Ls := #[.val (.int x), .val (.int z)]) (Jvm.Free.JP.mathPlain rfl (by decide +kernel)) (own_hEL hw) rfl ?_
  refine Wl.iload_n 1 d18_0 rfl ?_
  refine Wl.iload_n 2 d18_1 rfl ?_
  refine Wl.icmpY 9 d18_2 (tlt q).2.2.1 ?_
  refine Wl.iload_n 10 d18_9 rfl ?_
  exact Wl.ireturn (t := .int) d18_10 rfl rfl (by simp) (nle rfl) (nle rfl) ⟨rfl, rfl⟩

/-- the loop of indexOfChar -/
theorem idxC_loop (hw : ∀ d ∈ tables_1, d.before a0 Z = true) {h : Heap} {b : Addr} {kb : ClassId} {cs : List Int32} {c : Int32} (hc : Lat c) (hn : cs.length < 65536) (hlat : ∀ c ∈ cs, Lat c) (A : Arv Z h b kb .byte (Int32.ofNat cs.length) (cs.map byV) (.int 0)) (j : Nat) :
    ∀ i, i + j = cs.length →
    Wl l Z a0 consts_1 ⟨"java/lang/StringLatin1", "indexOfChar", "([BIII)I"⟩ jdk_43_method_23_code 6 (some .int) rm0 #[.ref b, .int c, .int 0, .int (Int32.ofNat cs.length)] (fun v h' => v = some (.int (idxF c 0 cs)) ∧ h = h') [] h 0 0 7 #[.val (.ref b), .val (.int c), .val (.int 0), .val (.int (Int32.ofNat cs.length)), .val (.int c.toInt8.toInt32), .val (.int (Int32.ofNat i))] [] ∨ idxF c i (cs.drop i) ≠ idxF c 0 cs := by
  induction j with
  | zero =>
    intro i hi
    by_cases he : idxF c i (cs.drop i) = idxF c 0 cs
    · refine Or.inl ?_
      have hd : cs.drop i = [] := List.drop_eq_nil_of_le (by omega)
      rw [hd] at he
      refine Wl.iload 9 d45_7 rfl ?_
      refine Wl.iload_n 10 d45_9 rfl ?_
      refine Wl.icmpY 31 d45_10 (flt (fun q => by rw [nLt (by omega) (by omega)] at q; omega)).2.1 ?_
      refine Wl.iconst 32 (-1 : Int32) d45_31 (by decide) ?_
      exact Wl.ireturn (t := .int) d45_32 rfl rfl (by simp) (nle rfl) (nle rfl) ⟨by rw [← he]; rfl, rfl⟩
    · exact Or.inr he
  | succ j ih =>
    intro i hi
    by_cases he : idxF c i (cs.drop i) = idxF c 0 cs
    · refine Or.inl ?_
      have h1 : i < cs.length := by omega
      have hd : cs.drop i = cs[i] :: cs.drop (i + 1) := List.drop_eq_getElem_cons h1
      rw [hd] at he
      refine Wl.iload 9 d45_7 rfl ?_
      refine Wl.iload_n 10 d45_9 rfl ?_
      refine Wl.icmpN 13 d45_10 (tlt ((nLt (by omega) (by omega)).mpr h1)).2.1 ?_
      refine Wl.aload_n 14 d45_13 rfl rfl ?_
      refine Wl.iload 16 d45_14 rfl ?_
      refine Wl.baload 17 i d45_16 A (nNn (by omega)) (nCl (by omega)) (by rw [nCl (by omega)]; exact h1) (v := .int (cs[i]).toInt8.toInt32) (by simp [List.getD_eq_getElem?_getD, h1, byV]) ?_
      refine Wl.iload 19 d45_17 rfl ?_
      by_cases hx : cs[i] = c
      · refine Wl.icmpN 22 d45_19 (teq (by rw [hx])).2 ?_
        refine Wl.iload 24 d45_22 rfl ?_
        exact Wl.ireturn (t := .int) d45_24 rfl rfl (by simp) (nle rfl) (nle rfl) ⟨by rw [← he]; simp [idxF, hx], rfl⟩
      · refine Wl.icmpY 25 d45_19 (feq (fun q => hx (by rw [← lo8 (hlat _ (List.getElem_mem h1)), ← lo8 hc, q]))).2 ?_
        refine Wl.iinc 28 #[.val (.ref b), .val (.int c), .val (.int 0), .val (.int (Int32.ofNat cs.length)), .val (.int c.toInt8.toInt32), .val (.int (Int32.ofNat (i + 1)))] (1 : Int32) d45_25 (by decide) rfl (by rw [nS]; rfl) ?_
        refine Wl.goto 7 d45_28 ?_
        rcases ih (i + 1) (by omega) with g | g
        · exact g
        · exact absurd (by rw [← he]; simp [idxF, hx]) g
    · exact Or.inr he
theorem idxC_met (hw : ∀ d ∈ tables_1, d.before a0 Z = true) {h : Heap} {b : Addr} {kb : ClassId} {cs : List Int32} {c : Int32} (hc : Lat c) (hn : cs.length < 65536) (hlat : ∀ c ∈ cs, Lat c) (A : Arv Z h b kb .byte (Int32.ofNat cs.length) (cs.map byV) (.int 0)) :
    Met l Z consts_1 ⟨"java/lang/StringLatin1", "indexOfChar", "([BIII)I"⟩ jdk_43_method_23_code 6 (some .int) [] rm0 #[.ref b, .int c, .int 0, .int (Int32.ofNat cs.length)] h [] (fun v h' => v = some (.int (idxF c 0 cs)) ∧ h = h') := by
  refine Met.of_walk (a0 := a0) (Ls := #[.val (.ref b), .val (.int c), .val (.int 0), .val (.int (Int32.ofNat cs.length)), .unset, .unset]) (plainFor_of_name pn_lat) (own_hEL hw) rfl ?_
  refine Wl.iload_n 1 d45_0 rfl ?_
  refine Wl.i2b 2 d45_1 ?_
  refine Wl.istore 4 #[.val (.ref b), .val (.int c), .val (.int 0), .val (.int (Int32.ofNat cs.length)), .val (.int c.toInt8.toInt32), .unset] d45_2 rfl ?_
  refine Wl.iload_n 5 d45_4 rfl ?_
  refine Wl.istore 7 #[.val (.ref b), .val (.int c), .val (.int 0), .val (.int (Int32.ofNat cs.length)), .val (.int c.toInt8.toInt32), .val (.int 0)] d45_5 rfl ?_
  rcases idxC_loop (l := l) (a0 := a0) hw hc hn hlat A cs.length 0 (by omega) with g | g
  · exact g
  · exact absurd rfl g
theorem idxL_met (hw : ∀ d ∈ tables_1, d.before a0 Z = true) {h : Heap} {b : Addr} {kb : ClassId} {cs : List Int32} {c : Int32} (hc : Lat c) (hn : cs.length < 65536) (hlat : ∀ c ∈ cs, Lat c) (A : Arv Z h b kb .byte (Int32.ofNat cs.length) (cs.map byV) (.int 0)) :
    Met l Z consts_1 ⟨"java/lang/StringLatin1", "indexOf", "([BIII)I"⟩ jdk_43_method_22_code 4 (some .int) [] { frames := 1, cells := 0, slots := 0, locals := 17 } #[.ref b, .int c, .int 0, .int (Int32.ofNat cs.length)] h [] (fun v h' => v = some (.int (idxF c 0 cs)) ∧ h = h') := by
  refine Met.of_walk (a0 := a0) (Ls := #[.val (.ref b), .val (.int c), .val (.int 0), .val (.int (Int32.ofNat cs.length))]) (plainFor_of_name pn_lat) (own_hEL hw) rfl ?_
  refine Wl.iload_n 1 d15_0 rfl ?_
  refine Wl.static 4 (argsL := [.int c]) d15_1 (w78 hw) (w79 hw) (w76 hw) (w80 hw) (show parseMethodDescriptor "(I)Z" = some ⟨[.int], some .boolean⟩ by decide +kernel) rfl (canEnc_met hw hc) (fun _ q => nomatch q) rfl rfl rfl (by decide) ⟨⟨nle rfl, nle rfl⟩, nle rfl, nle rfl⟩ ?_
  intro v h1 hq _
  obtain ⟨rfl, rfl⟩ := hq
  show Wl _ _ _ _ _ _ _ _ _ _ _ _ _ _ _ _ _ [.int 1]
  refine Wl.ifY 9 d15_4 (by decide) ?_
  refine Wl.iload_n 10 d15_9 rfl ?_
  refine Wl.iconst 11 (0 : Int32) d15_10 (by decide) ?_
  refine Wl.static 14 (argsL := [.int 0, .int 0]) d15_11 (w81 hw) (w82 hw) (w83 hw) (w84 hw) (show parseMethodDescriptor "(II)I" = some ⟨[.int, .int], some .int⟩ by decide +kernel) rfl (max_met hw (by decide)) (fun _ q => nomatch q) rfl rfl rfl (by decide) ⟨⟨nle rfl, nle rfl⟩, nle rfl, nle rfl⟩ ?_
  intro v h2 hq _
  obtain ⟨rfl, rfl⟩ := hq
  show Wl _ _ _ _ _ _ _ _ _ _ _ _ _ _ _ _ _ [.int 0]
  refine Wl.istore_n 15 #[.val (.ref b), .val (.int c), .val (.int 0), .val (.int (Int32.ofNat cs.length))] d15_14 rfl ?_
  refine Wl.iload_n 16 d15_15 rfl ?_
  refine Wl.aload_n 17 d15_16 rfl rfl ?_
  refine Wl.arraylength 18 d15_17 A ?_
  refine Wl.static 21 (argsL := [.int (Int32.ofNat cs.length), .int (Int32.ofNat cs.length)]) d15_18 (w85 hw) (w86 hw) (w83 hw) (w87 hw) (show parseMethodDescriptor "(II)I" = some ⟨[.int, .int], some .int⟩ by decide +kernel) rfl (min_met hw Int32.lt_irrefl) (fun _ q => nomatch q) rfl rfl rfl (by decide) ⟨⟨nle rfl, nle rfl⟩, nle rfl, nle rfl⟩ ?_
  intro v h3 hq _
  obtain ⟨rfl, rfl⟩ := hq
  show Wl _ _ _ _ _ _ _ _ _ _ _ _ _ _ _ _ _ [.int (Int32.ofNat cs.length)]
  refine Wl.istore_n 22 #[.val (.ref b), .val (.int c), .val (.int 0), .val (.int (Int32.ofNat cs.length))] d15_21 rfl ?_
  refine Wl.iload_n 23 d15_22 rfl ?_
  refine Wl.iload_n 24 d15_23 rfl ?_
  by_cases h0 : cs = []
  · subst h0
    refine Wl.icmpN 27 d15_24 (by decide) ?_
    refine Wl.iconst 28 (-1 : Int32) d15_27 (by decide) ?_
    exact Wl.ireturn (t := .int) d15_28 rfl rfl (by simp) (nle rfl) (nle rfl) ⟨rfl, rfl⟩
  · have hpos : 0 < cs.length := List.length_pos_iff.mpr h0
    refine Wl.icmpY 29 d15_24 (tlt ((nLt (i := 0) (by omega) (by omega)).mpr hpos)).1 ?_
    refine Wl.aload_n 30 d15_29 rfl rfl ?_
    refine Wl.iload_n 31 d15_30 rfl ?_
    refine Wl.iload_n 32 d15_31 rfl ?_
    refine Wl.iload_n 33 d15_32 rfl ?_
    refine Wl.static 36 (argsL := [.ref b, .int c, .int 0, .int (Int32.ofNat cs.length)]) d15_33 (w226 hw) (w227 hw) (w76 hw) (w228 hw) (show parseMethodDescriptor "([BIII)I" = some ⟨[.array .byte, .int, .int, .int], some .int⟩ by decide +kernel) rfl (idxC_met hw hc hn hlat A) (fun _ q => nomatch q) rfl rfl rfl (by decide) ⟨⟨nle rfl, nle rfl⟩, nle rfl, nle rfl⟩ ?_
    intro v h4 hq _
    obtain ⟨rfl, rfl⟩ := hq
    show Wl _ _ _ _ _ _ _ _ _ _ _ _ _ _ _ _ _ [.int (idxF c 0 cs)]
    exact Wl.ireturn (t := .int) d15_36 rfl rfl (by simp) (nle rfl) (nle rfl) ⟨rfl, rfl⟩
theorem idx2_met (hw : ∀ d ∈ tables_1, d.before a0 Z = true) (hcs : CSon Z) {h : Heap} {a : Addr} {cs : List Int32} {c : Int32} (hc : Lat c) (S : Stl Z h a cs) :
    Met l Z consts_1 ⟨"java/lang/String", "indexOf", "(II)I"⟩ jdk_42_method_80_code 3 (some .int) [] { frames := 2, cells := 0, slots := 0, locals := 32 } #[.ref a, .int c, .int 0] h [] (fun v h' => v = some (.int (idxF c 0 cs)) ∧ h = h') := by
  have S0 := S
  obtain ⟨b, kb, X, C, Vl, A, hlat, hn⟩ := S
  refine Met.of_walk (a0 := a0) (Ls := #[.val (.ref a), .val (.int c), .val (.int 0)]) (plainFor_of_name pn_str) (own_hEL hw) rfl ?_
  refine Wl.aload_n 1 d11_0 rfl rfl ?_
  refine Wl.virtual 4 (argsL := []) d11_1 (w59 hw) (w60 hw) (w62 hw) (w61 hw) (w6 hw) (w63 hw) (nf_sel (w62 hw) rfl) X (show parseMethodDescriptor "()Z" = some ⟨[], some .boolean⟩ by decide +kernel) rfl (isLatin1_met hw hcs C) (fun _ q => nomatch q) rfl rfl rfl (by decide) ⟨⟨nle rfl, nle rfl⟩, nle rfl, nle rfl⟩ ?_
  intro v h1 hq _
  obtain ⟨rfl, rfl⟩ := hq
  show Wl _ _ _ _ _ _ _ _ _ _ _ _ _ _ _ _ _ [.int 1]
  refine Wl.ifN 7 d11_4 (by decide) ?_
  refine Wl.aload_n 8 d11_7 rfl rfl ?_
  refine Wl.getfield 11 d11_8 (w24 hw) Vl ?_
  refine Wl.iload_n 12 d11_11 rfl ?_
  refine Wl.iload_n 13 d11_12 rfl ?_
  refine Wl.aload_n 14 d11_13 rfl rfl ?_
  refine Wl.virtual 17 (argsL := []) d11_14 (w64 hw) (w65 hw) (w67 hw) (w66 hw) (w6 hw) (w68 hw) (nf_sel (w67 hw) rfl) X (show parseMethodDescriptor "()I" = some ⟨[], some .int⟩ by decide +kernel) rfl (len_met hw hcs S0) (fun _ q => nomatch q) rfl rfl rfl (by decide) ⟨⟨nle rfl, nle rfl⟩, nle rfl, nle rfl⟩ ?_
  intro v h2 hq _
  obtain ⟨rfl, rfl⟩ := hq
  show Wl _ _ _ _ _ _ _ _ _ _ _ _ _ _ _ _ _ [.int (Int32.ofNat cs.length), .int 0, .int c, .ref b]
  refine Wl.static 20 (argsL := [.ref b, .int c, .int 0, .int (Int32.ofNat cs.length)]) d11_17 (w74 hw) (w75 hw) (w76 hw) (w77 hw) (show parseMethodDescriptor "([BIII)I" = some ⟨[.array .byte, .int, .int, .int], some .int⟩ by decide +kernel) rfl (idxL_met hw hc hn hlat A) (fun _ q => nomatch q) rfl rfl rfl (by decide) ⟨⟨nle rfl, nle rfl⟩, nle rfl, nle rfl⟩ ?_
  intro v h3 hq _
  obtain ⟨rfl, rfl⟩ := hq
  show Wl _ _ _ _ _ _ _ _ _ _ _ _ _ _ _ _ _ [.int (idxF c 0 cs)]
  refine Wl.goto 36 d11_20 ?_
  exact Wl.ireturn (t := .int) d11_36 rfl rfl (by simp) (nle rfl) (nle rfl) ⟨rfl, rfl⟩
theorem idx1_met (hw : ∀ d ∈ tables_1, d.before a0 Z = true) (hcs : CSon Z) {h : Heap} {a : Addr} {cs : List Int32} {c : Int32} (hc : Lat c) (S : Stl Z h a cs) :
    Met l Z consts_1 ⟨"java/lang/String", "indexOf", "(I)I"⟩ jdk_42_method_79_code 2 (some .int) [] { frames := 3, cells := 0, slots := 0, locals := 46 } #[.ref a, .int c] h [] (fun v h' => v = some (.int (idxF c 0 cs)) ∧ h = h') := by
  refine Met.of_walk (a0 := a0) (Ls := #[.val (.ref a), .val (.int c)]) (plainFor_of_name pn_str) (own_hEL hw) rfl ?_
  refine Wl.aload_n 1 d10_0 rfl rfl ?_
  refine Wl.iload_n 2 d10_1 rfl ?_
  refine Wl.iconst 3 (0 : Int32) d10_2 (by decide) ?_
  refine Wl.virtual 6 (argsL := [.int c, .int 0]) d10_3 (w54 hw) (w55 hw) (w57 hw) (w56 hw) (w6 hw) (w58 hw) (nf_sel (w57 hw) rfl) S.exa (show parseMethodDescriptor "(II)I" = some ⟨[.int, .int], some .int⟩ by decide +kernel) rfl (idx2_met hw hcs hc S) (fun _ q => nomatch q) rfl rfl rfl (by decide) ⟨⟨nle rfl, nle rfl⟩, nle rfl, nle rfl⟩ ?_
  intro v h1 hq _
  obtain ⟨rfl, rfl⟩ := hq
  show Wl _ _ _ _ _ _ _ _ _ _ _ _ _ _ _ _ _ [.int (idxF c 0 cs)]
  exact Wl.ireturn (t := .int) d10_6 rfl rfl (by simp) (nle rfl) (nle rfl) ⟨rfl, rfl⟩
end OpIdx

/-! String.substring(int, int) of a Latin-1 String -/
theorem rng_map (xs : List Int32) (i n : Nat) (h : i + n ≤ xs.length) : (List.range n).map (fun t => (xs.map byV).getD (i + t) (.int 0)) = ((xs.drop i).take n).map byV := by
  apply List.ext_getElem
  · simp; omega
  · intro k h1 h2
    have hk : k < n := by simpa using h1
    have hk2 : i + k < xs.length := by omega
    simp [List.getD_eq_getElem?_getD, hk2]
theorem sub_lat {cs : List Int32} (hl : ∀ c ∈ cs, Lat c) (i n : Nat) : ∀ c ∈ (cs.drop i).take n, Lat c := fun c q => hl c (List.mem_of_mem_drop (List.mem_of_mem_take q))
theorem sub_len {cs : List Int32} {i n : Nat} (h : i + n ≤ cs.length) : ((cs.drop i).take n).length = n := by simp; omega
section OpSub
variable {l : Launch} {Z : State} {a0 : Array Value}
theorem pn_arr : plainName "java/util/Arrays" = true := by first | (simp [plainName, overriddenIn]; done) | decide +kernel

theorem chkLen_met (hw : ∀ d ∈ tables_1, d.before a0 Z = true) {h : Heap} {i e : Int32} (h2 : ¬ e < i) :
    Met l Z consts_1 ⟨"java/util/Arrays", "checkLength", "(II)V"⟩ jdk_65_method_131_code 2 none [] rm0 #[.int i, .int e] h [] (fun v h' => v = none ∧ h = h') := by
  refine Met.of_walk (a0 := a0) (Ls := #[.val (.int i), .val (.int e)]) (plainFor_of_name pn_arr) (own_hEL hw) rfl ?_
  refine Wl.iload_n 1 d43_0 rfl ?_
  refine Wl.iload_n 2 d43_1 rfl ?_
  refine Wl.icmpY 37 d43_2 (flt h2).2.1 ?_
  exact Wl.return_ d43_37 rfl (nle rfl) (nle rfl) ⟨rfl, rfl⟩
/-- copyOfRangeByte: bytes i to i + n of a byte[] -/
theorem copyRB_met (hw : ∀ d ∈ tables_1, d.before a0 Z = true) {h : Heap} {b : Addr} {kb : ClassId} {cs : List Int32} {i n N : Nat} (hn : cs.length < 65536) (hi : i + n ≤ cs.length) (hN : n ≤ N) (hN2 : N < 65536) (A : Arv Z h b kb .byte (Int32.ofNat cs.length) (cs.map byV) (.int 0)) :
    Met l Z consts_1 ⟨"java/util/Arrays", "copyOfRangeByte", "([BII)[B"⟩ jdk_65_method_133_code 5 (some (.array .byte)) [] { frames := 1, cells := 1, slots := N, locals := 18 } #[.ref b, .int (Int32.ofNat i), .int (Int32.ofNat (i + n))] h [] (fun v h' => ∃ (d : Addr) (kd : ClassId), v = some (.ref d) ∧ h.size ≤ d ∧ Ext h h' ∧ Arv Z h' d kd .byte (Int32.ofNat n) (((cs.drop i).take n).map byV) (.int 0)) := by
  refine Met.of_walk (a0 := a0) (Ls := #[.val (.ref b), .val (.int (Int32.ofNat i)), .val (.int (Int32.ofNat (i + n))), .unset, .unset]) (plainFor_of_name pn_arr) (own_hEL hw) rfl ?_
  refine Wl.iload_n 1 d42_0 rfl ?_
  refine Wl.iload_n 2 d42_1 rfl ?_
  refine Wl.static 5 (argsL := [.int (Int32.ofNat i), .int (Int32.ofNat (i + n))]) d42_2 (w216 hw) (w217 hw) (w211 hw) (w218 hw) (show parseMethodDescriptor "(II)V" = some ⟨[.int, .int], none⟩ by decide +kernel) rfl (chkLen_met hw (fun q => by rw [nLt (by omega) (by omega)] at q; omega)) (fun _ q => nomatch q) rfl rfl rfl (by decide) ⟨⟨by show 0 + 1 ≤ 1; omega, by show 0 + (2 + 11) + 0 ≤ 18; omega⟩, by show 0 + 0 ≤ 1; omega, by show 0 + 0 ≤ N; omega⟩ ?_
  intro v h1 hq _
  obtain ⟨rfl, rfl⟩ := hq
  show Wl _ _ _ _ _ _ _ _ _ _ _ _ _ _ _ _ _ []
  refine Wl.iload_n 6 d42_5 rfl ?_
  refine Wl.iload_n 7 d42_6 rfl ?_
  refine Wl.isub 8 d42_7 ?_
  rw [nSub (by omega) (by omega), show i + n - i = n by omega]
  refine Wl.istore_n 9 #[.val (.ref b), .val (.int (Int32.ofNat i)), .val (.int (Int32.ofNat (i + n))), .val (.int (Int32.ofNat n)), .unset] d42_8 rfl ?_
  refine Wl.iload_n 10 d42_9 rfl ?_
  refine Wl.newarray 12 N d42_10 (w19 hw) (nNn (by omega)) (by rw [nCl (by omega)]; exact hN) (by omega) (by show 0 + 0 + 1 ≤ 1; omega) (by show 0 + 0 + N ≤ N; omega) ?_
  intro d h2 kd q E D
  rw [nCl (by omega)] at D
  have D : Arv Z h2 d kd .byte (Int32.ofNat n) (List.replicate n (.int 0)) (.int 0) := D
  have A2 := A.ext E
  refine Wl.astore 14 #[.val (.ref b), .val (.int (Int32.ofNat i)), .val (.int (Int32.ofNat (i + n))), .val (.int (Int32.ofNat n)), .val (.ref d)] d42_12 rfl rfl ?_
  refine Wl.aload_n 15 d42_14 rfl rfl ?_
  refine Wl.iload_n 16 d42_15 rfl ?_
  refine Wl.aload 18 d42_16 rfl rfl ?_
  refine Wl.iconst 19 (0 : Int32) d42_18 (by decide) ?_
  refine Wl.aload_n 20 d42_19 rfl rfl ?_
  refine Wl.arraylength 21 d42_20 A2 ?_
  refine Wl.iload_n 22 d42_21 rfl ?_
  refine Wl.isub 23 d42_22 ?_
  rw [nSub (by omega) (by omega)]
  refine Wl.iload_n 24 d42_23 rfl ?_
  have hmin : Met l Z consts_1 ⟨"java/lang/Math", "min", "(II)I"⟩ jdk_29_method_69_code 2 (some .int) [] rm0 #[.int (Int32.ofNat (cs.length - i)), .int (Int32.ofNat n)] h2 [] (fun v h' => v = some (.int (Int32.ofNat n)) ∧ h2 = h') := by
    by_cases hlt : n < cs.length - i
    · exact min2_met hw ((nLt (by omega) (by omega)).mpr hlt)
    · have e : cs.length - i = n := by omega
      rw [e]; exact min_met hw Int32.lt_irrefl
  refine Wl.static 27 (argsL := [.int (Int32.ofNat (cs.length - i)), .int (Int32.ofNat n)]) d42_24 (w219 hw) (w86 hw) (w83 hw) (w87 hw) (show parseMethodDescriptor "(II)I" = some ⟨[.int, .int], some .int⟩ by decide +kernel) rfl hmin (fun _ q => nomatch q) rfl rfl rfl (by decide) ⟨⟨by show 0 + 1 ≤ 1; omega, by show 4 + (2 + 11) + 0 ≤ 18; omega⟩, by show 0 + 0 + 1 + 0 ≤ 1; omega, by show 0 + 0 + N + 0 ≤ N; omega⟩ ?_
  intro v h3 hq _
  obtain ⟨rfl, rfl⟩ := hq
  show Wl _ _ _ _ _ _ _ _ _ _ _ _ _ _ _ _ _ [.int (Int32.ofNat n), .int 0, .ref d, .int (Int32.ofNat i), .ref b]
  refine Wl.arraycopy 30 d42_27 (w220 hw) (w150 hw) (w148 hw) (w149 hw) A2 D rfl (nNn (by omega)) (by decide) (nNn (by omega)) (by rw [nCl (by omega), nCl (by omega), nCl (by omega)]; exact hi) (by rw [nCl (i := n) (by omega)]; exact Nat.le_of_eq (Nat.zero_add n)) (by rw [nCl (i := n) (by omega), List.length_replicate]; exact Nat.le_of_eq (Nat.zero_add n)) (List.mem_of_getElem? (i := 0) rfl) rfl (by show 1 ≤ 1; omega) (by show 0 + (7 + 11) ≤ 18; omega) ?_
  intro h4 K D4
  rw [nCl (i := n) (by omega), nCl (i := i) (by omega), rng_map cs i n hi] at D4
  have e0 : List.take (Int32.toNatClampNeg 0) (List.replicate n (Value.int 0)) ++ List.map byV (List.take n (List.drop i cs)) ++ List.drop (Int32.toNatClampNeg 0 + n) (List.replicate n (Value.int 0)) = ((cs.drop i).take n).map byV := by
    rw [show Int32.toNatClampNeg 0 = 0 by decide]; simp
  rw [e0] at D4
  refine Wl.aload 32 d42_30 rfl rfl ?_
  exact Wl.areturn d42_32 rfl rfl rfl (by show 0 + 0 + 1 + 0 ≤ 1; omega) (by show 0 + 0 + N + 0 ≤ N; omega) ⟨d, kd, rfl, Nat.le_of_eq q.symm, extKeep E K (allS (Nat.le_of_eq q.symm) all0), D4⟩
theorem copyR_met (hw : ∀ d ∈ tables_1, d.before a0 Z = true) {h : Heap} {b : Addr} {kb : ClassId} {cs : List Int32} {i n N : Nat} (hn : cs.length < 65536) (hi : i + n ≤ cs.length) (hno : ¬ (i = 0 ∧ n = cs.length)) (hN : n ≤ N) (hN2 : N < 65536) (A : Arv Z h b kb .byte (Int32.ofNat cs.length) (cs.map byV) (.int 0)) :
    Met l Z consts_1 ⟨"java/util/Arrays", "copyOfRange", "([BII)[B"⟩ jdk_65_method_132_code 3 (some (.array .byte)) [] { frames := 2, cells := 1, slots := N, locals := 34 } #[.ref b, .int (Int32.ofNat i), .int (Int32.ofNat (i + n))] h [] (fun v h' => ∃ (d : Addr) (kd : ClassId), v = some (.ref d) ∧ h.size ≤ d ∧ Ext h h' ∧ Arv Z h' d kd .byte (Int32.ofNat n) (((cs.drop i).take n).map byV) (.int 0)) := by
  refine Met.of_walk (a0 := a0) (Ls := #[.val (.ref b), .val (.int (Int32.ofNat i)), .val (.int (Int32.ofNat (i + n)))]) (plainFor_of_name pn_arr) (own_hEL hw) rfl ?_
  have go : ∀ {l : Launch}, Wl l Z a0 consts_1 ⟨"java/util/Arrays", "copyOfRange", "([BII)[B"⟩ jdk_65_method_132_code 3 (some (.array .byte)) { frames := 2, cells := 1, slots := N, locals := 34 } #[.ref b, .int (Int32.ofNat i), .int (Int32.ofNat (i + n))] (fun v h' => ∃ (d : Addr) (kd : ClassId), v = some (.ref d) ∧ h.size ≤ d ∧ Ext h h' ∧ Arv Z h' d kd .byte (Int32.ofNat n) (((cs.drop i).take n).map byV) (.int 0)) [] h 0 0 10 #[.val (.ref b), .val (.int (Int32.ofNat i)), .val (.int (Int32.ofNat (i + n)))] [] := by
    intro l
    refine Wl.aload_n 11 d41_10 rfl rfl ?_
    refine Wl.iload_n 12 d41_11 rfl ?_
    refine Wl.iload_n 13 d41_12 rfl ?_
    refine Wl.static 16 (argsL := [.ref b, .int (Int32.ofNat i), .int (Int32.ofNat (i + n))]) d41_13 (w213 hw) (w214 hw) (w211 hw) (w215 hw) (show parseMethodDescriptor "([BII)[B" = some ⟨[.array .byte, .int, .int], some (.array .byte)⟩ by decide +kernel) rfl (copyRB_met hw hn hi hN hN2 A) (fun _ q => nomatch q) rfl rfl rfl (by decide) ⟨⟨by show 1 + 1 ≤ 2; omega, by show 0 + (5 + 11) + 18 ≤ 34; omega⟩, by show 0 + 1 ≤ 1; omega, by show 0 + N ≤ N; omega⟩ ?_
    intro v h1 hq _
    obtain ⟨d, kd, rfl, r⟩ := hq
    show Wl _ _ _ _ _ _ _ _ _ _ _ _ _ _ _ _ _ [.ref d]
    exact Wl.areturn d41_16 rfl rfl rfl (by show 0 + 1 ≤ 1; omega) (by show 0 + N ≤ N; omega) ⟨d, kd, rfl, r⟩
  refine Wl.iload_n 1 d41_0 rfl ?_
  by_cases h0 : i = 0
  · subst h0
    refine Wl.ifN 4 d41_1 (teq (by decide)).2 ?_
    refine Wl.iload_n 5 d41_4 rfl ?_
    refine Wl.aload_n 6 d41_5 rfl rfl ?_
    refine Wl.arraylength 7 d41_6 A ?_
    refine Wl.icmpN 10 d41_7 (feq (fun q => by rw [nEq (by omega) (by omega)] at q; exact hno ⟨rfl, by omega⟩)).1 ?_
    exact go
  · refine Wl.ifY 10 d41_1 (feq (fun q => h0 ((nEq (j := 0) (by omega) (by omega)).mp q))).2 ?_
    exact go
end OpSub
/-! StringBuilder with room for sixteen Latin-1 chars -/
def pad (cs : List Int32) : List Int32 := cs ++ List.replicate (16 - cs.length) 0
theorem pad_len {cs : List Int32} (h : cs.length ≤ 16) : (pad cs).length = 16 := by simp [pad]; omega
theorem pad_take {cs : List Int32} : (pad cs).take cs.length = cs := by simp [pad]
theorem pad_app {cs ds : List Int32} (h : cs.length + ds.length ≤ 16) : ((pad cs).map byV).take cs.length ++ ds.map byV ++ ((pad cs).map byV).drop (cs.length + ds.length) = (pad (cs ++ ds)).map byV := by
  have e1 : ((pad cs).map byV).take cs.length = cs.map byV := by rw [← List.map_take, pad_take]
  have e2 : ((pad cs).map byV).drop (cs.length + ds.length) = (List.replicate (16 - (cs ++ ds).length) (0 : Int32)).map byV := by
    rw [← List.map_drop]
    congr 1
    unfold pad
    rw [← List.drop_drop, List.drop_left, List.drop_replicate, List.length_append]
    congr 1
    omega
  rw [e1, e2]
  simp [pad]
def Bld (Z : State) (h : Heap) (a b : Addr) (kb : ClassId) (cs : List Int32) : Prop :=
  Exa Z h a "java/lang/StringBuilder" ∧ Fld Z h a "java/lang/AbstractStringBuilder" "value" "[B" (.ref b) ∧ Fld Z h a "java/lang/AbstractStringBuilder" "coder" "B" (.int 0) ∧ Fld Z h a "java/lang/AbstractStringBuilder" "count" "I" (.int (Int32.ofNat cs.length)) ∧
  Arv Z h b kb .byte (Int32.ofNat 16) ((pad cs).map byV) (.int 0) ∧ (∀ c ∈ cs, Lat c) ∧ cs.length ≤ 16 ∧ a ≠ b
theorem Bld.ext {Z : State} {h h' : Heap} {a b : Addr} {kb : ClassId} {cs : List Int32} (B : Bld Z h a b kb cs) (E : Ext h h') : Bld Z h' a b kb cs := ⟨B.1.ext E, B.2.1.ext E, B.2.2.1.ext E, B.2.2.2.1.ext E, B.2.2.2.2.1.ext E, B.2.2.2.2.2⟩
/-- class Y declares the method itself, and it is no interface -/
theorem sm_of {Z : State} {a0 : Array Value} {K : String} {y y1 : MethodName} (wd : (Jvm.Cond.declares y).before a0 Z = true) (ws : (Jvm.Cond.selects K y1 y1).before a0 Z = true) (hc : y1.cls = y.cls) (hy : y.cls ≠ "java/lang/invoke/MethodHandle" ∧ y.cls ≠ "java/lang/invoke/VarHandle") : (Jvm.Cond.sameMethod y.cls y.cls y.name y.desc).before a0 Z = true := by
  obtain ⟨r0, r, hn, hrm, hstR, hsigR⟩ := Cond.declares_spec wd
  obtain ⟨c2, r2, m2, q1, q2, q3, q4, kP, hkP, hkPi⟩ := Cond.selects_spec ws
  have hf := State.methodFound?_of_named hn hy
  have hc0 := findClass_of_methodNamed hn
  have hc1 := findClass_of_methodNamed q3
  rw [hc] at hc1
  have e := Option.some.inj (hc0.symm.trans hc1)
  rw [← e] at hkP
  refine Cond.before_iff.mpr ?_
  have hn' : Z.methodNamed? ⟨y.cls, y.name, y.desc⟩ = some r0 := hn
  simp [Cond.value, hc0, hf, hn', hkP, hkPi]
section OpSB
variable {l : Launch} {Z : State} {a0 : Array Value}
theorem pn_sb : plainName "java/lang/StringBuilder" = true := by first | (simp [plainName, overriddenIn]; done) | decide +kernel
theorem pn_asb : plainName "java/lang/AbstractStringBuilder" = true := by first | (simp [plainName, overriddenIn]; done) | decide +kernel
theorem asbInit_met (hw : ∀ d ∈ tables_1, d.before a0 Z = true) (hcs : CSon Z) {h : Heap} {a : Addr} (E : Exa Z h a "java/lang/StringBuilder") (FV : Fld Z h a "java/lang/AbstractStringBuilder" "value" "[B" .null) (FC : Fld Z h a "java/lang/AbstractStringBuilder" "coder" "B" (.int 0)) (FN : Fld Z h a "java/lang/AbstractStringBuilder" "count" "I" (.int 0)) :
    MetO l Z consts_1 ⟨"java/lang/AbstractStringBuilder", "<init>", "(I)V"⟩ jdk_68_method_2_code 2 none [] { frames := 1, cells := 1, slots := 16, locals := 12 } #[.ref a, .int 16] h [a] [h.size] (fun v h' => v = none ∧ Keep h h' [a] ∧ ∃ kb, Bld Z h' a h.size kb []) := by
  obtain ⟨cst, hS, hcn⟩ := hcs
  have L1 : Laid Z a0 "java/lang/StringBuilder" "java/lang/AbstractStringBuilder" "value" "[B" := Or.inl (w110 hw)
  have L2 : Laid Z a0 "java/lang/StringBuilder" "java/lang/AbstractStringBuilder" "coder" "B" := Or.inl (w112 hw)
  have L3 : Laid Z a0 "java/lang/StringBuilder" "java/lang/AbstractStringBuilder" "count" "I" := Or.inl (w125 hw)
  have s12 : Jvm.RoadKit.slotOf Z "java/lang/AbstractStringBuilder" "value" "[B" ≠ Jvm.RoadKit.slotOf Z "java/lang/AbstractStringBuilder" "coder" "B" := slot_ne L1 L2 (by decide) (t := .array .byte) (t' := .byte) (by decide) (by decide)
  have s31 : Jvm.RoadKit.slotOf Z "java/lang/AbstractStringBuilder" "count" "I" ≠ Jvm.RoadKit.slotOf Z "java/lang/AbstractStringBuilder" "value" "[B" := slot_ne L3 L1 (by decide) (t := .int) (t' := .array .byte) (by decide) (by decide)
  have s32 : Jvm.RoadKit.slotOf Z "java/lang/AbstractStringBuilder" "count" "I" ≠ Jvm.RoadKit.slotOf Z "java/lang/AbstractStringBuilder" "coder" "B" := slot_ne L3 L2 (by decide) (t := .int) (t' := .byte) (by decide) (by decide)
  refine Met.of_walk (a0 := a0) (Ls := #[.val (.ref a), .val (.int 16)]) (plainFor_of_name pn_asb) (own_hEL hw) rfl ?_
  refine Wl.aload_n 1 d21_0 rfl rfl ?_
  refine Wl.initO 4 d21_1 (w107 hw) (w16 hw) (w17 hw) rfl (nle rfl) (nle rfl) ?_
  refine Wl.getstatic 7 d21_4 (w108 hw) hS ?_
  refine Wl.ifN 10 d21_7 (feq hcn).1 ?_
  refine Wl.aload_n 11 d21_10 rfl rfl ?_
  refine Wl.iload_n 12 d21_11 rfl ?_
  refine Wl.newarray 14 16 d21_12 (w19 hw) (by decide) (by decide) (by decide) (nle rfl) (nle rfl) ?_
  intro d h1 kd q E1 A
  subst q
  have A : Arv Z h1 h.size kd .byte (Int32.ofNat 16) ((pad []).map byV) (.int 0) := A
  have hne : a ≠ h.size := Nat.ne_of_lt E.lt
  refine Wl.putfield 17 d21_14 (w109 hw) (FV.ext E1) (E.ext E1) (Or.inl (w110 hw)) (w96 hw) (ty := .array .byte) (by decide) rfl rfl (List.mem_of_getElem? (i := 1) rfl) ?_
  intro h2 W2
  refine Wl.aload_n 18 d21_17 rfl rfl ?_
  refine Wl.iconst 19 (0 : Int32) d21_18 (by decide) ?_
  refine Wl.putfield 22 d21_19 (w111 hw) ((FC.ext E1).other W2 (Or.inr s12.symm)) ((E.ext E1).wr W2) (Or.inl (w112 hw)) (w96 hw) (ty := .byte) (by decide) rfl rfl (List.mem_of_getElem? (i := 1) rfl) ?_
  intro h3 W3
  refine Wl.goto 38 d21_22 ?_
  exact Wl.return_ d21_38 rfl (nle rfl) (nle rfl) ⟨rfl, (((Keep.refl h [a]).ext E1).wr W2 (Or.inl (List.mem_of_getElem? (i := 0) rfl))).wr W3 (Or.inl (List.mem_of_getElem? (i := 0) rfl)),
    kd, ((E.ext E1).wr W2).wr W3, ((FV.ext E1).same W2).other W3 (Or.inr s12), ((FC.ext E1).other W2 (Or.inr s12.symm)).same W3, ((FN.ext E1).other W2 (Or.inr s31)).other W3 (Or.inr s32), (A.other W2 hne.symm).other W3 hne.symm, latN, nle rfl, hne⟩ (fun x hx => by cases List.mem_singleton.mp hx; exact List.mem_of_getElem? (i := 0) rfl)
theorem sbInit_met (hw : ∀ d ∈ tables_1, d.before a0 Z = true) (hcs : CSon Z) {h : Heap} {a : Addr} (E : Exa Z h a "java/lang/StringBuilder") (FV : Fld Z h a "java/lang/AbstractStringBuilder" "value" "[B" .null) (FC : Fld Z h a "java/lang/AbstractStringBuilder" "coder" "B" (.int 0)) (FN : Fld Z h a "java/lang/AbstractStringBuilder" "count" "I" (.int 0)) :
    MetO l Z consts_1 ⟨"java/lang/StringBuilder", "<init>", "()V"⟩ jdk_67_method_1_code 1 none [] { frames := 2, cells := 1, slots := 16, locals := 25 } #[.ref a] h [a] [h.size] (fun v h' => v = none ∧ Keep h h' [a] ∧ ∃ kb, Bld Z h' a h.size kb []) := by
  refine Met.of_walk (a0 := a0) (Ls := #[.val (.ref a)]) (plainFor_of_name pn_sb) (own_hEL hw) rfl ?_
  refine Wl.aload_n 1 d20_0 rfl rfl ?_
  refine Wl.bipush 3 (16 : Int32) d20_1 (by decide) ?_
  refine Wl.specialO 6 (argsL := [.int 16]) d20_3 (w101 hw) (w102 hw) (w105 hw) (w106 hw) (show parseMethodDescriptor "(I)V" = some ⟨[.int], none⟩ by decide +kernel) rfl (asbInit_met hw hcs E FV FC FN) (allS (List.mem_of_getElem? (i := 0) rfl) (fun _ q => nomatch q)) rfl rfl rfl rfl (by decide) ⟨⟨nle rfl, nle rfl⟩, nle rfl, nle rfl⟩ ?_
  intro v h1 hq _
  obtain ⟨rfl, r⟩ := hq
  exact Wl.return_ d20_6 rfl (nle rfl) (nle rfl) ⟨rfl, r⟩ (fun x hx => by cases List.mem_singleton.mp hx; exact List.mem_of_getElem? (i := 0) rfl)
theorem ensure_met (hw : ∀ d ∈ tables_1, d.before a0 Z = true) {h : Heap} {a b : Addr} {kb : ClassId} {cs : List Int32} {n : Nat} (hn : n ≤ 16) (B : Bld Z h a b kb cs) :
    Met l Z consts_1 ⟨"java/lang/AbstractStringBuilder", "ensureCapacityInternal", "(I)V"⟩ jdk_68_method_9_code 3 none [] rm0 #[.ref a, .int (Int32.ofNat n)] h [] (fun v h' => v = none ∧ h = h') := by
  refine Met.of_walk (a0 := a0) (Ls := #[.val (.ref a), .val (.int (Int32.ofNat n)), .unset]) (plainFor_of_name pn_asb) (own_hEL hw) rfl ?_
  refine Wl.aload_n 1 d24_0 rfl rfl ?_
  refine Wl.getfield 4 d24_1 (w109 hw) B.2.1 ?_
  refine Wl.arraylength 5 d24_4 B.2.2.2.2.1 ?_
  refine Wl.aload_n 6 d24_5 rfl rfl ?_
  refine Wl.getfield 9 d24_6 (w111 hw) B.2.2.1 ?_
  refine Wl.ishr 10 d24_9 ?_
  rw [show (Int32.ofNat 16 >>> ((0 : Int32) &&& 31)) = Int32.ofNat 16 by decide]
  refine Wl.istore_n 11 #[.val (.ref a), .val (.int (Int32.ofNat n)), .val (.int (Int32.ofNat 16))] d24_10 rfl ?_
  refine Wl.iload_n 12 d24_11 rfl ?_
  refine Wl.iload_n 13 d24_12 rfl ?_
  refine Wl.isub 14 d24_13 ?_
  refine Wl.ifY 38 d24_14 (flt (fun q => by
    rw [Int32.lt_iff_toInt_lt] at q
    have e := c_isub (Int32.ofNat n) (Int32.ofNat 16); have r := rng32 (Int32.ofNat n - Int32.ofNat 16)
    rw [nI (by omega), nI (by omega)] at e
    rw [show (0 : Int32).toInt = 0 by decide] at q
    omega)).2.2.2 ?_
  exact Wl.return_ d24_38 rfl (nle rfl) (nle rfl) ⟨rfl, rfl⟩
theorem inflate_met (hw : ∀ d ∈ tables_1, d.before a0 Z = true) (hcs : CSon Z) {h : Heap} {a b x : Addr} {kb : ClassId} {cs ds : List Int32} (B : Bld Z h a b kb cs) (S : Stl Z h x ds) :
    Met l Z consts_1 ⟨"java/lang/AbstractStringBuilder", "inflateIfNeededFor", "(Ljava/lang/String;)V"⟩ jdk_68_method_71_code 2 none [] { frames := 1, cells := 0, slots := 0, locals := 13 } #[.ref a, .ref x] h [] (fun v h' => v = none ∧ h = h') := by
  have hcs' := hcs
  obtain ⟨cst, hS, hcn⟩ := hcs
  obtain ⟨b2, kb2, X, C, Vl, A, hlat, hn⟩ := S
  refine Met.of_walk (a0 := a0) (Ls := #[.val (.ref a), .val (.ref x)]) (plainFor_of_name pn_asb) (own_hEL hw) rfl ?_
  refine Wl.getstatic 3 d26_0 (w108 hw) hS ?_
  refine Wl.ifN 6 d26_3 (feq hcn).1 ?_
  refine Wl.aload_n 7 d26_6 rfl rfl ?_
  refine Wl.getfield 10 d26_7 (w111 hw) B.2.2.1 ?_
  refine Wl.aload_n 11 d26_10 rfl rfl ?_
  refine Wl.virtual 14 (argsL := []) d26_11 (w141 hw) (w70 hw) (w72 hw) (w71 hw) (w6 hw) (w73 hw) (nf_sel (w72 hw) rfl) X (show parseMethodDescriptor "()B" = some ⟨[], some .byte⟩ by decide +kernel) rfl (coder_met hw hcs' rfl C) (fun _ q => nomatch q) rfl rfl rfl (by decide) ⟨⟨nle rfl, nle rfl⟩, nle rfl, nle rfl⟩ ?_
  intro v h1 hq _
  obtain ⟨rfl, rfl⟩ := hq
  show WlO _ _ _ _ _ _ _ _ _ _ _ _ _ _ _ _ _ _ [.int 0, .int 0]
  refine Wl.icmpY 21 d26_14 (teq rfl).1 ?_
  exact Wl.return_ d26_21 rfl (nle rfl) (nle rfl) ⟨rfl, rfl⟩
theorem getB_met (hw : ∀ d ∈ tables_1, d.before a0 Z = true) (hcs : CSon Z) {h : Heap} {b x : Addr} {kb : ClassId} {cs ds : List Int32} (hl : cs.length + ds.length ≤ 16) (A : Arv Z h b kb .byte (Int32.ofNat 16) ((pad cs).map byV) (.int 0)) (S : Stl Z h x ds) :
    Met l Z consts_1 ⟨"java/lang/String", "getBytes", "([BIB)V"⟩ jdk_42_method_147_code 4 none [] { frames := 1, cells := 0, slots := 0, locals := 18 } #[.ref x, .ref b, .int (Int32.ofNat cs.length), .int 0] h [b] (fun v h' => v = none ∧ Keep h h' [b] ∧ Arv Z h' b kb .byte (Int32.ofNat 16) ((pad (cs ++ ds)).map byV) (.int 0)) := by
  obtain ⟨b2, kb2, X, C, Vl, A2, hlat, hn⟩ := S
  refine Met.of_walk (a0 := a0) (Ls := #[.val (.ref x), .val (.ref b), .val (.int (Int32.ofNat cs.length)), .val (.int 0)]) (plainFor_of_name pn_str) (own_hEL hw) rfl ?_
  refine Wl.aload_n 1 d27_0 rfl rfl ?_
  refine Wl.virtual 4 (argsL := []) d27_1 (w69 hw) (w70 hw) (w72 hw) (w71 hw) (w6 hw) (w73 hw) (nf_sel (w72 hw) rfl) X (show parseMethodDescriptor "()B" = some ⟨[], some .byte⟩ by decide +kernel) rfl (coder_met hw hcs rfl C) (fun _ q => nomatch q) rfl rfl rfl (by decide) ⟨⟨nle rfl, nle rfl⟩, nle rfl, nle rfl⟩ ?_
  intro v h1 hq _
  obtain ⟨rfl, rfl⟩ := hq
  show WlO _ _ _ _ _ _ _ _ _ _ _ _ _ _ _ _ _ _ [.int 0]
  refine Wl.iload_n 5 d27_4 rfl ?_
  refine Wl.icmpN 8 d27_5 (teq rfl).2 ?_
  refine Wl.aload_n 9 d27_8 rfl rfl ?_
  refine Wl.getfield 12 d27_9 (w24 hw) Vl ?_
  refine Wl.iconst 13 (0 : Int32) d27_12 (by decide) ?_
  refine Wl.aload_n 14 d27_13 rfl rfl ?_
  refine Wl.iload_n 15 d27_14 rfl ?_
  refine Wl.iload_n 16 d27_15 rfl ?_
  refine Wl.ishl 17 d27_16 ?_
  rw [show (Int32.ofNat cs.length <<< ((0 : Int32) &&& 31)) = Int32.ofNat cs.length by simp]
  refine Wl.aload_n 18 d27_17 rfl rfl ?_
  refine Wl.getfield 21 d27_18 (w24 hw) Vl ?_
  refine Wl.arraylength 22 d27_21 A2 ?_
  refine Wl.arraycopy 25 d27_22 (w147 hw) (w150 hw) (w148 hw) (w149 hw) A2 A rfl (by decide) (nNn (by omega)) (nNn (by omega)) (by rw [nCl (i := ds.length) (by omega)]; exact Nat.le_of_eq (Nat.zero_add _)) (by rw [nCl (by omega), nCl (by omega), nCl (by omega)]; exact hl) (by rw [nCl (by omega), nCl (by omega), List.length_map, pad_len (by omega)]; exact hl) (List.mem_of_getElem? (i := 0) rfl) rfl (nle rfl) (nle rfl) ?_
  intro h2 K D
  rw [nCl (i := ds.length) (by omega), nCl (i := cs.length) (by omega)] at D
  have e0 : (List.range ds.length).map (fun i => (ds.map byV).getD (Int32.toNatClampNeg 0 + i) (.int 0)) = ds.map byV := by
    have q := rng_map ds 0 ds.length (by omega)
    rw [show Int32.toNatClampNeg 0 = 0 by decide, q]; simp
  rw [e0, pad_app hl] at D
  refine Wl.goto 43 d27_25 ?_
  exact Wl.return_ d27_43 rfl (nle rfl) (nle rfl) ⟨rfl, K, D⟩
theorem putAt_met (hw : ∀ d ∈ tables_1, d.before a0 Z = true) (hcs : CSon Z) {h : Heap} {a b x : Addr} {kb : ClassId} {cs ds : List Int32} (hl : cs.length + ds.length ≤ 16) (B : Bld Z h a b kb cs) (S : Stl Z h x ds) :
    Met l Z consts_1 ⟨"java/lang/AbstractStringBuilder", "putStringAt", "(ILjava/lang/String;)V"⟩ jdk_68_method_73_code 3 none [] { frames := 2, cells := 0, slots := 0, locals := 33 } #[.ref a, .int (Int32.ofNat cs.length), .ref x] h [b] (fun v h' => v = none ∧ Keep h h' [b] ∧ Arv Z h' b kb .byte (Int32.ofNat 16) ((pad (cs ++ ds)).map byV) (.int 0)) := by
  refine Met.of_walk (a0 := a0) (Ls := #[.val (.ref a), .val (.int (Int32.ofNat cs.length)), .val (.ref x)]) (plainFor_of_name pn_asb) (own_hEL hw) rfl ?_
  refine Wl.aload_n 1 d25_0 rfl rfl ?_
  refine Wl.aload_n 2 d25_1 rfl rfl ?_
  refine Wl.priv 5 (K := "java/lang/StringBuilder") (argsL := [.ref x]) d25_2 (w136 hw) (w138 hw) (w139 hw) (w137 hw) (w105 hw) (w140 hw) B.1 (show parseMethodDescriptor "(Ljava/lang/String;)V" = some ⟨[.object "java/lang/String"], none⟩ by decide +kernel) rfl (inflate_met hw hcs B S) (fun _ q => nomatch q) rfl rfl rfl (by decide) ⟨⟨nle rfl, nle rfl⟩, nle rfl, nle rfl⟩ ?_
  intro v h1 hq _
  obtain ⟨rfl, rfl⟩ := hq
  show WlO _ _ _ _ _ _ _ _ _ _ _ _ _ _ _ _ _ _ []
  refine Wl.aload_n 6 d25_5 rfl rfl ?_
  refine Wl.aload_n 7 d25_6 rfl rfl ?_
  refine Wl.getfield 10 d25_7 (w109 hw) B.2.1 ?_
  refine Wl.iload_n 11 d25_10 rfl ?_
  refine Wl.aload_n 12 d25_11 rfl rfl ?_
  refine Wl.getfield 15 d25_12 (w111 hw) B.2.2.1 ?_
  refine Wl.virtual 18 (argsL := [.ref b, .int (Int32.ofNat cs.length), .int 0]) d25_15 (w142 hw) (w143 hw) (w145 hw) (w144 hw) (w6 hw) (w146 hw) (nf_sel (w145 hw) rfl) S.exa (show parseMethodDescriptor "([BIB)V" = some ⟨[.array .byte, .int, .byte], none⟩ by decide +kernel) rfl (getB_met hw hcs hl B.2.2.2.2.1 S) (allS (List.mem_of_getElem? (i := 0) rfl) (fun _ q => nomatch q)) rfl rfl rfl (by decide) ⟨⟨nle rfl, nle rfl⟩, nle rfl, nle rfl⟩ ?_
  intro v h2 hq _
  obtain ⟨rfl, r⟩ := hq
  exact Wl.return_ d25_18 rfl (nle rfl) (nle rfl) ⟨rfl, r⟩
theorem asbApp_met (hw : ∀ d ∈ tables_1, d.before a0 Z = true) (hcs : CSon Z) {h : Heap} {a b x : Addr} {kb : ClassId} {cs ds : List Int32} (hl : cs.length + ds.length ≤ 16) (B : Bld Z h a b kb cs) (S : Stl Z h x ds) :
    Met l Z consts_1 ⟨"java/lang/AbstractStringBuilder", "append", "(Ljava/lang/String;)Ljava/lang/AbstractStringBuilder;"⟩ jdk_68_method_22_code 3 (some (.object "java/lang/AbstractStringBuilder")) [] { frames := 3, cells := 0, slots := 0, locals := 47 } #[.ref a, .ref x] h [a, b] (fun v h' => v = some (.ref a) ∧ Keep h h' [a, b] ∧ Bld Z h' a b kb (cs ++ ds)) := by
  have L1 : Laid Z a0 "java/lang/StringBuilder" "java/lang/AbstractStringBuilder" "value" "[B" := Or.inl (w110 hw)
  have L2 : Laid Z a0 "java/lang/StringBuilder" "java/lang/AbstractStringBuilder" "coder" "B" := Or.inl (w112 hw)
  have L3 : Laid Z a0 "java/lang/StringBuilder" "java/lang/AbstractStringBuilder" "count" "I" := Or.inl (w125 hw)
  have s13 : Jvm.RoadKit.slotOf Z "java/lang/AbstractStringBuilder" "value" "[B" ≠ Jvm.RoadKit.slotOf Z "java/lang/AbstractStringBuilder" "count" "I" := slot_ne L1 L3 (by decide) (t := .array .byte) (t' := .int) (by decide) (by decide)
  have s23 : Jvm.RoadKit.slotOf Z "java/lang/AbstractStringBuilder" "coder" "B" ≠ Jvm.RoadKit.slotOf Z "java/lang/AbstractStringBuilder" "count" "I" := slot_ne L2 L3 (by decide) (t := .byte) (t' := .int) (by decide) (by decide)
  have hab := B.2.2.2.2.2.2.2
  have hds : ∀ c ∈ ds, Lat c := by obtain ⟨_, _, _, _, _, _, q, _⟩ := S; exact q
  refine Met.of_walk (a0 := a0) (Ls := #[.val (.ref a), .val (.ref x), .unset]) (plainFor_of_name pn_asb) (own_hEL hw) rfl ?_
  refine Wl.aload_n 1 d23_0 rfl rfl ?_
  refine Wl.ifnonnullY 9 d23_1 ?_
  refine Wl.aload_n 10 d23_9 rfl rfl ?_
  refine Wl.virtual 13 (argsL := []) d23_10 (w123 hw) (w65 hw) (w67 hw) (w66 hw) (w6 hw) (w68 hw) (nf_sel (w67 hw) rfl) S.exa (show parseMethodDescriptor "()I" = some ⟨[], some .int⟩ by decide +kernel) rfl (len_met hw hcs S) (fun _ q => nomatch q) rfl rfl rfl (by decide) ⟨⟨nle rfl, nle rfl⟩, nle rfl, nle rfl⟩ ?_
  intro v h1 hq _
  obtain ⟨rfl, rfl⟩ := hq
  show WlO _ _ _ _ _ _ _ _ _ _ _ _ _ _ _ _ _ _ [.int (Int32.ofNat ds.length)]
  refine Wl.istore_n 14 #[.val (.ref a), .val (.ref x), .val (.int (Int32.ofNat ds.length))] d23_13 rfl ?_
  refine Wl.aload_n 15 d23_14 rfl rfl ?_
  refine Wl.aload_n 16 d23_15 rfl rfl ?_
  refine Wl.getfield 19 d23_16 (w124 hw) B.2.2.2.1 ?_
  refine Wl.iload_n 20 d23_19 rfl ?_
  refine Wl.iadd 21 d23_20 ?_
  rw [nAdd]
  refine Wl.priv 24 (K := "java/lang/StringBuilder") (argsL := [.int (Int32.ofNat (cs.length + ds.length))]) d23_21 (w126 hw) (w128 hw) (w129 hw) (w127 hw) (w105 hw) (w130 hw) B.1 (show parseMethodDescriptor "(I)V" = some ⟨[.int], none⟩ by decide +kernel) rfl (ensure_met hw hl B) (fun _ q => nomatch q) rfl rfl rfl (by decide) ⟨⟨nle rfl, nle rfl⟩, nle rfl, nle rfl⟩ ?_
  intro v h1 hq _
  obtain ⟨rfl, rfl⟩ := hq
  show WlO _ _ _ _ _ _ _ _ _ _ _ _ _ _ _ _ _ _ []
  refine Wl.aload_n 25 d23_24 rfl rfl ?_
  refine Wl.aload_n 26 d23_25 rfl rfl ?_
  refine Wl.getfield 29 d23_26 (w124 hw) B.2.2.2.1 ?_
  refine Wl.aload_n 30 d23_29 rfl rfl ?_
  refine Wl.priv 33 (K := "java/lang/StringBuilder") (argsL := [.int (Int32.ofNat cs.length), .ref x]) d23_30 (w131 hw) (w133 hw) (w134 hw) (w132 hw) (w105 hw) (w135 hw) B.1 (show parseMethodDescriptor "(ILjava/lang/String;)V" = some ⟨[.int, .object "java/lang/String"], none⟩ by decide +kernel) rfl (putAt_met hw hcs hl B S) (allS (List.mem_of_getElem? (i := 1) rfl) (fun _ q => nomatch q)) rfl rfl rfl (by decide) ⟨⟨nle rfl, nle rfl⟩, nle rfl, nle rfl⟩ ?_
  intro v h2 hq _
  obtain ⟨rfl, K, D⟩ := hq
  show WlO _ _ _ _ _ _ _ _ _ _ _ _ _ _ _ _ _ _ []
  have nb : a ∉ [b] := ninS hab nin0
  refine Wl.aload_n 34 d23_33 rfl rfl ?_
  refine Wl.dup 35 d23_34 rfl ?_
  refine Wl.getfield 38 d23_35 (w124 hw) (B.2.2.2.1.keep K nb) ?_
  refine Wl.iload_n 39 d23_38 rfl ?_
  refine Wl.iadd 40 d23_39 ?_
  rw [nAdd]
  refine Wl.putfield 43 d23_40 (w124 hw) (B.2.2.2.1.keep K nb) (B.1.keep K) (Or.inl (w125 hw)) (w96 hw) (ty := .int) (by decide) rfl rfl (List.mem_of_getElem? (i := 0) rfl) ?_
  intro h3 W3
  refine Wl.aload_n 44 d23_43 rfl rfl ?_
  refine Wl.areturn d23_44 rfl rfl rfl (nle rfl) (nle rfl) ⟨rfl, ?_, (B.1.keep K).wr W3, (B.2.1.keep K nb).other W3 (Or.inr s13), (B.2.2.1.keep K nb).other W3 (Or.inr s23), ?_, D.other W3 hab.symm, ?_, ?_, hab⟩
  · exact ((Keep.refl h [a, b]).trans K (fun x hx => Or.inl (by cases List.mem_singleton.mp hx; exact List.mem_of_getElem? (i := 1) rfl))).wr W3 (Or.inl (List.mem_of_getElem? (i := 0) rfl))
  · rw [List.length_append]; exact (B.2.2.2.1.keep K nb).same W3
  · intro c hc
    exact (List.mem_append.mp hc).elim (B.2.2.2.2.2.1 c) (hds c)
  · rw [List.length_append]; exact hl
theorem sbApp_met (hw : ∀ d ∈ tables_1, d.before a0 Z = true) (hcs : CSon Z) {h : Heap} {a b x : Addr} {kb : ClassId} {cs ds : List Int32} (hl : cs.length + ds.length ≤ 16) (B : Bld Z h a b kb cs) (S : Stl Z h x ds) :
    Met l Z consts_1 ⟨"java/lang/StringBuilder", "append", "(Ljava/lang/String;)Ljava/lang/StringBuilder;"⟩ jdk_67_method_7_code 2 (some (.object "java/lang/StringBuilder")) [] { frames := 4, cells := 0, slots := 0, locals := 61 } #[.ref a, .ref x] h [a, b] (fun v h' => v = some (.ref a) ∧ Keep h h' [a, b] ∧ Bld Z h' a b kb (cs ++ ds)) := by
  refine Met.of_walk (a0 := a0) (Ls := #[.val (.ref a), .val (.ref x)]) (plainFor_of_name pn_sb) (own_hEL hw) rfl ?_
  refine Wl.aload_n 1 d22_0 rfl rfl ?_
  refine Wl.aload_n 2 d22_1 rfl rfl ?_
  refine Wl.up 5 (argsL := [.ref x]) d22_2 (w118 hw) (sm_of (w121 hw) (w134 hw) rfl (by decide)) (w119 hw) (w120 hw) (w105 hw) (w122 hw) B.1 (show parseMethodDescriptor "(Ljava/lang/String;)Ljava/lang/AbstractStringBuilder;" = some ⟨[.object "java/lang/String"], some (.object "java/lang/AbstractStringBuilder")⟩ by decide +kernel) rfl (asbApp_met hw hcs hl B S) (fun x q => q) rfl rfl rfl (by decide) ⟨⟨nle rfl, nle rfl⟩, nle rfl, nle rfl⟩ ?_
  intro v h1 hq _
  obtain ⟨rfl, r⟩ := hq
  show WlO _ _ _ _ _ _ _ _ _ _ _ _ _ _ _ _ _ _ [.ref a]
  refine Wl.pop 6 d22_5 rfl ?_
  refine Wl.aload_n 7 d22_6 rfl rfl ?_
  exact Wl.areturn d22_7 rfl rfl rfl (nle rfl) (nle rfl) ⟨rfl, r⟩
theorem getV_met (hw : ∀ d ∈ tables_1, d.before a0 Z = true) {h : Heap} {a b : Addr} {kb : ClassId} {cs : List Int32} (B : Bld Z h a b kb cs) :
    Met l Z consts_1 ⟨"java/lang/AbstractStringBuilder", "getValue", "()[B"⟩ jdk_68_method_64_code 1 (some (.array .byte)) [] rm0 #[.ref a] h [] (fun v h' => v = some (.ref b) ∧ h = h') := by
  refine Met.of_walk (a0 := a0) (Ls := #[.val (.ref a)]) (plainFor_of_name pn_asb) (own_hEL hw) rfl ?_
  refine Wl.aload_n 1 d37_0 rfl rfl ?_
  refine Wl.getfield 4 d37_1 (w109 hw) B.2.1 ?_
  exact Wl.areturn d37_4 rfl rfl rfl (nle rfl) (nle rfl) ⟨rfl, rfl⟩
theorem asbLen_met (hw : ∀ d ∈ tables_1, d.before a0 Z = true) {h : Heap} {a b : Addr} {kb : ClassId} {cs : List Int32} (B : Bld Z h a b kb cs) :
    Met l Z consts_1 ⟨"java/lang/AbstractStringBuilder", "length", "()I"⟩ jdk_68_method_6_code 1 (some .int) [] rm0 #[.ref a] h [] (fun v h' => v = some (.int (Int32.ofNat cs.length)) ∧ h = h') := by
  refine Met.of_walk (a0 := a0) (Ls := #[.val (.ref a)]) (plainFor_of_name pn_asb) (own_hEL hw) rfl ?_
  refine Wl.aload_n 1 d39_0 rfl rfl ?_
  refine Wl.getfield 4 d39_1 (w124 hw) B.2.2.2.1 ?_
  exact Wl.ireturn (t := .int) d39_4 rfl rfl (by simp) (nle rfl) (nle rfl) ⟨rfl, rfl⟩
theorem sbLen_met (hw : ∀ d ∈ tables_1, d.before a0 Z = true) {h : Heap} {a b : Addr} {kb : ClassId} {cs : List Int32} (B : Bld Z h a b kb cs) :
    Met l Z consts_1 ⟨"java/lang/StringBuilder", "length", "()I"⟩ jdk_67_method_93_code 1 (some .int) [] { frames := 1, cells := 0, slots := 0, locals := 12 } #[.ref a] h [] (fun v h' => v = some (.int (Int32.ofNat cs.length)) ∧ h = h') := by
  refine Met.of_walk (a0 := a0) (Ls := #[.val (.ref a)]) (plainFor_of_name pn_sb) (own_hEL hw) rfl ?_
  refine Wl.aload_n 1 d38_0 rfl rfl ?_
  refine Wl.up 4 (argsL := []) d38_1 (w202 hw) (sm_of (w197 hw) (w134 hw) rfl (by decide)) (w198 hw) (w120 hw) (w105 hw) (w203 hw) B.1 (show parseMethodDescriptor "()I" = some ⟨[], some .int⟩ by decide +kernel) rfl (asbLen_met hw B) (fun _ q => nomatch q) rfl rfl rfl (by decide) ⟨⟨nle rfl, nle rfl⟩, nle rfl, nle rfl⟩ ?_
  intro v h1 hq _
  obtain ⟨rfl, rfl⟩ := hq
  show WlO _ _ _ _ _ _ _ _ _ _ _ _ _ _ _ _ _ _ [.int (Int32.ofNat cs.length)]
  exact Wl.ireturn (t := .int) d38_4 rfl rfl (by simp) (nle rfl) (nle rfl) ⟨rfl, rfl⟩
theorem asbLat_met (hw : ∀ d ∈ tables_1, d.before a0 Z = true) (hcs : CSon Z) {h : Heap} {a b : Addr} {kb : ClassId} {cs : List Int32} (B : Bld Z h a b kb cs) :
    Met l Z consts_1 ⟨"java/lang/AbstractStringBuilder", "isLatin1", "()Z"⟩ jdk_68_method_68_code 1 (some .boolean) [] rm0 #[.ref a] h [] (fun v h' => v = some (.int 1) ∧ h = h') := by
  obtain ⟨cst, hS, hcn⟩ := hcs
  refine Met.of_walk (a0 := a0) (Ls := #[.val (.ref a)]) (plainFor_of_name pn_asb) (own_hEL hw) rfl ?_
  refine Wl.getstatic 3 d40_0 (w108 hw) hS ?_
  refine Wl.ifN 6 d40_3 (feq hcn).1 ?_
  refine Wl.aload_n 7 d40_6 rfl rfl ?_
  refine Wl.getfield 10 d40_7 (w111 hw) B.2.2.1 ?_
  refine Wl.ifN 13 d40_10 (teq rfl).2 ?_
  refine Wl.iconst 14 (1 : Int32) d40_13 (by decide) ?_
  refine Wl.goto 18 d40_14 ?_
  exact Wl.ireturn (t := .boolean) d40_18 rfl rfl (by simp) (nle rfl) (nle rfl) ⟨rfl, rfl⟩
theorem strA_met (hw : ∀ d ∈ tables_1, d.before a0 Z = true) (hcs : CSon Z) {h : Heap} {s a b : Addr} {kb : ClassId} {cs : List Int32} (hl : cs.length < 16) (B : Bld Z h a b kb cs) (E : Exa Z h s "java/lang/String") (FV : Fld Z h s "java/lang/String" "value" "[B" .null) (FC : Fld Z h s "java/lang/String" "coder" "B" (.int 0)) (hsb : s ≠ b) :
    Met l Z consts_1 ⟨"java/lang/String", "<init>", "(Ljava/lang/AbstractStringBuilder;Ljava/lang/Void;)V"⟩ jdk_42_method_150_code 5 none [] { frames := 3, cells := 1, slots := 16, locals := 49 } #[.ref s, .ref a, .null] h [s] (fun v h' => v = none ∧ Keep h h' [s] ∧ Stl Z h' s cs) := by
  have L1 : Laid Z a0 "java/lang/String" "java/lang/String" "value" "[B" := Or.inr (w20 hw)
  have L2 : Laid Z a0 "java/lang/String" "java/lang/String" "coder" "B" := Or.inr (w21 hw)
  have hsl : Jvm.RoadKit.slotOf Z "java/lang/String" "value" "[B" ≠ Jvm.RoadKit.slotOf Z "java/lang/String" "coder" "B" := slot_ne L1 L2 (by decide) (t := .array .byte) (t' := .byte) (by decide) (by decide)
  refine Met.of_walk (a0 := a0) (Ls := #[.val (.ref s), .val (.ref a), .val .null, .unset, .unset]) (plainFor_of_name pn_str) (own_hEL hw) rfl ?_
  refine Wl.aload_n 1 d36_0 rfl rfl ?_
  refine Wl.initO 4 d36_1 (w15 hw) (w16 hw) (w17 hw) rfl (nle rfl) (nle rfl) ?_
  refine Wl.aload_n 5 d36_4 rfl rfl ?_
  refine Wl.virtual 8 (K := "java/lang/StringBuilder") (argsL := []) d36_5 (w191 hw) (w192 hw) (w194 hw) (w193 hw) (w105 hw) (w195 hw) (nf_sel (w194 hw) rfl) B.1 (show parseMethodDescriptor "()[B" = some ⟨[], some (.array .byte)⟩ by decide +kernel) rfl (getV_met hw B) (fun _ q => nomatch q) rfl rfl rfl (by decide) ⟨⟨nle rfl, nle rfl⟩, nle rfl, nle rfl⟩ ?_
  intro v h1 hq _
  obtain ⟨rfl, rfl⟩ := hq
  show WlO _ _ _ _ _ _ _ _ _ _ _ _ _ _ _ _ _ _ [.ref b]
  refine Wl.astore_n 9 #[.val (.ref s), .val (.ref a), .val .null, .val (.ref b), .unset] d36_8 rfl rfl ?_
  refine Wl.aload_n 10 d36_9 rfl rfl ?_
  refine Wl.virtual 13 (K := "java/lang/StringBuilder") (argsL := []) d36_10 (w196 hw) (w197 hw) (w199 hw) (w200 hw) (w97 hw) (w201 hw) (nf_cls (w197 hw) (w194 hw) rfl) B.1 (show parseMethodDescriptor "()I" = some ⟨[], some .int⟩ by decide +kernel) rfl (sbLen_met hw B) (fun _ q => nomatch q) rfl rfl rfl (by decide) ⟨⟨nle rfl, nle rfl⟩, nle rfl, nle rfl⟩ ?_
  intro v h1 hq _
  obtain ⟨rfl, rfl⟩ := hq
  show WlO _ _ _ _ _ _ _ _ _ _ _ _ _ _ _ _ _ _ [.int (Int32.ofNat cs.length)]
  refine Wl.istore 15 #[.val (.ref s), .val (.ref a), .val .null, .val (.ref b), .val (.int (Int32.ofNat cs.length))] d36_13 rfl ?_
  refine Wl.aload_n 16 d36_15 rfl rfl ?_
  refine Wl.virtual 19 (K := "java/lang/StringBuilder") (argsL := []) d36_16 (w204 hw) (w205 hw) (w207 hw) (w206 hw) (w105 hw) (w208 hw) (nf_sel (w207 hw) rfl) B.1 (show parseMethodDescriptor "()Z" = some ⟨[], some .boolean⟩ by decide +kernel) rfl (asbLat_met hw hcs B) (fun _ q => nomatch q) rfl rfl rfl (by decide) ⟨⟨nle rfl, nle rfl⟩, nle rfl, nle rfl⟩ ?_
  intro v h1 hq _
  obtain ⟨rfl, rfl⟩ := hq
  show WlO _ _ _ _ _ _ _ _ _ _ _ _ _ _ _ _ _ _ [.int 1]
  refine Wl.ifN 22 d36_19 (by decide) ?_
  refine Wl.aload_n 23 d36_22 rfl rfl ?_
  refine Wl.iconst 24 (0 : Int32) d36_23 (by decide) ?_
  refine Wl.putfield 27 d36_24 (w25 hw) FC E (Or.inr ⟨(w21 hw), rfl, rfl⟩) (w5 hw) (ty := .byte) (by decide) rfl rfl (List.mem_of_getElem? (i := 0) rfl) ?_
  intro h2 W2
  refine Wl.aload_n 28 d36_27 rfl rfl ?_
  refine Wl.aload_n 29 d36_28 rfl rfl ?_
  refine Wl.iconst 30 (0 : Int32) d36_29 (by decide) ?_
  refine Wl.iload 32 d36_30 rfl ?_
  have A2 : Arv Z h2 b kb .byte (Int32.ofNat (pad cs).length) ((pad cs).map byV) (.int 0) := by rw [pad_len (by omega)]; exact B.2.2.2.2.1.other W2 hsb.symm
  have hpl := pad_len (cs := cs) (by omega)
  have hcp : Met l Z consts_1 ⟨"java/util/Arrays", "copyOfRange", "([BII)[B"⟩ jdk_65_method_132_code 3 (some (.array .byte)) [] { frames := 2, cells := 1, slots := 16, locals := 34 } #[.ref b, .int 0, .int (Int32.ofNat cs.length)] h2 [] (fun v h' => ∃ (d : Addr) (kd : ClassId), v = some (.ref d) ∧ h2.size ≤ d ∧ Ext h2 h' ∧ Arv Z h' d kd .byte (Int32.ofNat cs.length) ((((pad cs).drop 0).take cs.length).map byV) (.int 0)) := by
    have q := copyR_met (l := l) hw (cs := pad cs) (i := 0) (n := cs.length) (N := 16) (by omega) (by omega) (by omega) (by omega) (by decide) A2
    rw [Nat.zero_add] at q
    exact q
  refine Wl.static 35 (argsL := [.ref b, .int 0, .int (Int32.ofNat cs.length)]) d36_32 (w209 hw) (w210 hw) (w211 hw) (w212 hw) (show parseMethodDescriptor "([BII)[B" = some ⟨[.array .byte, .int, .int], some (.array .byte)⟩ by decide +kernel) rfl hcp (fun _ q => nomatch q) rfl rfl rfl (by decide) ⟨⟨nle rfl, nle rfl⟩, nle rfl, nle rfl⟩ ?_
  intro v h3 hq _
  obtain ⟨d, kd, rfl, hd, E3, D⟩ := hq
  rw [List.drop_zero, pad_take] at D
  show WlO _ _ _ _ _ _ _ _ _ _ _ _ _ _ _ _ _ _ [.ref d, .ref s]
  have hne : d ≠ s := Nat.ne_of_gt (Nat.lt_of_lt_of_le (E.wr W2).lt hd)
  refine Wl.putfield 38 d36_35 (w24 hw) ((FV.other W2 (Or.inr hsl)).ext E3) ((E.wr W2).ext E3) (Or.inr ⟨(w20 hw), rfl, rfl⟩) (w5 hw) (ty := .array .byte) (by decide) rfl rfl (List.mem_of_getElem? (i := 0) rfl) ?_
  intro h4 W4
  refine Wl.goto 97 d36_38 ?_
  exact Wl.return_ d36_97 rfl (nle rfl) (nle rfl) ⟨rfl, (((Keep.refl h [s]).wr W2 (Or.inl (List.mem_of_getElem? (i := 0) rfl))).ext E3).wr W4 (Or.inl (List.mem_of_getElem? (i := 0) rfl)),
    d, kd, ((E.wr W2).ext E3).wr W4, ((FC.same W2).ext E3).other W4 (Or.inr hsl.symm), ((FV.other W2 (Or.inr hsl)).ext E3).same W4, D.other W4 hne, B.2.2.2.2.2.1, by omega⟩
theorem strSB_met (hw : ∀ d ∈ tables_1, d.before a0 Z = true) (hcs : CSon Z) {h : Heap} {s a b : Addr} {kb : ClassId} {cs : List Int32} (hl : cs.length < 16) (B : Bld Z h a b kb cs) (E : Exa Z h s "java/lang/String") (FV : Fld Z h s "java/lang/String" "value" "[B" .null) (FC : Fld Z h s "java/lang/String" "coder" "B" (.int 0)) (hsb : s ≠ b) :
    Met l Z consts_1 ⟨"java/lang/String", "<init>", "(Ljava/lang/StringBuilder;)V"⟩ jdk_42_method_53_code 2 none [] { frames := 4, cells := 1, slots := 16, locals := 65 } #[.ref s, .ref a] h [s] (fun v h' => v = none ∧ Keep h h' [s] ∧ Stl Z h' s cs) := by
  refine Met.of_walk (a0 := a0) (Ls := #[.val (.ref s), .val (.ref a)]) (plainFor_of_name pn_str) (own_hEL hw) rfl ?_
  refine Wl.aload_n 1 d35_0 rfl rfl ?_
  refine Wl.aload_n 2 d35_1 rfl rfl ?_
  refine Wl.aconst_null 3 d35_2 ?_
  refine Wl.special 6 (argsL := [.ref a, .null]) d35_3 (w188 hw) (w189 hw) (w6 hw) (w190 hw) (show parseMethodDescriptor "(Ljava/lang/AbstractStringBuilder;Ljava/lang/Void;)V" = some ⟨[.object "java/lang/AbstractStringBuilder", .object "java/lang/Void"], none⟩ by decide +kernel) rfl (strA_met hw hcs hl B E FV FC hsb) (allS (List.mem_of_getElem? (i := 0) rfl) (fun _ q => nomatch q)) rfl rfl rfl rfl (by decide) ⟨⟨nle rfl, nle rfl⟩, nle rfl, nle rfl⟩ ?_
  intro v h1 hq _
  obtain ⟨rfl, r⟩ := hq
  exact Wl.return_ d35_6 rfl (nle rfl) (nle rfl) ⟨rfl, r⟩
theorem toS_met (hw : ∀ d ∈ tables_1, d.before a0 Z = true) (hcs : CSon Z) {h : Heap} {a b : Addr} {kb : ClassId} {cs : List Int32} (hl : cs.length < 16) (B : Bld Z h a b kb cs) :
    Met l Z consts_1 ⟨"java/lang/StringBuilder", "toString", "()Ljava/lang/String;"⟩ jdk_67_method_42_code 1 (some (.object "java/lang/String")) [] { frames := 5, cells := 2, slots := 20, locals := 79 } #[.ref a] h [] (fun v h' => ∃ s, v = some (.ref s) ∧ Ext h h' ∧ Stl Z h' s cs) := by
  refine Met.of_walk (a0 := a0) (Ls := #[.val (.ref a)]) (plainFor_of_name pn_sb) (own_hEL hw) rfl ?_
  refine Wl.new 3 d34_0 (w184 hw) (w5 hw) (w6 hw) (nle rfl) (nle rfl) ?_
  intro s h1 q E1 X D
  have F1 : Fld Z h1 s "java/lang/String" "value" "[B" .null := D (Or.inr (w20 hw)) (ty := .array .byte) (by decide)
  have F2 : Fld Z h1 s "java/lang/String" "coder" "B" (.int 0) := D (Or.inr (w21 hw)) (ty := .byte) (by decide)
  have hsb : s ≠ b := fun e => by have := B.2.2.2.2.1.lt; rw [← e, q] at this; exact absurd this (Nat.lt_irrefl _)
  refine Wl.dup 4 d34_3 rfl ?_
  refine Wl.aload_n 5 d34_4 rfl rfl ?_
  refine Wl.special 8 (argsL := [.ref a]) d34_5 (w185 hw) (w186 hw) (w6 hw) (w187 hw) (show parseMethodDescriptor "(Ljava/lang/StringBuilder;)V" = some ⟨[.object "java/lang/StringBuilder"], none⟩ by decide +kernel) rfl (strSB_met hw hcs hl (B.ext E1) X F1 F2 hsb) (allS (List.mem_of_getElem? (i := 0) rfl) (fun _ q => nomatch q)) rfl rfl rfl rfl (by decide) ⟨⟨nle rfl, nle rfl⟩, nle rfl, nle rfl⟩ ?_
  intro v h2 hq _
  obtain ⟨rfl, K, S⟩ := hq
  show WlO _ _ _ _ _ _ _ _ _ _ _ _ _ _ _ _ _ _ [.ref s]
  exact Wl.areturn d34_8 rfl rfl rfl (nle rfl) (nle rfl) ⟨s, rfl, extKeep E1 K (allS (Nat.le_of_eq q.symm) all0), S⟩
end OpSB

theorem idxF_none (c : Int32) : ∀ (xs : List Int32) (k : Nat), (∀ x ∈ xs, x ≠ c) → idxF c k xs = -1
  | [], _, _ => rfl
  | x :: xs, k, h => by
    have h1 : ¬ x = c := h x (List.mem_cons_self ..)
    rw [idxF, if_neg h1]
    exact idxF_none c xs (k + 1) (fun z q => h z (List.mem_cons_of_mem _ q))
theorem neN {c : Int32} : ∀ x ∈ ([] : List Int32), x ≠ c := fun _ q => nomatch q
theorem neC {c x : Int32} {xs : List Int32} (p : x ≠ c) (r : ∀ z ∈ xs, z ≠ c) : ∀ z ∈ x :: xs, z ≠ c := fun z q => (List.mem_cons.mp q).elim (fun e => e ▸ p) (r z)
theorem empL_met {l : Launch} {Z : State} {a0 : Array Value} (hw : ∀ d ∈ tables_1, d.before a0 Z = true) {h : Heap} {a : Addr} {cs : List Int32} (S : Stl Z h a cs) (hne : cs ≠ []) :
    Met l Z consts_1 ⟨"java/lang/String", "isEmpty", "()Z"⟩ jdk_42_method_55_code 1 (some .boolean) [] rm0 #[.ref a] h [] (fun v h' => v = some (.int 0) ∧ h = h') := by
  have hp : 0 < cs.length := List.length_pos_iff.mpr hne
  obtain ⟨b, kb, X, C, Vl, A, hl, hn⟩ := S
  refine Met.of_walk (a0 := a0) (Ls := #[.val (.ref a)]) (plainFor_of_name pn_str) (own_hEL hw) rfl ?_
  refine Wl.aload_n 1 d29_0 rfl rfl ?_
  refine Wl.getfield 4 d29_1 (w24 hw) Vl ?_
  refine Wl.arraylength 5 d29_4 A ?_
  refine Wl.ifY 12 d29_5 (feq (fun q => by have := congrArg Int32.toInt q; rw [nI (by omega), show (0 : Int32).toInt = 0 by decide] at this; omega)).2 ?_
  refine Wl.iconst 13 (0 : Int32) d29_12 (by decide) ?_
  exact Wl.ireturn (t := .boolean) d29_13 rfl rfl (by simp) (nle rfl) (nle rfl) ⟨rfl, rfl⟩
set_option maxRecDepth 65536 in
set_option maxHeartbeats 40000000 in
theorem reqnn_met {l : Launch} {Z : State} {a0 : Array Value} (hw : ∀ d ∈ tables_1, d.before a0 Z = true) {h : Heap} {a : Addr} {v1 : Value} (r1 : v1.isRef = true) :
    Met l Z consts_1 ⟨"java/util/Objects", "requireNonNull", "(Ljava/lang/Object;Ljava/lang/String;)Ljava/lang/Object;"⟩ jdk_31_method_11_code 2 (some (.object "java/lang/Object")) [] { frames := 0, cells := 0, slots := 0, locals := 0 } #[.ref a, v1] h [] (fun v h' => v = some (.ref a) ∧ h = h') := by
  refine Met.of_walk (a0 := a0) (Ls := #[.val (.ref a), .val (v1)]) (plainFor_of_name pn_2) (own_hEL hw) (by rcases ref_cases r1 with rfl | ⟨_, rfl⟩ <;> rfl) ?_
  refine Wl.aload_n 1 d9_0 rfl rfl ?_
  refine Wl.ifnonnullY 13 d9_1 ?_
  refine Wl.aload_n 14 d9_13 rfl rfl ?_
  exact Wl.areturn d9_14 rfl rfl rfl (nle rfl) (nle rfl) ⟨rfl, rfl⟩
set_option maxRecDepth 65536 in
set_option maxHeartbeats 40000000 in
theorem keys_met {l : Launch} {Z : State} {a0 : Array Value} (hw : ∀ d ∈ tables_1, d.before a0 Z = true) (hcs : CSon Z) {h : Heap} {a : Addr} {x0 : Addr} {cs : List Int32} (E : Exa Z h a "com/example/portunus/portunus/LockKeys") (F_prefix : Fld Z h a "com/example/portunus/portunus/LockKeys" "prefix" "Ljava/lang/String;" (.null)) (S : Stl Z h x0 cs) (n123 : ∀ x ∈ cs, x ≠ 123) (n125 : ∀ x ∈ cs, x ≠ 125) :
    Met l Z consts_1 ⟨"com/example/portunus/portunus/LockKeys", "<init>", "(Ljava/lang/String;)V"⟩ prog_6_method_1_code 2 none [] { frames := 4, cells := 2, slots := 28, locals := 59 } #[.ref a, .ref x0] h [a] (fun v h' => v = none ∧ Keep h h' [a] ∧ Exa Z h' a "com/example/portunus/portunus/LockKeys" ∧ Fld Z h' a "com/example/portunus/portunus/LockKeys" "prefix" "Ljava/lang/String;" (.ref x0)) := by
  refine Met.of_walk (a0 := a0) (Ls := #[.val (.ref a), .val (.ref x0)]) (plainFor_of_name pn_3) (own_hEL hw) rfl ?_
  refine Wl.aload_n 1 d8_0 rfl rfl ?_
  refine Wl.initO 4 d8_1 (w43 hw) (w16 hw) (w17 hw) rfl (nle rfl) (nle rfl) ?_
  refine Wl.aload_n 5 d8_4 rfl rfl ?_
  refine Wl.ldcS 7 24 (text := "prefix") (vs := [byV (112 : Int32), byV (114 : Int32), byV (101 : Int32), byV (102 : Int32), byV (105 : Int32), byV (120 : Int32)]) (z := (6 : Int32)) d8_5 (w44 hw) (own_wS hw) (by decide) ⟨by decide, by decide⟩ (by decide) (by decide) (by decide) (by decide) (nle rfl) (nle rfl) ?_
  intro a1 h2 b3 k4 E5 X6 C7 V8 A9 ne10
  have S11 : Stl Z h2 a1 [(112 : Int32), (114 : Int32), (101 : Int32), (102 : Int32), (105 : Int32), (120 : Int32)] := ⟨b3, k4, X6, C7, V8, A9, (latC (by decide) (latC (by decide) (latC (by decide) (latC (by decide) (latC (by decide) (latC (by decide) latN)))))), by decide⟩
  have K12 : Keep h h2 [a] := ((Keep.refl h [a])).ext E5
  refine Wl.static 10 (argsL := [.ref x0, .ref a1]) d8_7 (w45 hw) (w46 hw) (w47 hw) (w48 hw) (show parseMethodDescriptor "(Ljava/lang/Object;Ljava/lang/String;)Ljava/lang/Object;" = some ⟨[(.object "java/lang/Object"), (.object "java/lang/String")], some (.object "java/lang/Object")⟩ by decide +kernel) rfl (reqnn_met hw rfl) (fun _ q => nomatch q) rfl rfl rfl (by decide) ⟨⟨nle rfl, nle rfl⟩, nle rfl, nle rfl⟩ ?_
  intro v13 h14 hq15 _
  obtain ⟨rfl, rfl⟩ := hq15
  show WlO _ _ _ _ _ _ _ _ _ _ _ _ _ _ _ _ _ _ [.ref x0]
  refine Wl.pop 11 d8_10 rfl ?_
  refine Wl.aload_n 12 d8_11 rfl rfl ?_
  refine Wl.bipush 14 (123 : Int32) d8_12 (by decide) ?_
  refine Wl.virtual 17 (argsL := [.int (123 : Int32)]) d8_14 (w49 hw) (w50 hw) (w52 hw) (w51 hw) (w6 hw) (w53 hw) (nf_sel (w52 hw) rfl) ((S).exa.ext E5) (show parseMethodDescriptor "(I)I" = some ⟨[.int], some .int⟩ by decide +kernel) rfl (idx1_met hw hcs (by decide) (S.ext E5)) (fun _ q => nomatch q) rfl rfl rfl (by decide) ⟨⟨nle rfl, nle rfl⟩, nle rfl, nle rfl⟩ ?_
  intro v16 h17 hq18 _
  rw [idxF_none _ _ _ n123] at hq18
  obtain ⟨rfl, rfl⟩ := hq18
  show WlO _ _ _ _ _ _ _ _ _ _ _ _ _ _ _ _ _ _ [.int (-1 : Int32)]
  refine Wl.ifN 20 d8_17 (tlt (by decide)).2.1 ?_
  refine Wl.aload_n 21 d8_20 rfl rfl ?_
  refine Wl.bipush 23 (125 : Int32) d8_21 (by decide) ?_
  refine Wl.virtual 26 (argsL := [.int (125 : Int32)]) d8_23 (w49 hw) (w50 hw) (w52 hw) (w51 hw) (w6 hw) (w53 hw) (nf_sel (w52 hw) rfl) ((S).exa.ext E5) (show parseMethodDescriptor "(I)I" = some ⟨[.int], some .int⟩ by decide +kernel) rfl (idx1_met hw hcs (by decide) (S.ext E5)) (fun _ q => nomatch q) rfl rfl rfl (by decide) ⟨⟨nle rfl, nle rfl⟩, nle rfl, nle rfl⟩ ?_
  intro v19 h20 hq21 _
  rw [idxF_none _ _ _ n125] at hq21
  obtain ⟨rfl, rfl⟩ := hq21
  show WlO _ _ _ _ _ _ _ _ _ _ _ _ _ _ _ _ _ _ [.int (-1 : Int32)]
  refine Wl.ifY 56 d8_26 (tlt (by decide)).1 ?_
  refine Wl.aload_n 57 d8_56 rfl rfl ?_
  refine Wl.aload_n 58 d8_57 rfl rfl ?_
  refine Wl.putfield 61 d8_58 (w88 hw) (F_prefix.ext E5) (E.ext E5) (Or.inr ⟨(w89 hw), rfl, rfl⟩) (w38 hw) (ty := (.object "java/lang/String")) (by decide) rfl rfl (List.mem_of_getElem? (i := 0) rfl) ?_
  intro h22 W23
  have F24 : Fld Z h22 a "com/example/portunus/portunus/LockKeys" "prefix" "Ljava/lang/String;" (.ref x0) := ((F_prefix.ext E5)).same W23
  have K25 : Keep h h22 [a] := (K12).wr W23 (Or.inl (List.mem_of_getElem? (i := 0) rfl))
  exact Wl.return_ d8_61 rfl (nle rfl) (nle rfl) ⟨rfl, K25, ((E.ext E5).wr W23), F24⟩
set_option maxRecDepth 65536 in
set_option maxHeartbeats 40000000 in
theorem braced_met {l : Launch} {Z : State} {a0 : Array Value} (hw : ∀ d ∈ tables_1, d.before a0 Z = true) (hcs : CSon Z) (hfm : Fmt Z) {h : Heap} {n : Addr} {cs : List Int32} (S : Stl Z h n cs) (hne : cs ≠ []) (hp : 0 < cs.length) (h0 : ¬ cs[0] = 125) (h4 : cs.length ≤ 4) :
    Met l Z consts_1 ⟨"com/example/portunus/portunus/LockKeys", "braced", "(Ljava/lang/String;)Ljava/lang/String;"⟩ prog_6_method_8_code 1 (some (.object "java/lang/String")) [] { frames := 6, cells := 10, slots := 80, locals := 92 } #[.ref n] h [] (fun v h' => ∃ s, v = some (.ref s) ∧ Ext h h' ∧ Stl Z h' s ((([] ++ [(123 : Int32)]) ++ cs) ++ [(125 : Int32)])) := by
  refine Met.of_walk (a0 := a0) (Ls := #[.val (.ref n)]) (plainFor_of_name pn_3) (own_hEL hw) rfl ?_
  refine Wl.aload_n 1 d28_0 rfl rfl ?_
  refine Wl.ldcS 3 16 (text := "name") (vs := [byV (110 : Int32), byV (97 : Int32), byV (109 : Int32), byV (101 : Int32)]) (z := (4 : Int32)) d28_1 (w155 hw) (own_wS hw) (by decide) ⟨by decide, by decide⟩ (by decide) (by decide) (by decide) (by decide) (nle rfl) (nle rfl) ?_
  intro a1 h2 b3 k4 E5 X6 C7 V8 A9 ne10
  have B11 : Ext h h2 := E5
  have S12 : Stl Z h2 a1 [(110 : Int32), (97 : Int32), (109 : Int32), (101 : Int32)] := ⟨b3, k4, X6, C7, V8, A9, (latC (by decide) (latC (by decide) (latC (by decide) (latC (by decide) latN)))), by decide⟩
  refine Wl.static 6 (argsL := [.ref n, .ref a1]) d28_3 (w45 hw) (w46 hw) (w47 hw) (w48 hw) (show parseMethodDescriptor "(Ljava/lang/Object;Ljava/lang/String;)Ljava/lang/Object;" = some ⟨[(.object "java/lang/Object"), (.object "java/lang/String")], some (.object "java/lang/Object")⟩ by decide +kernel) rfl (reqnn_met hw rfl) (fun _ q => nomatch q) rfl rfl rfl (by decide) ⟨⟨nle rfl, nle rfl⟩, nle rfl, nle rfl⟩ ?_
  intro v13 h14 hq15 _
  obtain ⟨rfl, rfl⟩ := hq15
  show WlO _ _ _ _ _ _ _ _ _ _ _ _ _ _ _ _ _ _ [.ref n]
  refine Wl.pop 7 d28_6 rfl ?_
  refine Wl.aload_n 8 d28_7 rfl rfl ?_
  refine Wl.virtual 11 (argsL := []) d28_8 (w156 hw) (w157 hw) (w159 hw) (w158 hw) (w6 hw) (w160 hw) (nf_sel (w159 hw) rfl) ((S).exa.ext E5) (show parseMethodDescriptor "()Z" = some ⟨[], some .boolean⟩ by decide +kernel) rfl (empL_met hw (S.ext E5) hne) (fun _ q => nomatch q) rfl rfl rfl (by decide) ⟨⟨nle rfl, nle rfl⟩, nle rfl, nle rfl⟩ ?_
  intro v16 h17 hq18 _
  obtain ⟨rfl, rfl⟩ := hq18
  show WlO _ _ _ _ _ _ _ _ _ _ _ _ _ _ _ _ _ _ [.int (0 : Int32)]
  refine Wl.ifN 14 d28_11 (teq (by decide)).2 ?_
  refine Wl.aload_n 15 d28_14 rfl rfl ?_
  refine Wl.iconst 16 (0 : Int32) d28_15 (by decide) ?_
  refine Wl.virtual 19 (argsL := [.int (0 : Int32)]) d28_16 (w161 hw) (w162 hw) (w164 hw) (w163 hw) (w6 hw) (w165 hw) (nf_sel (w164 hw) rfl) ((S).exa.ext E5) (show parseMethodDescriptor "(I)C" = some ⟨[.int], some .char⟩ by decide +kernel) rfl (charAt_met hw hcs hfm (S.ext E5) (i := 0) hp) (fun _ q => nomatch q) rfl rfl rfl (by decide) ⟨⟨nle rfl, nle rfl⟩, nle rfl, nle rfl⟩ ?_
  intro v19 h20 hq21 _
  obtain ⟨rfl, rfl⟩ := hq21
  show WlO _ _ _ _ _ _ _ _ _ _ _ _ _ _ _ _ _ _ [.int (cs[0])]
  refine Wl.bipush 21 (125 : Int32) d28_19 (by decide) ?_
  refine Wl.icmpY 51 d28_21 (feq h0).2 ?_
  refine Wl.new 54 d28_51 (w95 hw) (w96 hw) (w97 hw) (nle rfl) (nle rfl) ?_
  intro a22 h23 q24 E25 X26 D27
  have z28 : h.size ≤ a22 := Nat.le_trans B11.1 (Nat.le_of_eq q24.symm)
  have z29 : h2.size ≤ a22 := Nat.le_of_eq q24.symm
  have ne30 : n ≠ a22 := Nat.ne_of_lt (by rw [q24]; exact (((S).exa.ext E5)).lt)
  have ne31 : a1 ≠ a22 := Nat.ne_of_lt (by rw [q24]; exact (X6).lt)
  have B32 : Ext h h23 := extTr B11 E25
  have B33 : Ext h2 h23 := E25
  have F34 : Fld Z h23 a22 "java/lang/AbstractStringBuilder" "value" "[B" (.null) := D27 (Or.inl (w110 hw)) (ty := (.array .byte)) (by decide)
  have F35 : Fld Z h23 a22 "java/lang/AbstractStringBuilder" "coder" "B" (.int 0) := D27 (Or.inl (w112 hw)) (ty := .byte) (by decide)
  have F36 : Fld Z h23 a22 "java/lang/AbstractStringBuilder" "count" "I" (.int 0) := D27 (Or.inl (w125 hw)) (ty := .int) (by decide)
  refine Wl.dup 55 d28_54 rfl ?_
  refine Wl.specialO 58 (argsL := []) d28_55 (w98 hw) (w99 hw) (w97 hw) (w100 hw) (show parseMethodDescriptor "()V" = some ⟨[], none⟩ by decide +kernel) rfl (sbInit_met hw hcs X26 F34 F35 F36) (allS (List.mem_of_getElem? (i := 0) rfl) (fun _ q => nomatch q)) rfl rfl rfl rfl (by decide) ⟨⟨nle rfl, nle rfl⟩, nle rfl, nle rfl⟩ ?_
  intro v37 h38 hq39 _
  obtain ⟨rfl, K40, kb41, B42⟩ := hq39
  have z43 : h.size ≤ (h23.size) := B32.1
  have z44 : h2.size ≤ (h23.size) := B33.1
  have B45 : Ext h h38 := extKeep B32 K40 (allS z28 all0)
  have B46 : Ext h2 h38 := extKeep B33 K40 (allS z29 all0)
  show WlO _ _ _ _ _ _ _ _ _ _ _ _ _ _ _ _ _ _ [.ref a22]
  refine Wl.ldcS 60 4 (text := "{") (vs := [byV (123 : Int32)]) (z := (1 : Int32)) d28_58 (w177 hw) (own_wS hw) (by decide) ⟨by decide, by decide⟩ (by decide) (by decide) (by decide) (by decide) (nle rfl) (nle rfl) ?_
  intro a47 h48 b49 k50 E51 X52 C53 V54 A55 ne56
  have B57 : Ext h h48 := extTr B45 E51
  have B58 : Ext h2 h48 := extTr B46 E51
  have S59 : Stl Z h48 a47 [(123 : Int32)] := ⟨b49, k50, X52, C53, V54, A55, (latC (by decide) latN), by decide⟩
  refine Wl.virtual 63 (argsL := [.ref a47]) d28_60 (w113 hw) (w114 hw) (w116 hw) (w115 hw) (w97 hw) (w117 hw) (nf_sel (w116 hw) rfl) (B42.1.ext E51) (show parseMethodDescriptor "(Ljava/lang/String;)Ljava/lang/StringBuilder;" = some ⟨[(.object "java/lang/String")], some (.object "java/lang/StringBuilder")⟩ by decide +kernel) rfl (sbApp_met hw hcs (cs := []) (ds := [(123 : Int32)]) (by simp only [List.length_append, List.length_cons, List.length_nil]; omega) (B42.ext E51) S59) (allS (List.mem_of_getElem? (i := 1) rfl) (allS (List.mem_of_getElem? (i := 0) rfl) (fun _ q => nomatch q))) rfl rfl rfl (by decide) ⟨⟨nle rfl, nle rfl⟩, nle rfl, nle rfl⟩ ?_
  intro v60 h61 hq62 _
  obtain ⟨rfl, K63, B64⟩ := hq62
  have B65 : Ext h h61 := extKeep B57 K63 (allS z28 (allS z43 all0))
  have B66 : Ext h2 h61 := extKeep B58 K63 (allS z29 (allS z44 all0))
  show WlO _ _ _ _ _ _ _ _ _ _ _ _ _ _ _ _ _ _ [.ref a22]
  refine Wl.aload_n 64 d28_63 rfl rfl ?_
  refine Wl.virtual 67 (argsL := [.ref n]) d28_64 (w113 hw) (w114 hw) (w116 hw) (w115 hw) (w97 hw) (w117 hw) (nf_sel (w116 hw) rfl) B64.1 (show parseMethodDescriptor "(Ljava/lang/String;)Ljava/lang/StringBuilder;" = some ⟨[(.object "java/lang/String")], some (.object "java/lang/StringBuilder")⟩ by decide +kernel) rfl (sbApp_met hw hcs (cs := ([] ++ [(123 : Int32)])) (ds := cs) (by simp only [List.length_append, List.length_cons, List.length_nil]; omega) B64 (S.ext B65)) (allS (List.mem_of_getElem? (i := 1) rfl) (allS (List.mem_of_getElem? (i := 0) rfl) (fun _ q => nomatch q))) rfl rfl rfl (by decide) ⟨⟨nle rfl, nle rfl⟩, nle rfl, nle rfl⟩ ?_
  intro v67 h68 hq69 _
  obtain ⟨rfl, K70, B71⟩ := hq69
  have B72 : Ext h h68 := extKeep B65 K70 (allS z28 (allS z43 all0))
  have B73 : Ext h2 h68 := extKeep B66 K70 (allS z29 (allS z44 all0))
  show WlO _ _ _ _ _ _ _ _ _ _ _ _ _ _ _ _ _ _ [.ref a22]
  refine Wl.ldcS 69 4 (text := "}") (vs := [byV (125 : Int32)]) (z := (1 : Int32)) d28_67 (w178 hw) (own_wS hw) (by decide) ⟨by decide, by decide⟩ (by decide) (by decide) (by decide) (by decide) (nle rfl) (nle rfl) ?_
  intro a74 h75 b76 k77 E78 X79 C80 V81 A82 ne83
  have B84 : Ext h h75 := extTr B72 E78
  have B85 : Ext h2 h75 := extTr B73 E78
  have S86 : Stl Z h75 a74 [(125 : Int32)] := ⟨b76, k77, X79, C80, V81, A82, (latC (by decide) latN), by decide⟩
  refine Wl.virtual 72 (argsL := [.ref a74]) d28_69 (w113 hw) (w114 hw) (w116 hw) (w115 hw) (w97 hw) (w117 hw) (nf_sel (w116 hw) rfl) (B71.1.ext E78) (show parseMethodDescriptor "(Ljava/lang/String;)Ljava/lang/StringBuilder;" = some ⟨[(.object "java/lang/String")], some (.object "java/lang/StringBuilder")⟩ by decide +kernel) rfl (sbApp_met hw hcs (cs := (([] ++ [(123 : Int32)]) ++ cs)) (ds := [(125 : Int32)]) (by simp only [List.length_append, List.length_cons, List.length_nil]; omega) (B71.ext E78) S86) (allS (List.mem_of_getElem? (i := 1) rfl) (allS (List.mem_of_getElem? (i := 0) rfl) (fun _ q => nomatch q))) rfl rfl rfl (by decide) ⟨⟨nle rfl, nle rfl⟩, nle rfl, nle rfl⟩ ?_
  intro v87 h88 hq89 _
  obtain ⟨rfl, K90, B91⟩ := hq89
  have B92 : Ext h h88 := extKeep B84 K90 (allS z28 (allS z43 all0))
  have B93 : Ext h2 h88 := extKeep B85 K90 (allS z29 (allS z44 all0))
  show WlO _ _ _ _ _ _ _ _ _ _ _ _ _ _ _ _ _ _ [.ref a22]
  refine Wl.virtual 75 (argsL := []) d28_72 (w179 hw) (w180 hw) (w182 hw) (w181 hw) (w97 hw) (w183 hw) (nf_sel (w182 hw) rfl) B91.1 (show parseMethodDescriptor "()Ljava/lang/String;" = some ⟨[], some (.object "java/lang/String")⟩ by decide +kernel) rfl (toS_met hw hcs (cs := ((([] ++ [(123 : Int32)]) ++ cs) ++ [(125 : Int32)])) (by simp only [List.length_append, List.length_cons, List.length_nil]; omega) B91) (fun _ q => nomatch q) rfl rfl rfl (by decide) ⟨⟨nle rfl, nle rfl⟩, nle rfl, nle rfl⟩ ?_
  intro v94 h95 hq96 _
  obtain ⟨s97, rfl, E98, S99⟩ := hq96
  have B100 : Ext h h95 := extTr B92 E98
  have B101 : Ext h2 h95 := extTr B93 E98
  show WlO _ _ _ _ _ _ _ _ _ _ _ _ _ _ _ _ _ _ [.ref s97]
  exact Wl.areturn d28_75 rfl rfl rfl (nle rfl) (nle rfl) ⟨s97, rfl, B100, S99⟩
set_option maxRecDepth 65536 in
set_option maxHeartbeats 40000000 in
theorem key_met {l : Launch} {Z : State} {a0 : Array Value} (hw : ∀ d ∈ tables_1, d.before a0 Z = true) (hcs : CSon Z) (hfm : Fmt Z) {h : Heap} {t n p : Addr} {cs ps : List Int32} (F : Fld Z h t "com/example/portunus/portunus/LockKeys" "prefix" "Ljava/lang/String;" (.ref p)) (U : Stl Z h p ps) (h3 : ps.length ≤ 3) (S : Stl Z h n cs) (hne : cs ≠ []) (hp : 0 < cs.length) (h0 : ¬ cs[0] = 125) (h4 : cs.length ≤ 4) :
    Met l Z consts_1 ⟨"com/example/portunus/portunus/LockKeys", "fenceKey", "(Ljava/lang/String;)Ljava/lang/String;"⟩ prog_6_method_3_code 2 (some (.object "java/lang/String")) [] { frames := 7, cells := 20, slots := 160, locals := 120 } #[.ref t, .ref n] h [] (fun v h' => ∃ s, v = some (.ref s) ∧ Ext h h' ∧ Stl Z h' s ((([] ++ ps) ++ [(102 : Int32), (101 : Int32), (110 : Int32), (99 : Int32), (101 : Int32), (58 : Int32)]) ++ ((([] ++ [(123 : Int32)]) ++ cs) ++ [(125 : Int32)]))) := by
  refine Met.of_walk (a0 := a0) (Ls := #[.val (.ref t), .val (.ref n)]) (plainFor_of_name pn_3) (own_hEL hw) rfl ?_
  refine Wl.new 3 d19_0 (w95 hw) (w96 hw) (w97 hw) (nle rfl) (nle rfl) ?_
  intro a1 h2 q3 E4 X5 D6
  have z7 : h.size ≤ a1 := Nat.le_of_eq q3.symm
  have ne8 : n ≠ a1 := Nat.ne_of_lt (by rw [q3]; exact ((S).exa).lt)
  have ne9 : p ≠ a1 := Nat.ne_of_lt (by rw [q3]; exact ((U).exa).lt)
  have B10 : Ext h h2 := E4
  have F11 : Fld Z h2 a1 "java/lang/AbstractStringBuilder" "value" "[B" (.null) := D6 (Or.inl (w110 hw)) (ty := (.array .byte)) (by decide)
  have F12 : Fld Z h2 a1 "java/lang/AbstractStringBuilder" "coder" "B" (.int 0) := D6 (Or.inl (w112 hw)) (ty := .byte) (by decide)
  have F13 : Fld Z h2 a1 "java/lang/AbstractStringBuilder" "count" "I" (.int 0) := D6 (Or.inl (w125 hw)) (ty := .int) (by decide)
  refine Wl.dup 4 d19_3 rfl ?_
  refine Wl.specialO 7 (argsL := []) d19_4 (w98 hw) (w99 hw) (w97 hw) (w100 hw) (show parseMethodDescriptor "()V" = some ⟨[], none⟩ by decide +kernel) rfl (sbInit_met hw hcs X5 F11 F12 F13) (allS (List.mem_of_getElem? (i := 0) rfl) (fun _ q => nomatch q)) rfl rfl rfl rfl (by decide) ⟨⟨nle rfl, nle rfl⟩, nle rfl, nle rfl⟩ ?_
  intro v14 h15 hq16 _
  obtain ⟨rfl, K17, kb18, B19⟩ := hq16
  have z20 : h.size ≤ (h2.size) := B10.1
  have B21 : Ext h h15 := extKeep B10 K17 (allS z7 all0)
  show WlO _ _ _ _ _ _ _ _ _ _ _ _ _ _ _ _ _ _ [.ref a1]
  refine Wl.aload_n 8 d19_7 rfl rfl ?_
  refine Wl.getfield 11 d19_8 (w88 hw) (F.ext B21) ?_
  refine Wl.virtual 14 (argsL := [.ref p]) d19_11 (w113 hw) (w114 hw) (w116 hw) (w115 hw) (w97 hw) (w117 hw) (nf_sel (w116 hw) rfl) B19.1 (show parseMethodDescriptor "(Ljava/lang/String;)Ljava/lang/StringBuilder;" = some ⟨[(.object "java/lang/String")], some (.object "java/lang/StringBuilder")⟩ by decide +kernel) rfl (sbApp_met hw hcs (cs := []) (ds := ps) (by simp only [List.length_append, List.length_cons, List.length_nil]; omega) B19 (U.ext B21)) (allS (List.mem_of_getElem? (i := 1) rfl) (allS (List.mem_of_getElem? (i := 0) rfl) (fun _ q => nomatch q))) rfl rfl rfl (by decide) ⟨⟨nle rfl, nle rfl⟩, nle rfl, nle rfl⟩ ?_
  intro v22 h23 hq24 _
  obtain ⟨rfl, K25, B26⟩ := hq24
  have B27 : Ext h h23 := extKeep B21 K25 (allS z7 (allS z20 all0))
  show WlO _ _ _ _ _ _ _ _ _ _ _ _ _ _ _ _ _ _ [.ref a1]
  refine Wl.ldcS 16 24 (text := "fence:") (vs := [byV (102 : Int32), byV (101 : Int32), byV (110 : Int32), byV (99 : Int32), byV (101 : Int32), byV (58 : Int32)]) (z := (6 : Int32)) d19_14 (w151 hw) (own_wS hw) (by decide) ⟨by decide, by decide⟩ (by decide) (by decide) (by decide) (by decide) (nle rfl) (nle rfl) ?_
  intro a28 h29 b30 k31 E32 X33 C34 V35 A36 ne37
  have B38 : Ext h h29 := extTr B27 E32
  have S39 : Stl Z h29 a28 [(102 : Int32), (101 : Int32), (110 : Int32), (99 : Int32), (101 : Int32), (58 : Int32)] := ⟨b30, k31, X33, C34, V35, A36, (latC (by decide) (latC (by decide) (latC (by decide) (latC (by decide) (latC (by decide) (latC (by decide) latN)))))), by decide⟩
  refine Wl.virtual 19 (argsL := [.ref a28]) d19_16 (w113 hw) (w114 hw) (w116 hw) (w115 hw) (w97 hw) (w117 hw) (nf_sel (w116 hw) rfl) (B26.1.ext E32) (show parseMethodDescriptor "(Ljava/lang/String;)Ljava/lang/StringBuilder;" = some ⟨[(.object "java/lang/String")], some (.object "java/lang/StringBuilder")⟩ by decide +kernel) rfl (sbApp_met hw hcs (cs := ([] ++ ps)) (ds := [(102 : Int32), (101 : Int32), (110 : Int32), (99 : Int32), (101 : Int32), (58 : Int32)]) (by simp only [List.length_append, List.length_cons, List.length_nil]; omega) (B26.ext E32) S39) (allS (List.mem_of_getElem? (i := 1) rfl) (allS (List.mem_of_getElem? (i := 0) rfl) (fun _ q => nomatch q))) rfl rfl rfl (by decide) ⟨⟨nle rfl, nle rfl⟩, nle rfl, nle rfl⟩ ?_
  intro v40 h41 hq42 _
  obtain ⟨rfl, K43, B44⟩ := hq42
  have B45 : Ext h h41 := extKeep B38 K43 (allS z7 (allS z20 all0))
  show WlO _ _ _ _ _ _ _ _ _ _ _ _ _ _ _ _ _ _ [.ref a1]
  refine Wl.aload_n 20 d19_19 rfl rfl ?_
  refine Wl.static 23 (argsL := [.ref n]) d19_20 (w152 hw) (w153 hw) (w39 hw) (w154 hw) (show parseMethodDescriptor "(Ljava/lang/String;)Ljava/lang/String;" = some ⟨[(.object "java/lang/String")], some (.object "java/lang/String")⟩ by decide +kernel) rfl (braced_met hw hcs hfm (S.ext B45) hne hp h0 h4) (fun _ q => nomatch q) rfl rfl rfl (by decide) ⟨⟨nle rfl, nle rfl⟩, nle rfl, nle rfl⟩ ?_
  intro v46 h47 hq48 _
  obtain ⟨s49, rfl, E50, S51⟩ := hq48
  have B52 : Ext h h47 := extTr B45 E50
  show WlO _ _ _ _ _ _ _ _ _ _ _ _ _ _ _ _ _ _ [.ref s49, .ref a1]
  refine Wl.virtual 26 (argsL := [.ref s49]) d19_23 (w113 hw) (w114 hw) (w116 hw) (w115 hw) (w97 hw) (w117 hw) (nf_sel (w116 hw) rfl) (B44.1.ext E50) (show parseMethodDescriptor "(Ljava/lang/String;)Ljava/lang/StringBuilder;" = some ⟨[(.object "java/lang/String")], some (.object "java/lang/StringBuilder")⟩ by decide +kernel) rfl (sbApp_met hw hcs (cs := (([] ++ ps) ++ [(102 : Int32), (101 : Int32), (110 : Int32), (99 : Int32), (101 : Int32), (58 : Int32)])) (ds := ((([] ++ [(123 : Int32)]) ++ cs) ++ [(125 : Int32)])) (by simp only [List.length_append, List.length_cons, List.length_nil]; omega) (B44.ext E50) S51) (allS (List.mem_of_getElem? (i := 1) rfl) (allS (List.mem_of_getElem? (i := 0) rfl) (fun _ q => nomatch q))) rfl rfl rfl (by decide) ⟨⟨nle rfl, nle rfl⟩, nle rfl, nle rfl⟩ ?_
  intro v53 h54 hq55 _
  obtain ⟨rfl, K56, B57⟩ := hq55
  have B58 : Ext h h54 := extKeep B52 K56 (allS z7 (allS z20 all0))
  show WlO _ _ _ _ _ _ _ _ _ _ _ _ _ _ _ _ _ _ [.ref a1]
  refine Wl.virtual 29 (argsL := []) d19_26 (w179 hw) (w180 hw) (w182 hw) (w181 hw) (w97 hw) (w183 hw) (nf_sel (w182 hw) rfl) B57.1 (show parseMethodDescriptor "()Ljava/lang/String;" = some ⟨[], some (.object "java/lang/String")⟩ by decide +kernel) rfl (toS_met hw hcs (cs := ((([] ++ ps) ++ [(102 : Int32), (101 : Int32), (110 : Int32), (99 : Int32), (101 : Int32), (58 : Int32)]) ++ ((([] ++ [(123 : Int32)]) ++ cs) ++ [(125 : Int32)]))) (by simp only [List.length_append, List.length_cons, List.length_nil]; omega) B57) (fun _ q => nomatch q) rfl rfl rfl (by decide) ⟨⟨nle rfl, nle rfl⟩, nle rfl, nle rfl⟩ ?_
  intro v59 h60 hq61 _
  obtain ⟨s62, rfl, E63, S64⟩ := hq61
  have B65 : Ext h h60 := extTr B58 E63
  show WlO _ _ _ _ _ _ _ _ _ _ _ _ _ _ _ _ _ _ [.ref s62]
  exact Wl.areturn d19_29 rfl rfl rfl (nle rfl) (nle rfl) ⟨s62, rfl, B65, S64⟩
theorem nb_a {c : Int32} (h : c = (123 : Int32)) : Lat (c ^^^ (1 : Int32)).toUInt32.toUInt16.toUInt32.toInt32 ∧ (c ^^^ (1 : Int32)).toUInt32.toUInt16.toUInt32.toInt32 ≠ 123 ∧ (c ^^^ (1 : Int32)).toUInt32.toUInt16.toUInt32.toInt32 ≠ 125 := by subst h; decide
theorem nb_b {c : Int32} (h : c = (125 : Int32)) : Lat (c ^^^ (1 : Int32)).toUInt32.toUInt16.toUInt32.toInt32 ∧ (c ^^^ (1 : Int32)).toUInt32.toUInt16.toUInt32.toInt32 ≠ 123 ∧ (c ^^^ (1 : Int32)).toUInt32.toUInt16.toUInt32.toInt32 ≠ 125 := by subst h; decide
theorem rem3 (k : Int32) : ((k &&& (3 : Int32)) % (3 : Int32)) = 0 ∨ ((k &&& (3 : Int32)) % (3 : Int32)) = 1 ∨ ((k &&& (3 : Int32)) % (3 : Int32)) = 2 := by
  have h := c_and k 3 (by decide)
  have r := (c_irem (k &&& 3) 3 3 (by decide)).1 h.1
  generalize (k &&& (3 : Int32)) % (3 : Int32) = n at r ⊢
  have q : ∀ k : Int32, n.toInt = k.toInt → n = k := fun k h => Int32.toInt_inj.mp h
  have : n.toInt = 0 ∨ n.toInt = 1 ∨ n.toInt = 2 := by omega
  rcases this with h | h | h
  · exact Or.inl (q 0 h)
  · exact Or.inr (Or.inl (q 1 h))
  · exact Or.inr (Or.inr (q 2 h))
theorem rem3p (k : Int32) : ((k &&& (3 : Int32)) % (3 : Int32)) + (1 : Int32) = 1 ∨ ((k &&& (3 : Int32)) % (3 : Int32)) + (1 : Int32) = 2 ∨ ((k &&& (3 : Int32)) % (3 : Int32)) + (1 : Int32) = 3 := by
  rcases rem3 k with h | h | h <;> rw [h]
  · exact Or.inl (by decide)
  · exact Or.inr (Or.inl (by decide))
  · exact Or.inr (Or.inr (by decide))
set_option maxRecDepth 65536 in
set_option maxHeartbeats 40000000 in
theorem nb_met {l : Launch} {Z : State} {a0 : Array Value} (hw : ∀ d ∈ tables_1, d.before a0 Z = true) {h : Heap} {c : Int32} (hc : Lat c) :
    Met l Z consts_1 ⟨"com/example/portunus/portunus/LockKeysFenceKeyPinLaw", "noBrace", "(C)C"⟩ method_3_code 1 (some .char) [] { frames := 0, cells := 0, slots := 0, locals := 0 } #[.int c] h [] (fun v h' => ∃ z, v = some (.int z) ∧ Lat z ∧ z ≠ 123 ∧ z ≠ 125 ∧ h = h') := by
  refine Met.of_walk (a0 := a0) (Ls := #[.val (.int c)]) (plainFor_of_name pn_4) (own_hEL hw) rfl ?_
  refine Wl.iload_n 1 d1_0 rfl ?_
  refine Wl.bipush 3 (123 : Int32) d1_1 (by decide) ?_
  by_cases c1 : c = (123 : Int32)
  · refine Wl.icmpY 12 d1_3 (teq c1).1 ?_
    refine Wl.iload_n 13 d1_12 rfl ?_
    refine Wl.iconst 14 (1 : Int32) d1_13 (by decide) ?_
    refine Wl.ixor 15 d1_14 ?_
    refine Wl.i2c 16 d1_15 ?_
    refine Wl.goto 20 d1_16 ?_
    exact Wl.ireturn d1_20 rfl (narC (i2c_ch _)) (by simp) (nle rfl) (nle rfl) ⟨_, rfl, (nb_a c1).1, (nb_a c1).2.1, (nb_a c1).2.2, rfl⟩
  · refine Wl.icmpN 6 d1_3 (feq c1).1 ?_
    refine Wl.iload_n 7 d1_6 rfl ?_
    refine Wl.bipush 9 (125 : Int32) d1_7 (by decide) ?_
    by_cases c2 : c = (125 : Int32)
    · refine Wl.icmpN 12 d1_9 (teq c2).2 ?_
      refine Wl.iload_n 13 d1_12 rfl ?_
      refine Wl.iconst 14 (1 : Int32) d1_13 (by decide) ?_
      refine Wl.ixor 15 d1_14 ?_
      refine Wl.i2c 16 d1_15 ?_
      refine Wl.goto 20 d1_16 ?_
      exact Wl.ireturn d1_20 rfl (narC (i2c_ch _)) (by simp) (nle rfl) (nle rfl) ⟨_, rfl, (nb_b c2).1, (nb_b c2).2.1, (nb_b c2).2.2, rfl⟩
    · refine Wl.icmpY 19 d1_9 (feq c2).2 ?_
      refine Wl.iload_n 20 d1_19 rfl ?_
      exact Wl.ireturn d1_20 rfl (narC hc.ch) (by simp) (nle rfl) (nle rfl) ⟨_, rfl, hc, c1, c2, rfl⟩
theorem take_at {es rs : List Int32} {k i : Nat} (ht : es.take k = rs) (hk : k ≤ es.length) (h : i < k) : ∃ (h1 : i < rs.length) (h2 : i < es.length), rs[i] = es[i] := by
  subst ht
  exact ⟨by rw [List.length_take]; omega, by omega, by rw [List.getElem_take]⟩
theorem at_met {l : Launch} {Z : State} {a0 : Array Value} (hw : ∀ d ∈ tables_1, d.before a0 Z = true) (hcs : CSon Z) (hfm : Fmt Z) {h : Heap} {r e : Addr} {ke : ClassId} {rs es : List Int32} {k i : Nat} (S : Stl Z h r rs) (A : Arv Z h e ke .char (Int32.ofNat es.length) (es.map Value.int) (.int 0)) (hn : es.length < 65536) (hi : i < 65536) (ht : es.take k = rs) (hk : k ≤ es.length) :
    Met l Z consts_1 ⟨"com/example/portunus/portunus/LockKeysFenceKeyPinLaw", "at", "(Ljava/lang/String;[CII)Z"⟩ method_4_code 4 (some .boolean) [] { frames := 4, cells := 0, slots := 0, locals := 53 } #[.ref r, .ref e, .int (Int32.ofNat k), .int (Int32.ofNat i)] h [] (fun v h' => v = some (.int 1) ∧ h = h') := by
  refine Met.of_walk (a0 := a0) (Ls := #[.val (.ref r), .val (.ref e), .val (.int (Int32.ofNat k)), .val (.int (Int32.ofNat i))]) (plainFor_of_name pn_4) (own_hEL hw) rfl ?_
  refine Wl.iload_n 1 d44_0 rfl ?_
  refine Wl.iload_n 2 d44_1 rfl ?_
  by_cases hlt : i < k
  · obtain ⟨h1, h2, h3⟩ := take_at ht hk hlt
    refine Wl.icmpN 5 d44_2 (tlt ((nLt (by omega) (by omega)).mpr hlt)).2.1 ?_
    refine Wl.aload_n 6 d44_5 rfl rfl ?_
    refine Wl.iload_n 7 d44_6 rfl ?_
    refine Wl.virtual 10 (argsL := [.int (Int32.ofNat i)]) d44_7 (w225 hw) (w162 hw) (w164 hw) (w163 hw) (w6 hw) (w165 hw) (nf_sel (w164 hw) rfl) S.exa (show parseMethodDescriptor "(I)C" = some ⟨[.int], some .char⟩ by decide +kernel) rfl (charAt_met hw hcs hfm S h1) (fun _ q => nomatch q) rfl rfl rfl (by decide) ⟨⟨nle rfl, nle rfl⟩, nle rfl, nle rfl⟩ ?_
    intro v hx hq _
    obtain ⟨rfl, rfl⟩ := hq
    show WlO _ _ _ _ _ _ _ _ _ _ _ _ _ _ _ _ _ _ [.int rs[i]]
    refine Wl.aload_n 11 d44_10 rfl rfl ?_
    refine Wl.iload_n 12 d44_11 rfl ?_
    refine Wl.caload 13 i d44_12 A (nNn (by omega)) (nCl (by omega)) (by rw [nCl (by omega)]; exact h2) (v := .int es[i]) (by simp [List.getD_eq_getElem?_getD, h2]) ?_
    refine Wl.icmpN 16 d44_13 (teq h3).2 ?_
    refine Wl.iconst 17 (1 : Int32) d44_16 (by decide) ?_
    refine Wl.goto 21 d44_17 ?_
    exact Wl.ireturn (t := .boolean) d44_21 rfl rfl (by simp) (nle rfl) (nle rfl) ⟨rfl, rfl⟩
  · refine Wl.icmpY 16 d44_2 (flt (fun q => hlt ((nLt (by omega) (by omega)).mp q))).2.1 ?_
    refine Wl.iconst 17 (1 : Int32) d44_16 (by decide) ?_
    refine Wl.goto 21 d44_17 ?_
    exact Wl.ireturn (t := .boolean) d44_21 rfl rfl (by simp) (nle rfl) (nle rfl) ⟨rfl, rfl⟩
set_option maxRecDepth 65536 in
set_option maxHeartbeats 40000000 in
theorem law_t01 {l : Launch} {Z : State} {a0 : Array Value} (hw : ∀ d ∈ tables_1, d.before a0 Z = true) (hcs : CSon Z) (hfm : Fmt Z) {as : Array Value} {h : Heap} {i0 i1 p0 p1 n0 n1 n2 : Int32} (lp0 : Lat p0) (lp1 : Lat p1) (ln0 : Lat n0) (ln1 : Lat n1) (ln2 : Lat n2) (p0123 : p0 ≠ 123) (p0125 : p0 ≠ 125) (p1123 : p1 ≠ 123) (p1125 : p1 ≠ 125) (hn0 : ¬ n0 = (125 : Int32)) :
    Wl l Z a0 consts_1 x code maxLocals ret room_1 as (fun v h' => v = some (.int 1)) [] h 0 0 86 #[.val (.int i0), .val (.int i1), .val (.int (0 : Int32)), .val (.int p0), .val (.int p1), .val (.int (1 : Int32)), .val (.int n0), .val (.int n1), .val (.int n2), .unset, .unset, .unset, .unset, .unset] [] := by
  refine Wl.iload_n 87 at_86 rfl ?_
  refine Wl.ifN 90 at_87 (teq (by decide)).2 ?_
  refine Wl.new 93 at_90 (w4 hw) (w5 hw) (w6 hw) (nle rfl) (nle rfl) ?_
  intro a1 h2 q3 E4 X5 D6
  have z7 : h.size ≤ a1 := Nat.le_of_eq q3.symm
  have B8 : Ext h h2 := E4
  have F9 : Fld Z h2 a1 "java/lang/String" "value" "[B" (.null) := D6 (Or.inr (w20 hw)) (ty := (.array .byte)) (by decide)
  have F10 : Fld Z h2 a1 "java/lang/String" "coder" "B" (.int 0) := D6 (Or.inr (w21 hw)) (ty := .byte) (by decide)
  refine Wl.dup 94 at_93 rfl ?_
  refine Wl.iconst 95 (0 : Int32) at_94 (by decide) ?_
  refine Wl.newarray 97 0 at_95 (w7 hw) (by decide) (by decide) (by decide) (nle rfl) (nle rfl) ?_
  intro a11 h12 k13 q14 E15 A16
  have A16 : Arv Z h12 a11 k13 .char (0 : Int32) [] (.int 0) := A16
  have z17 : h.size ≤ a11 := Nat.le_trans B8.1 (Nat.le_of_eq q14.symm)
  have z18 : h2.size ≤ a11 := Nat.le_of_eq q14.symm
  have ne19 : a1 ≠ a11 := Nat.ne_of_lt (by rw [q14]; exact (X5).lt)
  have B20 : Ext h h12 := extTr B8 E15
  have B21 : Ext h2 h12 := E15
  refine Wl.special 100 (argsL := [.ref a11]) at_97 (w8 hw) (w9 hw) (w6 hw) (w10 hw) (show parseMethodDescriptor "([C)V" = some ⟨[(.array .char)], none⟩ by decide +kernel) rfl (strC_met hw hcs (cs := []) 4 (nle rfl) (nle rfl)  latN (X5.ext E15) (F9.ext E15) (F10.ext E15) A16) (allS (List.mem_of_getElem? (i := 1) rfl) (fun _ q => nomatch q)) rfl rfl rfl rfl (by decide) ⟨⟨nle rfl, nle rfl⟩, nle rfl, nle rfl⟩ ?_
  intro v22 h23 hq24 _
  obtain ⟨rfl, K25, S26⟩ := hq24
  have B27 : Ext h h23 := extKeep B20 K25 (allS z7 all0)
  show WlO _ _ _ _ _ _ _ _ _ _ _ _ _ _ _ _ _ _ [.ref a1]
  refine Wl.goto 144 at_100 ?_
  refine Wl.astore 146 #[.val (.int i0), .val (.int i1), .val (.int (0 : Int32)), .val (.int p0), .val (.int p1), .val (.int (1 : Int32)), .val (.int n0), .val (.int n1), .val (.int n2), .val (.ref a1), .unset, .unset, .unset, .unset] at_144 rfl rfl ?_
  refine Wl.iload 148 at_146 rfl ?_
  refine Wl.iconst 149 (1 : Int32) at_148 (by decide) ?_
  refine Wl.icmpN 152 at_149 (teq (by decide)).2 ?_
  refine Wl.new 155 at_152 (w4 hw) (w5 hw) (w6 hw) (nle rfl) (nle rfl) ?_
  intro a28 h29 q30 E31 X32 D33
  have z34 : h.size ≤ a28 := Nat.le_trans B27.1 (Nat.le_of_eq q30.symm)
  have z35 : h23.size ≤ a28 := Nat.le_of_eq q30.symm
  have ne36 : a1 ≠ a28 := Nat.ne_of_lt (by rw [q30]; exact ((S26).exa).lt)
  have ne37 : a11 ≠ a28 := Nat.ne_of_lt (by rw [q30]; exact ((A16.keep K25 (ninS ne19.symm nin0))).lt)
  have B38 : Ext h h29 := extTr B27 E31
  have B39 : Ext h23 h29 := E31
  have F40 : Fld Z h29 a28 "java/lang/String" "value" "[B" (.null) := D33 (Or.inr (w20 hw)) (ty := (.array .byte)) (by decide)
  have F41 : Fld Z h29 a28 "java/lang/String" "coder" "B" (.int 0) := D33 (Or.inr (w21 hw)) (ty := .byte) (by decide)
  refine Wl.dup 156 at_155 rfl ?_
  refine Wl.iconst 157 (1 : Int32) at_156 (by decide) ?_
  refine Wl.newarray 159 1 at_157 (w7 hw) (by decide) (by decide) (by decide) (nle rfl) (nle rfl) ?_
  intro a42 h43 k44 q45 E46 A47
  have A47 : Arv Z h43 a42 k44 .char (1 : Int32) [.int 0] (.int 0) := A47
  have z48 : h.size ≤ a42 := Nat.le_trans B38.1 (Nat.le_of_eq q45.symm)
  have z49 : h23.size ≤ a42 := Nat.le_trans B39.1 (Nat.le_of_eq q45.symm)
  have z50 : h29.size ≤ a42 := Nat.le_of_eq q45.symm
  have ne51 : a1 ≠ a42 := Nat.ne_of_lt (by rw [q45]; exact (((S26).exa.ext E31)).lt)
  have ne52 : a11 ≠ a42 := Nat.ne_of_lt (by rw [q45]; exact (((A16.keep K25 (ninS ne19.symm nin0)).ext E31)).lt)
  have ne53 : a28 ≠ a42 := Nat.ne_of_lt (by rw [q45]; exact (X32).lt)
  have B54 : Ext h h43 := extTr B38 E46
  have B55 : Ext h23 h43 := extTr B39 E46
  have B56 : Ext h29 h43 := E46
  refine Wl.dup 160 at_159 rfl ?_
  refine Wl.iconst 161 (0 : Int32) at_160 (by decide) ?_
  refine Wl.iload 163 at_161 rfl ?_
  refine Wl.castore 164 0 at_163 A47 (List.mem_of_getElem? (i := 0) rfl) (by decide) (by decide) (by decide) (nle rfl) ?_
  intro h57 W58 A59
  rw [nar_ch (ln0).ch] at A59
  have A59 : Arv Z h57 a42 k44 .char (1 : Int32) [.int n0] (.int 0) := A59
  have B60 : Ext h h57 := extWr B54 W58 z48
  have B61 : Ext h23 h57 := extWr B55 W58 z49
  have B62 : Ext h29 h57 := extWr B56 W58 z50
  refine Wl.special 167 (argsL := [.ref a42]) at_164 (w8 hw) (w9 hw) (w6 hw) (w10 hw) (show parseMethodDescriptor "([C)V" = some ⟨[(.array .char)], none⟩ by decide +kernel) rfl (strC_met hw hcs (cs := [n0]) 4 (nle rfl) (nle rfl)  (latC ln0 latN) (X32.ext B62) (F40.ext B62) (F41.ext B62) A59) (allS (List.mem_of_getElem? (i := 1) rfl) (fun _ q => nomatch q)) rfl rfl rfl rfl (by decide) ⟨⟨nle rfl, nle rfl⟩, nle rfl, nle rfl⟩ ?_
  intro v63 h64 hq65 _
  obtain ⟨rfl, K66, S67⟩ := hq65
  have B68 : Ext h h64 := extKeep B60 K66 (allS z34 all0)
  have B69 : Ext h23 h64 := extKeep B61 K66 (allS z35 all0)
  show WlO _ _ _ _ _ _ _ _ _ _ _ _ _ _ _ _ _ _ [.ref a28]
  refine Wl.goto 224 at_167 ?_
  refine Wl.astore 226 #[.val (.int i0), .val (.int i1), .val (.int (0 : Int32)), .val (.int p0), .val (.int p1), .val (.int (1 : Int32)), .val (.int n0), .val (.int n1), .val (.int n2), .val (.ref a1), .val (.ref a28), .unset, .unset, .unset] at_224 rfl rfl ?_
  refine Wl.new 229 at_226 (w37 hw) (w38 hw) (w39 hw) (nle rfl) (nle rfl) ?_
  intro a70 h71 q72 E73 X74 D75
  have z76 : h.size ≤ a70 := Nat.le_trans B68.1 (Nat.le_of_eq q72.symm)
  have z77 : h23.size ≤ a70 := Nat.le_trans B69.1 (Nat.le_of_eq q72.symm)
  have z78 : h64.size ≤ a70 := Nat.le_of_eq q72.symm
  have ne79 : a1 ≠ a70 := Nat.ne_of_lt (by rw [q72]; exact (((S26).exa.ext B69)).lt)
  have ne80 : a11 ≠ a70 := Nat.ne_of_lt (by rw [q72]; exact (((A16.keep K25 (ninS ne19.symm nin0)).ext B69)).lt)
  have ne81 : a28 ≠ a70 := Nat.ne_of_lt (by rw [q72]; exact ((S67).exa).lt)
  have ne82 : a42 ≠ a70 := Nat.ne_of_lt (by rw [q72]; exact ((A59.keep K66 (ninS ne53.symm nin0))).lt)
  have B83 : Ext h h71 := extTr B68 E73
  have B84 : Ext h23 h71 := extTr B69 E73
  have B85 : Ext h64 h71 := E73
  have F86 : Fld Z h71 a70 "com/example/portunus/portunus/LockKeys" "prefix" "Ljava/lang/String;" (.null) := D75 (Or.inr (w89 hw)) (ty := (.object "java/lang/String")) (by decide)
  refine Wl.dup 230 at_229 rfl ?_
  refine Wl.aload 232 at_230 rfl rfl ?_
  refine Wl.special 235 (argsL := [.ref a1]) at_232 (w40 hw) (w41 hw) (w39 hw) (w42 hw) (show parseMethodDescriptor "(Ljava/lang/String;)V" = some ⟨[(.object "java/lang/String")], none⟩ by decide +kernel) rfl (keys_met hw hcs X74 F86 (cs := []) (S26.ext B84) neN neN) (allS (List.mem_of_getElem? (i := 0) rfl) (fun _ q => nomatch q)) rfl rfl rfl rfl (by decide) ⟨⟨nle rfl, nle rfl⟩, nle rfl, nle rfl⟩ ?_
  intro v87 h88 hq89 _
  obtain ⟨rfl, K90, X91, F92⟩ := hq89
  have B93 : Ext h h88 := extKeep B83 K90 (allS z76 all0)
  have B94 : Ext h23 h88 := extKeep B84 K90 (allS z77 all0)
  have B95 : Ext h64 h88 := extKeep B85 K90 (allS z78 all0)
  show WlO _ _ _ _ _ _ _ _ _ _ _ _ _ _ _ _ _ _ [.ref a70]
  refine Wl.aload 237 at_235 rfl rfl ?_
  refine Wl.virtual 240 (argsL := [.ref a28]) at_237 (w90 hw) (w91 hw) (w93 hw) (w92 hw) (w39 hw) (w94 hw) (nf_sel (w93 hw) rfl) X91 (show parseMethodDescriptor "(Ljava/lang/String;)Ljava/lang/String;" = some ⟨[(.object "java/lang/String")], some (.object "java/lang/String")⟩ by decide +kernel) rfl (key_met hw hcs hfm (cs := [n0]) (ps := []) F92 (S26.ext B94) (nle rfl) (S67.ext B95) (by simp) (nle rfl) hn0 (nle rfl)) (fun _ q => nomatch q) rfl rfl rfl (by decide) ⟨⟨nle rfl, nle rfl⟩, nle rfl, nle rfl⟩ ?_
  intro v96 h97 hq98 _
  obtain ⟨s99, rfl, E100, S101⟩ := hq98
  have S101 : Stl Z h97 s99 [(102 : Int32), (101 : Int32), (110 : Int32), (99 : Int32), (101 : Int32), (58 : Int32), (123 : Int32), n0, (125 : Int32)] := S101
  have B102 : Ext h h97 := extTr B93 E100
  have B103 : Ext h23 h97 := extTr B94 E100
  have B104 : Ext h64 h97 := extTr B95 E100
  show WlO _ _ _ _ _ _ _ _ _ _ _ _ _ _ _ _ _ _ [.ref s99]
  refine Wl.astore 242 #[.val (.int i0), .val (.int i1), .val (.int (0 : Int32)), .val (.int p0), .val (.int p1), .val (.int (1 : Int32)), .val (.int n0), .val (.int n1), .val (.int n2), .val (.ref a1), .val (.ref a28), .val (.ref s99), .unset, .unset] at_240 rfl rfl ?_
  refine Wl.bipush 244 (13 : Int32) at_242 (by decide) ?_
  refine Wl.newarray 246 13 at_244 (w7 hw) (by decide) (by decide) (by decide) (nle rfl) (nle rfl) ?_
  intro a105 h106 k107 q108 E109 A110
  have A110 : Arv Z h106 a105 k107 .char (13 : Int32) [.int 0, .int 0, .int 0, .int 0, .int 0, .int 0, .int 0, .int 0, .int 0, .int 0, .int 0, .int 0, .int 0] (.int 0) := A110
  have z111 : h.size ≤ a105 := Nat.le_trans B102.1 (Nat.le_of_eq q108.symm)
  have z112 : h23.size ≤ a105 := Nat.le_trans B103.1 (Nat.le_of_eq q108.symm)
  have z113 : h64.size ≤ a105 := Nat.le_trans B104.1 (Nat.le_of_eq q108.symm)
  have z114 : h97.size ≤ a105 := Nat.le_of_eq q108.symm
  have ne115 : a1 ≠ a105 := Nat.ne_of_lt (by rw [q108]; exact (((S26).exa.ext B103)).lt)
  have ne116 : a11 ≠ a105 := Nat.ne_of_lt (by rw [q108]; exact (((A16.keep K25 (ninS ne19.symm nin0)).ext B103)).lt)
  have ne117 : a28 ≠ a105 := Nat.ne_of_lt (by rw [q108]; exact (((S67).exa.ext B104)).lt)
  have ne118 : a42 ≠ a105 := Nat.ne_of_lt (by rw [q108]; exact (((A59.keep K66 (ninS ne53.symm nin0)).ext B104)).lt)
  have ne119 : a70 ≠ a105 := Nat.ne_of_lt (by rw [q108]; exact ((X91.ext E100)).lt)
  have ne120 : s99 ≠ a105 := Nat.ne_of_lt (by rw [q108]; exact ((S101).exa).lt)
  have B121 : Ext h h106 := extTr B102 E109
  have B122 : Ext h23 h106 := extTr B103 E109
  have B123 : Ext h64 h106 := extTr B104 E109
  have B124 : Ext h97 h106 := E109
  refine Wl.astore 248 #[.val (.int i0), .val (.int i1), .val (.int (0 : Int32)), .val (.int p0), .val (.int p1), .val (.int (1 : Int32)), .val (.int n0), .val (.int n1), .val (.int n2), .val (.ref a1), .val (.ref a28), .val (.ref s99), .val (.ref a105), .unset] at_246 rfl rfl ?_
  refine Wl.iconst 249 (0 : Int32) at_248 (by decide) ?_
  refine Wl.istore 251 #[.val (.int i0), .val (.int i1), .val (.int (0 : Int32)), .val (.int p0), .val (.int p1), .val (.int (1 : Int32)), .val (.int n0), .val (.int n1), .val (.int n2), .val (.ref a1), .val (.ref a28), .val (.ref s99), .val (.ref a105), .val (.int (0 : Int32))] at_249 rfl ?_
  refine Wl.iload_n 252 at_251 rfl ?_
  refine Wl.iconst 253 (1 : Int32) at_252 (by decide) ?_
  refine Wl.icmpY 265 at_253 (tlt (by decide)).1 ?_
  refine Wl.iload_n 266 at_265 rfl ?_
  refine Wl.iconst 267 (2 : Int32) at_266 (by decide) ?_
  refine Wl.icmpY 280 at_267 (tlt (by decide)).1 ?_
  refine Wl.aload 282 at_280 rfl rfl ?_
  refine Wl.iload 284 at_282 rfl ?_
  refine Wl.bipush 286 (102 : Int32) at_284 (by decide) ?_
  refine Wl.castore 287 0 at_286 A110 (List.mem_of_getElem? (i := 0) rfl) (by decide) (by decide) (by decide) (nle rfl) ?_
  intro h125 W126 A127
  rw [nar_ch (by decide)] at A127
  have A127 : Arv Z h125 a105 k107 .char (13 : Int32) [.int (102 : Int32), .int (0 : Int32), .int (0 : Int32), .int (0 : Int32), .int (0 : Int32), .int (0 : Int32), .int (0 : Int32), .int (0 : Int32), .int (0 : Int32), .int (0 : Int32), .int (0 : Int32), .int (0 : Int32), .int (0 : Int32)] (.int 0) := A127
  have B128 : Ext h h125 := extWr B121 W126 z111
  have B129 : Ext h23 h125 := extWr B122 W126 z112
  have B130 : Ext h64 h125 := extWr B123 W126 z113
  have B131 : Ext h97 h125 := extWr B124 W126 z114
  refine Wl.iinc 290 #[.val (.int i0), .val (.int i1), .val (.int (0 : Int32)), .val (.int p0), .val (.int p1), .val (.int (1 : Int32)), .val (.int n0), .val (.int n1), .val (.int n2), .val (.ref a1), .val (.ref a28), .val (.ref s99), .val (.ref a105), .val (.int (1 : Int32))] (1 : Int32) at_287 (by decide) rfl rfl ?_
  refine Wl.aload 292 at_290 rfl rfl ?_
  refine Wl.iload 294 at_292 rfl ?_
  refine Wl.bipush 296 (101 : Int32) at_294 (by decide) ?_
  refine Wl.castore 297 1 at_296 A127 (List.mem_of_getElem? (i := 0) rfl) (by decide) (by decide) (by decide) (nle rfl) ?_
  intro h132 W133 A134
  rw [nar_ch (by decide)] at A134
  have A134 : Arv Z h132 a105 k107 .char (13 : Int32) [.int (102 : Int32), .int (101 : Int32), .int (0 : Int32), .int (0 : Int32), .int (0 : Int32), .int (0 : Int32), .int (0 : Int32), .int (0 : Int32), .int (0 : Int32), .int (0 : Int32), .int (0 : Int32), .int (0 : Int32), .int (0 : Int32)] (.int 0) := A134
  have B135 : Ext h h132 := extWr B128 W133 z111
  have B136 : Ext h23 h132 := extWr B129 W133 z112
  have B137 : Ext h64 h132 := extWr B130 W133 z113
  have B138 : Ext h97 h132 := extWr B131 W133 z114
  refine Wl.iinc 300 #[.val (.int i0), .val (.int i1), .val (.int (0 : Int32)), .val (.int p0), .val (.int p1), .val (.int (1 : Int32)), .val (.int n0), .val (.int n1), .val (.int n2), .val (.ref a1), .val (.ref a28), .val (.ref s99), .val (.ref a105), .val (.int (2 : Int32))] (1 : Int32) at_297 (by decide) rfl rfl ?_
  refine Wl.aload 302 at_300 rfl rfl ?_
  refine Wl.iload 304 at_302 rfl ?_
  refine Wl.bipush 306 (110 : Int32) at_304 (by decide) ?_
  refine Wl.castore 307 2 at_306 A134 (List.mem_of_getElem? (i := 0) rfl) (by decide) (by decide) (by decide) (nle rfl) ?_
  intro h139 W140 A141
  rw [nar_ch (by decide)] at A141
  have A141 : Arv Z h139 a105 k107 .char (13 : Int32) [.int (102 : Int32), .int (101 : Int32), .int (110 : Int32), .int (0 : Int32), .int (0 : Int32), .int (0 : Int32), .int (0 : Int32), .int (0 : Int32), .int (0 : Int32), .int (0 : Int32), .int (0 : Int32), .int (0 : Int32), .int (0 : Int32)] (.int 0) := A141
  have B142 : Ext h h139 := extWr B135 W140 z111
  have B143 : Ext h23 h139 := extWr B136 W140 z112
  have B144 : Ext h64 h139 := extWr B137 W140 z113
  have B145 : Ext h97 h139 := extWr B138 W140 z114
  refine Wl.iinc 310 #[.val (.int i0), .val (.int i1), .val (.int (0 : Int32)), .val (.int p0), .val (.int p1), .val (.int (1 : Int32)), .val (.int n0), .val (.int n1), .val (.int n2), .val (.ref a1), .val (.ref a28), .val (.ref s99), .val (.ref a105), .val (.int (3 : Int32))] (1 : Int32) at_307 (by decide) rfl rfl ?_
  refine Wl.aload 312 at_310 rfl rfl ?_
  refine Wl.iload 314 at_312 rfl ?_
  refine Wl.bipush 316 (99 : Int32) at_314 (by decide) ?_
  refine Wl.castore 317 3 at_316 A141 (List.mem_of_getElem? (i := 0) rfl) (by decide) (by decide) (by decide) (nle rfl) ?_
  intro h146 W147 A148
  rw [nar_ch (by decide)] at A148
  have A148 : Arv Z h146 a105 k107 .char (13 : Int32) [.int (102 : Int32), .int (101 : Int32), .int (110 : Int32), .int (99 : Int32), .int (0 : Int32), .int (0 : Int32), .int (0 : Int32), .int (0 : Int32), .int (0 : Int32), .int (0 : Int32), .int (0 : Int32), .int (0 : Int32), .int (0 : Int32)] (.int 0) := A148
  have B149 : Ext h h146 := extWr B142 W147 z111
  have B150 : Ext h23 h146 := extWr B143 W147 z112
  have B151 : Ext h64 h146 := extWr B144 W147 z113
  have B152 : Ext h97 h146 := extWr B145 W147 z114
  refine Wl.iinc 320 #[.val (.int i0), .val (.int i1), .val (.int (0 : Int32)), .val (.int p0), .val (.int p1), .val (.int (1 : Int32)), .val (.int n0), .val (.int n1), .val (.int n2), .val (.ref a1), .val (.ref a28), .val (.ref s99), .val (.ref a105), .val (.int (4 : Int32))] (1 : Int32) at_317 (by decide) rfl rfl ?_
  refine Wl.aload 322 at_320 rfl rfl ?_
  refine Wl.iload 324 at_322 rfl ?_
  refine Wl.bipush 326 (101 : Int32) at_324 (by decide) ?_
  refine Wl.castore 327 4 at_326 A148 (List.mem_of_getElem? (i := 0) rfl) (by decide) (by decide) (by decide) (nle rfl) ?_
  intro h153 W154 A155
  rw [nar_ch (by decide)] at A155
  have A155 : Arv Z h153 a105 k107 .char (13 : Int32) [.int (102 : Int32), .int (101 : Int32), .int (110 : Int32), .int (99 : Int32), .int (101 : Int32), .int (0 : Int32), .int (0 : Int32), .int (0 : Int32), .int (0 : Int32), .int (0 : Int32), .int (0 : Int32), .int (0 : Int32), .int (0 : Int32)] (.int 0) := A155
  have B156 : Ext h h153 := extWr B149 W154 z111
  have B157 : Ext h23 h153 := extWr B150 W154 z112
  have B158 : Ext h64 h153 := extWr B151 W154 z113
  have B159 : Ext h97 h153 := extWr B152 W154 z114
  refine Wl.iinc 330 #[.val (.int i0), .val (.int i1), .val (.int (0 : Int32)), .val (.int p0), .val (.int p1), .val (.int (1 : Int32)), .val (.int n0), .val (.int n1), .val (.int n2), .val (.ref a1), .val (.ref a28), .val (.ref s99), .val (.ref a105), .val (.int (5 : Int32))] (1 : Int32) at_327 (by decide) rfl rfl ?_
  refine Wl.aload 332 at_330 rfl rfl ?_
  refine Wl.iload 334 at_332 rfl ?_
  refine Wl.bipush 336 (58 : Int32) at_334 (by decide) ?_
  refine Wl.castore 337 5 at_336 A155 (List.mem_of_getElem? (i := 0) rfl) (by decide) (by decide) (by decide) (nle rfl) ?_
  intro h160 W161 A162
  rw [nar_ch (by decide)] at A162
  have A162 : Arv Z h160 a105 k107 .char (13 : Int32) [.int (102 : Int32), .int (101 : Int32), .int (110 : Int32), .int (99 : Int32), .int (101 : Int32), .int (58 : Int32), .int (0 : Int32), .int (0 : Int32), .int (0 : Int32), .int (0 : Int32), .int (0 : Int32), .int (0 : Int32), .int (0 : Int32)] (.int 0) := A162
  have B163 : Ext h h160 := extWr B156 W161 z111
  have B164 : Ext h23 h160 := extWr B157 W161 z112
  have B165 : Ext h64 h160 := extWr B158 W161 z113
  have B166 : Ext h97 h160 := extWr B159 W161 z114
  refine Wl.iinc 340 #[.val (.int i0), .val (.int i1), .val (.int (0 : Int32)), .val (.int p0), .val (.int p1), .val (.int (1 : Int32)), .val (.int n0), .val (.int n1), .val (.int n2), .val (.ref a1), .val (.ref a28), .val (.ref s99), .val (.ref a105), .val (.int (6 : Int32))] (1 : Int32) at_337 (by decide) rfl rfl ?_
  refine Wl.aload 342 at_340 rfl rfl ?_
  refine Wl.iload 344 at_342 rfl ?_
  refine Wl.bipush 346 (123 : Int32) at_344 (by decide) ?_
  refine Wl.castore 347 6 at_346 A162 (List.mem_of_getElem? (i := 0) rfl) (by decide) (by decide) (by decide) (nle rfl) ?_
  intro h167 W168 A169
  rw [nar_ch (by decide)] at A169
  have A169 : Arv Z h167 a105 k107 .char (13 : Int32) [.int (102 : Int32), .int (101 : Int32), .int (110 : Int32), .int (99 : Int32), .int (101 : Int32), .int (58 : Int32), .int (123 : Int32), .int (0 : Int32), .int (0 : Int32), .int (0 : Int32), .int (0 : Int32), .int (0 : Int32), .int (0 : Int32)] (.int 0) := A169
  have B170 : Ext h h167 := extWr B163 W168 z111
  have B171 : Ext h23 h167 := extWr B164 W168 z112
  have B172 : Ext h64 h167 := extWr B165 W168 z113
  have B173 : Ext h97 h167 := extWr B166 W168 z114
  refine Wl.iinc 350 #[.val (.int i0), .val (.int i1), .val (.int (0 : Int32)), .val (.int p0), .val (.int p1), .val (.int (1 : Int32)), .val (.int n0), .val (.int n1), .val (.int n2), .val (.ref a1), .val (.ref a28), .val (.ref s99), .val (.ref a105), .val (.int (7 : Int32))] (1 : Int32) at_347 (by decide) rfl rfl ?_
  refine Wl.aload 352 at_350 rfl rfl ?_
  refine Wl.iload 354 at_352 rfl ?_
  refine Wl.iload 356 at_354 rfl ?_
  refine Wl.castore 357 7 at_356 A169 (List.mem_of_getElem? (i := 0) rfl) (by decide) (by decide) (by decide) (nle rfl) ?_
  intro h174 W175 A176
  rw [nar_ch (ln0).ch] at A176
  have A176 : Arv Z h174 a105 k107 .char (13 : Int32) [.int (102 : Int32), .int (101 : Int32), .int (110 : Int32), .int (99 : Int32), .int (101 : Int32), .int (58 : Int32), .int (123 : Int32), .int n0, .int (0 : Int32), .int (0 : Int32), .int (0 : Int32), .int (0 : Int32), .int (0 : Int32)] (.int 0) := A176
  have B177 : Ext h h174 := extWr B170 W175 z111
  have B178 : Ext h23 h174 := extWr B171 W175 z112
  have B179 : Ext h64 h174 := extWr B172 W175 z113
  have B180 : Ext h97 h174 := extWr B173 W175 z114
  refine Wl.iinc 360 #[.val (.int i0), .val (.int i1), .val (.int (0 : Int32)), .val (.int p0), .val (.int p1), .val (.int (1 : Int32)), .val (.int n0), .val (.int n1), .val (.int n2), .val (.ref a1), .val (.ref a28), .val (.ref s99), .val (.ref a105), .val (.int (8 : Int32))] (1 : Int32) at_357 (by decide) rfl rfl ?_
  refine Wl.iload 362 at_360 rfl ?_
  refine Wl.iconst 363 (2 : Int32) at_362 (by decide) ?_
  refine Wl.icmpY 376 at_363 (tlt (by decide)).1 ?_
  refine Wl.iload 378 at_376 rfl ?_
  refine Wl.iconst 379 (3 : Int32) at_378 (by decide) ?_
  refine Wl.icmpY 392 at_379 (tlt (by decide)).1 ?_
  refine Wl.aload 394 at_392 rfl rfl ?_
  refine Wl.iload 396 at_394 rfl ?_
  refine Wl.bipush 398 (125 : Int32) at_396 (by decide) ?_
  refine Wl.castore 399 8 at_398 A176 (List.mem_of_getElem? (i := 0) rfl) (by decide) (by decide) (by decide) (nle rfl) ?_
  intro h181 W182 A183
  rw [nar_ch (by decide)] at A183
  have A183 : Arv Z h181 a105 k107 .char (13 : Int32) [.int (102 : Int32), .int (101 : Int32), .int (110 : Int32), .int (99 : Int32), .int (101 : Int32), .int (58 : Int32), .int (123 : Int32), .int n0, .int (125 : Int32), .int (0 : Int32), .int (0 : Int32), .int (0 : Int32), .int (0 : Int32)] (.int 0) := A183
  have B184 : Ext h h181 := extWr B177 W182 z111
  have B185 : Ext h23 h181 := extWr B178 W182 z112
  have B186 : Ext h64 h181 := extWr B179 W182 z113
  have B187 : Ext h97 h181 := extWr B180 W182 z114
  refine Wl.iinc 402 #[.val (.int i0), .val (.int i1), .val (.int (0 : Int32)), .val (.int p0), .val (.int p1), .val (.int (1 : Int32)), .val (.int n0), .val (.int n1), .val (.int n2), .val (.ref a1), .val (.ref a28), .val (.ref s99), .val (.ref a105), .val (.int (9 : Int32))] (1 : Int32) at_399 (by decide) rfl rfl ?_
  refine Wl.aload 404 at_402 rfl rfl ?_
  refine Wl.ifnullN 407 at_404 ?_
  refine Wl.aload 409 at_407 rfl rfl ?_
  refine Wl.virtual 412 (argsL := []) at_409 (w221 hw) (w65 hw) (w67 hw) (w66 hw) (w6 hw) (w68 hw) (nf_sel (w67 hw) rfl) ((S101).exa.ext B187) (show parseMethodDescriptor "()I" = some ⟨[], some .int⟩ by decide +kernel) rfl (len_met hw hcs (S101.ext B187)) (fun _ q => nomatch q) rfl rfl rfl (by decide) ⟨⟨nle rfl, nle rfl⟩, nle rfl, nle rfl⟩ ?_
  intro v188 h189 hq190 _
  obtain ⟨rfl, rfl⟩ := hq190
  show WlO _ _ _ _ _ _ _ _ _ _ _ _ _ _ _ _ _ _ [.int (9 : Int32)]
  refine Wl.iload 414 at_412 rfl ?_
  refine Wl.icmpY 419 at_414 (teq (by decide)).1 ?_
  refine Wl.aload 421 at_419 rfl rfl ?_
  refine Wl.aload 423 at_421 rfl rfl ?_
  refine Wl.iload 425 at_423 rfl ?_
  refine Wl.iconst 426 (0 : Int32) at_425 (by decide) ?_
  refine Wl.static 429 (argsL := [.ref s99, .ref a105, .int (9 : Int32), .int (0 : Int32)]) at_426 (w222 hw) (w223 hw) (w2 hw) (w224 hw) (show parseMethodDescriptor "(Ljava/lang/String;[CII)Z" = some ⟨[(.object "java/lang/String"), (.array .char), .int, .int], some .boolean⟩ by decide +kernel) rfl (at_met hw hcs hfm (rs := [(102 : Int32), (101 : Int32), (110 : Int32), (99 : Int32), (101 : Int32), (58 : Int32), (123 : Int32), n0, (125 : Int32)]) (es := [(102 : Int32), (101 : Int32), (110 : Int32), (99 : Int32), (101 : Int32), (58 : Int32), (123 : Int32), n0, (125 : Int32), (0 : Int32), (0 : Int32), (0 : Int32), (0 : Int32)]) (k := 9) (i := 0) (S101.ext B187) A183 (nle rfl) (nle rfl) rfl (nle rfl)) (fun _ q => nomatch q) rfl rfl rfl (by decide) ⟨⟨nle rfl, nle rfl⟩, nle rfl, nle rfl⟩ ?_
  intro v191 h192 hq193 _
  obtain ⟨rfl, rfl⟩ := hq193
  show WlO _ _ _ _ _ _ _ _ _ _ _ _ _ _ _ _ _ _ [.int (1 : Int32)]
  refine Wl.ifN 432 at_429 (feq (by decide)).1 ?_
  refine Wl.aload 434 at_432 rfl rfl ?_
  refine Wl.aload 436 at_434 rfl rfl ?_
  refine Wl.iload 438 at_436 rfl ?_
  refine Wl.iconst 439 (1 : Int32) at_438 (by decide) ?_
  refine Wl.static 442 (argsL := [.ref s99, .ref a105, .int (9 : Int32), .int (1 : Int32)]) at_439 (w222 hw) (w223 hw) (w2 hw) (w224 hw) (show parseMethodDescriptor "(Ljava/lang/String;[CII)Z" = some ⟨[(.object "java/lang/String"), (.array .char), .int, .int], some .boolean⟩ by decide +kernel) rfl (at_met hw hcs hfm (rs := [(102 : Int32), (101 : Int32), (110 : Int32), (99 : Int32), (101 : Int32), (58 : Int32), (123 : Int32), n0, (125 : Int32)]) (es := [(102 : Int32), (101 : Int32), (110 : Int32), (99 : Int32), (101 : Int32), (58 : Int32), (123 : Int32), n0, (125 : Int32), (0 : Int32), (0 : Int32), (0 : Int32), (0 : Int32)]) (k := 9) (i := 1) (S101.ext B187) A183 (nle rfl) (nle rfl) rfl (nle rfl)) (fun _ q => nomatch q) rfl rfl rfl (by decide) ⟨⟨nle rfl, nle rfl⟩, nle rfl, nle rfl⟩ ?_
  intro v194 h195 hq196 _
  obtain ⟨rfl, rfl⟩ := hq196
  show WlO _ _ _ _ _ _ _ _ _ _ _ _ _ _ _ _ _ _ [.int (1 : Int32)]
  refine Wl.ifN 445 at_442 (feq (by decide)).1 ?_
  refine Wl.aload 447 at_445 rfl rfl ?_
  refine Wl.aload 449 at_447 rfl rfl ?_
  refine Wl.iload 451 at_449 rfl ?_
  refine Wl.iconst 452 (2 : Int32) at_451 (by decide) ?_
  refine Wl.static 455 (argsL := [.ref s99, .ref a105, .int (9 : Int32), .int (2 : Int32)]) at_452 (w222 hw) (w223 hw) (w2 hw) (w224 hw) (show parseMethodDescriptor "(Ljava/lang/String;[CII)Z" = some ⟨[(.object "java/lang/String"), (.array .char), .int, .int], some .boolean⟩ by decide +kernel) rfl (at_met hw hcs hfm (rs := [(102 : Int32), (101 : Int32), (110 : Int32), (99 : Int32), (101 : Int32), (58 : Int32), (123 : Int32), n0, (125 : Int32)]) (es := [(102 : Int32), (101 : Int32), (110 : Int32), (99 : Int32), (101 : Int32), (58 : Int32), (123 : Int32), n0, (125 : Int32), (0 : Int32), (0 : Int32), (0 : Int32), (0 : Int32)]) (k := 9) (i := 2) (S101.ext B187) A183 (nle rfl) (nle rfl) rfl (nle rfl)) (fun _ q => nomatch q) rfl rfl rfl (by decide) ⟨⟨nle rfl, nle rfl⟩, nle rfl, nle rfl⟩ ?_
  intro v197 h198 hq199 _
  obtain ⟨rfl, rfl⟩ := hq199
  show WlO _ _ _ _ _ _ _ _ _ _ _ _ _ _ _ _ _ _ [.int (1 : Int32)]
  refine Wl.ifN 458 at_455 (feq (by decide)).1 ?_
  refine Wl.aload 460 at_458 rfl rfl ?_
  refine Wl.aload 462 at_460 rfl rfl ?_
  refine Wl.iload 464 at_462 rfl ?_
  refine Wl.iconst 465 (3 : Int32) at_464 (by decide) ?_
  refine Wl.static 468 (argsL := [.ref s99, .ref a105, .int (9 : Int32), .int (3 : Int32)]) at_465 (w222 hw) (w223 hw) (w2 hw) (w224 hw) (show parseMethodDescriptor "(Ljava/lang/String;[CII)Z" = some ⟨[(.object "java/lang/String"), (.array .char), .int, .int], some .boolean⟩ by decide +kernel) rfl (at_met hw hcs hfm (rs := [(102 : Int32), (101 : Int32), (110 : Int32), (99 : Int32), (101 : Int32), (58 : Int32), (123 : Int32), n0, (125 : Int32)]) (es := [(102 : Int32), (101 : Int32), (110 : Int32), (99 : Int32), (101 : Int32), (58 : Int32), (123 : Int32), n0, (125 : Int32), (0 : Int32), (0 : Int32), (0 : Int32), (0 : Int32)]) (k := 9) (i := 3) (S101.ext B187) A183 (nle rfl) (nle rfl) rfl (nle rfl)) (fun _ q => nomatch q) rfl rfl rfl (by decide) ⟨⟨nle rfl, nle rfl⟩, nle rfl, nle rfl⟩ ?_
  intro v200 h201 hq202 _
  obtain ⟨rfl, rfl⟩ := hq202
  show WlO _ _ _ _ _ _ _ _ _ _ _ _ _ _ _ _ _ _ [.int (1 : Int32)]
  refine Wl.ifN 471 at_468 (feq (by decide)).1 ?_
  refine Wl.aload 473 at_471 rfl rfl ?_
  refine Wl.aload 475 at_473 rfl rfl ?_
  refine Wl.iload 477 at_475 rfl ?_
  refine Wl.iconst 478 (4 : Int32) at_477 (by decide) ?_
  refine Wl.static 481 (argsL := [.ref s99, .ref a105, .int (9 : Int32), .int (4 : Int32)]) at_478 (w222 hw) (w223 hw) (w2 hw) (w224 hw) (show parseMethodDescriptor "(Ljava/lang/String;[CII)Z" = some ⟨[(.object "java/lang/String"), (.array .char), .int, .int], some .boolean⟩ by decide +kernel) rfl (at_met hw hcs hfm (rs := [(102 : Int32), (101 : Int32), (110 : Int32), (99 : Int32), (101 : Int32), (58 : Int32), (123 : Int32), n0, (125 : Int32)]) (es := [(102 : Int32), (101 : Int32), (110 : Int32), (99 : Int32), (101 : Int32), (58 : Int32), (123 : Int32), n0, (125 : Int32), (0 : Int32), (0 : Int32), (0 : Int32), (0 : Int32)]) (k := 9) (i := 4) (S101.ext B187) A183 (nle rfl) (nle rfl) rfl (nle rfl)) (fun _ q => nomatch q) rfl rfl rfl (by decide) ⟨⟨nle rfl, nle rfl⟩, nle rfl, nle rfl⟩ ?_
  intro v203 h204 hq205 _
  obtain ⟨rfl, rfl⟩ := hq205
  show WlO _ _ _ _ _ _ _ _ _ _ _ _ _ _ _ _ _ _ [.int (1 : Int32)]
  refine Wl.ifN 484 at_481 (feq (by decide)).1 ?_
  refine Wl.aload 486 at_484 rfl rfl ?_
  refine Wl.aload 488 at_486 rfl rfl ?_
  refine Wl.iload 490 at_488 rfl ?_
  refine Wl.iconst 491 (5 : Int32) at_490 (by decide) ?_
  refine Wl.static 494 (argsL := [.ref s99, .ref a105, .int (9 : Int32), .int (5 : Int32)]) at_491 (w222 hw) (w223 hw) (w2 hw) (w224 hw) (show parseMethodDescriptor "(Ljava/lang/String;[CII)Z" = some ⟨[(.object "java/lang/String"), (.array .char), .int, .int], some .boolean⟩ by decide +kernel) rfl (at_met hw hcs hfm (rs := [(102 : Int32), (101 : Int32), (110 : Int32), (99 : Int32), (101 : Int32), (58 : Int32), (123 : Int32), n0, (125 : Int32)]) (es := [(102 : Int32), (101 : Int32), (110 : Int32), (99 : Int32), (101 : Int32), (58 : Int32), (123 : Int32), n0, (125 : Int32), (0 : Int32), (0 : Int32), (0 : Int32), (0 : Int32)]) (k := 9) (i := 5) (S101.ext B187) A183 (nle rfl) (nle rfl) rfl (nle rfl)) (fun _ q => nomatch q) rfl rfl rfl (by decide) ⟨⟨nle rfl, nle rfl⟩, nle rfl, nle rfl⟩ ?_
  intro v206 h207 hq208 _
  obtain ⟨rfl, rfl⟩ := hq208
  show WlO _ _ _ _ _ _ _ _ _ _ _ _ _ _ _ _ _ _ [.int (1 : Int32)]
  refine Wl.ifN 497 at_494 (feq (by decide)).1 ?_
  refine Wl.aload 499 at_497 rfl rfl ?_
  refine Wl.aload 501 at_499 rfl rfl ?_
  refine Wl.iload 503 at_501 rfl ?_
  refine Wl.bipush 505 (6 : Int32) at_503 (by decide) ?_
  refine Wl.static 508 (argsL := [.ref s99, .ref a105, .int (9 : Int32), .int (6 : Int32)]) at_505 (w222 hw) (w223 hw) (w2 hw) (w224 hw) (show parseMethodDescriptor "(Ljava/lang/String;[CII)Z" = some ⟨[(.object "java/lang/String"), (.array .char), .int, .int], some .boolean⟩ by decide +kernel) rfl (at_met hw hcs hfm (rs := [(102 : Int32), (101 : Int32), (110 : Int32), (99 : Int32), (101 : Int32), (58 : Int32), (123 : Int32), n0, (125 : Int32)]) (es := [(102 : Int32), (101 : Int32), (110 : Int32), (99 : Int32), (101 : Int32), (58 : Int32), (123 : Int32), n0, (125 : Int32), (0 : Int32), (0 : Int32), (0 : Int32), (0 : Int32)]) (k := 9) (i := 6) (S101.ext B187) A183 (nle rfl) (nle rfl) rfl (nle rfl)) (fun _ q => nomatch q) rfl rfl rfl (by decide) ⟨⟨nle rfl, nle rfl⟩, nle rfl, nle rfl⟩ ?_
  intro v209 h210 hq211 _
  obtain ⟨rfl, rfl⟩ := hq211
  show WlO _ _ _ _ _ _ _ _ _ _ _ _ _ _ _ _ _ _ [.int (1 : Int32)]
  refine Wl.ifN 511 at_508 (feq (by decide)).1 ?_
  refine Wl.aload 513 at_511 rfl rfl ?_
  refine Wl.aload 515 at_513 rfl rfl ?_
  refine Wl.iload 517 at_515 rfl ?_
  refine Wl.bipush 519 (7 : Int32) at_517 (by decide) ?_
  refine Wl.static 522 (argsL := [.ref s99, .ref a105, .int (9 : Int32), .int (7 : Int32)]) at_519 (w222 hw) (w223 hw) (w2 hw) (w224 hw) (show parseMethodDescriptor "(Ljava/lang/String;[CII)Z" = some ⟨[(.object "java/lang/String"), (.array .char), .int, .int], some .boolean⟩ by decide +kernel) rfl (at_met hw hcs hfm (rs := [(102 : Int32), (101 : Int32), (110 : Int32), (99 : Int32), (101 : Int32), (58 : Int32), (123 : Int32), n0, (125 : Int32)]) (es := [(102 : Int32), (101 : Int32), (110 : Int32), (99 : Int32), (101 : Int32), (58 : Int32), (123 : Int32), n0, (125 : Int32), (0 : Int32), (0 : Int32), (0 : Int32), (0 : Int32)]) (k := 9) (i := 7) (S101.ext B187) A183 (nle rfl) (nle rfl) rfl (nle rfl)) (fun _ q => nomatch q) rfl rfl rfl (by decide) ⟨⟨nle rfl, nle rfl⟩, nle rfl, nle rfl⟩ ?_
  intro v212 h213 hq214 _
  obtain ⟨rfl, rfl⟩ := hq214
  show WlO _ _ _ _ _ _ _ _ _ _ _ _ _ _ _ _ _ _ [.int (1 : Int32)]
  refine Wl.ifN 525 at_522 (feq (by decide)).1 ?_
  refine Wl.aload 527 at_525 rfl rfl ?_
  refine Wl.aload 529 at_527 rfl rfl ?_
  refine Wl.iload 531 at_529 rfl ?_
  refine Wl.bipush 533 (8 : Int32) at_531 (by decide) ?_
  refine Wl.static 536 (argsL := [.ref s99, .ref a105, .int (9 : Int32), .int (8 : Int32)]) at_533 (w222 hw) (w223 hw) (w2 hw) (w224 hw) (show parseMethodDescriptor "(Ljava/lang/String;[CII)Z" = some ⟨[(.object "java/lang/String"), (.array .char), .int, .int], some .boolean⟩ by decide +kernel) rfl (at_met hw hcs hfm (rs := [(102 : Int32), (101 : Int32), (110 : Int32), (99 : Int32), (101 : Int32), (58 : Int32), (123 : Int32), n0, (125 : Int32)]) (es := [(102 : Int32), (101 : Int32), (110 : Int32), (99 : Int32), (101 : Int32), (58 : Int32), (123 : Int32), n0, (125 : Int32), (0 : Int32), (0 : Int32), (0 : Int32), (0 : Int32)]) (k := 9) (i := 8) (S101.ext B187) A183 (nle rfl) (nle rfl) rfl (nle rfl)) (fun _ q => nomatch q) rfl rfl rfl (by decide) ⟨⟨nle rfl, nle rfl⟩, nle rfl, nle rfl⟩ ?_
  intro v215 h216 hq217 _
  obtain ⟨rfl, rfl⟩ := hq217
  show WlO _ _ _ _ _ _ _ _ _ _ _ _ _ _ _ _ _ _ [.int (1 : Int32)]
  refine Wl.ifN 539 at_536 (feq (by decide)).1 ?_
  refine Wl.aload 541 at_539 rfl rfl ?_
  refine Wl.aload 543 at_541 rfl rfl ?_
  refine Wl.iload 545 at_543 rfl ?_
  refine Wl.bipush 547 (9 : Int32) at_545 (by decide) ?_
  refine Wl.static 550 (argsL := [.ref s99, .ref a105, .int (9 : Int32), .int (9 : Int32)]) at_547 (w222 hw) (w223 hw) (w2 hw) (w224 hw) (show parseMethodDescriptor "(Ljava/lang/String;[CII)Z" = some ⟨[(.object "java/lang/String"), (.array .char), .int, .int], some .boolean⟩ by decide +kernel) rfl (at_met hw hcs hfm (rs := [(102 : Int32), (101 : Int32), (110 : Int32), (99 : Int32), (101 : Int32), (58 : Int32), (123 : Int32), n0, (125 : Int32)]) (es := [(102 : Int32), (101 : Int32), (110 : Int32), (99 : Int32), (101 : Int32), (58 : Int32), (123 : Int32), n0, (125 : Int32), (0 : Int32), (0 : Int32), (0 : Int32), (0 : Int32)]) (k := 9) (i := 9) (S101.ext B187) A183 (nle rfl) (nle rfl) rfl (nle rfl)) (fun _ q => nomatch q) rfl rfl rfl (by decide) ⟨⟨nle rfl, nle rfl⟩, nle rfl, nle rfl⟩ ?_
  intro v218 h219 hq220 _
  obtain ⟨rfl, rfl⟩ := hq220
  show WlO _ _ _ _ _ _ _ _ _ _ _ _ _ _ _ _ _ _ [.int (1 : Int32)]
  refine Wl.ifN 553 at_550 (feq (by decide)).1 ?_
  refine Wl.aload 555 at_553 rfl rfl ?_
  refine Wl.aload 557 at_555 rfl rfl ?_
  refine Wl.iload 559 at_557 rfl ?_
  refine Wl.bipush 561 (10 : Int32) at_559 (by decide) ?_
  refine Wl.static 564 (argsL := [.ref s99, .ref a105, .int (9 : Int32), .int (10 : Int32)]) at_561 (w222 hw) (w223 hw) (w2 hw) (w224 hw) (show parseMethodDescriptor "(Ljava/lang/String;[CII)Z" = some ⟨[(.object "java/lang/String"), (.array .char), .int, .int], some .boolean⟩ by decide +kernel) rfl (at_met hw hcs hfm (rs := [(102 : Int32), (101 : Int32), (110 : Int32), (99 : Int32), (101 : Int32), (58 : Int32), (123 : Int32), n0, (125 : Int32)]) (es := [(102 : Int32), (101 : Int32), (110 : Int32), (99 : Int32), (101 : Int32), (58 : Int32), (123 : Int32), n0, (125 : Int32), (0 : Int32), (0 : Int32), (0 : Int32), (0 : Int32)]) (k := 9) (i := 10) (S101.ext B187) A183 (nle rfl) (nle rfl) rfl (nle rfl)) (fun _ q => nomatch q) rfl rfl rfl (by decide) ⟨⟨nle rfl, nle rfl⟩, nle rfl, nle rfl⟩ ?_
  intro v221 h222 hq223 _
  obtain ⟨rfl, rfl⟩ := hq223
  show WlO _ _ _ _ _ _ _ _ _ _ _ _ _ _ _ _ _ _ [.int (1 : Int32)]
  refine Wl.ifN 567 at_564 (feq (by decide)).1 ?_
  refine Wl.aload 569 at_567 rfl rfl ?_
  refine Wl.aload 571 at_569 rfl rfl ?_
  refine Wl.iload 573 at_571 rfl ?_
  refine Wl.bipush 575 (11 : Int32) at_573 (by decide) ?_
  refine Wl.static 578 (argsL := [.ref s99, .ref a105, .int (9 : Int32), .int (11 : Int32)]) at_575 (w222 hw) (w223 hw) (w2 hw) (w224 hw) (show parseMethodDescriptor "(Ljava/lang/String;[CII)Z" = some ⟨[(.object "java/lang/String"), (.array .char), .int, .int], some .boolean⟩ by decide +kernel) rfl (at_met hw hcs hfm (rs := [(102 : Int32), (101 : Int32), (110 : Int32), (99 : Int32), (101 : Int32), (58 : Int32), (123 : Int32), n0, (125 : Int32)]) (es := [(102 : Int32), (101 : Int32), (110 : Int32), (99 : Int32), (101 : Int32), (58 : Int32), (123 : Int32), n0, (125 : Int32), (0 : Int32), (0 : Int32), (0 : Int32), (0 : Int32)]) (k := 9) (i := 11) (S101.ext B187) A183 (nle rfl) (nle rfl) rfl (nle rfl)) (fun _ q => nomatch q) rfl rfl rfl (by decide) ⟨⟨nle rfl, nle rfl⟩, nle rfl, nle rfl⟩ ?_
  intro v224 h225 hq226 _
  obtain ⟨rfl, rfl⟩ := hq226
  show WlO _ _ _ _ _ _ _ _ _ _ _ _ _ _ _ _ _ _ [.int (1 : Int32)]
  refine Wl.ifN 581 at_578 (feq (by decide)).1 ?_
  refine Wl.aload 583 at_581 rfl rfl ?_
  refine Wl.aload 585 at_583 rfl rfl ?_
  refine Wl.iload 587 at_585 rfl ?_
  refine Wl.bipush 589 (12 : Int32) at_587 (by decide) ?_
  refine Wl.static 592 (argsL := [.ref s99, .ref a105, .int (9 : Int32), .int (12 : Int32)]) at_589 (w222 hw) (w223 hw) (w2 hw) (w224 hw) (show parseMethodDescriptor "(Ljava/lang/String;[CII)Z" = some ⟨[(.object "java/lang/String"), (.array .char), .int, .int], some .boolean⟩ by decide +kernel) rfl (at_met hw hcs hfm (rs := [(102 : Int32), (101 : Int32), (110 : Int32), (99 : Int32), (101 : Int32), (58 : Int32), (123 : Int32), n0, (125 : Int32)]) (es := [(102 : Int32), (101 : Int32), (110 : Int32), (99 : Int32), (101 : Int32), (58 : Int32), (123 : Int32), n0, (125 : Int32), (0 : Int32), (0 : Int32), (0 : Int32), (0 : Int32)]) (k := 9) (i := 12) (S101.ext B187) A183 (nle rfl) (nle rfl) rfl (nle rfl)) (fun _ q => nomatch q) rfl rfl rfl (by decide) ⟨⟨nle rfl, nle rfl⟩, nle rfl, nle rfl⟩ ?_
  intro v227 h228 hq229 _
  obtain ⟨rfl, rfl⟩ := hq229
  show WlO _ _ _ _ _ _ _ _ _ _ _ _ _ _ _ _ _ _ [.int (1 : Int32)]
  refine Wl.ifN 595 at_592 (feq (by decide)).1 ?_
  refine Wl.iconst 596 (1 : Int32) at_595 (by decide) ?_
  refine Wl.goto 600 at_596 ?_
  exact Wl.ireturn at_600 rfl rfl (by simp) (nle rfl) (nle rfl) rfl
set_option maxRecDepth 65536 in
set_option maxHeartbeats 40000000 in
theorem law_t02 {l : Launch} {Z : State} {a0 : Array Value} (hw : ∀ d ∈ tables_1, d.before a0 Z = true) (hcs : CSon Z) (hfm : Fmt Z) {as : Array Value} {h : Heap} {i0 i1 p0 p1 n0 n1 n2 : Int32} (lp0 : Lat p0) (lp1 : Lat p1) (ln0 : Lat n0) (ln1 : Lat n1) (ln2 : Lat n2) (p0123 : p0 ≠ 123) (p0125 : p0 ≠ 125) (p1123 : p1 ≠ 123) (p1125 : p1 ≠ 125) (hn0 : ¬ n0 = (125 : Int32)) :
    Wl l Z a0 consts_1 x code maxLocals ret room_1 as (fun v h' => v = some (.int 1)) [] h 0 0 86 #[.val (.int i0), .val (.int i1), .val (.int (0 : Int32)), .val (.int p0), .val (.int p1), .val (.int (2 : Int32)), .val (.int n0), .val (.int n1), .val (.int n2), .unset, .unset, .unset, .unset, .unset] [] := by
  refine Wl.iload_n 87 at_86 rfl ?_
  refine Wl.ifN 90 at_87 (teq (by decide)).2 ?_
  refine Wl.new 93 at_90 (w4 hw) (w5 hw) (w6 hw) (nle rfl) (nle rfl) ?_
  intro a1 h2 q3 E4 X5 D6
  have z7 : h.size ≤ a1 := Nat.le_of_eq q3.symm
  have B8 : Ext h h2 := E4
  have F9 : Fld Z h2 a1 "java/lang/String" "value" "[B" (.null) := D6 (Or.inr (w20 hw)) (ty := (.array .byte)) (by decide)
  have F10 : Fld Z h2 a1 "java/lang/String" "coder" "B" (.int 0) := D6 (Or.inr (w21 hw)) (ty := .byte) (by decide)
  refine Wl.dup 94 at_93 rfl ?_
  refine Wl.iconst 95 (0 : Int32) at_94 (by decide) ?_
  refine Wl.newarray 97 0 at_95 (w7 hw) (by decide) (by decide) (by decide) (nle rfl) (nle rfl) ?_
  intro a11 h12 k13 q14 E15 A16
  have A16 : Arv Z h12 a11 k13 .char (0 : Int32) [] (.int 0) := A16
  have z17 : h.size ≤ a11 := Nat.le_trans B8.1 (Nat.le_of_eq q14.symm)
  have z18 : h2.size ≤ a11 := Nat.le_of_eq q14.symm
  have ne19 : a1 ≠ a11 := Nat.ne_of_lt (by rw [q14]; exact (X5).lt)
  have B20 : Ext h h12 := extTr B8 E15
  have B21 : Ext h2 h12 := E15
  refine Wl.special 100 (argsL := [.ref a11]) at_97 (w8 hw) (w9 hw) (w6 hw) (w10 hw) (show parseMethodDescriptor "([C)V" = some ⟨[(.array .char)], none⟩ by decide +kernel) rfl (strC_met hw hcs (cs := []) 4 (nle rfl) (nle rfl)  latN (X5.ext E15) (F9.ext E15) (F10.ext E15) A16) (allS (List.mem_of_getElem? (i := 1) rfl) (fun _ q => nomatch q)) rfl rfl rfl rfl (by decide) ⟨⟨nle rfl, nle rfl⟩, nle rfl, nle rfl⟩ ?_
  intro v22 h23 hq24 _
  obtain ⟨rfl, K25, S26⟩ := hq24
  have B27 : Ext h h23 := extKeep B20 K25 (allS z7 all0)
  show WlO _ _ _ _ _ _ _ _ _ _ _ _ _ _ _ _ _ _ [.ref a1]
  refine Wl.goto 144 at_100 ?_
  refine Wl.astore 146 #[.val (.int i0), .val (.int i1), .val (.int (0 : Int32)), .val (.int p0), .val (.int p1), .val (.int (2 : Int32)), .val (.int n0), .val (.int n1), .val (.int n2), .val (.ref a1), .unset, .unset, .unset, .unset] at_144 rfl rfl ?_
  refine Wl.iload 148 at_146 rfl ?_
  refine Wl.iconst 149 (1 : Int32) at_148 (by decide) ?_
  refine Wl.icmpY 170 at_149 (feq (by decide)).2 ?_
  refine Wl.iload 172 at_170 rfl ?_
  refine Wl.iconst 173 (2 : Int32) at_172 (by decide) ?_
  refine Wl.icmpN 176 at_173 (teq (by decide)).2 ?_
  refine Wl.new 179 at_176 (w4 hw) (w5 hw) (w6 hw) (nle rfl) (nle rfl) ?_
  intro a28 h29 q30 E31 X32 D33
  have z34 : h.size ≤ a28 := Nat.le_trans B27.1 (Nat.le_of_eq q30.symm)
  have z35 : h23.size ≤ a28 := Nat.le_of_eq q30.symm
  have ne36 : a1 ≠ a28 := Nat.ne_of_lt (by rw [q30]; exact ((S26).exa).lt)
  have ne37 : a11 ≠ a28 := Nat.ne_of_lt (by rw [q30]; exact ((A16.keep K25 (ninS ne19.symm nin0))).lt)
  have B38 : Ext h h29 := extTr B27 E31
  have B39 : Ext h23 h29 := E31
  have F40 : Fld Z h29 a28 "java/lang/String" "value" "[B" (.null) := D33 (Or.inr (w20 hw)) (ty := (.array .byte)) (by decide)
  have F41 : Fld Z h29 a28 "java/lang/String" "coder" "B" (.int 0) := D33 (Or.inr (w21 hw)) (ty := .byte) (by decide)
  refine Wl.dup 180 at_179 rfl ?_
  refine Wl.iconst 181 (2 : Int32) at_180 (by decide) ?_
  refine Wl.newarray 183 2 at_181 (w7 hw) (by decide) (by decide) (by decide) (nle rfl) (nle rfl) ?_
  intro a42 h43 k44 q45 E46 A47
  have A47 : Arv Z h43 a42 k44 .char (2 : Int32) [.int 0, .int 0] (.int 0) := A47
  have z48 : h.size ≤ a42 := Nat.le_trans B38.1 (Nat.le_of_eq q45.symm)
  have z49 : h23.size ≤ a42 := Nat.le_trans B39.1 (Nat.le_of_eq q45.symm)
  have z50 : h29.size ≤ a42 := Nat.le_of_eq q45.symm
  have ne51 : a1 ≠ a42 := Nat.ne_of_lt (by rw [q45]; exact (((S26).exa.ext E31)).lt)
  have ne52 : a11 ≠ a42 := Nat.ne_of_lt (by rw [q45]; exact (((A16.keep K25 (ninS ne19.symm nin0)).ext E31)).lt)
  have ne53 : a28 ≠ a42 := Nat.ne_of_lt (by rw [q45]; exact (X32).lt)
  have B54 : Ext h h43 := extTr B38 E46
  have B55 : Ext h23 h43 := extTr B39 E46
  have B56 : Ext h29 h43 := E46
  refine Wl.dup 184 at_183 rfl ?_
  refine Wl.iconst 185 (0 : Int32) at_184 (by decide) ?_
  refine Wl.iload 187 at_185 rfl ?_
  refine Wl.castore 188 0 at_187 A47 (List.mem_of_getElem? (i := 0) rfl) (by decide) (by decide) (by decide) (nle rfl) ?_
  intro h57 W58 A59
  rw [nar_ch (ln0).ch] at A59
  have A59 : Arv Z h57 a42 k44 .char (2 : Int32) [.int n0, .int (0 : Int32)] (.int 0) := A59
  have B60 : Ext h h57 := extWr B54 W58 z48
  have B61 : Ext h23 h57 := extWr B55 W58 z49
  have B62 : Ext h29 h57 := extWr B56 W58 z50
  refine Wl.dup 189 at_188 rfl ?_
  refine Wl.iconst 190 (1 : Int32) at_189 (by decide) ?_
  refine Wl.iload 192 at_190 rfl ?_
  refine Wl.castore 193 1 at_192 A59 (List.mem_of_getElem? (i := 0) rfl) (by decide) (by decide) (by decide) (nle rfl) ?_
  intro h63 W64 A65
  rw [nar_ch (ln1).ch] at A65
  have A65 : Arv Z h63 a42 k44 .char (2 : Int32) [.int n0, .int n1] (.int 0) := A65
  have B66 : Ext h h63 := extWr B60 W64 z48
  have B67 : Ext h23 h63 := extWr B61 W64 z49
  have B68 : Ext h29 h63 := extWr B62 W64 z50
  refine Wl.special 196 (argsL := [.ref a42]) at_193 (w8 hw) (w9 hw) (w6 hw) (w10 hw) (show parseMethodDescriptor "([C)V" = some ⟨[(.array .char)], none⟩ by decide +kernel) rfl (strC_met hw hcs (cs := [n0, n1]) 4 (nle rfl) (nle rfl)  (latC ln0 (latC ln1 latN)) (X32.ext B68) (F40.ext B68) (F41.ext B68) A65) (allS (List.mem_of_getElem? (i := 1) rfl) (fun _ q => nomatch q)) rfl rfl rfl rfl (by decide) ⟨⟨nle rfl, nle rfl⟩, nle rfl, nle rfl⟩ ?_
  intro v69 h70 hq71 _
  obtain ⟨rfl, K72, S73⟩ := hq71
  have B74 : Ext h h70 := extKeep B66 K72 (allS z34 all0)
  have B75 : Ext h23 h70 := extKeep B67 K72 (allS z35 all0)
  show WlO _ _ _ _ _ _ _ _ _ _ _ _ _ _ _ _ _ _ [.ref a28]
  refine Wl.goto 224 at_196 ?_
  refine Wl.astore 226 #[.val (.int i0), .val (.int i1), .val (.int (0 : Int32)), .val (.int p0), .val (.int p1), .val (.int (2 : Int32)), .val (.int n0), .val (.int n1), .val (.int n2), .val (.ref a1), .val (.ref a28), .unset, .unset, .unset] at_224 rfl rfl ?_
  refine Wl.new 229 at_226 (w37 hw) (w38 hw) (w39 hw) (nle rfl) (nle rfl) ?_
  intro a76 h77 q78 E79 X80 D81
  have z82 : h.size ≤ a76 := Nat.le_trans B74.1 (Nat.le_of_eq q78.symm)
  have z83 : h23.size ≤ a76 := Nat.le_trans B75.1 (Nat.le_of_eq q78.symm)
  have z84 : h70.size ≤ a76 := Nat.le_of_eq q78.symm
  have ne85 : a1 ≠ a76 := Nat.ne_of_lt (by rw [q78]; exact (((S26).exa.ext B75)).lt)
  have ne86 : a11 ≠ a76 := Nat.ne_of_lt (by rw [q78]; exact (((A16.keep K25 (ninS ne19.symm nin0)).ext B75)).lt)
  have ne87 : a28 ≠ a76 := Nat.ne_of_lt (by rw [q78]; exact ((S73).exa).lt)
  have ne88 : a42 ≠ a76 := Nat.ne_of_lt (by rw [q78]; exact ((A65.keep K72 (ninS ne53.symm nin0))).lt)
  have B89 : Ext h h77 := extTr B74 E79
  have B90 : Ext h23 h77 := extTr B75 E79
  have B91 : Ext h70 h77 := E79
  have F92 : Fld Z h77 a76 "com/example/portunus/portunus/LockKeys" "prefix" "Ljava/lang/String;" (.null) := D81 (Or.inr (w89 hw)) (ty := (.object "java/lang/String")) (by decide)
  refine Wl.dup 230 at_229 rfl ?_
  refine Wl.aload 232 at_230 rfl rfl ?_
  refine Wl.special 235 (argsL := [.ref a1]) at_232 (w40 hw) (w41 hw) (w39 hw) (w42 hw) (show parseMethodDescriptor "(Ljava/lang/String;)V" = some ⟨[(.object "java/lang/String")], none⟩ by decide +kernel) rfl (keys_met hw hcs X80 F92 (cs := []) (S26.ext B90) neN neN) (allS (List.mem_of_getElem? (i := 0) rfl) (fun _ q => nomatch q)) rfl rfl rfl rfl (by decide) ⟨⟨nle rfl, nle rfl⟩, nle rfl, nle rfl⟩ ?_
  intro v93 h94 hq95 _
  obtain ⟨rfl, K96, X97, F98⟩ := hq95
  have B99 : Ext h h94 := extKeep B89 K96 (allS z82 all0)
  have B100 : Ext h23 h94 := extKeep B90 K96 (allS z83 all0)
  have B101 : Ext h70 h94 := extKeep B91 K96 (allS z84 all0)
  show WlO _ _ _ _ _ _ _ _ _ _ _ _ _ _ _ _ _ _ [.ref a76]
  refine Wl.aload 237 at_235 rfl rfl ?_
  refine Wl.virtual 240 (argsL := [.ref a28]) at_237 (w90 hw) (w91 hw) (w93 hw) (w92 hw) (w39 hw) (w94 hw) (nf_sel (w93 hw) rfl) X97 (show parseMethodDescriptor "(Ljava/lang/String;)Ljava/lang/String;" = some ⟨[(.object "java/lang/String")], some (.object "java/lang/String")⟩ by decide +kernel) rfl (key_met hw hcs hfm (cs := [n0, n1]) (ps := []) F98 (S26.ext B100) (nle rfl) (S73.ext B101) (by simp) (nle rfl) hn0 (nle rfl)) (fun _ q => nomatch q) rfl rfl rfl (by decide) ⟨⟨nle rfl, nle rfl⟩, nle rfl, nle rfl⟩ ?_
  intro v102 h103 hq104 _
  obtain ⟨s105, rfl, E106, S107⟩ := hq104
  have S107 : Stl Z h103 s105 [(102 : Int32), (101 : Int32), (110 : Int32), (99 : Int32), (101 : Int32), (58 : Int32), (123 : Int32), n0, n1, (125 : Int32)] := S107
  have B108 : Ext h h103 := extTr B99 E106
  have B109 : Ext h23 h103 := extTr B100 E106
  have B110 : Ext h70 h103 := extTr B101 E106
  show WlO _ _ _ _ _ _ _ _ _ _ _ _ _ _ _ _ _ _ [.ref s105]
  refine Wl.astore 242 #[.val (.int i0), .val (.int i1), .val (.int (0 : Int32)), .val (.int p0), .val (.int p1), .val (.int (2 : Int32)), .val (.int n0), .val (.int n1), .val (.int n2), .val (.ref a1), .val (.ref a28), .val (.ref s105), .unset, .unset] at_240 rfl rfl ?_
  refine Wl.bipush 244 (13 : Int32) at_242 (by decide) ?_
  refine Wl.newarray 246 13 at_244 (w7 hw) (by decide) (by decide) (by decide) (nle rfl) (nle rfl) ?_
  intro a111 h112 k113 q114 E115 A116
  have A116 : Arv Z h112 a111 k113 .char (13 : Int32) [.int 0, .int 0, .int 0, .int 0, .int 0, .int 0, .int 0, .int 0, .int 0, .int 0, .int 0, .int 0, .int 0] (.int 0) := A116
  have z117 : h.size ≤ a111 := Nat.le_trans B108.1 (Nat.le_of_eq q114.symm)
  have z118 : h23.size ≤ a111 := Nat.le_trans B109.1 (Nat.le_of_eq q114.symm)
  have z119 : h70.size ≤ a111 := Nat.le_trans B110.1 (Nat.le_of_eq q114.symm)
  have z120 : h103.size ≤ a111 := Nat.le_of_eq q114.symm
  have ne121 : a1 ≠ a111 := Nat.ne_of_lt (by rw [q114]; exact (((S26).exa.ext B109)).lt)
  have ne122 : a11 ≠ a111 := Nat.ne_of_lt (by rw [q114]; exact (((A16.keep K25 (ninS ne19.symm nin0)).ext B109)).lt)
  have ne123 : a28 ≠ a111 := Nat.ne_of_lt (by rw [q114]; exact (((S73).exa.ext B110)).lt)
  have ne124 : a42 ≠ a111 := Nat.ne_of_lt (by rw [q114]; exact (((A65.keep K72 (ninS ne53.symm nin0)).ext B110)).lt)
  have ne125 : a76 ≠ a111 := Nat.ne_of_lt (by rw [q114]; exact ((X97.ext E106)).lt)
  have ne126 : s105 ≠ a111 := Nat.ne_of_lt (by rw [q114]; exact ((S107).exa).lt)
  have B127 : Ext h h112 := extTr B108 E115
  have B128 : Ext h23 h112 := extTr B109 E115
  have B129 : Ext h70 h112 := extTr B110 E115
  have B130 : Ext h103 h112 := E115
  refine Wl.astore 248 #[.val (.int i0), .val (.int i1), .val (.int (0 : Int32)), .val (.int p0), .val (.int p1), .val (.int (2 : Int32)), .val (.int n0), .val (.int n1), .val (.int n2), .val (.ref a1), .val (.ref a28), .val (.ref s105), .val (.ref a111), .unset] at_246 rfl rfl ?_
  refine Wl.iconst 249 (0 : Int32) at_248 (by decide) ?_
  refine Wl.istore 251 #[.val (.int i0), .val (.int i1), .val (.int (0 : Int32)), .val (.int p0), .val (.int p1), .val (.int (2 : Int32)), .val (.int n0), .val (.int n1), .val (.int n2), .val (.ref a1), .val (.ref a28), .val (.ref s105), .val (.ref a111), .val (.int (0 : Int32))] at_249 rfl ?_
  refine Wl.iload_n 252 at_251 rfl ?_
  refine Wl.iconst 253 (1 : Int32) at_252 (by decide) ?_
  refine Wl.icmpY 265 at_253 (tlt (by decide)).1 ?_
  refine Wl.iload_n 266 at_265 rfl ?_
  refine Wl.iconst 267 (2 : Int32) at_266 (by decide) ?_
  refine Wl.icmpY 280 at_267 (tlt (by decide)).1 ?_
  refine Wl.aload 282 at_280 rfl rfl ?_
  refine Wl.iload 284 at_282 rfl ?_
  refine Wl.bipush 286 (102 : Int32) at_284 (by decide) ?_
  refine Wl.castore 287 0 at_286 A116 (List.mem_of_getElem? (i := 0) rfl) (by decide) (by decide) (by decide) (nle rfl) ?_
  intro h131 W132 A133
  rw [nar_ch (by decide)] at A133
  have A133 : Arv Z h131 a111 k113 .char (13 : Int32) [.int (102 : Int32), .int (0 : Int32), .int (0 : Int32), .int (0 : Int32), .int (0 : Int32), .int (0 : Int32), .int (0 : Int32), .int (0 : Int32), .int (0 : Int32), .int (0 : Int32), .int (0 : Int32), .int (0 : Int32), .int (0 : Int32)] (.int 0) := A133
  have B134 : Ext h h131 := extWr B127 W132 z117
  have B135 : Ext h23 h131 := extWr B128 W132 z118
  have B136 : Ext h70 h131 := extWr B129 W132 z119
  have B137 : Ext h103 h131 := extWr B130 W132 z120
  refine Wl.iinc 290 #[.val (.int i0), .val (.int i1), .val (.int (0 : Int32)), .val (.int p0), .val (.int p1), .val (.int (2 : Int32)), .val (.int n0), .val (.int n1), .val (.int n2), .val (.ref a1), .val (.ref a28), .val (.ref s105), .val (.ref a111), .val (.int (1 : Int32))] (1 : Int32) at_287 (by decide) rfl rfl ?_
  refine Wl.aload 292 at_290 rfl rfl ?_
  refine Wl.iload 294 at_292 rfl ?_
  refine Wl.bipush 296 (101 : Int32) at_294 (by decide) ?_
  refine Wl.castore 297 1 at_296 A133 (List.mem_of_getElem? (i := 0) rfl) (by decide) (by decide) (by decide) (nle rfl) ?_
  intro h138 W139 A140
  rw [nar_ch (by decide)] at A140
  have A140 : Arv Z h138 a111 k113 .char (13 : Int32) [.int (102 : Int32), .int (101 : Int32), .int (0 : Int32), .int (0 : Int32), .int (0 : Int32), .int (0 : Int32), .int (0 : Int32), .int (0 : Int32), .int (0 : Int32), .int (0 : Int32), .int (0 : Int32), .int (0 : Int32), .int (0 : Int32)] (.int 0) := A140
  have B141 : Ext h h138 := extWr B134 W139 z117
  have B142 : Ext h23 h138 := extWr B135 W139 z118
  have B143 : Ext h70 h138 := extWr B136 W139 z119
  have B144 : Ext h103 h138 := extWr B137 W139 z120
  refine Wl.iinc 300 #[.val (.int i0), .val (.int i1), .val (.int (0 : Int32)), .val (.int p0), .val (.int p1), .val (.int (2 : Int32)), .val (.int n0), .val (.int n1), .val (.int n2), .val (.ref a1), .val (.ref a28), .val (.ref s105), .val (.ref a111), .val (.int (2 : Int32))] (1 : Int32) at_297 (by decide) rfl rfl ?_
  refine Wl.aload 302 at_300 rfl rfl ?_
  refine Wl.iload 304 at_302 rfl ?_
  refine Wl.bipush 306 (110 : Int32) at_304 (by decide) ?_
  refine Wl.castore 307 2 at_306 A140 (List.mem_of_getElem? (i := 0) rfl) (by decide) (by decide) (by decide) (nle rfl) ?_
  intro h145 W146 A147
  rw [nar_ch (by decide)] at A147
  have A147 : Arv Z h145 a111 k113 .char (13 : Int32) [.int (102 : Int32), .int (101 : Int32), .int (110 : Int32), .int (0 : Int32), .int (0 : Int32), .int (0 : Int32), .int (0 : Int32), .int (0 : Int32), .int (0 : Int32), .int (0 : Int32), .int (0 : Int32), .int (0 : Int32), .int (0 : Int32)] (.int 0) := A147
  have B148 : Ext h h145 := extWr B141 W146 z117
  have B149 : Ext h23 h145 := extWr B142 W146 z118
  have B150 : Ext h70 h145 := extWr B143 W146 z119
  have B151 : Ext h103 h145 := extWr B144 W146 z120
  refine Wl.iinc 310 #[.val (.int i0), .val (.int i1), .val (.int (0 : Int32)), .val (.int p0), .val (.int p1), .val (.int (2 : Int32)), .val (.int n0), .val (.int n1), .val (.int n2), .val (.ref a1), .val (.ref a28), .val (.ref s105), .val (.ref a111), .val (.int (3 : Int32))] (1 : Int32) at_307 (by decide) rfl rfl ?_
  refine Wl.aload 312 at_310 rfl rfl ?_
  refine Wl.iload 314 at_312 rfl ?_
  refine Wl.bipush 316 (99 : Int32) at_314 (by decide) ?_
  refine Wl.castore 317 3 at_316 A147 (List.mem_of_getElem? (i := 0) rfl) (by decide) (by decide) (by decide) (nle rfl) ?_
  intro h152 W153 A154
  rw [nar_ch (by decide)] at A154
  have A154 : Arv Z h152 a111 k113 .char (13 : Int32) [.int (102 : Int32), .int (101 : Int32), .int (110 : Int32), .int (99 : Int32), .int (0 : Int32), .int (0 : Int32), .int (0 : Int32), .int (0 : Int32), .int (0 : Int32), .int (0 : Int32), .int (0 : Int32), .int (0 : Int32), .int (0 : Int32)] (.int 0) := A154
  have B155 : Ext h h152 := extWr B148 W153 z117
  have B156 : Ext h23 h152 := extWr B149 W153 z118
  have B157 : Ext h70 h152 := extWr B150 W153 z119
  have B158 : Ext h103 h152 := extWr B151 W153 z120
  refine Wl.iinc 320 #[.val (.int i0), .val (.int i1), .val (.int (0 : Int32)), .val (.int p0), .val (.int p1), .val (.int (2 : Int32)), .val (.int n0), .val (.int n1), .val (.int n2), .val (.ref a1), .val (.ref a28), .val (.ref s105), .val (.ref a111), .val (.int (4 : Int32))] (1 : Int32) at_317 (by decide) rfl rfl ?_
  refine Wl.aload 322 at_320 rfl rfl ?_
  refine Wl.iload 324 at_322 rfl ?_
  refine Wl.bipush 326 (101 : Int32) at_324 (by decide) ?_
  refine Wl.castore 327 4 at_326 A154 (List.mem_of_getElem? (i := 0) rfl) (by decide) (by decide) (by decide) (nle rfl) ?_
  intro h159 W160 A161
  rw [nar_ch (by decide)] at A161
  have A161 : Arv Z h159 a111 k113 .char (13 : Int32) [.int (102 : Int32), .int (101 : Int32), .int (110 : Int32), .int (99 : Int32), .int (101 : Int32), .int (0 : Int32), .int (0 : Int32), .int (0 : Int32), .int (0 : Int32), .int (0 : Int32), .int (0 : Int32), .int (0 : Int32), .int (0 : Int32)] (.int 0) := A161
  have B162 : Ext h h159 := extWr B155 W160 z117
  have B163 : Ext h23 h159 := extWr B156 W160 z118
  have B164 : Ext h70 h159 := extWr B157 W160 z119
  have B165 : Ext h103 h159 := extWr B158 W160 z120
  refine Wl.iinc 330 #[.val (.int i0), .val (.int i1), .val (.int (0 : Int32)), .val (.int p0), .val (.int p1), .val (.int (2 : Int32)), .val (.int n0), .val (.int n1), .val (.int n2), .val (.ref a1), .val (.ref a28), .val (.ref s105), .val (.ref a111), .val (.int (5 : Int32))] (1 : Int32) at_327 (by decide) rfl rfl ?_
  refine Wl.aload 332 at_330 rfl rfl ?_
  refine Wl.iload 334 at_332 rfl ?_
  refine Wl.bipush 336 (58 : Int32) at_334 (by decide) ?_
  refine Wl.castore 337 5 at_336 A161 (List.mem_of_getElem? (i := 0) rfl) (by decide) (by decide) (by decide) (nle rfl) ?_
  intro h166 W167 A168
  rw [nar_ch (by decide)] at A168
  have A168 : Arv Z h166 a111 k113 .char (13 : Int32) [.int (102 : Int32), .int (101 : Int32), .int (110 : Int32), .int (99 : Int32), .int (101 : Int32), .int (58 : Int32), .int (0 : Int32), .int (0 : Int32), .int (0 : Int32), .int (0 : Int32), .int (0 : Int32), .int (0 : Int32), .int (0 : Int32)] (.int 0) := A168
  have B169 : Ext h h166 := extWr B162 W167 z117
  have B170 : Ext h23 h166 := extWr B163 W167 z118
  have B171 : Ext h70 h166 := extWr B164 W167 z119
  have B172 : Ext h103 h166 := extWr B165 W167 z120
  refine Wl.iinc 340 #[.val (.int i0), .val (.int i1), .val (.int (0 : Int32)), .val (.int p0), .val (.int p1), .val (.int (2 : Int32)), .val (.int n0), .val (.int n1), .val (.int n2), .val (.ref a1), .val (.ref a28), .val (.ref s105), .val (.ref a111), .val (.int (6 : Int32))] (1 : Int32) at_337 (by decide) rfl rfl ?_
  refine Wl.aload 342 at_340 rfl rfl ?_
  refine Wl.iload 344 at_342 rfl ?_
  refine Wl.bipush 346 (123 : Int32) at_344 (by decide) ?_
  refine Wl.castore 347 6 at_346 A168 (List.mem_of_getElem? (i := 0) rfl) (by decide) (by decide) (by decide) (nle rfl) ?_
  intro h173 W174 A175
  rw [nar_ch (by decide)] at A175
  have A175 : Arv Z h173 a111 k113 .char (13 : Int32) [.int (102 : Int32), .int (101 : Int32), .int (110 : Int32), .int (99 : Int32), .int (101 : Int32), .int (58 : Int32), .int (123 : Int32), .int (0 : Int32), .int (0 : Int32), .int (0 : Int32), .int (0 : Int32), .int (0 : Int32), .int (0 : Int32)] (.int 0) := A175
  have B176 : Ext h h173 := extWr B169 W174 z117
  have B177 : Ext h23 h173 := extWr B170 W174 z118
  have B178 : Ext h70 h173 := extWr B171 W174 z119
  have B179 : Ext h103 h173 := extWr B172 W174 z120
  refine Wl.iinc 350 #[.val (.int i0), .val (.int i1), .val (.int (0 : Int32)), .val (.int p0), .val (.int p1), .val (.int (2 : Int32)), .val (.int n0), .val (.int n1), .val (.int n2), .val (.ref a1), .val (.ref a28), .val (.ref s105), .val (.ref a111), .val (.int (7 : Int32))] (1 : Int32) at_347 (by decide) rfl rfl ?_
  refine Wl.aload 352 at_350 rfl rfl ?_
  refine Wl.iload 354 at_352 rfl ?_
  refine Wl.iload 356 at_354 rfl ?_
  refine Wl.castore 357 7 at_356 A175 (List.mem_of_getElem? (i := 0) rfl) (by decide) (by decide) (by decide) (nle rfl) ?_
  intro h180 W181 A182
  rw [nar_ch (ln0).ch] at A182
  have A182 : Arv Z h180 a111 k113 .char (13 : Int32) [.int (102 : Int32), .int (101 : Int32), .int (110 : Int32), .int (99 : Int32), .int (101 : Int32), .int (58 : Int32), .int (123 : Int32), .int n0, .int (0 : Int32), .int (0 : Int32), .int (0 : Int32), .int (0 : Int32), .int (0 : Int32)] (.int 0) := A182
  have B183 : Ext h h180 := extWr B176 W181 z117
  have B184 : Ext h23 h180 := extWr B177 W181 z118
  have B185 : Ext h70 h180 := extWr B178 W181 z119
  have B186 : Ext h103 h180 := extWr B179 W181 z120
  refine Wl.iinc 360 #[.val (.int i0), .val (.int i1), .val (.int (0 : Int32)), .val (.int p0), .val (.int p1), .val (.int (2 : Int32)), .val (.int n0), .val (.int n1), .val (.int n2), .val (.ref a1), .val (.ref a28), .val (.ref s105), .val (.ref a111), .val (.int (8 : Int32))] (1 : Int32) at_357 (by decide) rfl rfl ?_
  refine Wl.iload 362 at_360 rfl ?_
  refine Wl.iconst 363 (2 : Int32) at_362 (by decide) ?_
  refine Wl.icmpN 366 at_363 (flt (by decide)).1 ?_
  refine Wl.aload 368 at_366 rfl rfl ?_
  refine Wl.iload 370 at_368 rfl ?_
  refine Wl.iload 372 at_370 rfl ?_
  refine Wl.castore 373 8 at_372 A182 (List.mem_of_getElem? (i := 0) rfl) (by decide) (by decide) (by decide) (nle rfl) ?_
  intro h187 W188 A189
  rw [nar_ch (ln1).ch] at A189
  have A189 : Arv Z h187 a111 k113 .char (13 : Int32) [.int (102 : Int32), .int (101 : Int32), .int (110 : Int32), .int (99 : Int32), .int (101 : Int32), .int (58 : Int32), .int (123 : Int32), .int n0, .int n1, .int (0 : Int32), .int (0 : Int32), .int (0 : Int32), .int (0 : Int32)] (.int 0) := A189
  have B190 : Ext h h187 := extWr B183 W188 z117
  have B191 : Ext h23 h187 := extWr B184 W188 z118
  have B192 : Ext h70 h187 := extWr B185 W188 z119
  have B193 : Ext h103 h187 := extWr B186 W188 z120
  refine Wl.iinc 376 #[.val (.int i0), .val (.int i1), .val (.int (0 : Int32)), .val (.int p0), .val (.int p1), .val (.int (2 : Int32)), .val (.int n0), .val (.int n1), .val (.int n2), .val (.ref a1), .val (.ref a28), .val (.ref s105), .val (.ref a111), .val (.int (9 : Int32))] (1 : Int32) at_373 (by decide) rfl rfl ?_
  refine Wl.iload 378 at_376 rfl ?_
  refine Wl.iconst 379 (3 : Int32) at_378 (by decide) ?_
  refine Wl.icmpY 392 at_379 (tlt (by decide)).1 ?_
  refine Wl.aload 394 at_392 rfl rfl ?_
  refine Wl.iload 396 at_394 rfl ?_
  refine Wl.bipush 398 (125 : Int32) at_396 (by decide) ?_
  refine Wl.castore 399 9 at_398 A189 (List.mem_of_getElem? (i := 0) rfl) (by decide) (by decide) (by decide) (nle rfl) ?_
  intro h194 W195 A196
  rw [nar_ch (by decide)] at A196
  have A196 : Arv Z h194 a111 k113 .char (13 : Int32) [.int (102 : Int32), .int (101 : Int32), .int (110 : Int32), .int (99 : Int32), .int (101 : Int32), .int (58 : Int32), .int (123 : Int32), .int n0, .int n1, .int (125 : Int32), .int (0 : Int32), .int (0 : Int32), .int (0 : Int32)] (.int 0) := A196
  have B197 : Ext h h194 := extWr B190 W195 z117
  have B198 : Ext h23 h194 := extWr B191 W195 z118
  have B199 : Ext h70 h194 := extWr B192 W195 z119
  have B200 : Ext h103 h194 := extWr B193 W195 z120
  refine Wl.iinc 402 #[.val (.int i0), .val (.int i1), .val (.int (0 : Int32)), .val (.int p0), .val (.int p1), .val (.int (2 : Int32)), .val (.int n0), .val (.int n1), .val (.int n2), .val (.ref a1), .val (.ref a28), .val (.ref s105), .val (.ref a111), .val (.int (10 : Int32))] (1 : Int32) at_399 (by decide) rfl rfl ?_
  refine Wl.aload 404 at_402 rfl rfl ?_
  refine Wl.ifnullN 407 at_404 ?_
  refine Wl.aload 409 at_407 rfl rfl ?_
  refine Wl.virtual 412 (argsL := []) at_409 (w221 hw) (w65 hw) (w67 hw) (w66 hw) (w6 hw) (w68 hw) (nf_sel (w67 hw) rfl) ((S107).exa.ext B200) (show parseMethodDescriptor "()I" = some ⟨[], some .int⟩ by decide +kernel) rfl (len_met hw hcs (S107.ext B200)) (fun _ q => nomatch q) rfl rfl rfl (by decide) ⟨⟨nle rfl, nle rfl⟩, nle rfl, nle rfl⟩ ?_
  intro v201 h202 hq203 _
  obtain ⟨rfl, rfl⟩ := hq203
  show WlO _ _ _ _ _ _ _ _ _ _ _ _ _ _ _ _ _ _ [.int (10 : Int32)]
  refine Wl.iload 414 at_412 rfl ?_
  refine Wl.icmpY 419 at_414 (teq (by decide)).1 ?_
  refine Wl.aload 421 at_419 rfl rfl ?_
  refine Wl.aload 423 at_421 rfl rfl ?_
  refine Wl.iload 425 at_423 rfl ?_
  refine Wl.iconst 426 (0 : Int32) at_425 (by decide) ?_
  refine Wl.static 429 (argsL := [.ref s105, .ref a111, .int (10 : Int32), .int (0 : Int32)]) at_426 (w222 hw) (w223 hw) (w2 hw) (w224 hw) (show parseMethodDescriptor "(Ljava/lang/String;[CII)Z" = some ⟨[(.object "java/lang/String"), (.array .char), .int, .int], some .boolean⟩ by decide +kernel) rfl (at_met hw hcs hfm (rs := [(102 : Int32), (101 : Int32), (110 : Int32), (99 : Int32), (101 : Int32), (58 : Int32), (123 : Int32), n0, n1, (125 : Int32)]) (es := [(102 : Int32), (101 : Int32), (110 : Int32), (99 : Int32), (101 : Int32), (58 : Int32), (123 : Int32), n0, n1, (125 : Int32), (0 : Int32), (0 : Int32), (0 : Int32)]) (k := 10) (i := 0) (S107.ext B200) A196 (nle rfl) (nle rfl) rfl (nle rfl)) (fun _ q => nomatch q) rfl rfl rfl (by decide) ⟨⟨nle rfl, nle rfl⟩, nle rfl, nle rfl⟩ ?_
  intro v204 h205 hq206 _
  obtain ⟨rfl, rfl⟩ := hq206
  show WlO _ _ _ _ _ _ _ _ _ _ _ _ _ _ _ _ _ _ [.int (1 : Int32)]
  refine Wl.ifN 432 at_429 (feq (by decide)).1 ?_
  refine Wl.aload 434 at_432 rfl rfl ?_
  refine Wl.aload 436 at_434 rfl rfl ?_
  refine Wl.iload 438 at_436 rfl ?_
  refine Wl.iconst 439 (1 : Int32) at_438 (by decide) ?_
  refine Wl.static 442 (argsL := [.ref s105, .ref a111, .int (10 : Int32), .int (1 : Int32)]) at_439 (w222 hw) (w223 hw) (w2 hw) (w224 hw) (show parseMethodDescriptor "(Ljava/lang/String;[CII)Z" = some ⟨[(.object "java/lang/String"), (.array .char), .int, .int], some .boolean⟩ by decide +kernel) rfl (at_met hw hcs hfm (rs := [(102 : Int32), (101 : Int32), (110 : Int32), (99 : Int32), (101 : Int32), (58 : Int32), (123 : Int32), n0, n1, (125 : Int32)]) (es := [(102 : Int32), (101 : Int32), (110 : Int32), (99 : Int32), (101 : Int32), (58 : Int32), (123 : Int32), n0, n1, (125 : Int32), (0 : Int32), (0 : Int32), (0 : Int32)]) (k := 10) (i := 1) (S107.ext B200) A196 (nle rfl) (nle rfl) rfl (nle rfl)) (fun _ q => nomatch q) rfl rfl rfl (by decide) ⟨⟨nle rfl, nle rfl⟩, nle rfl, nle rfl⟩ ?_
  intro v207 h208 hq209 _
  obtain ⟨rfl, rfl⟩ := hq209
  show WlO _ _ _ _ _ _ _ _ _ _ _ _ _ _ _ _ _ _ [.int (1 : Int32)]
  refine Wl.ifN 445 at_442 (feq (by decide)).1 ?_
  refine Wl.aload 447 at_445 rfl rfl ?_
  refine Wl.aload 449 at_447 rfl rfl ?_
  refine Wl.iload 451 at_449 rfl ?_
  refine Wl.iconst 452 (2 : Int32) at_451 (by decide) ?_
  refine Wl.static 455 (argsL := [.ref s105, .ref a111, .int (10 : Int32), .int (2 : Int32)]) at_452 (w222 hw) (w223 hw) (w2 hw) (w224 hw) (show parseMethodDescriptor "(Ljava/lang/String;[CII)Z" = some ⟨[(.object "java/lang/String"), (.array .char), .int, .int], some .boolean⟩ by decide +kernel) rfl (at_met hw hcs hfm (rs := [(102 : Int32), (101 : Int32), (110 : Int32), (99 : Int32), (101 : Int32), (58 : Int32), (123 : Int32), n0, n1, (125 : Int32)]) (es := [(102 : Int32), (101 : Int32), (110 : Int32), (99 : Int32), (101 : Int32), (58 : Int32), (123 : Int32), n0, n1, (125 : Int32), (0 : Int32), (0 : Int32), (0 : Int32)]) (k := 10) (i := 2) (S107.ext B200) A196 (nle rfl) (nle rfl) rfl (nle rfl)) (fun _ q => nomatch q) rfl rfl rfl (by decide) ⟨⟨nle rfl, nle rfl⟩, nle rfl, nle rfl⟩ ?_
  intro v210 h211 hq212 _
  obtain ⟨rfl, rfl⟩ := hq212
  show WlO _ _ _ _ _ _ _ _ _ _ _ _ _ _ _ _ _ _ [.int (1 : Int32)]
  refine Wl.ifN 458 at_455 (feq (by decide)).1 ?_
  refine Wl.aload 460 at_458 rfl rfl ?_
  refine Wl.aload 462 at_460 rfl rfl ?_
  refine Wl.iload 464 at_462 rfl ?_
  refine Wl.iconst 465 (3 : Int32) at_464 (by decide) ?_
  refine Wl.static 468 (argsL := [.ref s105, .ref a111, .int (10 : Int32), .int (3 : Int32)]) at_465 (w222 hw) (w223 hw) (w2 hw) (w224 hw) (show parseMethodDescriptor "(Ljava/lang/String;[CII)Z" = some ⟨[(.object "java/lang/String"), (.array .char), .int, .int], some .boolean⟩ by decide +kernel) rfl (at_met hw hcs hfm (rs := [(102 : Int32), (101 : Int32), (110 : Int32), (99 : Int32), (101 : Int32), (58 : Int32), (123 : Int32), n0, n1, (125 : Int32)]) (es := [(102 : Int32), (101 : Int32), (110 : Int32), (99 : Int32), (101 : Int32), (58 : Int32), (123 : Int32), n0, n1, (125 : Int32), (0 : Int32), (0 : Int32), (0 : Int32)]) (k := 10) (i := 3) (S107.ext B200) A196 (nle rfl) (nle rfl) rfl (nle rfl)) (fun _ q => nomatch q) rfl rfl rfl (by decide) ⟨⟨nle rfl, nle rfl⟩, nle rfl, nle rfl⟩ ?_
  intro v213 h214 hq215 _
  obtain ⟨rfl, rfl⟩ := hq215
  show WlO _ _ _ _ _ _ _ _ _ _ _ _ _ _ _ _ _ _ [.int (1 : Int32)]
  refine Wl.ifN 471 at_468 (feq (by decide)).1 ?_
  refine Wl.aload 473 at_471 rfl rfl ?_
  refine Wl.aload 475 at_473 rfl rfl ?_
  refine Wl.iload 477 at_475 rfl ?_
  refine Wl.iconst 478 (4 : Int32) at_477 (by decide) ?_
  refine Wl.static 481 (argsL := [.ref s105, .ref a111, .int (10 : Int32), .int (4 : Int32)]) at_478 (w222 hw) (w223 hw) (w2 hw) (w224 hw) (show parseMethodDescriptor "(Ljava/lang/String;[CII)Z" = some ⟨[(.object "java/lang/String"), (.array .char), .int, .int], some .boolean⟩ by decide +kernel) rfl (at_met hw hcs hfm (rs := [(102 : Int32), (101 : Int32), (110 : Int32), (99 : Int32), (101 : Int32), (58 : Int32), (123 : Int32), n0, n1, (125 : Int32)]) (es := [(102 : Int32), (101 : Int32), (110 : Int32), (99 : Int32), (101 : Int32), (58 : Int32), (123 : Int32), n0, n1, (125 : Int32), (0 : Int32), (0 : Int32), (0 : Int32)]) (k := 10) (i := 4) (S107.ext B200) A196 (nle rfl) (nle rfl) rfl (nle rfl)) (fun _ q => nomatch q) rfl rfl rfl (by decide) ⟨⟨nle rfl, nle rfl⟩, nle rfl, nle rfl⟩ ?_
  intro v216 h217 hq218 _
  obtain ⟨rfl, rfl⟩ := hq218
  show WlO _ _ _ _ _ _ _ _ _ _ _ _ _ _ _ _ _ _ [.int (1 : Int32)]
  refine Wl.ifN 484 at_481 (feq (by decide)).1 ?_
  refine Wl.aload 486 at_484 rfl rfl ?_
  refine Wl.aload 488 at_486 rfl rfl ?_
  refine Wl.iload 490 at_488 rfl ?_
  refine Wl.iconst 491 (5 : Int32) at_490 (by decide) ?_
  refine Wl.static 494 (argsL := [.ref s105, .ref a111, .int (10 : Int32), .int (5 : Int32)]) at_491 (w222 hw) (w223 hw) (w2 hw) (w224 hw) (show parseMethodDescriptor "(Ljava/lang/String;[CII)Z" = some ⟨[(.object "java/lang/String"), (.array .char), .int, .int], some .boolean⟩ by decide +kernel) rfl (at_met hw hcs hfm (rs := [(102 : Int32), (101 : Int32), (110 : Int32), (99 : Int32), (101 : Int32), (58 : Int32), (123 : Int32), n0, n1, (125 : Int32)]) (es := [(102 : Int32), (101 : Int32), (110 : Int32), (99 : Int32), (101 : Int32), (58 : Int32), (123 : Int32), n0, n1, (125 : Int32), (0 : Int32), (0 : Int32), (0 : Int32)]) (k := 10) (i := 5) (S107.ext B200) A196 (nle rfl) (nle rfl) rfl (nle rfl)) (fun _ q => nomatch q) rfl rfl rfl (by decide) ⟨⟨nle rfl, nle rfl⟩, nle rfl, nle rfl⟩ ?_
  intro v219 h220 hq221 _
  obtain ⟨rfl, rfl⟩ := hq221
  show WlO _ _ _ _ _ _ _ _ _ _ _ _ _ _ _ _ _ _ [.int (1 : Int32)]
  refine Wl.ifN 497 at_494 (feq (by decide)).1 ?_
  refine Wl.aload 499 at_497 rfl rfl ?_
  refine Wl.aload 501 at_499 rfl rfl ?_
  refine Wl.iload 503 at_501 rfl ?_
  refine Wl.bipush 505 (6 : Int32) at_503 (by decide) ?_
  refine Wl.static 508 (argsL := [.ref s105, .ref a111, .int (10 : Int32), .int (6 : Int32)]) at_505 (w222 hw) (w223 hw) (w2 hw) (w224 hw) (show parseMethodDescriptor "(Ljava/lang/String;[CII)Z" = some ⟨[(.object "java/lang/String"), (.array .char), .int, .int], some .boolean⟩ by decide +kernel) rfl (at_met hw hcs hfm (rs := [(102 : Int32), (101 : Int32), (110 : Int32), (99 : Int32), (101 : Int32), (58 : Int32), (123 : Int32), n0, n1, (125 : Int32)]) (es := [(102 : Int32), (101 : Int32), (110 : Int32), (99 : Int32), (101 : Int32), (58 : Int32), (123 : Int32), n0, n1, (125 : Int32), (0 : Int32), (0 : Int32), (0 : Int32)]) (k := 10) (i := 6) (S107.ext B200) A196 (nle rfl) (nle rfl) rfl (nle rfl)) (fun _ q => nomatch q) rfl rfl rfl (by decide) ⟨⟨nle rfl, nle rfl⟩, nle rfl, nle rfl⟩ ?_
  intro v222 h223 hq224 _
  obtain ⟨rfl, rfl⟩ := hq224
  show WlO _ _ _ _ _ _ _ _ _ _ _ _ _ _ _ _ _ _ [.int (1 : Int32)]
  refine Wl.ifN 511 at_508 (feq (by decide)).1 ?_
  refine Wl.aload 513 at_511 rfl rfl ?_
  refine Wl.aload 515 at_513 rfl rfl ?_
  refine Wl.iload 517 at_515 rfl ?_
  refine Wl.bipush 519 (7 : Int32) at_517 (by decide) ?_
  refine Wl.static 522 (argsL := [.ref s105, .ref a111, .int (10 : Int32), .int (7 : Int32)]) at_519 (w222 hw) (w223 hw) (w2 hw) (w224 hw) (show parseMethodDescriptor "(Ljava/lang/String;[CII)Z" = some ⟨[(.object "java/lang/String"), (.array .char), .int, .int], some .boolean⟩ by decide +kernel) rfl (at_met hw hcs hfm (rs := [(102 : Int32), (101 : Int32), (110 : Int32), (99 : Int32), (101 : Int32), (58 : Int32), (123 : Int32), n0, n1, (125 : Int32)]) (es := [(102 : Int32), (101 : Int32), (110 : Int32), (99 : Int32), (101 : Int32), (58 : Int32), (123 : Int32), n0, n1, (125 : Int32), (0 : Int32), (0 : Int32), (0 : Int32)]) (k := 10) (i := 7) (S107.ext B200) A196 (nle rfl) (nle rfl) rfl (nle rfl)) (fun _ q => nomatch q) rfl rfl rfl (by decide) ⟨⟨nle rfl, nle rfl⟩, nle rfl, nle rfl⟩ ?_
  intro v225 h226 hq227 _
  obtain ⟨rfl, rfl⟩ := hq227
  show WlO _ _ _ _ _ _ _ _ _ _ _ _ _ _ _ _ _ _ [.int (1 : Int32)]
  refine Wl.ifN 525 at_522 (feq (by decide)).1 ?_
  refine Wl.aload 527 at_525 rfl rfl ?_
  refine Wl.aload 529 at_527 rfl rfl ?_
  refine Wl.iload 531 at_529 rfl ?_
  refine Wl.bipush 533 (8 : Int32) at_531 (by decide) ?_
  refine Wl.static 536 (argsL := [.ref s105, .ref a111, .int (10 : Int32), .int (8 : Int32)]) at_533 (w222 hw) (w223 hw) (w2 hw) (w224 hw) (show parseMethodDescriptor "(Ljava/lang/String;[CII)Z" = some ⟨[(.object "java/lang/String"), (.array .char), .int, .int], some .boolean⟩ by decide +kernel) rfl (at_met hw hcs hfm (rs := [(102 : Int32), (101 : Int32), (110 : Int32), (99 : Int32), (101 : Int32), (58 : Int32), (123 : Int32), n0, n1, (125 : Int32)]) (es := [(102 : Int32), (101 : Int32), (110 : Int32), (99 : Int32), (101 : Int32), (58 : Int32), (123 : Int32), n0, n1, (125 : Int32), (0 : Int32), (0 : Int32), (0 : Int32)]) (k := 10) (i := 8) (S107.ext B200) A196 (nle rfl) (nle rfl) rfl (nle rfl)) (fun _ q => nomatch q) rfl rfl rfl (by decide) ⟨⟨nle rfl, nle rfl⟩, nle rfl, nle rfl⟩ ?_
  intro v228 h229 hq230 _
  obtain ⟨rfl, rfl⟩ := hq230
  show WlO _ _ _ _ _ _ _ _ _ _ _ _ _ _ _ _ _ _ [.int (1 : Int32)]
  refine Wl.ifN 539 at_536 (feq (by decide)).1 ?_
  refine Wl.aload 541 at_539 rfl rfl ?_
  refine Wl.aload 543 at_541 rfl rfl ?_
  refine Wl.iload 545 at_543 rfl ?_
  refine Wl.bipush 547 (9 : Int32) at_545 (by decide) ?_
  refine Wl.static 550 (argsL := [.ref s105, .ref a111, .int (10 : Int32), .int (9 : Int32)]) at_547 (w222 hw) (w223 hw) (w2 hw) (w224 hw) (show parseMethodDescriptor "(Ljava/lang/String;[CII)Z" = some ⟨[(.object "java/lang/String"), (.array .char), .int, .int], some .boolean⟩ by decide +kernel) rfl (at_met hw hcs hfm (rs := [(102 : Int32), (101 : Int32), (110 : Int32), (99 : Int32), (101 : Int32), (58 : Int32), (123 : Int32), n0, n1, (125 : Int32)]) (es := [(102 : Int32), (101 : Int32), (110 : Int32), (99 : Int32), (101 : Int32), (58 : Int32), (123 : Int32), n0, n1, (125 : Int32), (0 : Int32), (0 : Int32), (0 : Int32)]) (k := 10) (i := 9) (S107.ext B200) A196 (nle rfl) (nle rfl) rfl (nle rfl)) (fun _ q => nomatch q) rfl rfl rfl (by decide) ⟨⟨nle rfl, nle rfl⟩, nle rfl, nle rfl⟩ ?_
  intro v231 h232 hq233 _
  obtain ⟨rfl, rfl⟩ := hq233
  show WlO _ _ _ _ _ _ _ _ _ _ _ _ _ _ _ _ _ _ [.int (1 : Int32)]
  refine Wl.ifN 553 at_550 (feq (by decide)).1 ?_
  refine Wl.aload 555 at_553 rfl rfl ?_
  refine Wl.aload 557 at_555 rfl rfl ?_
  refine Wl.iload 559 at_557 rfl ?_
  refine Wl.bipush 561 (10 : Int32) at_559 (by decide) ?_
  refine Wl.static 564 (argsL := [.ref s105, .ref a111, .int (10 : Int32), .int (10 : Int32)]) at_561 (w222 hw) (w223 hw) (w2 hw) (w224 hw) (show parseMethodDescriptor "(Ljava/lang/String;[CII)Z" = some ⟨[(.object "java/lang/String"), (.array .char), .int, .int], some .boolean⟩ by decide +kernel) rfl (at_met hw hcs hfm (rs := [(102 : Int32), (101 : Int32), (110 : Int32), (99 : Int32), (101 : Int32), (58 : Int32), (123 : Int32), n0, n1, (125 : Int32)]) (es := [(102 : Int32), (101 : Int32), (110 : Int32), (99 : Int32), (101 : Int32), (58 : Int32), (123 : Int32), n0, n1, (125 : Int32), (0 : Int32), (0 : Int32), (0 : Int32)]) (k := 10) (i := 10) (S107.ext B200) A196 (nle rfl) (nle rfl) rfl (nle rfl)) (fun _ q => nomatch q) rfl rfl rfl (by decide) ⟨⟨nle rfl, nle rfl⟩, nle rfl, nle rfl⟩ ?_
  intro v234 h235 hq236 _
  obtain ⟨rfl, rfl⟩ := hq236
  show WlO _ _ _ _ _ _ _ _ _ _ _ _ _ _ _ _ _ _ [.int (1 : Int32)]
  refine Wl.ifN 567 at_564 (feq (by decide)).1 ?_
  refine Wl.aload 569 at_567 rfl rfl ?_
  refine Wl.aload 571 at_569 rfl rfl ?_
  refine Wl.iload 573 at_571 rfl ?_
  refine Wl.bipush 575 (11 : Int32) at_573 (by decide) ?_
  refine Wl.static 578 (argsL := [.ref s105, .ref a111, .int (10 : Int32), .int (11 : Int32)]) at_575 (w222 hw) (w223 hw) (w2 hw) (w224 hw) (show parseMethodDescriptor "(Ljava/lang/String;[CII)Z" = some ⟨[(.object "java/lang/String"), (.array .char), .int, .int], some .boolean⟩ by decide +kernel) rfl (at_met hw hcs hfm (rs := [(102 : Int32), (101 : Int32), (110 : Int32), (99 : Int32), (101 : Int32), (58 : Int32), (123 : Int32), n0, n1, (125 : Int32)]) (es := [(102 : Int32), (101 : Int32), (110 : Int32), (99 : Int32), (101 : Int32), (58 : Int32), (123 : Int32), n0, n1, (125 : Int32), (0 : Int32), (0 : Int32), (0 : Int32)]) (k := 10) (i := 11) (S107.ext B200) A196 (nle rfl) (nle rfl) rfl (nle rfl)) (fun _ q => nomatch q) rfl rfl rfl (by decide) ⟨⟨nle rfl, nle rfl⟩, nle rfl, nle rfl⟩ ?_
  intro v237 h238 hq239 _
  obtain ⟨rfl, rfl⟩ := hq239
  show WlO _ _ _ _ _ _ _ _ _ _ _ _ _ _ _ _ _ _ [.int (1 : Int32)]
  refine Wl.ifN 581 at_578 (feq (by decide)).1 ?_
  refine Wl.aload 583 at_581 rfl rfl ?_
  refine Wl.aload 585 at_583 rfl rfl ?_
  refine Wl.iload 587 at_585 rfl ?_
  refine Wl.bipush 589 (12 : Int32) at_587 (by decide) ?_
  refine Wl.static 592 (argsL := [.ref s105, .ref a111, .int (10 : Int32), .int (12 : Int32)]) at_589 (w222 hw) (w223 hw) (w2 hw) (w224 hw) (show parseMethodDescriptor "(Ljava/lang/String;[CII)Z" = some ⟨[(.object "java/lang/String"), (.array .char), .int, .int], some .boolean⟩ by decide +kernel) rfl (at_met hw hcs hfm (rs := [(102 : Int32), (101 : Int32), (110 : Int32), (99 : Int32), (101 : Int32), (58 : Int32), (123 : Int32), n0, n1, (125 : Int32)]) (es := [(102 : Int32), (101 : Int32), (110 : Int32), (99 : Int32), (101 : Int32), (58 : Int32), (123 : Int32), n0, n1, (125 : Int32), (0 : Int32), (0 : Int32), (0 : Int32)]) (k := 10) (i := 12) (S107.ext B200) A196 (nle rfl) (nle rfl) rfl (nle rfl)) (fun _ q => nomatch q) rfl rfl rfl (by decide) ⟨⟨nle rfl, nle rfl⟩, nle rfl, nle rfl⟩ ?_
  intro v240 h241 hq242 _
  obtain ⟨rfl, rfl⟩ := hq242
  show WlO _ _ _ _ _ _ _ _ _ _ _ _ _ _ _ _ _ _ [.int (1 : Int32)]
  refine Wl.ifN 595 at_592 (feq (by decide)).1 ?_
  refine Wl.iconst 596 (1 : Int32) at_595 (by decide) ?_
  refine Wl.goto 600 at_596 ?_
  exact Wl.ireturn at_600 rfl rfl (by simp) (nle rfl) (nle rfl) rfl
set_option maxRecDepth 65536 in
set_option maxHeartbeats 40000000 in
theorem law_t03 {l : Launch} {Z : State} {a0 : Array Value} (hw : ∀ d ∈ tables_1, d.before a0 Z = true) (hcs : CSon Z) (hfm : Fmt Z) {as : Array Value} {h : Heap} {i0 i1 p0 p1 n0 n1 n2 : Int32} (lp0 : Lat p0) (lp1 : Lat p1) (ln0 : Lat n0) (ln1 : Lat n1) (ln2 : Lat n2) (p0123 : p0 ≠ 123) (p0125 : p0 ≠ 125) (p1123 : p1 ≠ 123) (p1125 : p1 ≠ 125) (hn0 : ¬ n0 = (125 : Int32)) :
    Wl l Z a0 consts_1 x code maxLocals ret room_1 as (fun v h' => v = some (.int 1)) [] h 0 0 86 #[.val (.int i0), .val (.int i1), .val (.int (0 : Int32)), .val (.int p0), .val (.int p1), .val (.int (3 : Int32)), .val (.int n0), .val (.int n1), .val (.int n2), .unset, .unset, .unset, .unset, .unset] [] := by
  refine Wl.iload_n 87 at_86 rfl ?_
  refine Wl.ifN 90 at_87 (teq (by decide)).2 ?_
  refine Wl.new 93 at_90 (w4 hw) (w5 hw) (w6 hw) (nle rfl) (nle rfl) ?_
  intro a1 h2 q3 E4 X5 D6
  have z7 : h.size ≤ a1 := Nat.le_of_eq q3.symm
  have B8 : Ext h h2 := E4
  have F9 : Fld Z h2 a1 "java/lang/String" "value" "[B" (.null) := D6 (Or.inr (w20 hw)) (ty := (.array .byte)) (by decide)
  have F10 : Fld Z h2 a1 "java/lang/String" "coder" "B" (.int 0) := D6 (Or.inr (w21 hw)) (ty := .byte) (by decide)
  refine Wl.dup 94 at_93 rfl ?_
  refine Wl.iconst 95 (0 : Int32) at_94 (by decide) ?_
  refine Wl.newarray 97 0 at_95 (w7 hw) (by decide) (by decide) (by decide) (nle rfl) (nle rfl) ?_
  intro a11 h12 k13 q14 E15 A16
  have A16 : Arv Z h12 a11 k13 .char (0 : Int32) [] (.int 0) := A16
  have z17 : h.size ≤ a11 := Nat.le_trans B8.1 (Nat.le_of_eq q14.symm)
  have z18 : h2.size ≤ a11 := Nat.le_of_eq q14.symm
  have ne19 : a1 ≠ a11 := Nat.ne_of_lt (by rw [q14]; exact (X5).lt)
  have B20 : Ext h h12 := extTr B8 E15
  have B21 : Ext h2 h12 := E15
  refine Wl.special 100 (argsL := [.ref a11]) at_97 (w8 hw) (w9 hw) (w6 hw) (w10 hw) (show parseMethodDescriptor "([C)V" = some ⟨[(.array .char)], none⟩ by decide +kernel) rfl (strC_met hw hcs (cs := []) 4 (nle rfl) (nle rfl)  latN (X5.ext E15) (F9.ext E15) (F10.ext E15) A16) (allS (List.mem_of_getElem? (i := 1) rfl) (fun _ q => nomatch q)) rfl rfl rfl rfl (by decide) ⟨⟨nle rfl, nle rfl⟩, nle rfl, nle rfl⟩ ?_
  intro v22 h23 hq24 _
  obtain ⟨rfl, K25, S26⟩ := hq24
  have B27 : Ext h h23 := extKeep B20 K25 (allS z7 all0)
  show WlO _ _ _ _ _ _ _ _ _ _ _ _ _ _ _ _ _ _ [.ref a1]
  refine Wl.goto 144 at_100 ?_
  refine Wl.astore 146 #[.val (.int i0), .val (.int i1), .val (.int (0 : Int32)), .val (.int p0), .val (.int p1), .val (.int (3 : Int32)), .val (.int n0), .val (.int n1), .val (.int n2), .val (.ref a1), .unset, .unset, .unset, .unset] at_144 rfl rfl ?_
  refine Wl.iload 148 at_146 rfl ?_
  refine Wl.iconst 149 (1 : Int32) at_148 (by decide) ?_
  refine Wl.icmpY 170 at_149 (feq (by decide)).2 ?_
  refine Wl.iload 172 at_170 rfl ?_
  refine Wl.iconst 173 (2 : Int32) at_172 (by decide) ?_
  refine Wl.icmpY 199 at_173 (feq (by decide)).2 ?_
  refine Wl.new 202 at_199 (w4 hw) (w5 hw) (w6 hw) (nle rfl) (nle rfl) ?_
  intro a28 h29 q30 E31 X32 D33
  have z34 : h.size ≤ a28 := Nat.le_trans B27.1 (Nat.le_of_eq q30.symm)
  have z35 : h23.size ≤ a28 := Nat.le_of_eq q30.symm
  have ne36 : a1 ≠ a28 := Nat.ne_of_lt (by rw [q30]; exact ((S26).exa).lt)
  have ne37 : a11 ≠ a28 := Nat.ne_of_lt (by rw [q30]; exact ((A16.keep K25 (ninS ne19.symm nin0))).lt)
  have B38 : Ext h h29 := extTr B27 E31
  have B39 : Ext h23 h29 := E31
  have F40 : Fld Z h29 a28 "java/lang/String" "value" "[B" (.null) := D33 (Or.inr (w20 hw)) (ty := (.array .byte)) (by decide)
  have F41 : Fld Z h29 a28 "java/lang/String" "coder" "B" (.int 0) := D33 (Or.inr (w21 hw)) (ty := .byte) (by decide)
  refine Wl.dup 203 at_202 rfl ?_
  refine Wl.iconst 204 (3 : Int32) at_203 (by decide) ?_
  refine Wl.newarray 206 3 at_204 (w7 hw) (by decide) (by decide) (by decide) (nle rfl) (nle rfl) ?_
  intro a42 h43 k44 q45 E46 A47
  have A47 : Arv Z h43 a42 k44 .char (3 : Int32) [.int 0, .int 0, .int 0] (.int 0) := A47
  have z48 : h.size ≤ a42 := Nat.le_trans B38.1 (Nat.le_of_eq q45.symm)
  have z49 : h23.size ≤ a42 := Nat.le_trans B39.1 (Nat.le_of_eq q45.symm)
  have z50 : h29.size ≤ a42 := Nat.le_of_eq q45.symm
  have ne51 : a1 ≠ a42 := Nat.ne_of_lt (by rw [q45]; exact (((S26).exa.ext E31)).lt)
  have ne52 : a11 ≠ a42 := Nat.ne_of_lt (by rw [q45]; exact (((A16.keep K25 (ninS ne19.symm nin0)).ext E31)).lt)
  have ne53 : a28 ≠ a42 := Nat.ne_of_lt (by rw [q45]; exact (X32).lt)
  have B54 : Ext h h43 := extTr B38 E46
  have B55 : Ext h23 h43 := extTr B39 E46
  have B56 : Ext h29 h43 := E46
  refine Wl.dup 207 at_206 rfl ?_
  refine Wl.iconst 208 (0 : Int32) at_207 (by decide) ?_
  refine Wl.iload 210 at_208 rfl ?_
  refine Wl.castore 211 0 at_210 A47 (List.mem_of_getElem? (i := 0) rfl) (by decide) (by decide) (by decide) (nle rfl) ?_
  intro h57 W58 A59
  rw [nar_ch (ln0).ch] at A59
  have A59 : Arv Z h57 a42 k44 .char (3 : Int32) [.int n0, .int (0 : Int32), .int (0 : Int32)] (.int 0) := A59
  have B60 : Ext h h57 := extWr B54 W58 z48
  have B61 : Ext h23 h57 := extWr B55 W58 z49
  have B62 : Ext h29 h57 := extWr B56 W58 z50
  refine Wl.dup 212 at_211 rfl ?_
  refine Wl.iconst 213 (1 : Int32) at_212 (by decide) ?_
  refine Wl.iload 215 at_213 rfl ?_
  refine Wl.castore 216 1 at_215 A59 (List.mem_of_getElem? (i := 0) rfl) (by decide) (by decide) (by decide) (nle rfl) ?_
  intro h63 W64 A65
  rw [nar_ch (ln1).ch] at A65
  have A65 : Arv Z h63 a42 k44 .char (3 : Int32) [.int n0, .int n1, .int (0 : Int32)] (.int 0) := A65
  have B66 : Ext h h63 := extWr B60 W64 z48
  have B67 : Ext h23 h63 := extWr B61 W64 z49
  have B68 : Ext h29 h63 := extWr B62 W64 z50
  refine Wl.dup 217 at_216 rfl ?_
  refine Wl.iconst 218 (2 : Int32) at_217 (by decide) ?_
  refine Wl.iload 220 at_218 rfl ?_
  refine Wl.castore 221 2 at_220 A65 (List.mem_of_getElem? (i := 0) rfl) (by decide) (by decide) (by decide) (nle rfl) ?_
  intro h69 W70 A71
  rw [nar_ch (ln2).ch] at A71
  have A71 : Arv Z h69 a42 k44 .char (3 : Int32) [.int n0, .int n1, .int n2] (.int 0) := A71
  have B72 : Ext h h69 := extWr B66 W70 z48
  have B73 : Ext h23 h69 := extWr B67 W70 z49
  have B74 : Ext h29 h69 := extWr B68 W70 z50
  refine Wl.special 224 (argsL := [.ref a42]) at_221 (w8 hw) (w9 hw) (w6 hw) (w10 hw) (show parseMethodDescriptor "([C)V" = some ⟨[(.array .char)], none⟩ by decide +kernel) rfl (strC_met hw hcs (cs := [n0, n1, n2]) 4 (nle rfl) (nle rfl)  (latC ln0 (latC ln1 (latC ln2 latN))) (X32.ext B74) (F40.ext B74) (F41.ext B74) A71) (allS (List.mem_of_getElem? (i := 1) rfl) (fun _ q => nomatch q)) rfl rfl rfl rfl (by decide) ⟨⟨nle rfl, nle rfl⟩, nle rfl, nle rfl⟩ ?_
  intro v75 h76 hq77 _
  obtain ⟨rfl, K78, S79⟩ := hq77
  have B80 : Ext h h76 := extKeep B72 K78 (allS z34 all0)
  have B81 : Ext h23 h76 := extKeep B73 K78 (allS z35 all0)
  show WlO _ _ _ _ _ _ _ _ _ _ _ _ _ _ _ _ _ _ [.ref a28]
  refine Wl.astore 226 #[.val (.int i0), .val (.int i1), .val (.int (0 : Int32)), .val (.int p0), .val (.int p1), .val (.int (3 : Int32)), .val (.int n0), .val (.int n1), .val (.int n2), .val (.ref a1), .val (.ref a28), .unset, .unset, .unset] at_224 rfl rfl ?_
  refine Wl.new 229 at_226 (w37 hw) (w38 hw) (w39 hw) (nle rfl) (nle rfl) ?_
  intro a82 h83 q84 E85 X86 D87
  have z88 : h.size ≤ a82 := Nat.le_trans B80.1 (Nat.le_of_eq q84.symm)
  have z89 : h23.size ≤ a82 := Nat.le_trans B81.1 (Nat.le_of_eq q84.symm)
  have z90 : h76.size ≤ a82 := Nat.le_of_eq q84.symm
  have ne91 : a1 ≠ a82 := Nat.ne_of_lt (by rw [q84]; exact (((S26).exa.ext B81)).lt)
  have ne92 : a11 ≠ a82 := Nat.ne_of_lt (by rw [q84]; exact (((A16.keep K25 (ninS ne19.symm nin0)).ext B81)).lt)
  have ne93 : a28 ≠ a82 := Nat.ne_of_lt (by rw [q84]; exact ((S79).exa).lt)
  have ne94 : a42 ≠ a82 := Nat.ne_of_lt (by rw [q84]; exact ((A71.keep K78 (ninS ne53.symm nin0))).lt)
  have B95 : Ext h h83 := extTr B80 E85
  have B96 : Ext h23 h83 := extTr B81 E85
  have B97 : Ext h76 h83 := E85
  have F98 : Fld Z h83 a82 "com/example/portunus/portunus/LockKeys" "prefix" "Ljava/lang/String;" (.null) := D87 (Or.inr (w89 hw)) (ty := (.object "java/lang/String")) (by decide)
  refine Wl.dup 230 at_229 rfl ?_
  refine Wl.aload 232 at_230 rfl rfl ?_
  refine Wl.special 235 (argsL := [.ref a1]) at_232 (w40 hw) (w41 hw) (w39 hw) (w42 hw) (show parseMethodDescriptor "(Ljava/lang/String;)V" = some ⟨[(.object "java/lang/String")], none⟩ by decide +kernel) rfl (keys_met hw hcs X86 F98 (cs := []) (S26.ext B96) neN neN) (allS (List.mem_of_getElem? (i := 0) rfl) (fun _ q => nomatch q)) rfl rfl rfl rfl (by decide) ⟨⟨nle rfl, nle rfl⟩, nle rfl, nle rfl⟩ ?_
  intro v99 h100 hq101 _
  obtain ⟨rfl, K102, X103, F104⟩ := hq101
  have B105 : Ext h h100 := extKeep B95 K102 (allS z88 all0)
  have B106 : Ext h23 h100 := extKeep B96 K102 (allS z89 all0)
  have B107 : Ext h76 h100 := extKeep B97 K102 (allS z90 all0)
  show WlO _ _ _ _ _ _ _ _ _ _ _ _ _ _ _ _ _ _ [.ref a82]
  refine Wl.aload 237 at_235 rfl rfl ?_
  refine Wl.virtual 240 (argsL := [.ref a28]) at_237 (w90 hw) (w91 hw) (w93 hw) (w92 hw) (w39 hw) (w94 hw) (nf_sel (w93 hw) rfl) X103 (show parseMethodDescriptor "(Ljava/lang/String;)Ljava/lang/String;" = some ⟨[(.object "java/lang/String")], some (.object "java/lang/String")⟩ by decide +kernel) rfl (key_met hw hcs hfm (cs := [n0, n1, n2]) (ps := []) F104 (S26.ext B106) (nle rfl) (S79.ext B107) (by simp) (nle rfl) hn0 (nle rfl)) (fun _ q => nomatch q) rfl rfl rfl (by decide) ⟨⟨nle rfl, nle rfl⟩, nle rfl, nle rfl⟩ ?_
  intro v108 h109 hq110 _
  obtain ⟨s111, rfl, E112, S113⟩ := hq110
  have S113 : Stl Z h109 s111 [(102 : Int32), (101 : Int32), (110 : Int32), (99 : Int32), (101 : Int32), (58 : Int32), (123 : Int32), n0, n1, n2, (125 : Int32)] := S113
  have B114 : Ext h h109 := extTr B105 E112
  have B115 : Ext h23 h109 := extTr B106 E112
  have B116 : Ext h76 h109 := extTr B107 E112
  show WlO _ _ _ _ _ _ _ _ _ _ _ _ _ _ _ _ _ _ [.ref s111]
  refine Wl.astore 242 #[.val (.int i0), .val (.int i1), .val (.int (0 : Int32)), .val (.int p0), .val (.int p1), .val (.int (3 : Int32)), .val (.int n0), .val (.int n1), .val (.int n2), .val (.ref a1), .val (.ref a28), .val (.ref s111), .unset, .unset] at_240 rfl rfl ?_
  refine Wl.bipush 244 (13 : Int32) at_242 (by decide) ?_
  refine Wl.newarray 246 13 at_244 (w7 hw) (by decide) (by decide) (by decide) (nle rfl) (nle rfl) ?_
  intro a117 h118 k119 q120 E121 A122
  have A122 : Arv Z h118 a117 k119 .char (13 : Int32) [.int 0, .int 0, .int 0, .int 0, .int 0, .int 0, .int 0, .int 0, .int 0, .int 0, .int 0, .int 0, .int 0] (.int 0) := A122
  have z123 : h.size ≤ a117 := Nat.le_trans B114.1 (Nat.le_of_eq q120.symm)
  have z124 : h23.size ≤ a117 := Nat.le_trans B115.1 (Nat.le_of_eq q120.symm)
  have z125 : h76.size ≤ a117 := Nat.le_trans B116.1 (Nat.le_of_eq q120.symm)
  have z126 : h109.size ≤ a117 := Nat.le_of_eq q120.symm
  have ne127 : a1 ≠ a117 := Nat.ne_of_lt (by rw [q120]; exact (((S26).exa.ext B115)).lt)
  have ne128 : a11 ≠ a117 := Nat.ne_of_lt (by rw [q120]; exact (((A16.keep K25 (ninS ne19.symm nin0)).ext B115)).lt)
  have ne129 : a28 ≠ a117 := Nat.ne_of_lt (by rw [q120]; exact (((S79).exa.ext B116)).lt)
  have ne130 : a42 ≠ a117 := Nat.ne_of_lt (by rw [q120]; exact (((A71.keep K78 (ninS ne53.symm nin0)).ext B116)).lt)
  have ne131 : a82 ≠ a117 := Nat.ne_of_lt (by rw [q120]; exact ((X103.ext E112)).lt)
  have ne132 : s111 ≠ a117 := Nat.ne_of_lt (by rw [q120]; exact ((S113).exa).lt)
  have B133 : Ext h h118 := extTr B114 E121
  have B134 : Ext h23 h118 := extTr B115 E121
  have B135 : Ext h76 h118 := extTr B116 E121
  have B136 : Ext h109 h118 := E121
  refine Wl.astore 248 #[.val (.int i0), .val (.int i1), .val (.int (0 : Int32)), .val (.int p0), .val (.int p1), .val (.int (3 : Int32)), .val (.int n0), .val (.int n1), .val (.int n2), .val (.ref a1), .val (.ref a28), .val (.ref s111), .val (.ref a117), .unset] at_246 rfl rfl ?_
  refine Wl.iconst 249 (0 : Int32) at_248 (by decide) ?_
  refine Wl.istore 251 #[.val (.int i0), .val (.int i1), .val (.int (0 : Int32)), .val (.int p0), .val (.int p1), .val (.int (3 : Int32)), .val (.int n0), .val (.int n1), .val (.int n2), .val (.ref a1), .val (.ref a28), .val (.ref s111), .val (.ref a117), .val (.int (0 : Int32))] at_249 rfl ?_
  refine Wl.iload_n 252 at_251 rfl ?_
  refine Wl.iconst 253 (1 : Int32) at_252 (by decide) ?_
  refine Wl.icmpY 265 at_253 (tlt (by decide)).1 ?_
  refine Wl.iload_n 266 at_265 rfl ?_
  refine Wl.iconst 267 (2 : Int32) at_266 (by decide) ?_
  refine Wl.icmpY 280 at_267 (tlt (by decide)).1 ?_
  refine Wl.aload 282 at_280 rfl rfl ?_
  refine Wl.iload 284 at_282 rfl ?_
  refine Wl.bipush 286 (102 : Int32) at_284 (by decide) ?_
  refine Wl.castore 287 0 at_286 A122 (List.mem_of_getElem? (i := 0) rfl) (by decide) (by decide) (by decide) (nle rfl) ?_
  intro h137 W138 A139
  rw [nar_ch (by decide)] at A139
  have A139 : Arv Z h137 a117 k119 .char (13 : Int32) [.int (102 : Int32), .int (0 : Int32), .int (0 : Int32), .int (0 : Int32), .int (0 : Int32), .int (0 : Int32), .int (0 : Int32), .int (0 : Int32), .int (0 : Int32), .int (0 : Int32), .int (0 : Int32), .int (0 : Int32), .int (0 : Int32)] (.int 0) := A139
  have B140 : Ext h h137 := extWr B133 W138 z123
  have B141 : Ext h23 h137 := extWr B134 W138 z124
  have B142 : Ext h76 h137 := extWr B135 W138 z125
  have B143 : Ext h109 h137 := extWr B136 W138 z126
  refine Wl.iinc 290 #[.val (.int i0), .val (.int i1), .val (.int (0 : Int32)), .val (.int p0), .val (.int p1), .val (.int (3 : Int32)), .val (.int n0), .val (.int n1), .val (.int n2), .val (.ref a1), .val (.ref a28), .val (.ref s111), .val (.ref a117), .val (.int (1 : Int32))] (1 : Int32) at_287 (by decide) rfl rfl ?_
  refine Wl.aload 292 at_290 rfl rfl ?_
  refine Wl.iload 294 at_292 rfl ?_
  refine Wl.bipush 296 (101 : Int32) at_294 (by decide) ?_
  refine Wl.castore 297 1 at_296 A139 (List.mem_of_getElem? (i := 0) rfl) (by decide) (by decide) (by decide) (nle rfl) ?_
  intro h144 W145 A146
  rw [nar_ch (by decide)] at A146
  have A146 : Arv Z h144 a117 k119 .char (13 : Int32) [.int (102 : Int32), .int (101 : Int32), .int (0 : Int32), .int (0 : Int32), .int (0 : Int32), .int (0 : Int32), .int (0 : Int32), .int (0 : Int32), .int (0 : Int32), .int (0 : Int32), .int (0 : Int32), .int (0 : Int32), .int (0 : Int32)] (.int 0) := A146
  have B147 : Ext h h144 := extWr B140 W145 z123
  have B148 : Ext h23 h144 := extWr B141 W145 z124
  have B149 : Ext h76 h144 := extWr B142 W145 z125
  have B150 : Ext h109 h144 := extWr B143 W145 z126
  refine Wl.iinc 300 #[.val (.int i0), .val (.int i1), .val (.int (0 : Int32)), .val (.int p0), .val (.int p1), .val (.int (3 : Int32)), .val (.int n0), .val (.int n1), .val (.int n2), .val (.ref a1), .val (.ref a28), .val (.ref s111), .val (.ref a117), .val (.int (2 : Int32))] (1 : Int32) at_297 (by decide) rfl rfl ?_
  refine Wl.aload 302 at_300 rfl rfl ?_
  refine Wl.iload 304 at_302 rfl ?_
  refine Wl.bipush 306 (110 : Int32) at_304 (by decide) ?_
  refine Wl.castore 307 2 at_306 A146 (List.mem_of_getElem? (i := 0) rfl) (by decide) (by decide) (by decide) (nle rfl) ?_
  intro h151 W152 A153
  rw [nar_ch (by decide)] at A153
  have A153 : Arv Z h151 a117 k119 .char (13 : Int32) [.int (102 : Int32), .int (101 : Int32), .int (110 : Int32), .int (0 : Int32), .int (0 : Int32), .int (0 : Int32), .int (0 : Int32), .int (0 : Int32), .int (0 : Int32), .int (0 : Int32), .int (0 : Int32), .int (0 : Int32), .int (0 : Int32)] (.int 0) := A153
  have B154 : Ext h h151 := extWr B147 W152 z123
  have B155 : Ext h23 h151 := extWr B148 W152 z124
  have B156 : Ext h76 h151 := extWr B149 W152 z125
  have B157 : Ext h109 h151 := extWr B150 W152 z126
  refine Wl.iinc 310 #[.val (.int i0), .val (.int i1), .val (.int (0 : Int32)), .val (.int p0), .val (.int p1), .val (.int (3 : Int32)), .val (.int n0), .val (.int n1), .val (.int n2), .val (.ref a1), .val (.ref a28), .val (.ref s111), .val (.ref a117), .val (.int (3 : Int32))] (1 : Int32) at_307 (by decide) rfl rfl ?_
  refine Wl.aload 312 at_310 rfl rfl ?_
  refine Wl.iload 314 at_312 rfl ?_
  refine Wl.bipush 316 (99 : Int32) at_314 (by decide) ?_
  refine Wl.castore 317 3 at_316 A153 (List.mem_of_getElem? (i := 0) rfl) (by decide) (by decide) (by decide) (nle rfl) ?_
  intro h158 W159 A160
  rw [nar_ch (by decide)] at A160
  have A160 : Arv Z h158 a117 k119 .char (13 : Int32) [.int (102 : Int32), .int (101 : Int32), .int (110 : Int32), .int (99 : Int32), .int (0 : Int32), .int (0 : Int32), .int (0 : Int32), .int (0 : Int32), .int (0 : Int32), .int (0 : Int32), .int (0 : Int32), .int (0 : Int32), .int (0 : Int32)] (.int 0) := A160
  have B161 : Ext h h158 := extWr B154 W159 z123
  have B162 : Ext h23 h158 := extWr B155 W159 z124
  have B163 : Ext h76 h158 := extWr B156 W159 z125
  have B164 : Ext h109 h158 := extWr B157 W159 z126
  refine Wl.iinc 320 #[.val (.int i0), .val (.int i1), .val (.int (0 : Int32)), .val (.int p0), .val (.int p1), .val (.int (3 : Int32)), .val (.int n0), .val (.int n1), .val (.int n2), .val (.ref a1), .val (.ref a28), .val (.ref s111), .val (.ref a117), .val (.int (4 : Int32))] (1 : Int32) at_317 (by decide) rfl rfl ?_
  refine Wl.aload 322 at_320 rfl rfl ?_
  refine Wl.iload 324 at_322 rfl ?_
  refine Wl.bipush 326 (101 : Int32) at_324 (by decide) ?_
  refine Wl.castore 327 4 at_326 A160 (List.mem_of_getElem? (i := 0) rfl) (by decide) (by decide) (by decide) (nle rfl) ?_
  intro h165 W166 A167
  rw [nar_ch (by decide)] at A167
  have A167 : Arv Z h165 a117 k119 .char (13 : Int32) [.int (102 : Int32), .int (101 : Int32), .int (110 : Int32), .int (99 : Int32), .int (101 : Int32), .int (0 : Int32), .int (0 : Int32), .int (0 : Int32), .int (0 : Int32), .int (0 : Int32), .int (0 : Int32), .int (0 : Int32), .int (0 : Int32)] (.int 0) := A167
  have B168 : Ext h h165 := extWr B161 W166 z123
  have B169 : Ext h23 h165 := extWr B162 W166 z124
  have B170 : Ext h76 h165 := extWr B163 W166 z125
  have B171 : Ext h109 h165 := extWr B164 W166 z126
  refine Wl.iinc 330 #[.val (.int i0), .val (.int i1), .val (.int (0 : Int32)), .val (.int p0), .val (.int p1), .val (.int (3 : Int32)), .val (.int n0), .val (.int n1), .val (.int n2), .val (.ref a1), .val (.ref a28), .val (.ref s111), .val (.ref a117), .val (.int (5 : Int32))] (1 : Int32) at_327 (by decide) rfl rfl ?_
  refine Wl.aload 332 at_330 rfl rfl ?_
  refine Wl.iload 334 at_332 rfl ?_
  refine Wl.bipush 336 (58 : Int32) at_334 (by decide) ?_
  refine Wl.castore 337 5 at_336 A167 (List.mem_of_getElem? (i := 0) rfl) (by decide) (by decide) (by decide) (nle rfl) ?_
  intro h172 W173 A174
  rw [nar_ch (by decide)] at A174
  have A174 : Arv Z h172 a117 k119 .char (13 : Int32) [.int (102 : Int32), .int (101 : Int32), .int (110 : Int32), .int (99 : Int32), .int (101 : Int32), .int (58 : Int32), .int (0 : Int32), .int (0 : Int32), .int (0 : Int32), .int (0 : Int32), .int (0 : Int32), .int (0 : Int32), .int (0 : Int32)] (.int 0) := A174
  have B175 : Ext h h172 := extWr B168 W173 z123
  have B176 : Ext h23 h172 := extWr B169 W173 z124
  have B177 : Ext h76 h172 := extWr B170 W173 z125
  have B178 : Ext h109 h172 := extWr B171 W173 z126
  refine Wl.iinc 340 #[.val (.int i0), .val (.int i1), .val (.int (0 : Int32)), .val (.int p0), .val (.int p1), .val (.int (3 : Int32)), .val (.int n0), .val (.int n1), .val (.int n2), .val (.ref a1), .val (.ref a28), .val (.ref s111), .val (.ref a117), .val (.int (6 : Int32))] (1 : Int32) at_337 (by decide) rfl rfl ?_
  refine Wl.aload 342 at_340 rfl rfl ?_
  refine Wl.iload 344 at_342 rfl ?_
  refine Wl.bipush 346 (123 : Int32) at_344 (by decide) ?_
  refine Wl.castore 347 6 at_346 A174 (List.mem_of_getElem? (i := 0) rfl) (by decide) (by decide) (by decide) (nle rfl) ?_
  intro h179 W180 A181
  rw [nar_ch (by decide)] at A181
  have A181 : Arv Z h179 a117 k119 .char (13 : Int32) [.int (102 : Int32), .int (101 : Int32), .int (110 : Int32), .int (99 : Int32), .int (101 : Int32), .int (58 : Int32), .int (123 : Int32), .int (0 : Int32), .int (0 : Int32), .int (0 : Int32), .int (0 : Int32), .int (0 : Int32), .int (0 : Int32)] (.int 0) := A181
  have B182 : Ext h h179 := extWr B175 W180 z123
  have B183 : Ext h23 h179 := extWr B176 W180 z124
  have B184 : Ext h76 h179 := extWr B177 W180 z125
  have B185 : Ext h109 h179 := extWr B178 W180 z126
  refine Wl.iinc 350 #[.val (.int i0), .val (.int i1), .val (.int (0 : Int32)), .val (.int p0), .val (.int p1), .val (.int (3 : Int32)), .val (.int n0), .val (.int n1), .val (.int n2), .val (.ref a1), .val (.ref a28), .val (.ref s111), .val (.ref a117), .val (.int (7 : Int32))] (1 : Int32) at_347 (by decide) rfl rfl ?_
  refine Wl.aload 352 at_350 rfl rfl ?_
  refine Wl.iload 354 at_352 rfl ?_
  refine Wl.iload 356 at_354 rfl ?_
  refine Wl.castore 357 7 at_356 A181 (List.mem_of_getElem? (i := 0) rfl) (by decide) (by decide) (by decide) (nle rfl) ?_
  intro h186 W187 A188
  rw [nar_ch (ln0).ch] at A188
  have A188 : Arv Z h186 a117 k119 .char (13 : Int32) [.int (102 : Int32), .int (101 : Int32), .int (110 : Int32), .int (99 : Int32), .int (101 : Int32), .int (58 : Int32), .int (123 : Int32), .int n0, .int (0 : Int32), .int (0 : Int32), .int (0 : Int32), .int (0 : Int32), .int (0 : Int32)] (.int 0) := A188
  have B189 : Ext h h186 := extWr B182 W187 z123
  have B190 : Ext h23 h186 := extWr B183 W187 z124
  have B191 : Ext h76 h186 := extWr B184 W187 z125
  have B192 : Ext h109 h186 := extWr B185 W187 z126
  refine Wl.iinc 360 #[.val (.int i0), .val (.int i1), .val (.int (0 : Int32)), .val (.int p0), .val (.int p1), .val (.int (3 : Int32)), .val (.int n0), .val (.int n1), .val (.int n2), .val (.ref a1), .val (.ref a28), .val (.ref s111), .val (.ref a117), .val (.int (8 : Int32))] (1 : Int32) at_357 (by decide) rfl rfl ?_
  refine Wl.iload 362 at_360 rfl ?_
  refine Wl.iconst 363 (2 : Int32) at_362 (by decide) ?_
  refine Wl.icmpN 366 at_363 (flt (by decide)).1 ?_
  refine Wl.aload 368 at_366 rfl rfl ?_
  refine Wl.iload 370 at_368 rfl ?_
  refine Wl.iload 372 at_370 rfl ?_
  refine Wl.castore 373 8 at_372 A188 (List.mem_of_getElem? (i := 0) rfl) (by decide) (by decide) (by decide) (nle rfl) ?_
  intro h193 W194 A195
  rw [nar_ch (ln1).ch] at A195
  have A195 : Arv Z h193 a117 k119 .char (13 : Int32) [.int (102 : Int32), .int (101 : Int32), .int (110 : Int32), .int (99 : Int32), .int (101 : Int32), .int (58 : Int32), .int (123 : Int32), .int n0, .int n1, .int (0 : Int32), .int (0 : Int32), .int (0 : Int32), .int (0 : Int32)] (.int 0) := A195
  have B196 : Ext h h193 := extWr B189 W194 z123
  have B197 : Ext h23 h193 := extWr B190 W194 z124
  have B198 : Ext h76 h193 := extWr B191 W194 z125
  have B199 : Ext h109 h193 := extWr B192 W194 z126
  refine Wl.iinc 376 #[.val (.int i0), .val (.int i1), .val (.int (0 : Int32)), .val (.int p0), .val (.int p1), .val (.int (3 : Int32)), .val (.int n0), .val (.int n1), .val (.int n2), .val (.ref a1), .val (.ref a28), .val (.ref s111), .val (.ref a117), .val (.int (9 : Int32))] (1 : Int32) at_373 (by decide) rfl rfl ?_
  refine Wl.iload 378 at_376 rfl ?_
  refine Wl.iconst 379 (3 : Int32) at_378 (by decide) ?_
  refine Wl.icmpN 382 at_379 (flt (by decide)).1 ?_
  refine Wl.aload 384 at_382 rfl rfl ?_
  refine Wl.iload 386 at_384 rfl ?_
  refine Wl.iload 388 at_386 rfl ?_
  refine Wl.castore 389 9 at_388 A195 (List.mem_of_getElem? (i := 0) rfl) (by decide) (by decide) (by decide) (nle rfl) ?_
  intro h200 W201 A202
  rw [nar_ch (ln2).ch] at A202
  have A202 : Arv Z h200 a117 k119 .char (13 : Int32) [.int (102 : Int32), .int (101 : Int32), .int (110 : Int32), .int (99 : Int32), .int (101 : Int32), .int (58 : Int32), .int (123 : Int32), .int n0, .int n1, .int n2, .int (0 : Int32), .int (0 : Int32), .int (0 : Int32)] (.int 0) := A202
  have B203 : Ext h h200 := extWr B196 W201 z123
  have B204 : Ext h23 h200 := extWr B197 W201 z124
  have B205 : Ext h76 h200 := extWr B198 W201 z125
  have B206 : Ext h109 h200 := extWr B199 W201 z126
  refine Wl.iinc 392 #[.val (.int i0), .val (.int i1), .val (.int (0 : Int32)), .val (.int p0), .val (.int p1), .val (.int (3 : Int32)), .val (.int n0), .val (.int n1), .val (.int n2), .val (.ref a1), .val (.ref a28), .val (.ref s111), .val (.ref a117), .val (.int (10 : Int32))] (1 : Int32) at_389 (by decide) rfl rfl ?_
  refine Wl.aload 394 at_392 rfl rfl ?_
  refine Wl.iload 396 at_394 rfl ?_
  refine Wl.bipush 398 (125 : Int32) at_396 (by decide) ?_
  refine Wl.castore 399 10 at_398 A202 (List.mem_of_getElem? (i := 0) rfl) (by decide) (by decide) (by decide) (nle rfl) ?_
  intro h207 W208 A209
  rw [nar_ch (by decide)] at A209
  have A209 : Arv Z h207 a117 k119 .char (13 : Int32) [.int (102 : Int32), .int (101 : Int32), .int (110 : Int32), .int (99 : Int32), .int (101 : Int32), .int (58 : Int32), .int (123 : Int32), .int n0, .int n1, .int n2, .int (125 : Int32), .int (0 : Int32), .int (0 : Int32)] (.int 0) := A209
  have B210 : Ext h h207 := extWr B203 W208 z123
  have B211 : Ext h23 h207 := extWr B204 W208 z124
  have B212 : Ext h76 h207 := extWr B205 W208 z125
  have B213 : Ext h109 h207 := extWr B206 W208 z126
  refine Wl.iinc 402 #[.val (.int i0), .val (.int i1), .val (.int (0 : Int32)), .val (.int p0), .val (.int p1), .val (.int (3 : Int32)), .val (.int n0), .val (.int n1), .val (.int n2), .val (.ref a1), .val (.ref a28), .val (.ref s111), .val (.ref a117), .val (.int (11 : Int32))] (1 : Int32) at_399 (by decide) rfl rfl ?_
  refine Wl.aload 404 at_402 rfl rfl ?_
  refine Wl.ifnullN 407 at_404 ?_
  refine Wl.aload 409 at_407 rfl rfl ?_
  refine Wl.virtual 412 (argsL := []) at_409 (w221 hw) (w65 hw) (w67 hw) (w66 hw) (w6 hw) (w68 hw) (nf_sel (w67 hw) rfl) ((S113).exa.ext B213) (show parseMethodDescriptor "()I" = some ⟨[], some .int⟩ by decide +kernel) rfl (len_met hw hcs (S113.ext B213)) (fun _ q => nomatch q) rfl rfl rfl (by decide) ⟨⟨nle rfl, nle rfl⟩, nle rfl, nle rfl⟩ ?_
  intro v214 h215 hq216 _
  obtain ⟨rfl, rfl⟩ := hq216
  show WlO _ _ _ _ _ _ _ _ _ _ _ _ _ _ _ _ _ _ [.int (11 : Int32)]
  refine Wl.iload 414 at_412 rfl ?_
  refine Wl.icmpY 419 at_414 (teq (by decide)).1 ?_
  refine Wl.aload 421 at_419 rfl rfl ?_
  refine Wl.aload 423 at_421 rfl rfl ?_
  refine Wl.iload 425 at_423 rfl ?_
  refine Wl.iconst 426 (0 : Int32) at_425 (by decide) ?_
  refine Wl.static 429 (argsL := [.ref s111, .ref a117, .int (11 : Int32), .int (0 : Int32)]) at_426 (w222 hw) (w223 hw) (w2 hw) (w224 hw) (show parseMethodDescriptor "(Ljava/lang/String;[CII)Z" = some ⟨[(.object "java/lang/String"), (.array .char), .int, .int], some .boolean⟩ by decide +kernel) rfl (at_met hw hcs hfm (rs := [(102 : Int32), (101 : Int32), (110 : Int32), (99 : Int32), (101 : Int32), (58 : Int32), (123 : Int32), n0, n1, n2, (125 : Int32)]) (es := [(102 : Int32), (101 : Int32), (110 : Int32), (99 : Int32), (101 : Int32), (58 : Int32), (123 : Int32), n0, n1, n2, (125 : Int32), (0 : Int32), (0 : Int32)]) (k := 11) (i := 0) (S113.ext B213) A209 (nle rfl) (nle rfl) rfl (nle rfl)) (fun _ q => nomatch q) rfl rfl rfl (by decide) ⟨⟨nle rfl, nle rfl⟩, nle rfl, nle rfl⟩ ?_
  intro v217 h218 hq219 _
  obtain ⟨rfl, rfl⟩ := hq219
  show WlO _ _ _ _ _ _ _ _ _ _ _ _ _ _ _ _ _ _ [.int (1 : Int32)]
  refine Wl.ifN 432 at_429 (feq (by decide)).1 ?_
  refine Wl.aload 434 at_432 rfl rfl ?_
  refine Wl.aload 436 at_434 rfl rfl ?_
  refine Wl.iload 438 at_436 rfl ?_
  refine Wl.iconst 439 (1 : Int32) at_438 (by decide) ?_
  refine Wl.static 442 (argsL := [.ref s111, .ref a117, .int (11 : Int32), .int (1 : Int32)]) at_439 (w222 hw) (w223 hw) (w2 hw) (w224 hw) (show parseMethodDescriptor "(Ljava/lang/String;[CII)Z" = some ⟨[(.object "java/lang/String"), (.array .char), .int, .int], some .boolean⟩ by decide +kernel) rfl (at_met hw hcs hfm (rs := [(102 : Int32), (101 : Int32), (110 : Int32), (99 : Int32), (101 : Int32), (58 : Int32), (123 : Int32), n0, n1, n2, (125 : Int32)]) (es := [(102 : Int32), (101 : Int32), (110 : Int32), (99 : Int32), (101 : Int32), (58 : Int32), (123 : Int32), n0, n1, n2, (125 : Int32), (0 : Int32), (0 : Int32)]) (k := 11) (i := 1) (S113.ext B213) A209 (nle rfl) (nle rfl) rfl (nle rfl)) (fun _ q => nomatch q) rfl rfl rfl (by decide) ⟨⟨nle rfl, nle rfl⟩, nle rfl, nle rfl⟩ ?_
  intro v220 h221 hq222 _
  obtain ⟨rfl, rfl⟩ := hq222
  show WlO _ _ _ _ _ _ _ _ _ _ _ _ _ _ _ _ _ _ [.int (1 : Int32)]
  refine Wl.ifN 445 at_442 (feq (by decide)).1 ?_
  refine Wl.aload 447 at_445 rfl rfl ?_
  refine Wl.aload 449 at_447 rfl rfl ?_
  refine Wl.iload 451 at_449 rfl ?_
  refine Wl.iconst 452 (2 : Int32) at_451 (by decide) ?_
  refine Wl.static 455 (argsL := [.ref s111, .ref a117, .int (11 : Int32), .int (2 : Int32)]) at_452 (w222 hw) (w223 hw) (w2 hw) (w224 hw) (show parseMethodDescriptor "(Ljava/lang/String;[CII)Z" = some ⟨[(.object "java/lang/String"), (.array .char), .int, .int], some .boolean⟩ by decide +kernel) rfl (at_met hw hcs hfm (rs := [(102 : Int32), (101 : Int32), (110 : Int32), (99 : Int32), (101 : Int32), (58 : Int32), (123 : Int32), n0, n1, n2, (125 : Int32)]) (es := [(102 : Int32), (101 : Int32), (110 : Int32), (99 : Int32), (101 : Int32), (58 : Int32), (123 : Int32), n0, n1, n2, (125 : Int32), (0 : Int32), (0 : Int32)]) (k := 11) (i := 2) (S113.ext B213) A209 (nle rfl) (nle rfl) rfl (nle rfl)) (fun _ q => nomatch q) rfl rfl rfl (by decide) ⟨⟨nle rfl, nle rfl⟩, nle rfl, nle rfl⟩ ?_
  intro v223 h224 hq225 _
  obtain ⟨rfl, rfl⟩ := hq225
  show WlO _ _ _ _ _ _ _ _ _ _ _ _ _ _ _ _ _ _ [.int (1 : Int32)]
  refine Wl.ifN 458 at_455 (feq (by decide)).1 ?_
  refine Wl.aload 460 at_458 rfl rfl ?_
  refine Wl.aload 462 at_460 rfl rfl ?_
  refine Wl.iload 464 at_462 rfl ?_
  refine Wl.iconst 465 (3 : Int32) at_464 (by decide) ?_
  refine Wl.static 468 (argsL := [.ref s111, .ref a117, .int (11 : Int32), .int (3 : Int32)]) at_465 (w222 hw) (w223 hw) (w2 hw) (w224 hw) (show parseMethodDescriptor "(Ljava/lang/String;[CII)Z" = some ⟨[(.object "java/lang/String"), (.array .char), .int, .int], some .boolean⟩ by decide +kernel) rfl (at_met hw hcs hfm (rs := [(102 : Int32), (101 : Int32), (110 : Int32), (99 : Int32), (101 : Int32), (58 : Int32), (123 : Int32), n0, n1, n2, (125 : Int32)]) (es := [(102 : Int32), (101 : Int32), (110 : Int32), (99 : Int32), (101 : Int32), (58 : Int32), (123 : Int32), n0, n1, n2, (125 : Int32), (0 : Int32), (0 : Int32)]) (k := 11) (i := 3) (S113.ext B213) A209 (nle rfl) (nle rfl) rfl (nle rfl)) (fun _ q => nomatch q) rfl rfl rfl (by decide) ⟨⟨nle rfl, nle rfl⟩, nle rfl, nle rfl⟩ ?_
  intro v226 h227 hq228 _
  obtain ⟨rfl, rfl⟩ := hq228
  show WlO _ _ _ _ _ _ _ _ _ _ _ _ _ _ _ _ _ _ [.int (1 : Int32)]
  refine Wl.ifN 471 at_468 (feq (by decide)).1 ?_
  refine Wl.aload 473 at_471 rfl rfl ?_
  refine Wl.aload 475 at_473 rfl rfl ?_
  refine Wl.iload 477 at_475 rfl ?_
  refine Wl.iconst 478 (4 : Int32) at_477 (by decide) ?_
  refine Wl.static 481 (argsL := [.ref s111, .ref a117, .int (11 : Int32), .int (4 : Int32)]) at_478 (w222 hw) (w223 hw) (w2 hw) (w224 hw) (show parseMethodDescriptor "(Ljava/lang/String;[CII)Z" = some ⟨[(.object "java/lang/String"), (.array .char), .int, .int], some .boolean⟩ by decide +kernel) rfl (at_met hw hcs hfm (rs := [(102 : Int32), (101 : Int32), (110 : Int32), (99 : Int32), (101 : Int32), (58 : Int32), (123 : Int32), n0, n1, n2, (125 : Int32)]) (es := [(102 : Int32), (101 : Int32), (110 : Int32), (99 : Int32), (101 : Int32), (58 : Int32), (123 : Int32), n0, n1, n2, (125 : Int32), (0 : Int32), (0 : Int32)]) (k := 11) (i := 4) (S113.ext B213) A209 (nle rfl) (nle rfl) rfl (nle rfl)) (fun _ q => nomatch q) rfl rfl rfl (by decide) ⟨⟨nle rfl, nle rfl⟩, nle rfl, nle rfl⟩ ?_
  intro v229 h230 hq231 _
  obtain ⟨rfl, rfl⟩ := hq231
  show WlO _ _ _ _ _ _ _ _ _ _ _ _ _ _ _ _ _ _ [.int (1 : Int32)]
  refine Wl.ifN 484 at_481 (feq (by decide)).1 ?_
  refine Wl.aload 486 at_484 rfl rfl ?_
  refine Wl.aload 488 at_486 rfl rfl ?_
  refine Wl.iload 490 at_488 rfl ?_
  refine Wl.iconst 491 (5 : Int32) at_490 (by decide) ?_
  refine Wl.static 494 (argsL := [.ref s111, .ref a117, .int (11 : Int32), .int (5 : Int32)]) at_491 (w222 hw) (w223 hw) (w2 hw) (w224 hw) (show parseMethodDescriptor "(Ljava/lang/String;[CII)Z" = some ⟨[(.object "java/lang/String"), (.array .char), .int, .int], some .boolean⟩ by decide +kernel) rfl (at_met hw hcs hfm (rs := [(102 : Int32), (101 : Int32), (110 : Int32), (99 : Int32), (101 : Int32), (58 : Int32), (123 : Int32), n0, n1, n2, (125 : Int32)]) (es := [(102 : Int32), (101 : Int32), (110 : Int32), (99 : Int32), (101 : Int32), (58 : Int32), (123 : Int32), n0, n1, n2, (125 : Int32), (0 : Int32), (0 : Int32)]) (k := 11) (i := 5) (S113.ext B213) A209 (nle rfl) (nle rfl) rfl (nle rfl)) (fun _ q => nomatch q) rfl rfl rfl (by decide) ⟨⟨nle rfl, nle rfl⟩, nle rfl, nle rfl⟩ ?_
  intro v232 h233 hq234 _
  obtain ⟨rfl, rfl⟩ := hq234
  show WlO _ _ _ _ _ _ _ _ _ _ _ _ _ _ _ _ _ _ [.int (1 : Int32)]
  refine Wl.ifN 497 at_494 (feq (by decide)).1 ?_
  refine Wl.aload 499 at_497 rfl rfl ?_
  refine Wl.aload 501 at_499 rfl rfl ?_
  refine Wl.iload 503 at_501 rfl ?_
  refine Wl.bipush 505 (6 : Int32) at_503 (by decide) ?_
  refine Wl.static 508 (argsL := [.ref s111, .ref a117, .int (11 : Int32), .int (6 : Int32)]) at_505 (w222 hw) (w223 hw) (w2 hw) (w224 hw) (show parseMethodDescriptor "(Ljava/lang/String;[CII)Z" = some ⟨[(.object "java/lang/String"), (.array .char), .int, .int], some .boolean⟩ by decide +kernel) rfl (at_met hw hcs hfm (rs := [(102 : Int32), (101 : Int32), (110 : Int32), (99 : Int32), (101 : Int32), (58 : Int32), (123 : Int32), n0, n1, n2, (125 : Int32)]) (es := [(102 : Int32), (101 : Int32), (110 : Int32), (99 : Int32), (101 : Int32), (58 : Int32), (123 : Int32), n0, n1, n2, (125 : Int32), (0 : Int32), (0 : Int32)]) (k := 11) (i := 6) (S113.ext B213) A209 (nle rfl) (nle rfl) rfl (nle rfl)) (fun _ q => nomatch q) rfl rfl rfl (by decide) ⟨⟨nle rfl, nle rfl⟩, nle rfl, nle rfl⟩ ?_
  intro v235 h236 hq237 _
  obtain ⟨rfl, rfl⟩ := hq237
  show WlO _ _ _ _ _ _ _ _ _ _ _ _ _ _ _ _ _ _ [.int (1 : Int32)]
  refine Wl.ifN 511 at_508 (feq (by decide)).1 ?_
  refine Wl.aload 513 at_511 rfl rfl ?_
  refine Wl.aload 515 at_513 rfl rfl ?_
  refine Wl.iload 517 at_515 rfl ?_
  refine Wl.bipush 519 (7 : Int32) at_517 (by decide) ?_
  refine Wl.static 522 (argsL := [.ref s111, .ref a117, .int (11 : Int32), .int (7 : Int32)]) at_519 (w222 hw) (w223 hw) (w2 hw) (w224 hw) (show parseMethodDescriptor "(Ljava/lang/String;[CII)Z" = some ⟨[(.object "java/lang/String"), (.array .char), .int, .int], some .boolean⟩ by decide +kernel) rfl (at_met hw hcs hfm (rs := [(102 : Int32), (101 : Int32), (110 : Int32), (99 : Int32), (101 : Int32), (58 : Int32), (123 : Int32), n0, n1, n2, (125 : Int32)]) (es := [(102 : Int32), (101 : Int32), (110 : Int32), (99 : Int32), (101 : Int32), (58 : Int32), (123 : Int32), n0, n1, n2, (125 : Int32), (0 : Int32), (0 : Int32)]) (k := 11) (i := 7) (S113.ext B213) A209 (nle rfl) (nle rfl) rfl (nle rfl)) (fun _ q => nomatch q) rfl rfl rfl (by decide) ⟨⟨nle rfl, nle rfl⟩, nle rfl, nle rfl⟩ ?_
  intro v238 h239 hq240 _
  obtain ⟨rfl, rfl⟩ := hq240
  show WlO _ _ _ _ _ _ _ _ _ _ _ _ _ _ _ _ _ _ [.int (1 : Int32)]
  refine Wl.ifN 525 at_522 (feq (by decide)).1 ?_
  refine Wl.aload 527 at_525 rfl rfl ?_
  refine Wl.aload 529 at_527 rfl rfl ?_
  refine Wl.iload 531 at_529 rfl ?_
  refine Wl.bipush 533 (8 : Int32) at_531 (by decide) ?_
  refine Wl.static 536 (argsL := [.ref s111, .ref a117, .int (11 : Int32), .int (8 : Int32)]) at_533 (w222 hw) (w223 hw) (w2 hw) (w224 hw) (show parseMethodDescriptor "(Ljava/lang/String;[CII)Z" = some ⟨[(.object "java/lang/String"), (.array .char), .int, .int], some .boolean⟩ by decide +kernel) rfl (at_met hw hcs hfm (rs := [(102 : Int32), (101 : Int32), (110 : Int32), (99 : Int32), (101 : Int32), (58 : Int32), (123 : Int32), n0, n1, n2, (125 : Int32)]) (es := [(102 : Int32), (101 : Int32), (110 : Int32), (99 : Int32), (101 : Int32), (58 : Int32), (123 : Int32), n0, n1, n2, (125 : Int32), (0 : Int32), (0 : Int32)]) (k := 11) (i := 8) (S113.ext B213) A209 (nle rfl) (nle rfl) rfl (nle rfl)) (fun _ q => nomatch q) rfl rfl rfl (by decide) ⟨⟨nle rfl, nle rfl⟩, nle rfl, nle rfl⟩ ?_
  intro v241 h242 hq243 _
  obtain ⟨rfl, rfl⟩ := hq243
  show WlO _ _ _ _ _ _ _ _ _ _ _ _ _ _ _ _ _ _ [.int (1 : Int32)]
  refine Wl.ifN 539 at_536 (feq (by decide)).1 ?_
  refine Wl.aload 541 at_539 rfl rfl ?_
  refine Wl.aload 543 at_541 rfl rfl ?_
  refine Wl.iload 545 at_543 rfl ?_
  refine Wl.bipush 547 (9 : Int32) at_545 (by decide) ?_
  refine Wl.static 550 (argsL := [.ref s111, .ref a117, .int (11 : Int32), .int (9 : Int32)]) at_547 (w222 hw) (w223 hw) (w2 hw) (w224 hw) (show parseMethodDescriptor "(Ljava/lang/String;[CII)Z" = some ⟨[(.object "java/lang/String"), (.array .char), .int, .int], some .boolean⟩ by decide +kernel) rfl (at_met hw hcs hfm (rs := [(102 : Int32), (101 : Int32), (110 : Int32), (99 : Int32), (101 : Int32), (58 : Int32), (123 : Int32), n0, n1, n2, (125 : Int32)]) (es := [(102 : Int32), (101 : Int32), (110 : Int32), (99 : Int32), (101 : Int32), (58 : Int32), (123 : Int32), n0, n1, n2, (125 : Int32), (0 : Int32), (0 : Int32)]) (k := 11) (i := 9) (S113.ext B213) A209 (nle rfl) (nle rfl) rfl (nle rfl)) (fun _ q => nomatch q) rfl rfl rfl (by decide) ⟨⟨nle rfl, nle rfl⟩, nle rfl, nle rfl⟩ ?_
  intro v244 h245 hq246 _
  obtain ⟨rfl, rfl⟩ := hq246
  show WlO _ _ _ _ _ _ _ _ _ _ _ _ _ _ _ _ _ _ [.int (1 : Int32)]
  refine Wl.ifN 553 at_550 (feq (by decide)).1 ?_
  refine Wl.aload 555 at_553 rfl rfl ?_
  refine Wl.aload 557 at_555 rfl rfl ?_
  refine Wl.iload 559 at_557 rfl ?_
  refine Wl.bipush 561 (10 : Int32) at_559 (by decide) ?_
  refine Wl.static 564 (argsL := [.ref s111, .ref a117, .int (11 : Int32), .int (10 : Int32)]) at_561 (w222 hw) (w223 hw) (w2 hw) (w224 hw) (show parseMethodDescriptor "(Ljava/lang/String;[CII)Z" = some ⟨[(.object "java/lang/String"), (.array .char), .int, .int], some .boolean⟩ by decide +kernel) rfl (at_met hw hcs hfm (rs := [(102 : Int32), (101 : Int32), (110 : Int32), (99 : Int32), (101 : Int32), (58 : Int32), (123 : Int32), n0, n1, n2, (125 : Int32)]) (es := [(102 : Int32), (101 : Int32), (110 : Int32), (99 : Int32), (101 : Int32), (58 : Int32), (123 : Int32), n0, n1, n2, (125 : Int32), (0 : Int32), (0 : Int32)]) (k := 11) (i := 10) (S113.ext B213) A209 (nle rfl) (nle rfl) rfl (nle rfl)) (fun _ q => nomatch q) rfl rfl rfl (by decide) ⟨⟨nle rfl, nle rfl⟩, nle rfl, nle rfl⟩ ?_
  intro v247 h248 hq249 _
  obtain ⟨rfl, rfl⟩ := hq249
  show WlO _ _ _ _ _ _ _ _ _ _ _ _ _ _ _ _ _ _ [.int (1 : Int32)]
  refine Wl.ifN 567 at_564 (feq (by decide)).1 ?_
  refine Wl.aload 569 at_567 rfl rfl ?_
  refine Wl.aload 571 at_569 rfl rfl ?_
  refine Wl.iload 573 at_571 rfl ?_
  refine Wl.bipush 575 (11 : Int32) at_573 (by decide) ?_
  refine Wl.static 578 (argsL := [.ref s111, .ref a117, .int (11 : Int32), .int (11 : Int32)]) at_575 (w222 hw) (w223 hw) (w2 hw) (w224 hw) (show parseMethodDescriptor "(Ljava/lang/String;[CII)Z" = some ⟨[(.object "java/lang/String"), (.array .char), .int, .int], some .boolean⟩ by decide +kernel) rfl (at_met hw hcs hfm (rs := [(102 : Int32), (101 : Int32), (110 : Int32), (99 : Int32), (101 : Int32), (58 : Int32), (123 : Int32), n0, n1, n2, (125 : Int32)]) (es := [(102 : Int32), (101 : Int32), (110 : Int32), (99 : Int32), (101 : Int32), (58 : Int32), (123 : Int32), n0, n1, n2, (125 : Int32), (0 : Int32), (0 : Int32)]) (k := 11) (i := 11) (S113.ext B213) A209 (nle rfl) (nle rfl) rfl (nle rfl)) (fun _ q => nomatch q) rfl rfl rfl (by decide) ⟨⟨nle rfl, nle rfl⟩, nle rfl, nle rfl⟩ ?_
  intro v250 h251 hq252 _
  obtain ⟨rfl, rfl⟩ := hq252
  show WlO _ _ _ _ _ _ _ _ _ _ _ _ _ _ _ _ _ _ [.int (1 : Int32)]
  refine Wl.ifN 581 at_578 (feq (by decide)).1 ?_
  refine Wl.aload 583 at_581 rfl rfl ?_
  refine Wl.aload 585 at_583 rfl rfl ?_
  refine Wl.iload 587 at_585 rfl ?_
  refine Wl.bipush 589 (12 : Int32) at_587 (by decide) ?_
  refine Wl.static 592 (argsL := [.ref s111, .ref a117, .int (11 : Int32), .int (12 : Int32)]) at_589 (w222 hw) (w223 hw) (w2 hw) (w224 hw) (show parseMethodDescriptor "(Ljava/lang/String;[CII)Z" = some ⟨[(.object "java/lang/String"), (.array .char), .int, .int], some .boolean⟩ by decide +kernel) rfl (at_met hw hcs hfm (rs := [(102 : Int32), (101 : Int32), (110 : Int32), (99 : Int32), (101 : Int32), (58 : Int32), (123 : Int32), n0, n1, n2, (125 : Int32)]) (es := [(102 : Int32), (101 : Int32), (110 : Int32), (99 : Int32), (101 : Int32), (58 : Int32), (123 : Int32), n0, n1, n2, (125 : Int32), (0 : Int32), (0 : Int32)]) (k := 11) (i := 12) (S113.ext B213) A209 (nle rfl) (nle rfl) rfl (nle rfl)) (fun _ q => nomatch q) rfl rfl rfl (by decide) ⟨⟨nle rfl, nle rfl⟩, nle rfl, nle rfl⟩ ?_
  intro v253 h254 hq255 _
  obtain ⟨rfl, rfl⟩ := hq255
  show WlO _ _ _ _ _ _ _ _ _ _ _ _ _ _ _ _ _ _ [.int (1 : Int32)]
  refine Wl.ifN 595 at_592 (feq (by decide)).1 ?_
  refine Wl.iconst 596 (1 : Int32) at_595 (by decide) ?_
  refine Wl.goto 600 at_596 ?_
  exact Wl.ireturn at_600 rfl rfl (by simp) (nle rfl) (nle rfl) rfl
set_option maxRecDepth 65536 in
set_option maxHeartbeats 40000000 in
theorem law_t11 {l : Launch} {Z : State} {a0 : Array Value} (hw : ∀ d ∈ tables_1, d.before a0 Z = true) (hcs : CSon Z) (hfm : Fmt Z) {as : Array Value} {h : Heap} {i0 i1 p0 p1 n0 n1 n2 : Int32} (lp0 : Lat p0) (lp1 : Lat p1) (ln0 : Lat n0) (ln1 : Lat n1) (ln2 : Lat n2) (p0123 : p0 ≠ 123) (p0125 : p0 ≠ 125) (p1123 : p1 ≠ 123) (p1125 : p1 ≠ 125) (hn0 : ¬ n0 = (125 : Int32)) :
    Wl l Z a0 consts_1 x code maxLocals ret room_1 as (fun v h' => v = some (.int 1)) [] h 0 0 86 #[.val (.int i0), .val (.int i1), .val (.int (1 : Int32)), .val (.int p0), .val (.int p1), .val (.int (1 : Int32)), .val (.int n0), .val (.int n1), .val (.int n2), .unset, .unset, .unset, .unset, .unset] [] := by
  refine Wl.iload_n 87 at_86 rfl ?_
  refine Wl.ifY 103 at_87 (feq (by decide)).2 ?_
  refine Wl.iload_n 104 at_103 rfl ?_
  refine Wl.iconst 105 (1 : Int32) at_104 (by decide) ?_
  refine Wl.icmpN 108 at_105 (teq (by decide)).2 ?_
  refine Wl.new 111 at_108 (w4 hw) (w5 hw) (w6 hw) (nle rfl) (nle rfl) ?_
  intro a1 h2 q3 E4 X5 D6
  have z7 : h.size ≤ a1 := Nat.le_of_eq q3.symm
  have B8 : Ext h h2 := E4
  have F9 : Fld Z h2 a1 "java/lang/String" "value" "[B" (.null) := D6 (Or.inr (w20 hw)) (ty := (.array .byte)) (by decide)
  have F10 : Fld Z h2 a1 "java/lang/String" "coder" "B" (.int 0) := D6 (Or.inr (w21 hw)) (ty := .byte) (by decide)
  refine Wl.dup 112 at_111 rfl ?_
  refine Wl.iconst 113 (1 : Int32) at_112 (by decide) ?_
  refine Wl.newarray 115 1 at_113 (w7 hw) (by decide) (by decide) (by decide) (nle rfl) (nle rfl) ?_
  intro a11 h12 k13 q14 E15 A16
  have A16 : Arv Z h12 a11 k13 .char (1 : Int32) [.int 0] (.int 0) := A16
  have z17 : h.size ≤ a11 := Nat.le_trans B8.1 (Nat.le_of_eq q14.symm)
  have z18 : h2.size ≤ a11 := Nat.le_of_eq q14.symm
  have ne19 : a1 ≠ a11 := Nat.ne_of_lt (by rw [q14]; exact (X5).lt)
  have B20 : Ext h h12 := extTr B8 E15
  have B21 : Ext h2 h12 := E15
  refine Wl.dup 116 at_115 rfl ?_
  refine Wl.iconst 117 (0 : Int32) at_116 (by decide) ?_
  refine Wl.iload_n 118 at_117 rfl ?_
  refine Wl.castore 119 0 at_118 A16 (List.mem_of_getElem? (i := 0) rfl) (by decide) (by decide) (by decide) (nle rfl) ?_
  intro h22 W23 A24
  rw [nar_ch (lp0).ch] at A24
  have A24 : Arv Z h22 a11 k13 .char (1 : Int32) [.int p0] (.int 0) := A24
  have B25 : Ext h h22 := extWr B20 W23 z17
  have B26 : Ext h2 h22 := extWr B21 W23 z18
  refine Wl.special 122 (argsL := [.ref a11]) at_119 (w8 hw) (w9 hw) (w6 hw) (w10 hw) (show parseMethodDescriptor "([C)V" = some ⟨[(.array .char)], none⟩ by decide +kernel) rfl (strC_met hw hcs (cs := [p0]) 4 (nle rfl) (nle rfl)  (latC lp0 latN) (X5.ext B26) (F9.ext B26) (F10.ext B26) A24) (allS (List.mem_of_getElem? (i := 1) rfl) (fun _ q => nomatch q)) rfl rfl rfl rfl (by decide) ⟨⟨nle rfl, nle rfl⟩, nle rfl, nle rfl⟩ ?_
  intro v27 h28 hq29 _
  obtain ⟨rfl, K30, S31⟩ := hq29
  have B32 : Ext h h28 := extKeep B25 K30 (allS z7 all0)
  show WlO _ _ _ _ _ _ _ _ _ _ _ _ _ _ _ _ _ _ [.ref a1]
  refine Wl.goto 144 at_122 ?_
  refine Wl.astore 146 #[.val (.int i0), .val (.int i1), .val (.int (1 : Int32)), .val (.int p0), .val (.int p1), .val (.int (1 : Int32)), .val (.int n0), .val (.int n1), .val (.int n2), .val (.ref a1), .unset, .unset, .unset, .unset] at_144 rfl rfl ?_
  refine Wl.iload 148 at_146 rfl ?_
  refine Wl.iconst 149 (1 : Int32) at_148 (by decide) ?_
  refine Wl.icmpN 152 at_149 (teq (by decide)).2 ?_
  refine Wl.new 155 at_152 (w4 hw) (w5 hw) (w6 hw) (nle rfl) (nle rfl) ?_
  intro a33 h34 q35 E36 X37 D38
  have z39 : h.size ≤ a33 := Nat.le_trans B32.1 (Nat.le_of_eq q35.symm)
  have z40 : h28.size ≤ a33 := Nat.le_of_eq q35.symm
  have ne41 : a1 ≠ a33 := Nat.ne_of_lt (by rw [q35]; exact ((S31).exa).lt)
  have ne42 : a11 ≠ a33 := Nat.ne_of_lt (by rw [q35]; exact ((A24.keep K30 (ninS ne19.symm nin0))).lt)
  have B43 : Ext h h34 := extTr B32 E36
  have B44 : Ext h28 h34 := E36
  have F45 : Fld Z h34 a33 "java/lang/String" "value" "[B" (.null) := D38 (Or.inr (w20 hw)) (ty := (.array .byte)) (by decide)
  have F46 : Fld Z h34 a33 "java/lang/String" "coder" "B" (.int 0) := D38 (Or.inr (w21 hw)) (ty := .byte) (by decide)
  refine Wl.dup 156 at_155 rfl ?_
  refine Wl.iconst 157 (1 : Int32) at_156 (by decide) ?_
  refine Wl.newarray 159 1 at_157 (w7 hw) (by decide) (by decide) (by decide) (nle rfl) (nle rfl) ?_
  intro a47 h48 k49 q50 E51 A52
  have A52 : Arv Z h48 a47 k49 .char (1 : Int32) [.int 0] (.int 0) := A52
  have z53 : h.size ≤ a47 := Nat.le_trans B43.1 (Nat.le_of_eq q50.symm)
  have z54 : h28.size ≤ a47 := Nat.le_trans B44.1 (Nat.le_of_eq q50.symm)
  have z55 : h34.size ≤ a47 := Nat.le_of_eq q50.symm
  have ne56 : a1 ≠ a47 := Nat.ne_of_lt (by rw [q50]; exact (((S31).exa.ext E36)).lt)
  have ne57 : a11 ≠ a47 := Nat.ne_of_lt (by rw [q50]; exact (((A24.keep K30 (ninS ne19.symm nin0)).ext E36)).lt)
  have ne58 : a33 ≠ a47 := Nat.ne_of_lt (by rw [q50]; exact (X37).lt)
  have B59 : Ext h h48 := extTr B43 E51
  have B60 : Ext h28 h48 := extTr B44 E51
  have B61 : Ext h34 h48 := E51
  refine Wl.dup 160 at_159 rfl ?_
  refine Wl.iconst 161 (0 : Int32) at_160 (by decide) ?_
  refine Wl.iload 163 at_161 rfl ?_
  refine Wl.castore 164 0 at_163 A52 (List.mem_of_getElem? (i := 0) rfl) (by decide) (by decide) (by decide) (nle rfl) ?_
  intro h62 W63 A64
  rw [nar_ch (ln0).ch] at A64
  have A64 : Arv Z h62 a47 k49 .char (1 : Int32) [.int n0] (.int 0) := A64
  have B65 : Ext h h62 := extWr B59 W63 z53
  have B66 : Ext h28 h62 := extWr B60 W63 z54
  have B67 : Ext h34 h62 := extWr B61 W63 z55
  refine Wl.special 167 (argsL := [.ref a47]) at_164 (w8 hw) (w9 hw) (w6 hw) (w10 hw) (show parseMethodDescriptor "([C)V" = some ⟨[(.array .char)], none⟩ by decide +kernel) rfl (strC_met hw hcs (cs := [n0]) 4 (nle rfl) (nle rfl)  (latC ln0 latN) (X37.ext B67) (F45.ext B67) (F46.ext B67) A64) (allS (List.mem_of_getElem? (i := 1) rfl) (fun _ q => nomatch q)) rfl rfl rfl rfl (by decide) ⟨⟨nle rfl, nle rfl⟩, nle rfl, nle rfl⟩ ?_
  intro v68 h69 hq70 _
  obtain ⟨rfl, K71, S72⟩ := hq70
  have B73 : Ext h h69 := extKeep B65 K71 (allS z39 all0)
  have B74 : Ext h28 h69 := extKeep B66 K71 (allS z40 all0)
  show WlO _ _ _ _ _ _ _ _ _ _ _ _ _ _ _ _ _ _ [.ref a33]
  refine Wl.goto 224 at_167 ?_
  refine Wl.astore 226 #[.val (.int i0), .val (.int i1), .val (.int (1 : Int32)), .val (.int p0), .val (.int p1), .val (.int (1 : Int32)), .val (.int n0), .val (.int n1), .val (.int n2), .val (.ref a1), .val (.ref a33), .unset, .unset, .unset] at_224 rfl rfl ?_
  refine Wl.new 229 at_226 (w37 hw) (w38 hw) (w39 hw) (nle rfl) (nle rfl) ?_
  intro a75 h76 q77 E78 X79 D80
  have z81 : h.size ≤ a75 := Nat.le_trans B73.1 (Nat.le_of_eq q77.symm)
  have z82 : h28.size ≤ a75 := Nat.le_trans B74.1 (Nat.le_of_eq q77.symm)
  have z83 : h69.size ≤ a75 := Nat.le_of_eq q77.symm
  have ne84 : a1 ≠ a75 := Nat.ne_of_lt (by rw [q77]; exact (((S31).exa.ext B74)).lt)
  have ne85 : a11 ≠ a75 := Nat.ne_of_lt (by rw [q77]; exact (((A24.keep K30 (ninS ne19.symm nin0)).ext B74)).lt)
  have ne86 : a33 ≠ a75 := Nat.ne_of_lt (by rw [q77]; exact ((S72).exa).lt)
  have ne87 : a47 ≠ a75 := Nat.ne_of_lt (by rw [q77]; exact ((A64.keep K71 (ninS ne58.symm nin0))).lt)
  have B88 : Ext h h76 := extTr B73 E78
  have B89 : Ext h28 h76 := extTr B74 E78
  have B90 : Ext h69 h76 := E78
  have F91 : Fld Z h76 a75 "com/example/portunus/portunus/LockKeys" "prefix" "Ljava/lang/String;" (.null) := D80 (Or.inr (w89 hw)) (ty := (.object "java/lang/String")) (by decide)
  refine Wl.dup 230 at_229 rfl ?_
  refine Wl.aload 232 at_230 rfl rfl ?_
  refine Wl.special 235 (argsL := [.ref a1]) at_232 (w40 hw) (w41 hw) (w39 hw) (w42 hw) (show parseMethodDescriptor "(Ljava/lang/String;)V" = some ⟨[(.object "java/lang/String")], none⟩ by decide +kernel) rfl (keys_met hw hcs X79 F91 (cs := [p0]) (S31.ext B89) (neC p0123 neN) (neC p0125 neN)) (allS (List.mem_of_getElem? (i := 0) rfl) (fun _ q => nomatch q)) rfl rfl rfl rfl (by decide) ⟨⟨nle rfl, nle rfl⟩, nle rfl, nle rfl⟩ ?_
  intro v92 h93 hq94 _
  obtain ⟨rfl, K95, X96, F97⟩ := hq94
  have B98 : Ext h h93 := extKeep B88 K95 (allS z81 all0)
  have B99 : Ext h28 h93 := extKeep B89 K95 (allS z82 all0)
  have B100 : Ext h69 h93 := extKeep B90 K95 (allS z83 all0)
  show WlO _ _ _ _ _ _ _ _ _ _ _ _ _ _ _ _ _ _ [.ref a75]
  refine Wl.aload 237 at_235 rfl rfl ?_
  refine Wl.virtual 240 (argsL := [.ref a33]) at_237 (w90 hw) (w91 hw) (w93 hw) (w92 hw) (w39 hw) (w94 hw) (nf_sel (w93 hw) rfl) X96 (show parseMethodDescriptor "(Ljava/lang/String;)Ljava/lang/String;" = some ⟨[(.object "java/lang/String")], some (.object "java/lang/String")⟩ by decide +kernel) rfl (key_met hw hcs hfm (cs := [n0]) (ps := [p0]) F97 (S31.ext B99) (nle rfl) (S72.ext B100) (by simp) (nle rfl) hn0 (nle rfl)) (fun _ q => nomatch q) rfl rfl rfl (by decide) ⟨⟨nle rfl, nle rfl⟩, nle rfl, nle rfl⟩ ?_
  intro v101 h102 hq103 _
  obtain ⟨s104, rfl, E105, S106⟩ := hq103
  have S106 : Stl Z h102 s104 [p0, (102 : Int32), (101 : Int32), (110 : Int32), (99 : Int32), (101 : Int32), (58 : Int32), (123 : Int32), n0, (125 : Int32)] := S106
  have B107 : Ext h h102 := extTr B98 E105
  have B108 : Ext h28 h102 := extTr B99 E105
  have B109 : Ext h69 h102 := extTr B100 E105
  show WlO _ _ _ _ _ _ _ _ _ _ _ _ _ _ _ _ _ _ [.ref s104]
  refine Wl.astore 242 #[.val (.int i0), .val (.int i1), .val (.int (1 : Int32)), .val (.int p0), .val (.int p1), .val (.int (1 : Int32)), .val (.int n0), .val (.int n1), .val (.int n2), .val (.ref a1), .val (.ref a33), .val (.ref s104), .unset, .unset] at_240 rfl rfl ?_
  refine Wl.bipush 244 (13 : Int32) at_242 (by decide) ?_
  refine Wl.newarray 246 13 at_244 (w7 hw) (by decide) (by decide) (by decide) (nle rfl) (nle rfl) ?_
  intro a110 h111 k112 q113 E114 A115
  have A115 : Arv Z h111 a110 k112 .char (13 : Int32) [.int 0, .int 0, .int 0, .int 0, .int 0, .int 0, .int 0, .int 0, .int 0, .int 0, .int 0, .int 0, .int 0] (.int 0) := A115
  have z116 : h.size ≤ a110 := Nat.le_trans B107.1 (Nat.le_of_eq q113.symm)
  have z117 : h28.size ≤ a110 := Nat.le_trans B108.1 (Nat.le_of_eq q113.symm)
  have z118 : h69.size ≤ a110 := Nat.le_trans B109.1 (Nat.le_of_eq q113.symm)
  have z119 : h102.size ≤ a110 := Nat.le_of_eq q113.symm
  have ne120 : a1 ≠ a110 := Nat.ne_of_lt (by rw [q113]; exact (((S31).exa.ext B108)).lt)
  have ne121 : a11 ≠ a110 := Nat.ne_of_lt (by rw [q113]; exact (((A24.keep K30 (ninS ne19.symm nin0)).ext B108)).lt)
  have ne122 : a33 ≠ a110 := Nat.ne_of_lt (by rw [q113]; exact (((S72).exa.ext B109)).lt)
  have ne123 : a47 ≠ a110 := Nat.ne_of_lt (by rw [q113]; exact (((A64.keep K71 (ninS ne58.symm nin0)).ext B109)).lt)
  have ne124 : a75 ≠ a110 := Nat.ne_of_lt (by rw [q113]; exact ((X96.ext E105)).lt)
  have ne125 : s104 ≠ a110 := Nat.ne_of_lt (by rw [q113]; exact ((S106).exa).lt)
  have B126 : Ext h h111 := extTr B107 E114
  have B127 : Ext h28 h111 := extTr B108 E114
  have B128 : Ext h69 h111 := extTr B109 E114
  have B129 : Ext h102 h111 := E114
  refine Wl.astore 248 #[.val (.int i0), .val (.int i1), .val (.int (1 : Int32)), .val (.int p0), .val (.int p1), .val (.int (1 : Int32)), .val (.int n0), .val (.int n1), .val (.int n2), .val (.ref a1), .val (.ref a33), .val (.ref s104), .val (.ref a110), .unset] at_246 rfl rfl ?_
  refine Wl.iconst 249 (0 : Int32) at_248 (by decide) ?_
  refine Wl.istore 251 #[.val (.int i0), .val (.int i1), .val (.int (1 : Int32)), .val (.int p0), .val (.int p1), .val (.int (1 : Int32)), .val (.int n0), .val (.int n1), .val (.int n2), .val (.ref a1), .val (.ref a33), .val (.ref s104), .val (.ref a110), .val (.int (0 : Int32))] at_249 rfl ?_
  refine Wl.iload_n 252 at_251 rfl ?_
  refine Wl.iconst 253 (1 : Int32) at_252 (by decide) ?_
  refine Wl.icmpN 256 at_253 (flt (by decide)).1 ?_
  refine Wl.aload 258 at_256 rfl rfl ?_
  refine Wl.iload 260 at_258 rfl ?_
  refine Wl.iload_n 261 at_260 rfl ?_
  refine Wl.castore 262 0 at_261 A115 (List.mem_of_getElem? (i := 0) rfl) (by decide) (by decide) (by decide) (nle rfl) ?_
  intro h130 W131 A132
  rw [nar_ch (lp0).ch] at A132
  have A132 : Arv Z h130 a110 k112 .char (13 : Int32) [.int p0, .int (0 : Int32), .int (0 : Int32), .int (0 : Int32), .int (0 : Int32), .int (0 : Int32), .int (0 : Int32), .int (0 : Int32), .int (0 : Int32), .int (0 : Int32), .int (0 : Int32), .int (0 : Int32), .int (0 : Int32)] (.int 0) := A132
  have B133 : Ext h h130 := extWr B126 W131 z116
  have B134 : Ext h28 h130 := extWr B127 W131 z117
  have B135 : Ext h69 h130 := extWr B128 W131 z118
  have B136 : Ext h102 h130 := extWr B129 W131 z119
  refine Wl.iinc 265 #[.val (.int i0), .val (.int i1), .val (.int (1 : Int32)), .val (.int p0), .val (.int p1), .val (.int (1 : Int32)), .val (.int n0), .val (.int n1), .val (.int n2), .val (.ref a1), .val (.ref a33), .val (.ref s104), .val (.ref a110), .val (.int (1 : Int32))] (1 : Int32) at_262 (by decide) rfl rfl ?_
  refine Wl.iload_n 266 at_265 rfl ?_
  refine Wl.iconst 267 (2 : Int32) at_266 (by decide) ?_
  refine Wl.icmpY 280 at_267 (tlt (by decide)).1 ?_
  refine Wl.aload 282 at_280 rfl rfl ?_
  refine Wl.iload 284 at_282 rfl ?_
  refine Wl.bipush 286 (102 : Int32) at_284 (by decide) ?_
  refine Wl.castore 287 1 at_286 A132 (List.mem_of_getElem? (i := 0) rfl) (by decide) (by decide) (by decide) (nle rfl) ?_
  intro h137 W138 A139
  rw [nar_ch (by decide)] at A139
  have A139 : Arv Z h137 a110 k112 .char (13 : Int32) [.int p0, .int (102 : Int32), .int (0 : Int32), .int (0 : Int32), .int (0 : Int32), .int (0 : Int32), .int (0 : Int32), .int (0 : Int32), .int (0 : Int32), .int (0 : Int32), .int (0 : Int32), .int (0 : Int32), .int (0 : Int32)] (.int 0) := A139
  have B140 : Ext h h137 := extWr B133 W138 z116
  have B141 : Ext h28 h137 := extWr B134 W138 z117
  have B142 : Ext h69 h137 := extWr B135 W138 z118
  have B143 : Ext h102 h137 := extWr B136 W138 z119
  refine Wl.iinc 290 #[.val (.int i0), .val (.int i1), .val (.int (1 : Int32)), .val (.int p0), .val (.int p1), .val (.int (1 : Int32)), .val (.int n0), .val (.int n1), .val (.int n2), .val (.ref a1), .val (.ref a33), .val (.ref s104), .val (.ref a110), .val (.int (2 : Int32))] (1 : Int32) at_287 (by decide) rfl rfl ?_
  refine Wl.aload 292 at_290 rfl rfl ?_
  refine Wl.iload 294 at_292 rfl ?_
  refine Wl.bipush 296 (101 : Int32) at_294 (by decide) ?_
  refine Wl.castore 297 2 at_296 A139 (List.mem_of_getElem? (i := 0) rfl) (by decide) (by decide) (by decide) (nle rfl) ?_
  intro h144 W145 A146
  rw [nar_ch (by decide)] at A146
  have A146 : Arv Z h144 a110 k112 .char (13 : Int32) [.int p0, .int (102 : Int32), .int (101 : Int32), .int (0 : Int32), .int (0 : Int32), .int (0 : Int32), .int (0 : Int32), .int (0 : Int32), .int (0 : Int32), .int (0 : Int32), .int (0 : Int32), .int (0 : Int32), .int (0 : Int32)] (.int 0) := A146
  have B147 : Ext h h144 := extWr B140 W145 z116
  have B148 : Ext h28 h144 := extWr B141 W145 z117
  have B149 : Ext h69 h144 := extWr B142 W145 z118
  have B150 : Ext h102 h144 := extWr B143 W145 z119
  refine Wl.iinc 300 #[.val (.int i0), .val (.int i1), .val (.int (1 : Int32)), .val (.int p0), .val (.int p1), .val (.int (1 : Int32)), .val (.int n0), .val (.int n1), .val (.int n2), .val (.ref a1), .val (.ref a33), .val (.ref s104), .val (.ref a110), .val (.int (3 : Int32))] (1 : Int32) at_297 (by decide) rfl rfl ?_
  refine Wl.aload 302 at_300 rfl rfl ?_
  refine Wl.iload 304 at_302 rfl ?_
  refine Wl.bipush 306 (110 : Int32) at_304 (by decide) ?_
  refine Wl.castore 307 3 at_306 A146 (List.mem_of_getElem? (i := 0) rfl) (by decide) (by decide) (by decide) (nle rfl) ?_
  intro h151 W152 A153
  rw [nar_ch (by decide)] at A153
  have A153 : Arv Z h151 a110 k112 .char (13 : Int32) [.int p0, .int (102 : Int32), .int (101 : Int32), .int (110 : Int32), .int (0 : Int32), .int (0 : Int32), .int (0 : Int32), .int (0 : Int32), .int (0 : Int32), .int (0 : Int32), .int (0 : Int32), .int (0 : Int32), .int (0 : Int32)] (.int 0) := A153
  have B154 : Ext h h151 := extWr B147 W152 z116
  have B155 : Ext h28 h151 := extWr B148 W152 z117
  have B156 : Ext h69 h151 := extWr B149 W152 z118
  have B157 : Ext h102 h151 := extWr B150 W152 z119
  refine Wl.iinc 310 #[.val (.int i0), .val (.int i1), .val (.int (1 : Int32)), .val (.int p0), .val (.int p1), .val (.int (1 : Int32)), .val (.int n0), .val (.int n1), .val (.int n2), .val (.ref a1), .val (.ref a33), .val (.ref s104), .val (.ref a110), .val (.int (4 : Int32))] (1 : Int32) at_307 (by decide) rfl rfl ?_
  refine Wl.aload 312 at_310 rfl rfl ?_
  refine Wl.iload 314 at_312 rfl ?_
  refine Wl.bipush 316 (99 : Int32) at_314 (by decide) ?_
  refine Wl.castore 317 4 at_316 A153 (List.mem_of_getElem? (i := 0) rfl) (by decide) (by decide) (by decide) (nle rfl) ?_
  intro h158 W159 A160
  rw [nar_ch (by decide)] at A160
  have A160 : Arv Z h158 a110 k112 .char (13 : Int32) [.int p0, .int (102 : Int32), .int (101 : Int32), .int (110 : Int32), .int (99 : Int32), .int (0 : Int32), .int (0 : Int32), .int (0 : Int32), .int (0 : Int32), .int (0 : Int32), .int (0 : Int32), .int (0 : Int32), .int (0 : Int32)] (.int 0) := A160
  have B161 : Ext h h158 := extWr B154 W159 z116
  have B162 : Ext h28 h158 := extWr B155 W159 z117
  have B163 : Ext h69 h158 := extWr B156 W159 z118
  have B164 : Ext h102 h158 := extWr B157 W159 z119
  refine Wl.iinc 320 #[.val (.int i0), .val (.int i1), .val (.int (1 : Int32)), .val (.int p0), .val (.int p1), .val (.int (1 : Int32)), .val (.int n0), .val (.int n1), .val (.int n2), .val (.ref a1), .val (.ref a33), .val (.ref s104), .val (.ref a110), .val (.int (5 : Int32))] (1 : Int32) at_317 (by decide) rfl rfl ?_
  refine Wl.aload 322 at_320 rfl rfl ?_
  refine Wl.iload 324 at_322 rfl ?_
  refine Wl.bipush 326 (101 : Int32) at_324 (by decide) ?_
  refine Wl.castore 327 5 at_326 A160 (List.mem_of_getElem? (i := 0) rfl) (by decide) (by decide) (by decide) (nle rfl) ?_
  intro h165 W166 A167
  rw [nar_ch (by decide)] at A167
  have A167 : Arv Z h165 a110 k112 .char (13 : Int32) [.int p0, .int (102 : Int32), .int (101 : Int32), .int (110 : Int32), .int (99 : Int32), .int (101 : Int32), .int (0 : Int32), .int (0 : Int32), .int (0 : Int32), .int (0 : Int32), .int (0 : Int32), .int (0 : Int32), .int (0 : Int32)] (.int 0) := A167
  have B168 : Ext h h165 := extWr B161 W166 z116
  have B169 : Ext h28 h165 := extWr B162 W166 z117
  have B170 : Ext h69 h165 := extWr B163 W166 z118
  have B171 : Ext h102 h165 := extWr B164 W166 z119
  refine Wl.iinc 330 #[.val (.int i0), .val (.int i1), .val (.int (1 : Int32)), .val (.int p0), .val (.int p1), .val (.int (1 : Int32)), .val (.int n0), .val (.int n1), .val (.int n2), .val (.ref a1), .val (.ref a33), .val (.ref s104), .val (.ref a110), .val (.int (6 : Int32))] (1 : Int32) at_327 (by decide) rfl rfl ?_
  refine Wl.aload 332 at_330 rfl rfl ?_
  refine Wl.iload 334 at_332 rfl ?_
  refine Wl.bipush 336 (58 : Int32) at_334 (by decide) ?_
  refine Wl.castore 337 6 at_336 A167 (List.mem_of_getElem? (i := 0) rfl) (by decide) (by decide) (by decide) (nle rfl) ?_
  intro h172 W173 A174
  rw [nar_ch (by decide)] at A174
  have A174 : Arv Z h172 a110 k112 .char (13 : Int32) [.int p0, .int (102 : Int32), .int (101 : Int32), .int (110 : Int32), .int (99 : Int32), .int (101 : Int32), .int (58 : Int32), .int (0 : Int32), .int (0 : Int32), .int (0 : Int32), .int (0 : Int32), .int (0 : Int32), .int (0 : Int32)] (.int 0) := A174
  have B175 : Ext h h172 := extWr B168 W173 z116
  have B176 : Ext h28 h172 := extWr B169 W173 z117
  have B177 : Ext h69 h172 := extWr B170 W173 z118
  have B178 : Ext h102 h172 := extWr B171 W173 z119
  refine Wl.iinc 340 #[.val (.int i0), .val (.int i1), .val (.int (1 : Int32)), .val (.int p0), .val (.int p1), .val (.int (1 : Int32)), .val (.int n0), .val (.int n1), .val (.int n2), .val (.ref a1), .val (.ref a33), .val (.ref s104), .val (.ref a110), .val (.int (7 : Int32))] (1 : Int32) at_337 (by decide) rfl rfl ?_
  refine Wl.aload 342 at_340 rfl rfl ?_
  refine Wl.iload 344 at_342 rfl ?_
  refine Wl.bipush 346 (123 : Int32) at_344 (by decide) ?_
  refine Wl.castore 347 7 at_346 A174 (List.mem_of_getElem? (i := 0) rfl) (by decide) (by decide) (by decide) (nle rfl) ?_
  intro h179 W180 A181
  rw [nar_ch (by decide)] at A181
  have A181 : Arv Z h179 a110 k112 .char (13 : Int32) [.int p0, .int (102 : Int32), .int (101 : Int32), .int (110 : Int32), .int (99 : Int32), .int (101 : Int32), .int (58 : Int32), .int (123 : Int32), .int (0 : Int32), .int (0 : Int32), .int (0 : Int32), .int (0 : Int32), .int (0 : Int32)] (.int 0) := A181
  have B182 : Ext h h179 := extWr B175 W180 z116
  have B183 : Ext h28 h179 := extWr B176 W180 z117
  have B184 : Ext h69 h179 := extWr B177 W180 z118
  have B185 : Ext h102 h179 := extWr B178 W180 z119
  refine Wl.iinc 350 #[.val (.int i0), .val (.int i1), .val (.int (1 : Int32)), .val (.int p0), .val (.int p1), .val (.int (1 : Int32)), .val (.int n0), .val (.int n1), .val (.int n2), .val (.ref a1), .val (.ref a33), .val (.ref s104), .val (.ref a110), .val (.int (8 : Int32))] (1 : Int32) at_347 (by decide) rfl rfl ?_
  refine Wl.aload 352 at_350 rfl rfl ?_
  refine Wl.iload 354 at_352 rfl ?_
  refine Wl.iload 356 at_354 rfl ?_
  refine Wl.castore 357 8 at_356 A181 (List.mem_of_getElem? (i := 0) rfl) (by decide) (by decide) (by decide) (nle rfl) ?_
  intro h186 W187 A188
  rw [nar_ch (ln0).ch] at A188
  have A188 : Arv Z h186 a110 k112 .char (13 : Int32) [.int p0, .int (102 : Int32), .int (101 : Int32), .int (110 : Int32), .int (99 : Int32), .int (101 : Int32), .int (58 : Int32), .int (123 : Int32), .int n0, .int (0 : Int32), .int (0 : Int32), .int (0 : Int32), .int (0 : Int32)] (.int 0) := A188
  have B189 : Ext h h186 := extWr B182 W187 z116
  have B190 : Ext h28 h186 := extWr B183 W187 z117
  have B191 : Ext h69 h186 := extWr B184 W187 z118
  have B192 : Ext h102 h186 := extWr B185 W187 z119
  refine Wl.iinc 360 #[.val (.int i0), .val (.int i1), .val (.int (1 : Int32)), .val (.int p0), .val (.int p1), .val (.int (1 : Int32)), .val (.int n0), .val (.int n1), .val (.int n2), .val (.ref a1), .val (.ref a33), .val (.ref s104), .val (.ref a110), .val (.int (9 : Int32))] (1 : Int32) at_357 (by decide) rfl rfl ?_
  refine Wl.iload 362 at_360 rfl ?_
  refine Wl.iconst 363 (2 : Int32) at_362 (by decide) ?_
  refine Wl.icmpY 376 at_363 (tlt (by decide)).1 ?_
  refine Wl.iload 378 at_376 rfl ?_
  refine Wl.iconst 379 (3 : Int32) at_378 (by decide) ?_
  refine Wl.icmpY 392 at_379 (tlt (by decide)).1 ?_
  refine Wl.aload 394 at_392 rfl rfl ?_
  refine Wl.iload 396 at_394 rfl ?_
  refine Wl.bipush 398 (125 : Int32) at_396 (by decide) ?_
  refine Wl.castore 399 9 at_398 A188 (List.mem_of_getElem? (i := 0) rfl) (by decide) (by decide) (by decide) (nle rfl) ?_
  intro h193 W194 A195
  rw [nar_ch (by decide)] at A195
  have A195 : Arv Z h193 a110 k112 .char (13 : Int32) [.int p0, .int (102 : Int32), .int (101 : Int32), .int (110 : Int32), .int (99 : Int32), .int (101 : Int32), .int (58 : Int32), .int (123 : Int32), .int n0, .int (125 : Int32), .int (0 : Int32), .int (0 : Int32), .int (0 : Int32)] (.int 0) := A195
  have B196 : Ext h h193 := extWr B189 W194 z116
  have B197 : Ext h28 h193 := extWr B190 W194 z117
  have B198 : Ext h69 h193 := extWr B191 W194 z118
  have B199 : Ext h102 h193 := extWr B192 W194 z119
  refine Wl.iinc 402 #[.val (.int i0), .val (.int i1), .val (.int (1 : Int32)), .val (.int p0), .val (.int p1), .val (.int (1 : Int32)), .val (.int n0), .val (.int n1), .val (.int n2), .val (.ref a1), .val (.ref a33), .val (.ref s104), .val (.ref a110), .val (.int (10 : Int32))] (1 : Int32) at_399 (by decide) rfl rfl ?_
  refine Wl.aload 404 at_402 rfl rfl ?_
  refine Wl.ifnullN 407 at_404 ?_
  refine Wl.aload 409 at_407 rfl rfl ?_
  refine Wl.virtual 412 (argsL := []) at_409 (w221 hw) (w65 hw) (w67 hw) (w66 hw) (w6 hw) (w68 hw) (nf_sel (w67 hw) rfl) ((S106).exa.ext B199) (show parseMethodDescriptor "()I" = some ⟨[], some .int⟩ by decide +kernel) rfl (len_met hw hcs (S106.ext B199)) (fun _ q => nomatch q) rfl rfl rfl (by decide) ⟨⟨nle rfl, nle rfl⟩, nle rfl, nle rfl⟩ ?_
  intro v200 h201 hq202 _
  obtain ⟨rfl, rfl⟩ := hq202
  show WlO _ _ _ _ _ _ _ _ _ _ _ _ _ _ _ _ _ _ [.int (10 : Int32)]
  refine Wl.iload 414 at_412 rfl ?_
  refine Wl.icmpY 419 at_414 (teq (by decide)).1 ?_
  refine Wl.aload 421 at_419 rfl rfl ?_
  refine Wl.aload 423 at_421 rfl rfl ?_
  refine Wl.iload 425 at_423 rfl ?_
  refine Wl.iconst 426 (0 : Int32) at_425 (by decide) ?_
  refine Wl.static 429 (argsL := [.ref s104, .ref a110, .int (10 : Int32), .int (0 : Int32)]) at_426 (w222 hw) (w223 hw) (w2 hw) (w224 hw) (show parseMethodDescriptor "(Ljava/lang/String;[CII)Z" = some ⟨[(.object "java/lang/String"), (.array .char), .int, .int], some .boolean⟩ by decide +kernel) rfl (at_met hw hcs hfm (rs := [p0, (102 : Int32), (101 : Int32), (110 : Int32), (99 : Int32), (101 : Int32), (58 : Int32), (123 : Int32), n0, (125 : Int32)]) (es := [p0, (102 : Int32), (101 : Int32), (110 : Int32), (99 : Int32), (101 : Int32), (58 : Int32), (123 : Int32), n0, (125 : Int32), (0 : Int32), (0 : Int32), (0 : Int32)]) (k := 10) (i := 0) (S106.ext B199) A195 (nle rfl) (nle rfl) rfl (nle rfl)) (fun _ q => nomatch q) rfl rfl rfl (by decide) ⟨⟨nle rfl, nle rfl⟩, nle rfl, nle rfl⟩ ?_
  intro v203 h204 hq205 _
  obtain ⟨rfl, rfl⟩ := hq205
  show WlO _ _ _ _ _ _ _ _ _ _ _ _ _ _ _ _ _ _ [.int (1 : Int32)]
  refine Wl.ifN 432 at_429 (feq (by decide)).1 ?_
  refine Wl.aload 434 at_432 rfl rfl ?_
  refine Wl.aload 436 at_434 rfl rfl ?_
  refine Wl.iload 438 at_436 rfl ?_
  refine Wl.iconst 439 (1 : Int32) at_438 (by decide) ?_
  refine Wl.static 442 (argsL := [.ref s104, .ref a110, .int (10 : Int32), .int (1 : Int32)]) at_439 (w222 hw) (w223 hw) (w2 hw) (w224 hw) (show parseMethodDescriptor "(Ljava/lang/String;[CII)Z" = some ⟨[(.object "java/lang/String"), (.array .char), .int, .int], some .boolean⟩ by decide +kernel) rfl (at_met hw hcs hfm (rs := [p0, (102 : Int32), (101 : Int32), (110 : Int32), (99 : Int32), (101 : Int32), (58 : Int32), (123 : Int32), n0, (125 : Int32)]) (es := [p0, (102 : Int32), (101 : Int32), (110 : Int32), (99 : Int32), (101 : Int32), (58 : Int32), (123 : Int32), n0, (125 : Int32), (0 : Int32), (0 : Int32), (0 : Int32)]) (k := 10) (i := 1) (S106.ext B199) A195 (nle rfl) (nle rfl) rfl (nle rfl)) (fun _ q => nomatch q) rfl rfl rfl (by decide) ⟨⟨nle rfl, nle rfl⟩, nle rfl, nle rfl⟩ ?_
  intro v206 h207 hq208 _
  obtain ⟨rfl, rfl⟩ := hq208
  show WlO _ _ _ _ _ _ _ _ _ _ _ _ _ _ _ _ _ _ [.int (1 : Int32)]
  refine Wl.ifN 445 at_442 (feq (by decide)).1 ?_
  refine Wl.aload 447 at_445 rfl rfl ?_
  refine Wl.aload 449 at_447 rfl rfl ?_
  refine Wl.iload 451 at_449 rfl ?_
  refine Wl.iconst 452 (2 : Int32) at_451 (by decide) ?_
  refine Wl.static 455 (argsL := [.ref s104, .ref a110, .int (10 : Int32), .int (2 : Int32)]) at_452 (w222 hw) (w223 hw) (w2 hw) (w224 hw) (show parseMethodDescriptor "(Ljava/lang/String;[CII)Z" = some ⟨[(.object "java/lang/String"), (.array .char), .int, .int], some .boolean⟩ by decide +kernel) rfl (at_met hw hcs hfm (rs := [p0, (102 : Int32), (101 : Int32), (110 : Int32), (99 : Int32), (101 : Int32), (58 : Int32), (123 : Int32), n0, (125 : Int32)]) (es := [p0, (102 : Int32), (101 : Int32), (110 : Int32), (99 : Int32), (101 : Int32), (58 : Int32), (123 : Int32), n0, (125 : Int32), (0 : Int32), (0 : Int32), (0 : Int32)]) (k := 10) (i := 2) (S106.ext B199) A195 (nle rfl) (nle rfl) rfl (nle rfl)) (fun _ q => nomatch q) rfl rfl rfl (by decide) ⟨⟨nle rfl, nle rfl⟩, nle rfl, nle rfl⟩ ?_
  intro v209 h210 hq211 _
  obtain ⟨rfl, rfl⟩ := hq211
  show WlO _ _ _ _ _ _ _ _ _ _ _ _ _ _ _ _ _ _ [.int (1 : Int32)]
  refine Wl.ifN 458 at_455 (feq (by decide)).1 ?_
  refine Wl.aload 460 at_458 rfl rfl ?_
  refine Wl.aload 462 at_460 rfl rfl ?_
  refine Wl.iload 464 at_462 rfl ?_
  refine Wl.iconst 465 (3 : Int32) at_464 (by decide) ?_
  refine Wl.static 468 (argsL := [.ref s104, .ref a110, .int (10 : Int32), .int (3 : Int32)]) at_465 (w222 hw) (w223 hw) (w2 hw) (w224 hw) (show parseMethodDescriptor "(Ljava/lang/String;[CII)Z" = some ⟨[(.object "java/lang/String"), (.array .char), .int, .int], some .boolean⟩ by decide +kernel) rfl (at_met hw hcs hfm (rs := [p0, (102 : Int32), (101 : Int32), (110 : Int32), (99 : Int32), (101 : Int32), (58 : Int32), (123 : Int32), n0, (125 : Int32)]) (es := [p0, (102 : Int32), (101 : Int32), (110 : Int32), (99 : Int32), (101 : Int32), (58 : Int32), (123 : Int32), n0, (125 : Int32), (0 : Int32), (0 : Int32), (0 : Int32)]) (k := 10) (i := 3) (S106.ext B199) A195 (nle rfl) (nle rfl) rfl (nle rfl)) (fun _ q => nomatch q) rfl rfl rfl (by decide) ⟨⟨nle rfl, nle rfl⟩, nle rfl, nle rfl⟩ ?_
  intro v212 h213 hq214 _
  obtain ⟨rfl, rfl⟩ := hq214
  show WlO _ _ _ _ _ _ _ _ _ _ _ _ _ _ _ _ _ _ [.int (1 : Int32)]
  refine Wl.ifN 471 at_468 (feq (by decide)).1 ?_
  refine Wl.aload 473 at_471 rfl rfl ?_
  refine Wl.aload 475 at_473 rfl rfl ?_
  refine Wl.iload 477 at_475 rfl ?_
  refine Wl.iconst 478 (4 : Int32) at_477 (by decide) ?_
  refine Wl.static 481 (argsL := [.ref s104, .ref a110, .int (10 : Int32), .int (4 : Int32)]) at_478 (w222 hw) (w223 hw) (w2 hw) (w224 hw) (show parseMethodDescriptor "(Ljava/lang/String;[CII)Z" = some ⟨[(.object "java/lang/String"), (.array .char), .int, .int], some .boolean⟩ by decide +kernel) rfl (at_met hw hcs hfm (rs := [p0, (102 : Int32), (101 : Int32), (110 : Int32), (99 : Int32), (101 : Int32), (58 : Int32), (123 : Int32), n0, (125 : Int32)]) (es := [p0, (102 : Int32), (101 : Int32), (110 : Int32), (99 : Int32), (101 : Int32), (58 : Int32), (123 : Int32), n0, (125 : Int32), (0 : Int32), (0 : Int32), (0 : Int32)]) (k := 10) (i := 4) (S106.ext B199) A195 (nle rfl) (nle rfl) rfl (nle rfl)) (fun _ q => nomatch q) rfl rfl rfl (by decide) ⟨⟨nle rfl, nle rfl⟩, nle rfl, nle rfl⟩ ?_
  intro v215 h216 hq217 _
  obtain ⟨rfl, rfl⟩ := hq217
  show WlO _ _ _ _ _ _ _ _ _ _ _ _ _ _ _ _ _ _ [.int (1 : Int32)]
  refine Wl.ifN 484 at_481 (feq (by decide)).1 ?_
  refine Wl.aload 486 at_484 rfl rfl ?_
  refine Wl.aload 488 at_486 rfl rfl ?_
  refine Wl.iload 490 at_488 rfl ?_
  refine Wl.iconst 491 (5 : Int32) at_490 (by decide) ?_
  refine Wl.static 494 (argsL := [.ref s104, .ref a110, .int (10 : Int32), .int (5 : Int32)]) at_491 (w222 hw) (w223 hw) (w2 hw) (w224 hw) (show parseMethodDescriptor "(Ljava/lang/String;[CII)Z" = some ⟨[(.object "java/lang/String"), (.array .char), .int, .int], some .boolean⟩ by decide +kernel) rfl (at_met hw hcs hfm (rs := [p0, (102 : Int32), (101 : Int32), (110 : Int32), (99 : Int32), (101 : Int32), (58 : Int32), (123 : Int32), n0, (125 : Int32)]) (es := [p0, (102 : Int32), (101 : Int32), (110 : Int32), (99 : Int32), (101 : Int32), (58 : Int32), (123 : Int32), n0, (125 : Int32), (0 : Int32), (0 : Int32), (0 : Int32)]) (k := 10) (i := 5) (S106.ext B199) A195 (nle rfl) (nle rfl) rfl (nle rfl)) (fun _ q => nomatch q) rfl rfl rfl (by decide) ⟨⟨nle rfl, nle rfl⟩, nle rfl, nle rfl⟩ ?_
  intro v218 h219 hq220 _
  obtain ⟨rfl, rfl⟩ := hq220
  show WlO _ _ _ _ _ _ _ _ _ _ _ _ _ _ _ _ _ _ [.int (1 : Int32)]
  refine Wl.ifN 497 at_494 (feq (by decide)).1 ?_
  refine Wl.aload 499 at_497 rfl rfl ?_
  refine Wl.aload 501 at_499 rfl rfl ?_
  refine Wl.iload 503 at_501 rfl ?_
  refine Wl.bipush 505 (6 : Int32) at_503 (by decide) ?_
  refine Wl.static 508 (argsL := [.ref s104, .ref a110, .int (10 : Int32), .int (6 : Int32)]) at_505 (w222 hw) (w223 hw) (w2 hw) (w224 hw) (show parseMethodDescriptor "(Ljava/lang/String;[CII)Z" = some ⟨[(.object "java/lang/String"), (.array .char), .int, .int], some .boolean⟩ by decide +kernel) rfl (at_met hw hcs hfm (rs := [p0, (102 : Int32), (101 : Int32), (110 : Int32), (99 : Int32), (101 : Int32), (58 : Int32), (123 : Int32), n0, (125 : Int32)]) (es := [p0, (102 : Int32), (101 : Int32), (110 : Int32), (99 : Int32), (101 : Int32), (58 : Int32), (123 : Int32), n0, (125 : Int32), (0 : Int32), (0 : Int32), (0 : Int32)]) (k := 10) (i := 6) (S106.ext B199) A195 (nle rfl) (nle rfl) rfl (nle rfl)) (fun _ q => nomatch q) rfl rfl rfl (by decide) ⟨⟨nle rfl, nle rfl⟩, nle rfl, nle rfl⟩ ?_
  intro v221 h222 hq223 _
  obtain ⟨rfl, rfl⟩ := hq223
  show WlO _ _ _ _ _ _ _ _ _ _ _ _ _ _ _ _ _ _ [.int (1 : Int32)]
  refine Wl.ifN 511 at_508 (feq (by decide)).1 ?_
  refine Wl.aload 513 at_511 rfl rfl ?_
  refine Wl.aload 515 at_513 rfl rfl ?_
  refine Wl.iload 517 at_515 rfl ?_
  refine Wl.bipush 519 (7 : Int32) at_517 (by decide) ?_
  refine Wl.static 522 (argsL := [.ref s104, .ref a110, .int (10 : Int32), .int (7 : Int32)]) at_519 (w222 hw) (w223 hw) (w2 hw) (w224 hw) (show parseMethodDescriptor "(Ljava/lang/String;[CII)Z" = some ⟨[(.object "java/lang/String"), (.array .char), .int, .int], some .boolean⟩ by decide +kernel) rfl (at_met hw hcs hfm (rs := [p0, (102 : Int32), (101 : Int32), (110 : Int32), (99 : Int32), (101 : Int32), (58 : Int32), (123 : Int32), n0, (125 : Int32)]) (es := [p0, (102 : Int32), (101 : Int32), (110 : Int32), (99 : Int32), (101 : Int32), (58 : Int32), (123 : Int32), n0, (125 : Int32), (0 : Int32), (0 : Int32), (0 : Int32)]) (k := 10) (i := 7) (S106.ext B199) A195 (nle rfl) (nle rfl) rfl (nle rfl)) (fun _ q => nomatch q) rfl rfl rfl (by decide) ⟨⟨nle rfl, nle rfl⟩, nle rfl, nle rfl⟩ ?_
  intro v224 h225 hq226 _
  obtain ⟨rfl, rfl⟩ := hq226
  show WlO _ _ _ _ _ _ _ _ _ _ _ _ _ _ _ _ _ _ [.int (1 : Int32)]
  refine Wl.ifN 525 at_522 (feq (by decide)).1 ?_
  refine Wl.aload 527 at_525 rfl rfl ?_
  refine Wl.aload 529 at_527 rfl rfl ?_
  refine Wl.iload 531 at_529 rfl ?_
  refine Wl.bipush 533 (8 : Int32) at_531 (by decide) ?_
  refine Wl.static 536 (argsL := [.ref s104, .ref a110, .int (10 : Int32), .int (8 : Int32)]) at_533 (w222 hw) (w223 hw) (w2 hw) (w224 hw) (show parseMethodDescriptor "(Ljava/lang/String;[CII)Z" = some ⟨[(.object "java/lang/String"), (.array .char), .int, .int], some .boolean⟩ by decide +kernel) rfl (at_met hw hcs hfm (rs := [p0, (102 : Int32), (101 : Int32), (110 : Int32), (99 : Int32), (101 : Int32), (58 : Int32), (123 : Int32), n0, (125 : Int32)]) (es := [p0, (102 : Int32), (101 : Int32), (110 : Int32), (99 : Int32), (101 : Int32), (58 : Int32), (123 : Int32), n0, (125 : Int32), (0 : Int32), (0 : Int32), (0 : Int32)]) (k := 10) (i := 8) (S106.ext B199) A195 (nle rfl) (nle rfl) rfl (nle rfl)) (fun _ q => nomatch q) rfl rfl rfl (by decide) ⟨⟨nle rfl, nle rfl⟩, nle rfl, nle rfl⟩ ?_
  intro v227 h228 hq229 _
  obtain ⟨rfl, rfl⟩ := hq229
  show WlO _ _ _ _ _ _ _ _ _ _ _ _ _ _ _ _ _ _ [.int (1 : Int32)]
  refine Wl.ifN 539 at_536 (feq (by decide)).1 ?_
  refine Wl.aload 541 at_539 rfl rfl ?_
  refine Wl.aload 543 at_541 rfl rfl ?_
  refine Wl.iload 545 at_543 rfl ?_
  refine Wl.bipush 547 (9 : Int32) at_545 (by decide) ?_
  refine Wl.static 550 (argsL := [.ref s104, .ref a110, .int (10 : Int32), .int (9 : Int32)]) at_547 (w222 hw) (w223 hw) (w2 hw) (w224 hw) (show parseMethodDescriptor "(Ljava/lang/String;[CII)Z" = some ⟨[(.object "java/lang/String"), (.array .char), .int, .int], some .boolean⟩ by decide +kernel) rfl (at_met hw hcs hfm (rs := [p0, (102 : Int32), (101 : Int32), (110 : Int32), (99 : Int32), (101 : Int32), (58 : Int32), (123 : Int32), n0, (125 : Int32)]) (es := [p0, (102 : Int32), (101 : Int32), (110 : Int32), (99 : Int32), (101 : Int32), (58 : Int32), (123 : Int32), n0, (125 : Int32), (0 : Int32), (0 : Int32), (0 : Int32)]) (k := 10) (i := 9) (S106.ext B199) A195 (nle rfl) (nle rfl) rfl (nle rfl)) (fun _ q => nomatch q) rfl rfl rfl (by decide) ⟨⟨nle rfl, nle rfl⟩, nle rfl, nle rfl⟩ ?_
  intro v230 h231 hq232 _
  obtain ⟨rfl, rfl⟩ := hq232
  show WlO _ _ _ _ _ _ _ _ _ _ _ _ _ _ _ _ _ _ [.int (1 : Int32)]
  refine Wl.ifN 553 at_550 (feq (by decide)).1 ?_
  refine Wl.aload 555 at_553 rfl rfl ?_
  refine Wl.aload 557 at_555 rfl rfl ?_
  refine Wl.iload 559 at_557 rfl ?_
  refine Wl.bipush 561 (10 : Int32) at_559 (by decide) ?_
  refine Wl.static 564 (argsL := [.ref s104, .ref a110, .int (10 : Int32), .int (10 : Int32)]) at_561 (w222 hw) (w223 hw) (w2 hw) (w224 hw) (show parseMethodDescriptor "(Ljava/lang/String;[CII)Z" = some ⟨[(.object "java/lang/String"), (.array .char), .int, .int], some .boolean⟩ by decide +kernel) rfl (at_met hw hcs hfm (rs := [p0, (102 : Int32), (101 : Int32), (110 : Int32), (99 : Int32), (101 : Int32), (58 : Int32), (123 : Int32), n0, (125 : Int32)]) (es := [p0, (102 : Int32), (101 : Int32), (110 : Int32), (99 : Int32), (101 : Int32), (58 : Int32), (123 : Int32), n0, (125 : Int32), (0 : Int32), (0 : Int32), (0 : Int32)]) (k := 10) (i := 10) (S106.ext B199) A195 (nle rfl) (nle rfl) rfl (nle rfl)) (fun _ q => nomatch q) rfl rfl rfl (by decide) ⟨⟨nle rfl, nle rfl⟩, nle rfl, nle rfl⟩ ?_
  intro v233 h234 hq235 _
  obtain ⟨rfl, rfl⟩ := hq235
  show WlO _ _ _ _ _ _ _ _ _ _ _ _ _ _ _ _ _ _ [.int (1 : Int32)]
  refine Wl.ifN 567 at_564 (feq (by decide)).1 ?_
  refine Wl.aload 569 at_567 rfl rfl ?_
  refine Wl.aload 571 at_569 rfl rfl ?_
  refine Wl.iload 573 at_571 rfl ?_
  refine Wl.bipush 575 (11 : Int32) at_573 (by decide) ?_
  refine Wl.static 578 (argsL := [.ref s104, .ref a110, .int (10 : Int32), .int (11 : Int32)]) at_575 (w222 hw) (w223 hw) (w2 hw) (w224 hw) (show parseMethodDescriptor "(Ljava/lang/String;[CII)Z" = some ⟨[(.object "java/lang/String"), (.array .char), .int, .int], some .boolean⟩ by decide +kernel) rfl (at_met hw hcs hfm (rs := [p0, (102 : Int32), (101 : Int32), (110 : Int32), (99 : Int32), (101 : Int32), (58 : Int32), (123 : Int32), n0, (125 : Int32)]) (es := [p0, (102 : Int32), (101 : Int32), (110 : Int32), (99 : Int32), (101 : Int32), (58 : Int32), (123 : Int32), n0, (125 : Int32), (0 : Int32), (0 : Int32), (0 : Int32)]) (k := 10) (i := 11) (S106.ext B199) A195 (nle rfl) (nle rfl) rfl (nle rfl)) (fun _ q => nomatch q) rfl rfl rfl (by decide) ⟨⟨nle rfl, nle rfl⟩, nle rfl, nle rfl⟩ ?_
  intro v236 h237 hq238 _
  obtain ⟨rfl, rfl⟩ := hq238
  show WlO _ _ _ _ _ _ _ _ _ _ _ _ _ _ _ _ _ _ [.int (1 : Int32)]
  refine Wl.ifN 581 at_578 (feq (by decide)).1 ?_
  refine Wl.aload 583 at_581 rfl rfl ?_
  refine Wl.aload 585 at_583 rfl rfl ?_
  refine Wl.iload 587 at_585 rfl ?_
  refine Wl.bipush 589 (12 : Int32) at_587 (by decide) ?_
  refine Wl.static 592 (argsL := [.ref s104, .ref a110, .int (10 : Int32), .int (12 : Int32)]) at_589 (w222 hw) (w223 hw) (w2 hw) (w224 hw) (show parseMethodDescriptor "(Ljava/lang/String;[CII)Z" = some ⟨[(.object "java/lang/String"), (.array .char), .int, .int], some .boolean⟩ by decide +kernel) rfl (at_met hw hcs hfm (rs := [p0, (102 : Int32), (101 : Int32), (110 : Int32), (99 : Int32), (101 : Int32), (58 : Int32), (123 : Int32), n0, (125 : Int32)]) (es := [p0, (102 : Int32), (101 : Int32), (110 : Int32), (99 : Int32), (101 : Int32), (58 : Int32), (123 : Int32), n0, (125 : Int32), (0 : Int32), (0 : Int32), (0 : Int32)]) (k := 10) (i := 12) (S106.ext B199) A195 (nle rfl) (nle rfl) rfl (nle rfl)) (fun _ q => nomatch q) rfl rfl rfl (by decide) ⟨⟨nle rfl, nle rfl⟩, nle rfl, nle rfl⟩ ?_
  intro v239 h240 hq241 _
  obtain ⟨rfl, rfl⟩ := hq241
  show WlO _ _ _ _ _ _ _ _ _ _ _ _ _ _ _ _ _ _ [.int (1 : Int32)]
  refine Wl.ifN 595 at_592 (feq (by decide)).1 ?_
  refine Wl.iconst 596 (1 : Int32) at_595 (by decide) ?_
  refine Wl.goto 600 at_596 ?_
  exact Wl.ireturn at_600 rfl rfl (by simp) (nle rfl) (nle rfl) rfl
set_option maxRecDepth 65536 in
set_option maxHeartbeats 40000000 in
theorem law_t12 {l : Launch} {Z : State} {a0 : Array Value} (hw : ∀ d ∈ tables_1, d.before a0 Z = true) (hcs : CSon Z) (hfm : Fmt Z) {as : Array Value} {h : Heap} {i0 i1 p0 p1 n0 n1 n2 : Int32} (lp0 : Lat p0) (lp1 : Lat p1) (ln0 : Lat n0) (ln1 : Lat n1) (ln2 : Lat n2) (p0123 : p0 ≠ 123) (p0125 : p0 ≠ 125) (p1123 : p1 ≠ 123) (p1125 : p1 ≠ 125) (hn0 : ¬ n0 = (125 : Int32)) :
    Wl l Z a0 consts_1 x code maxLocals ret room_1 as (fun v h' => v = some (.int 1)) [] h 0 0 86 #[.val (.int i0), .val (.int i1), .val (.int (1 : Int32)), .val (.int p0), .val (.int p1), .val (.int (2 : Int32)), .val (.int n0), .val (.int n1), .val (.int n2), .unset, .unset, .unset, .unset, .unset] [] := by
  refine Wl.iload_n 87 at_86 rfl ?_
  refine Wl.ifY 103 at_87 (feq (by decide)).2 ?_
  refine Wl.iload_n 104 at_103 rfl ?_
  refine Wl.iconst 105 (1 : Int32) at_104 (by decide) ?_
  refine Wl.icmpN 108 at_105 (teq (by decide)).2 ?_
  refine Wl.new 111 at_108 (w4 hw) (w5 hw) (w6 hw) (nle rfl) (nle rfl) ?_
  intro a1 h2 q3 E4 X5 D6
  have z7 : h.size ≤ a1 := Nat.le_of_eq q3.symm
  have B8 : Ext h h2 := E4
  have F9 : Fld Z h2 a1 "java/lang/String" "value" "[B" (.null) := D6 (Or.inr (w20 hw)) (ty := (.array .byte)) (by decide)
  have F10 : Fld Z h2 a1 "java/lang/String" "coder" "B" (.int 0) := D6 (Or.inr (w21 hw)) (ty := .byte) (by decide)
  refine Wl.dup 112 at_111 rfl ?_
  refine Wl.iconst 113 (1 : Int32) at_112 (by decide) ?_
  refine Wl.newarray 115 1 at_113 (w7 hw) (by decide) (by decide) (by decide) (nle rfl) (nle rfl) ?_
  intro a11 h12 k13 q14 E15 A16
  have A16 : Arv Z h12 a11 k13 .char (1 : Int32) [.int 0] (.int 0) := A16
  have z17 : h.size ≤ a11 := Nat.le_trans B8.1 (Nat.le_of_eq q14.symm)
  have z18 : h2.size ≤ a11 := Nat.le_of_eq q14.symm
  have ne19 : a1 ≠ a11 := Nat.ne_of_lt (by rw [q14]; exact (X5).lt)
  have B20 : Ext h h12 := extTr B8 E15
  have B21 : Ext h2 h12 := E15
  refine Wl.dup 116 at_115 rfl ?_
  refine Wl.iconst 117 (0 : Int32) at_116 (by decide) ?_
  refine Wl.iload_n 118 at_117 rfl ?_
  refine Wl.castore 119 0 at_118 A16 (List.mem_of_getElem? (i := 0) rfl) (by decide) (by decide) (by decide) (nle rfl) ?_
  intro h22 W23 A24
  rw [nar_ch (lp0).ch] at A24
  have A24 : Arv Z h22 a11 k13 .char (1 : Int32) [.int p0] (.int 0) := A24
  have B25 : Ext h h22 := extWr B20 W23 z17
  have B26 : Ext h2 h22 := extWr B21 W23 z18
  refine Wl.special 122 (argsL := [.ref a11]) at_119 (w8 hw) (w9 hw) (w6 hw) (w10 hw) (show parseMethodDescriptor "([C)V" = some ⟨[(.array .char)], none⟩ by decide +kernel) rfl (strC_met hw hcs (cs := [p0]) 4 (nle rfl) (nle rfl)  (latC lp0 latN) (X5.ext B26) (F9.ext B26) (F10.ext B26) A24) (allS (List.mem_of_getElem? (i := 1) rfl) (fun _ q => nomatch q)) rfl rfl rfl rfl (by decide) ⟨⟨nle rfl, nle rfl⟩, nle rfl, nle rfl⟩ ?_
  intro v27 h28 hq29 _
  obtain ⟨rfl, K30, S31⟩ := hq29
  have B32 : Ext h h28 := extKeep B25 K30 (allS z7 all0)
  show WlO _ _ _ _ _ _ _ _ _ _ _ _ _ _ _ _ _ _ [.ref a1]
  refine Wl.goto 144 at_122 ?_
  refine Wl.astore 146 #[.val (.int i0), .val (.int i1), .val (.int (1 : Int32)), .val (.int p0), .val (.int p1), .val (.int (2 : Int32)), .val (.int n0), .val (.int n1), .val (.int n2), .val (.ref a1), .unset, .unset, .unset, .unset] at_144 rfl rfl ?_
  refine Wl.iload 148 at_146 rfl ?_
  refine Wl.iconst 149 (1 : Int32) at_148 (by decide) ?_
  refine Wl.icmpY 170 at_149 (feq (by decide)).2 ?_
  refine Wl.iload 172 at_170 rfl ?_
  refine Wl.iconst 173 (2 : Int32) at_172 (by decide) ?_
  refine Wl.icmpN 176 at_173 (teq (by decide)).2 ?_
  refine Wl.new 179 at_176 (w4 hw) (w5 hw) (w6 hw) (nle rfl) (nle rfl) ?_
  intro a33 h34 q35 E36 X37 D38
  have z39 : h.size ≤ a33 := Nat.le_trans B32.1 (Nat.le_of_eq q35.symm)
  have z40 : h28.size ≤ a33 := Nat.le_of_eq q35.symm
  have ne41 : a1 ≠ a33 := Nat.ne_of_lt (by rw [q35]; exact ((S31).exa).lt)
  have ne42 : a11 ≠ a33 := Nat.ne_of_lt (by rw [q35]; exact ((A24.keep K30 (ninS ne19.symm nin0))).lt)
  have B43 : Ext h h34 := extTr B32 E36
  have B44 : Ext h28 h34 := E36
  have F45 : Fld Z h34 a33 "java/lang/String" "value" "[B" (.null) := D38 (Or.inr (w20 hw)) (ty := (.array .byte)) (by decide)
  have F46 : Fld Z h34 a33 "java/lang/String" "coder" "B" (.int 0) := D38 (Or.inr (w21 hw)) (ty := .byte) (by decide)
  refine Wl.dup 180 at_179 rfl ?_
  refine Wl.iconst 181 (2 : Int32) at_180 (by decide) ?_
  refine Wl.newarray 183 2 at_181 (w7 hw) (by decide) (by decide) (by decide) (nle rfl) (nle rfl) ?_
  intro a47 h48 k49 q50 E51 A52
  have A52 : Arv Z h48 a47 k49 .char (2 : Int32) [.int 0, .int 0] (.int 0) := A52
  have z53 : h.size ≤ a47 := Nat.le_trans B43.1 (Nat.le_of_eq q50.symm)
  have z54 : h28.size ≤ a47 := Nat.le_trans B44.1 (Nat.le_of_eq q50.symm)
  have z55 : h34.size ≤ a47 := Nat.le_of_eq q50.symm
  have ne56 : a1 ≠ a47 := Nat.ne_of_lt (by rw [q50]; exact (((S31).exa.ext E36)).lt)
  have ne57 : a11 ≠ a47 := Nat.ne_of_lt (by rw [q50]; exact (((A24.keep K30 (ninS ne19.symm nin0)).ext E36)).lt)
  have ne58 : a33 ≠ a47 := Nat.ne_of_lt (by rw [q50]; exact (X37).lt)
  have B59 : Ext h h48 := extTr B43 E51
  have B60 : Ext h28 h48 := extTr B44 E51
  have B61 : Ext h34 h48 := E51
  refine Wl.dup 184 at_183 rfl ?_
  refine Wl.iconst 185 (0 : Int32) at_184 (by decide) ?_
  refine Wl.iload 187 at_185 rfl ?_
  refine Wl.castore 188 0 at_187 A52 (List.mem_of_getElem? (i := 0) rfl) (by decide) (by decide) (by decide) (nle rfl) ?_
  intro h62 W63 A64
  rw [nar_ch (ln0).ch] at A64
  have A64 : Arv Z h62 a47 k49 .char (2 : Int32) [.int n0, .int (0 : Int32)] (.int 0) := A64
  have B65 : Ext h h62 := extWr B59 W63 z53
  have B66 : Ext h28 h62 := extWr B60 W63 z54
  have B67 : Ext h34 h62 := extWr B61 W63 z55
  refine Wl.dup 189 at_188 rfl ?_
  refine Wl.iconst 190 (1 : Int32) at_189 (by decide) ?_
  refine Wl.iload 192 at_190 rfl ?_
  refine Wl.castore 193 1 at_192 A64 (List.mem_of_getElem? (i := 0) rfl) (by decide) (by decide) (by decide) (nle rfl) ?_
  intro h68 W69 A70
  rw [nar_ch (ln1).ch] at A70
  have A70 : Arv Z h68 a47 k49 .char (2 : Int32) [.int n0, .int n1] (.int 0) := A70
  have B71 : Ext h h68 := extWr B65 W69 z53
  have B72 : Ext h28 h68 := extWr B66 W69 z54
  have B73 : Ext h34 h68 := extWr B67 W69 z55
  refine Wl.special 196 (argsL := [.ref a47]) at_193 (w8 hw) (w9 hw) (w6 hw) (w10 hw) (show parseMethodDescriptor "([C)V" = some ⟨[(.array .char)], none⟩ by decide +kernel) rfl (strC_met hw hcs (cs := [n0, n1]) 4 (nle rfl) (nle rfl)  (latC ln0 (latC ln1 latN)) (X37.ext B73) (F45.ext B73) (F46.ext B73) A70) (allS (List.mem_of_getElem? (i := 1) rfl) (fun _ q => nomatch q)) rfl rfl rfl rfl (by decide) ⟨⟨nle rfl, nle rfl⟩, nle rfl, nle rfl⟩ ?_
  intro v74 h75 hq76 _
  obtain ⟨rfl, K77, S78⟩ := hq76
  have B79 : Ext h h75 := extKeep B71 K77 (allS z39 all0)
  have B80 : Ext h28 h75 := extKeep B72 K77 (allS z40 all0)
  show WlO _ _ _ _ _ _ _ _ _ _ _ _ _ _ _ _ _ _ [.ref a33]
  refine Wl.goto 224 at_196 ?_
  refine Wl.astore 226 #[.val (.int i0), .val (.int i1), .val (.int (1 : Int32)), .val (.int p0), .val (.int p1), .val (.int (2 : Int32)), .val (.int n0), .val (.int n1), .val (.int n2), .val (.ref a1), .val (.ref a33), .unset, .unset, .unset] at_224 rfl rfl ?_
  refine Wl.new 229 at_226 (w37 hw) (w38 hw) (w39 hw) (nle rfl) (nle rfl) ?_
  intro a81 h82 q83 E84 X85 D86
  have z87 : h.size ≤ a81 := Nat.le_trans B79.1 (Nat.le_of_eq q83.symm)
  have z88 : h28.size ≤ a81 := Nat.le_trans B80.1 (Nat.le_of_eq q83.symm)
  have z89 : h75.size ≤ a81 := Nat.le_of_eq q83.symm
  have ne90 : a1 ≠ a81 := Nat.ne_of_lt (by rw [q83]; exact (((S31).exa.ext B80)).lt)
  have ne91 : a11 ≠ a81 := Nat.ne_of_lt (by rw [q83]; exact (((A24.keep K30 (ninS ne19.symm nin0)).ext B80)).lt)
  have ne92 : a33 ≠ a81 := Nat.ne_of_lt (by rw [q83]; exact ((S78).exa).lt)
  have ne93 : a47 ≠ a81 := Nat.ne_of_lt (by rw [q83]; exact ((A70.keep K77 (ninS ne58.symm nin0))).lt)
  have B94 : Ext h h82 := extTr B79 E84
  have B95 : Ext h28 h82 := extTr B80 E84
  have B96 : Ext h75 h82 := E84
  have F97 : Fld Z h82 a81 "com/example/portunus/portunus/LockKeys" "prefix" "Ljava/lang/String;" (.null) := D86 (Or.inr (w89 hw)) (ty := (.object "java/lang/String")) (by decide)
  refine Wl.dup 230 at_229 rfl ?_
  refine Wl.aload 232 at_230 rfl rfl ?_
  refine Wl.special 235 (argsL := [.ref a1]) at_232 (w40 hw) (w41 hw) (w39 hw) (w42 hw) (show parseMethodDescriptor "(Ljava/lang/String;)V" = some ⟨[(.object "java/lang/String")], none⟩ by decide +kernel) rfl (keys_met hw hcs X85 F97 (cs := [p0]) (S31.ext B95) (neC p0123 neN) (neC p0125 neN)) (allS (List.mem_of_getElem? (i := 0) rfl) (fun _ q => nomatch q)) rfl rfl rfl rfl (by decide) ⟨⟨nle rfl, nle rfl⟩, nle rfl, nle rfl⟩ ?_
  intro v98 h99 hq100 _
  obtain ⟨rfl, K101, X102, F103⟩ := hq100
  have B104 : Ext h h99 := extKeep B94 K101 (allS z87 all0)
  have B105 : Ext h28 h99 := extKeep B95 K101 (allS z88 all0)
  have B106 : Ext h75 h99 := extKeep B96 K101 (allS z89 all0)
  show WlO _ _ _ _ _ _ _ _ _ _ _ _ _ _ _ _ _ _ [.ref a81]
  refine Wl.aload 237 at_235 rfl rfl ?_
  refine Wl.virtual 240 (argsL := [.ref a33]) at_237 (w90 hw) (w91 hw) (w93 hw) (w92 hw) (w39 hw) (w94 hw) (nf_sel (w93 hw) rfl) X102 (show parseMethodDescriptor "(Ljava/lang/String;)Ljava/lang/String;" = some ⟨[(.object "java/lang/String")], some (.object "java/lang/String")⟩ by decide +kernel) rfl (key_met hw hcs hfm (cs := [n0, n1]) (ps := [p0]) F103 (S31.ext B105) (nle rfl) (S78.ext B106) (by simp) (nle rfl) hn0 (nle rfl)) (fun _ q => nomatch q) rfl rfl rfl (by decide) ⟨⟨nle rfl, nle rfl⟩, nle rfl, nle rfl⟩ ?_
  intro v107 h108 hq109 _
  obtain ⟨s110, rfl, E111, S112⟩ := hq109
  have S112 : Stl Z h108 s110 [p0, (102 : Int32), (101 : Int32), (110 : Int32), (99 : Int32), (101 : Int32), (58 : Int32), (123 : Int32), n0, n1, (125 : Int32)] := S112
  have B113 : Ext h h108 := extTr B104 E111
  have B114 : Ext h28 h108 := extTr B105 E111
  have B115 : Ext h75 h108 := extTr B106 E111
  show WlO _ _ _ _ _ _ _ _ _ _ _ _ _ _ _ _ _ _ [.ref s110]
  refine Wl.astore 242 #[.val (.int i0), .val (.int i1), .val (.int (1 : Int32)), .val (.int p0), .val (.int p1), .val (.int (2 : Int32)), .val (.int n0), .val (.int n1), .val (.int n2), .val (.ref a1), .val (.ref a33), .val (.ref s110), .unset, .unset] at_240 rfl rfl ?_
  refine Wl.bipush 244 (13 : Int32) at_242 (by decide) ?_
  refine Wl.newarray 246 13 at_244 (w7 hw) (by decide) (by decide) (by decide) (nle rfl) (nle rfl) ?_
  intro a116 h117 k118 q119 E120 A121
  have A121 : Arv Z h117 a116 k118 .char (13 : Int32) [.int 0, .int 0, .int 0, .int 0, .int 0, .int 0, .int 0, .int 0, .int 0, .int 0, .int 0, .int 0, .int 0] (.int 0) := A121
  have z122 : h.size ≤ a116 := Nat.le_trans B113.1 (Nat.le_of_eq q119.symm)
  have z123 : h28.size ≤ a116 := Nat.le_trans B114.1 (Nat.le_of_eq q119.symm)
  have z124 : h75.size ≤ a116 := Nat.le_trans B115.1 (Nat.le_of_eq q119.symm)
  have z125 : h108.size ≤ a116 := Nat.le_of_eq q119.symm
  have ne126 : a1 ≠ a116 := Nat.ne_of_lt (by rw [q119]; exact (((S31).exa.ext B114)).lt)
  have ne127 : a11 ≠ a116 := Nat.ne_of_lt (by rw [q119]; exact (((A24.keep K30 (ninS ne19.symm nin0)).ext B114)).lt)
  have ne128 : a33 ≠ a116 := Nat.ne_of_lt (by rw [q119]; exact (((S78).exa.ext B115)).lt)
  have ne129 : a47 ≠ a116 := Nat.ne_of_lt (by rw [q119]; exact (((A70.keep K77 (ninS ne58.symm nin0)).ext B115)).lt)
  have ne130 : a81 ≠ a116 := Nat.ne_of_lt (by rw [q119]; exact ((X102.ext E111)).lt)
  have ne131 : s110 ≠ a116 := Nat.ne_of_lt (by rw [q119]; exact ((S112).exa).lt)
  have B132 : Ext h h117 := extTr B113 E120
  have B133 : Ext h28 h117 := extTr B114 E120
  have B134 : Ext h75 h117 := extTr B115 E120
  have B135 : Ext h108 h117 := E120
  refine Wl.astore 248 #[.val (.int i0), .val (.int i1), .val (.int (1 : Int32)), .val (.int p0), .val (.int p1), .val (.int (2 : Int32)), .val (.int n0), .val (.int n1), .val (.int n2), .val (.ref a1), .val (.ref a33), .val (.ref s110), .val (.ref a116), .unset] at_246 rfl rfl ?_
  refine Wl.iconst 249 (0 : Int32) at_248 (by decide) ?_
  refine Wl.istore 251 #[.val (.int i0), .val (.int i1), .val (.int (1 : Int32)), .val (.int p0), .val (.int p1), .val (.int (2 : Int32)), .val (.int n0), .val (.int n1), .val (.int n2), .val (.ref a1), .val (.ref a33), .val (.ref s110), .val (.ref a116), .val (.int (0 : Int32))] at_249 rfl ?_
  refine Wl.iload_n 252 at_251 rfl ?_
  refine Wl.iconst 253 (1 : Int32) at_252 (by decide) ?_
  refine Wl.icmpN 256 at_253 (flt (by decide)).1 ?_
  refine Wl.aload 258 at_256 rfl rfl ?_
  refine Wl.iload 260 at_258 rfl ?_
  refine Wl.iload_n 261 at_260 rfl ?_
  refine Wl.castore 262 0 at_261 A121 (List.mem_of_getElem? (i := 0) rfl) (by decide) (by decide) (by decide) (nle rfl) ?_
  intro h136 W137 A138
  rw [nar_ch (lp0).ch] at A138
  have A138 : Arv Z h136 a116 k118 .char (13 : Int32) [.int p0, .int (0 : Int32), .int (0 : Int32), .int (0 : Int32), .int (0 : Int32), .int (0 : Int32), .int (0 : Int32), .int (0 : Int32), .int (0 : Int32), .int (0 : Int32), .int (0 : Int32), .int (0 : Int32), .int (0 : Int32)] (.int 0) := A138
  have B139 : Ext h h136 := extWr B132 W137 z122
  have B140 : Ext h28 h136 := extWr B133 W137 z123
  have B141 : Ext h75 h136 := extWr B134 W137 z124
  have B142 : Ext h108 h136 := extWr B135 W137 z125
  refine Wl.iinc 265 #[.val (.int i0), .val (.int i1), .val (.int (1 : Int32)), .val (.int p0), .val (.int p1), .val (.int (2 : Int32)), .val (.int n0), .val (.int n1), .val (.int n2), .val (.ref a1), .val (.ref a33), .val (.ref s110), .val (.ref a116), .val (.int (1 : Int32))] (1 : Int32) at_262 (by decide) rfl rfl ?_
  refine Wl.iload_n 266 at_265 rfl ?_
  refine Wl.iconst 267 (2 : Int32) at_266 (by decide) ?_
  refine Wl.icmpY 280 at_267 (tlt (by decide)).1 ?_
  refine Wl.aload 282 at_280 rfl rfl ?_
  refine Wl.iload 284 at_282 rfl ?_
  refine Wl.bipush 286 (102 : Int32) at_284 (by decide) ?_
  refine Wl.castore 287 1 at_286 A138 (List.mem_of_getElem? (i := 0) rfl) (by decide) (by decide) (by decide) (nle rfl) ?_
  intro h143 W144 A145
  rw [nar_ch (by decide)] at A145
  have A145 : Arv Z h143 a116 k118 .char (13 : Int32) [.int p0, .int (102 : Int32), .int (0 : Int32), .int (0 : Int32), .int (0 : Int32), .int (0 : Int32), .int (0 : Int32), .int (0 : Int32), .int (0 : Int32), .int (0 : Int32), .int (0 : Int32), .int (0 : Int32), .int (0 : Int32)] (.int 0) := A145
  have B146 : Ext h h143 := extWr B139 W144 z122
  have B147 : Ext h28 h143 := extWr B140 W144 z123
  have B148 : Ext h75 h143 := extWr B141 W144 z124
  have B149 : Ext h108 h143 := extWr B142 W144 z125
  refine Wl.iinc 290 #[.val (.int i0), .val (.int i1), .val (.int (1 : Int32)), .val (.int p0), .val (.int p1), .val (.int (2 : Int32)), .val (.int n0), .val (.int n1), .val (.int n2), .val (.ref a1), .val (.ref a33), .val (.ref s110), .val (.ref a116), .val (.int (2 : Int32))] (1 : Int32) at_287 (by decide) rfl rfl ?_
  refine Wl.aload 292 at_290 rfl rfl ?_
  refine Wl.iload 294 at_292 rfl ?_
  refine Wl.bipush 296 (101 : Int32) at_294 (by decide) ?_
  refine Wl.castore 297 2 at_296 A145 (List.mem_of_getElem? (i := 0) rfl) (by decide) (by decide) (by decide) (nle rfl) ?_
  intro h150 W151 A152
  rw [nar_ch (by decide)] at A152
  have A152 : Arv Z h150 a116 k118 .char (13 : Int32) [.int p0, .int (102 : Int32), .int (101 : Int32), .int (0 : Int32), .int (0 : Int32), .int (0 : Int32), .int (0 : Int32), .int (0 : Int32), .int (0 : Int32), .int (0 : Int32), .int (0 : Int32), .int (0 : Int32), .int (0 : Int32)] (.int 0) := A152
  have B153 : Ext h h150 := extWr B146 W151 z122
  have B154 : Ext h28 h150 := extWr B147 W151 z123
  have B155 : Ext h75 h150 := extWr B148 W151 z124
  have B156 : Ext h108 h150 := extWr B149 W151 z125
  refine Wl.iinc 300 #[.val (.int i0), .val (.int i1), .val (.int (1 : Int32)), .val (.int p0), .val (.int p1), .val (.int (2 : Int32)), .val (.int n0), .val (.int n1), .val (.int n2), .val (.ref a1), .val (.ref a33), .val (.ref s110), .val (.ref a116), .val (.int (3 : Int32))] (1 : Int32) at_297 (by decide) rfl rfl ?_
  refine Wl.aload 302 at_300 rfl rfl ?_
  refine Wl.iload 304 at_302 rfl ?_
  refine Wl.bipush 306 (110 : Int32) at_304 (by decide) ?_
  refine Wl.castore 307 3 at_306 A152 (List.mem_of_getElem? (i := 0) rfl) (by decide) (by decide) (by decide) (nle rfl) ?_
  intro h157 W158 A159
  rw [nar_ch (by decide)] at A159
  have A159 : Arv Z h157 a116 k118 .char (13 : Int32) [.int p0, .int (102 : Int32), .int (101 : Int32), .int (110 : Int32), .int (0 : Int32), .int (0 : Int32), .int (0 : Int32), .int (0 : Int32), .int (0 : Int32), .int (0 : Int32), .int (0 : Int32), .int (0 : Int32), .int (0 : Int32)] (.int 0) := A159
  have B160 : Ext h h157 := extWr B153 W158 z122
  have B161 : Ext h28 h157 := extWr B154 W158 z123
  have B162 : Ext h75 h157 := extWr B155 W158 z124
  have B163 : Ext h108 h157 := extWr B156 W158 z125
  refine Wl.iinc 310 #[.val (.int i0), .val (.int i1), .val (.int (1 : Int32)), .val (.int p0), .val (.int p1), .val (.int (2 : Int32)), .val (.int n0), .val (.int n1), .val (.int n2), .val (.ref a1), .val (.ref a33), .val (.ref s110), .val (.ref a116), .val (.int (4 : Int32))] (1 : Int32) at_307 (by decide) rfl rfl ?_
  refine Wl.aload 312 at_310 rfl rfl ?_
  refine Wl.iload 314 at_312 rfl ?_
  refine Wl.bipush 316 (99 : Int32) at_314 (by decide) ?_
  refine Wl.castore 317 4 at_316 A159 (List.mem_of_getElem? (i := 0) rfl) (by decide) (by decide) (by decide) (nle rfl) ?_
  intro h164 W165 A166
  rw [nar_ch (by decide)] at A166
  have A166 : Arv Z h164 a116 k118 .char (13 : Int32) [.int p0, .int (102 : Int32), .int (101 : Int32), .int (110 : Int32), .int (99 : Int32), .int (0 : Int32), .int (0 : Int32), .int (0 : Int32), .int (0 : Int32), .int (0 : Int32), .int (0 : Int32), .int (0 : Int32), .int (0 : Int32)] (.int 0) := A166
  have B167 : Ext h h164 := extWr B160 W165 z122
  have B168 : Ext h28 h164 := extWr B161 W165 z123
  have B169 : Ext h75 h164 := extWr B162 W165 z124
  have B170 : Ext h108 h164 := extWr B163 W165 z125
  refine Wl.iinc 320 #[.val (.int i0), .val (.int i1), .val (.int (1 : Int32)), .val (.int p0), .val (.int p1), .val (.int (2 : Int32)), .val (.int n0), .val (.int n1), .val (.int n2), .val (.ref a1), .val (.ref a33), .val (.ref s110), .val (.ref a116), .val (.int (5 : Int32))] (1 : Int32) at_317 (by decide) rfl rfl ?_
  refine Wl.aload 322 at_320 rfl rfl ?_
  refine Wl.iload 324 at_322 rfl ?_
  refine Wl.bipush 326 (101 : Int32) at_324 (by decide) ?_
  refine Wl.castore 327 5 at_326 A166 (List.mem_of_getElem? (i := 0) rfl) (by decide) (by decide) (by decide) (nle rfl) ?_
  intro h171 W172 A173
  rw [nar_ch (by decide)] at A173
  have A173 : Arv Z h171 a116 k118 .char (13 : Int32) [.int p0, .int (102 : Int32), .int (101 : Int32), .int (110 : Int32), .int (99 : Int32), .int (101 : Int32), .int (0 : Int32), .int (0 : Int32), .int (0 : Int32), .int (0 : Int32), .int (0 : Int32), .int (0 : Int32), .int (0 : Int32)] (.int 0) := A173
  have B174 : Ext h h171 := extWr B167 W172 z122
  have B175 : Ext h28 h171 := extWr B168 W172 z123
  have B176 : Ext h75 h171 := extWr B169 W172 z124
  have B177 : Ext h108 h171 := extWr B170 W172 z125
  refine Wl.iinc 330 #[.val (.int i0), .val (.int i1), .val (.int (1 : Int32)), .val (.int p0), .val (.int p1), .val (.int (2 : Int32)), .val (.int n0), .val (.int n1), .val (.int n2), .val (.ref a1), .val (.ref a33), .val (.ref s110), .val (.ref a116), .val (.int (6 : Int32))] (1 : Int32) at_327 (by decide) rfl rfl ?_
  refine Wl.aload 332 at_330 rfl rfl ?_
  refine Wl.iload 334 at_332 rfl ?_
  refine Wl.bipush 336 (58 : Int32) at_334 (by decide) ?_
  refine Wl.castore 337 6 at_336 A173 (List.mem_of_getElem? (i := 0) rfl) (by decide) (by decide) (by decide) (nle rfl) ?_
  intro h178 W179 A180
  rw [nar_ch (by decide)] at A180
  have A180 : Arv Z h178 a116 k118 .char (13 : Int32) [.int p0, .int (102 : Int32), .int (101 : Int32), .int (110 : Int32), .int (99 : Int32), .int (101 : Int32), .int (58 : Int32), .int (0 : Int32), .int (0 : Int32), .int (0 : Int32), .int (0 : Int32), .int (0 : Int32), .int (0 : Int32)] (.int 0) := A180
  have B181 : Ext h h178 := extWr B174 W179 z122
  have B182 : Ext h28 h178 := extWr B175 W179 z123
  have B183 : Ext h75 h178 := extWr B176 W179 z124
  have B184 : Ext h108 h178 := extWr B177 W179 z125
  refine Wl.iinc 340 #[.val (.int i0), .val (.int i1), .val (.int (1 : Int32)), .val (.int p0), .val (.int p1), .val (.int (2 : Int32)), .val (.int n0), .val (.int n1), .val (.int n2), .val (.ref a1), .val (.ref a33), .val (.ref s110), .val (.ref a116), .val (.int (7 : Int32))] (1 : Int32) at_337 (by decide) rfl rfl ?_
  refine Wl.aload 342 at_340 rfl rfl ?_
  refine Wl.iload 344 at_342 rfl ?_
  refine Wl.bipush 346 (123 : Int32) at_344 (by decide) ?_
  refine Wl.castore 347 7 at_346 A180 (List.mem_of_getElem? (i := 0) rfl) (by decide) (by decide) (by decide) (nle rfl) ?_
  intro h185 W186 A187
  rw [nar_ch (by decide)] at A187
  have A187 : Arv Z h185 a116 k118 .char (13 : Int32) [.int p0, .int (102 : Int32), .int (101 : Int32), .int (110 : Int32), .int (99 : Int32), .int (101 : Int32), .int (58 : Int32), .int (123 : Int32), .int (0 : Int32), .int (0 : Int32), .int (0 : Int32), .int (0 : Int32), .int (0 : Int32)] (.int 0) := A187
  have B188 : Ext h h185 := extWr B181 W186 z122
  have B189 : Ext h28 h185 := extWr B182 W186 z123
  have B190 : Ext h75 h185 := extWr B183 W186 z124
  have B191 : Ext h108 h185 := extWr B184 W186 z125
  refine Wl.iinc 350 #[.val (.int i0), .val (.int i1), .val (.int (1 : Int32)), .val (.int p0), .val (.int p1), .val (.int (2 : Int32)), .val (.int n0), .val (.int n1), .val (.int n2), .val (.ref a1), .val (.ref a33), .val (.ref s110), .val (.ref a116), .val (.int (8 : Int32))] (1 : Int32) at_347 (by decide) rfl rfl ?_
  refine Wl.aload 352 at_350 rfl rfl ?_
  refine Wl.iload 354 at_352 rfl ?_
  refine Wl.iload 356 at_354 rfl ?_
  refine Wl.castore 357 8 at_356 A187 (List.mem_of_getElem? (i := 0) rfl) (by decide) (by decide) (by decide) (nle rfl) ?_
  intro h192 W193 A194
  rw [nar_ch (ln0).ch] at A194
  have A194 : Arv Z h192 a116 k118 .char (13 : Int32) [.int p0, .int (102 : Int32), .int (101 : Int32), .int (110 : Int32), .int (99 : Int32), .int (101 : Int32), .int (58 : Int32), .int (123 : Int32), .int n0, .int (0 : Int32), .int (0 : Int32), .int (0 : Int32), .int (0 : Int32)] (.int 0) := A194
  have B195 : Ext h h192 := extWr B188 W193 z122
  have B196 : Ext h28 h192 := extWr B189 W193 z123
  have B197 : Ext h75 h192 := extWr B190 W193 z124
  have B198 : Ext h108 h192 := extWr B191 W193 z125
  refine Wl.iinc 360 #[.val (.int i0), .val (.int i1), .val (.int (1 : Int32)), .val (.int p0), .val (.int p1), .val (.int (2 : Int32)), .val (.int n0), .val (.int n1), .val (.int n2), .val (.ref a1), .val (.ref a33), .val (.ref s110), .val (.ref a116), .val (.int (9 : Int32))] (1 : Int32) at_357 (by decide) rfl rfl ?_
  refine Wl.iload 362 at_360 rfl ?_
  refine Wl.iconst 363 (2 : Int32) at_362 (by decide) ?_
  refine Wl.icmpN 366 at_363 (flt (by decide)).1 ?_
  refine Wl.aload 368 at_366 rfl rfl ?_
  refine Wl.iload 370 at_368 rfl ?_
  refine Wl.iload 372 at_370 rfl ?_
  refine Wl.castore 373 9 at_372 A194 (List.mem_of_getElem? (i := 0) rfl) (by decide) (by decide) (by decide) (nle rfl) ?_
  intro h199 W200 A201
  rw [nar_ch (ln1).ch] at A201
  have A201 : Arv Z h199 a116 k118 .char (13 : Int32) [.int p0, .int (102 : Int32), .int (101 : Int32), .int (110 : Int32), .int (99 : Int32), .int (101 : Int32), .int (58 : Int32), .int (123 : Int32), .int n0, .int n1, .int (0 : Int32), .int (0 : Int32), .int (0 : Int32)] (.int 0) := A201
  have B202 : Ext h h199 := extWr B195 W200 z122
  have B203 : Ext h28 h199 := extWr B196 W200 z123
  have B204 : Ext h75 h199 := extWr B197 W200 z124
  have B205 : Ext h108 h199 := extWr B198 W200 z125
  refine Wl.iinc 376 #[.val (.int i0), .val (.int i1), .val (.int (1 : Int32)), .val (.int p0), .val (.int p1), .val (.int (2 : Int32)), .val (.int n0), .val (.int n1), .val (.int n2), .val (.ref a1), .val (.ref a33), .val (.ref s110), .val (.ref a116), .val (.int (10 : Int32))] (1 : Int32) at_373 (by decide) rfl rfl ?_
  refine Wl.iload 378 at_376 rfl ?_
  refine Wl.iconst 379 (3 : Int32) at_378 (by decide) ?_
  refine Wl.icmpY 392 at_379 (tlt (by decide)).1 ?_
  refine Wl.aload 394 at_392 rfl rfl ?_
  refine Wl.iload 396 at_394 rfl ?_
  refine Wl.bipush 398 (125 : Int32) at_396 (by decide) ?_
  refine Wl.castore 399 10 at_398 A201 (List.mem_of_getElem? (i := 0) rfl) (by decide) (by decide) (by decide) (nle rfl) ?_
  intro h206 W207 A208
  rw [nar_ch (by decide)] at A208
  have A208 : Arv Z h206 a116 k118 .char (13 : Int32) [.int p0, .int (102 : Int32), .int (101 : Int32), .int (110 : Int32), .int (99 : Int32), .int (101 : Int32), .int (58 : Int32), .int (123 : Int32), .int n0, .int n1, .int (125 : Int32), .int (0 : Int32), .int (0 : Int32)] (.int 0) := A208
  have B209 : Ext h h206 := extWr B202 W207 z122
  have B210 : Ext h28 h206 := extWr B203 W207 z123
  have B211 : Ext h75 h206 := extWr B204 W207 z124
  have B212 : Ext h108 h206 := extWr B205 W207 z125
  refine Wl.iinc 402 #[.val (.int i0), .val (.int i1), .val (.int (1 : Int32)), .val (.int p0), .val (.int p1), .val (.int (2 : Int32)), .val (.int n0), .val (.int n1), .val (.int n2), .val (.ref a1), .val (.ref a33), .val (.ref s110), .val (.ref a116), .val (.int (11 : Int32))] (1 : Int32) at_399 (by decide) rfl rfl ?_
  refine Wl.aload 404 at_402 rfl rfl ?_
  refine Wl.ifnullN 407 at_404 ?_
  refine Wl.aload 409 at_407 rfl rfl ?_
  refine Wl.virtual 412 (argsL := []) at_409 (w221 hw) (w65 hw) (w67 hw) (w66 hw) (w6 hw) (w68 hw) (nf_sel (w67 hw) rfl) ((S112).exa.ext B212) (show parseMethodDescriptor "()I" = some ⟨[], some .int⟩ by decide +kernel) rfl (len_met hw hcs (S112.ext B212)) (fun _ q => nomatch q) rfl rfl rfl (by decide) ⟨⟨nle rfl, nle rfl⟩, nle rfl, nle rfl⟩ ?_
  intro v213 h214 hq215 _
  obtain ⟨rfl, rfl⟩ := hq215
  show WlO _ _ _ _ _ _ _ _ _ _ _ _ _ _ _ _ _ _ [.int (11 : Int32)]
  refine Wl.iload 414 at_412 rfl ?_
  refine Wl.icmpY 419 at_414 (teq (by decide)).1 ?_
  refine Wl.aload 421 at_419 rfl rfl ?_
  refine Wl.aload 423 at_421 rfl rfl ?_
  refine Wl.iload 425 at_423 rfl ?_
  refine Wl.iconst 426 (0 : Int32) at_425 (by decide) ?_
  refine Wl.static 429 (argsL := [.ref s110, .ref a116, .int (11 : Int32), .int (0 : Int32)]) at_426 (w222 hw) (w223 hw) (w2 hw) (w224 hw) (show parseMethodDescriptor "(Ljava/lang/String;[CII)Z" = some ⟨[(.object "java/lang/String"), (.array .char), .int, .int], some .boolean⟩ by decide +kernel) rfl (at_met hw hcs hfm (rs := [p0, (102 : Int32), (101 : Int32), (110 : Int32), (99 : Int32), (101 : Int32), (58 : Int32), (123 : Int32), n0, n1, (125 : Int32)]) (es := [p0, (102 : Int32), (101 : Int32), (110 : Int32), (99 : Int32), (101 : Int32), (58 : Int32), (123 : Int32), n0, n1, (125 : Int32), (0 : Int32), (0 : Int32)]) (k := 11) (i := 0) (S112.ext B212) A208 (nle rfl) (nle rfl) rfl (nle rfl)) (fun _ q => nomatch q) rfl rfl rfl (by decide) ⟨⟨nle rfl, nle rfl⟩, nle rfl, nle rfl⟩ ?_
  intro v216 h217 hq218 _
  obtain ⟨rfl, rfl⟩ := hq218
  show WlO _ _ _ _ _ _ _ _ _ _ _ _ _ _ _ _ _ _ [.int (1 : Int32)]
  refine Wl.ifN 432 at_429 (feq (by decide)).1 ?_
  refine Wl.aload 434 at_432 rfl rfl ?_
  refine Wl.aload 436 at_434 rfl rfl ?_
  refine Wl.iload 438 at_436 rfl ?_
  refine Wl.iconst 439 (1 : Int32) at_438 (by decide) ?_
  refine Wl.static 442 (argsL := [.ref s110, .ref a116, .int (11 : Int32), .int (1 : Int32)]) at_439 (w222 hw) (w223 hw) (w2 hw) (w224 hw) (show parseMethodDescriptor "(Ljava/lang/String;[CII)Z" = some ⟨[(.object "java/lang/String"), (.array .char), .int, .int], some .boolean⟩ by decide +kernel) rfl (at_met hw hcs hfm (rs := [p0, (102 : Int32), (101 : Int32), (110 : Int32), (99 : Int32), (101 : Int32), (58 : Int32), (123 : Int32), n0, n1, (125 : Int32)]) (es := [p0, (102 : Int32), (101 : Int32), (110 : Int32), (99 : Int32), (101 : Int32), (58 : Int32), (123 : Int32), n0, n1, (125 : Int32), (0 : Int32), (0 : Int32)]) (k := 11) (i := 1) (S112.ext B212) A208 (nle rfl) (nle rfl) rfl (nle rfl)) (fun _ q => nomatch q) rfl rfl rfl (by decide) ⟨⟨nle rfl, nle rfl⟩, nle rfl, nle rfl⟩ ?_
  intro v219 h220 hq221 _
  obtain ⟨rfl, rfl⟩ := hq221
  show WlO _ _ _ _ _ _ _ _ _ _ _ _ _ _ _ _ _ _ [.int (1 : Int32)]
  refine Wl.ifN 445 at_442 (feq (by decide)).1 ?_
  refine Wl.aload 447 at_445 rfl rfl ?_
  refine Wl.aload 449 at_447 rfl rfl ?_
  refine Wl.iload 451 at_449 rfl ?_
  refine Wl.iconst 452 (2 : Int32) at_451 (by decide) ?_
  refine Wl.static 455 (argsL := [.ref s110, .ref a116, .int (11 : Int32), .int (2 : Int32)]) at_452 (w222 hw) (w223 hw) (w2 hw) (w224 hw) (show parseMethodDescriptor "(Ljava/lang/String;[CII)Z" = some ⟨[(.object "java/lang/String"), (.array .char), .int, .int], some .boolean⟩ by decide +kernel) rfl (at_met hw hcs hfm (rs := [p0, (102 : Int32), (101 : Int32), (110 : Int32), (99 : Int32), (101 : Int32), (58 : Int32), (123 : Int32), n0, n1, (125 : Int32)]) (es := [p0, (102 : Int32), (101 : Int32), (110 : Int32), (99 : Int32), (101 : Int32), (58 : Int32), (123 : Int32), n0, n1, (125 : Int32), (0 : Int32), (0 : Int32)]) (k := 11) (i := 2) (S112.ext B212) A208 (nle rfl) (nle rfl) rfl (nle rfl)) (fun _ q => nomatch q) rfl rfl rfl (by decide) ⟨⟨nle rfl, nle rfl⟩, nle rfl, nle rfl⟩ ?_
  intro v222 h223 hq224 _
  obtain ⟨rfl, rfl⟩ := hq224
  show WlO _ _ _ _ _ _ _ _ _ _ _ _ _ _ _ _ _ _ [.int (1 : Int32)]
  refine Wl.ifN 458 at_455 (feq (by decide)).1 ?_
  refine Wl.aload 460 at_458 rfl rfl ?_
  refine Wl.aload 462 at_460 rfl rfl ?_
  refine Wl.iload 464 at_462 rfl ?_
  refine Wl.iconst 465 (3 : Int32) at_464 (by decide) ?_
  refine Wl.static 468 (argsL := [.ref s110, .ref a116, .int (11 : Int32), .int (3 : Int32)]) at_465 (w222 hw) (w223 hw) (w2 hw) (w224 hw) (show parseMethodDescriptor "(Ljava/lang/String;[CII)Z" = some ⟨[(.object "java/lang/String"), (.array .char), .int, .int], some .boolean⟩ by decide +kernel) rfl (at_met hw hcs hfm (rs := [p0, (102 : Int32), (101 : Int32), (110 : Int32), (99 : Int32), (101 : Int32), (58 : Int32), (123 : Int32), n0, n1, (125 : Int32)]) (es := [p0, (102 : Int32), (101 : Int32), (110 : Int32), (99 : Int32), (101 : Int32), (58 : Int32), (123 : Int32), n0, n1, (125 : Int32), (0 : Int32), (0 : Int32)]) (k := 11) (i := 3) (S112.ext B212) A208 (nle rfl) (nle rfl) rfl (nle rfl)) (fun _ q => nomatch q) rfl rfl rfl (by decide) ⟨⟨nle rfl, nle rfl⟩, nle rfl, nle rfl⟩ ?_
  intro v225 h226 hq227 _
  obtain ⟨rfl, rfl⟩ := hq227
  show WlO _ _ _ _ _ _ _ _ _ _ _ _ _ _ _ _ _ _ [.int (1 : Int32)]
  refine Wl.ifN 471 at_468 (feq (by decide)).1 ?_
  refine Wl.aload 473 at_471 rfl rfl ?_
  refine Wl.aload 475 at_473 rfl rfl ?_
  refine Wl.iload 477 at_475 rfl ?_
  refine Wl.iconst 478 (4 : Int32) at_477 (by decide) ?_
  refine Wl.static 481 (argsL := [.ref s110, .ref a116, .int (11 : Int32), .int (4 : Int32)]) at_478 (w222 hw) (w223 hw) (w2 hw) (w224 hw) (show parseMethodDescriptor "(Ljava/lang/String;[CII)Z" = some ⟨[(.object "java/lang/String"), (.array .char), .int, .int], some .boolean⟩ by decide +kernel) rfl (at_met hw hcs hfm (rs := [p0, (102 : Int32), (101 : Int32), (110 : Int32), (99 : Int32), (101 : Int32), (58 : Int32), (123 : Int32), n0, n1, (125 : Int32)]) (es := [p0, (102 : Int32), (101 : Int32), (110 : Int32), (99 : Int32), (101 : Int32), (58 : Int32), (123 : Int32), n0, n1, (125 : Int32), (0 : Int32), (0 : Int32)]) (k := 11) (i := 4) (S112.ext B212) A208 (nle rfl) (nle rfl) rfl (nle rfl)) (fun _ q => nomatch q) rfl rfl rfl (by decide) ⟨⟨nle rfl, nle rfl⟩, nle rfl, nle rfl⟩ ?_
  intro v228 h229 hq230 _
  obtain ⟨rfl, rfl⟩ := hq230
  show WlO _ _ _ _ _ _ _ _ _ _ _ _ _ _ _ _ _ _ [.int (1 : Int32)]
  refine Wl.ifN 484 at_481 (feq (by decide)).1 ?_
  refine Wl.aload 486 at_484 rfl rfl ?_
  refine Wl.aload 488 at_486 rfl rfl ?_
  refine Wl.iload 490 at_488 rfl ?_
  refine Wl.iconst 491 (5 : Int32) at_490 (by decide) ?_
  refine Wl.static 494 (argsL := [.ref s110, .ref a116, .int (11 : Int32), .int (5 : Int32)]) at_491 (w222 hw) (w223 hw) (w2 hw) (w224 hw) (show parseMethodDescriptor "(Ljava/lang/String;[CII)Z" = some ⟨[(.object "java/lang/String"), (.array .char), .int, .int], some .boolean⟩ by decide +kernel) rfl (at_met hw hcs hfm (rs := [p0, (102 : Int32), (101 : Int32), (110 : Int32), (99 : Int32), (101 : Int32), (58 : Int32), (123 : Int32), n0, n1, (125 : Int32)]) (es := [p0, (102 : Int32), (101 : Int32), (110 : Int32), (99 : Int32), (101 : Int32), (58 : Int32), (123 : Int32), n0, n1, (125 : Int32), (0 : Int32), (0 : Int32)]) (k := 11) (i := 5) (S112.ext B212) A208 (nle rfl) (nle rfl) rfl (nle rfl)) (fun _ q => nomatch q) rfl rfl rfl (by decide) ⟨⟨nle rfl, nle rfl⟩, nle rfl, nle rfl⟩ ?_
  intro v231 h232 hq233 _
  obtain ⟨rfl, rfl⟩ := hq233
  show WlO _ _ _ _ _ _ _ _ _ _ _ _ _ _ _ _ _ _ [.int (1 : Int32)]
  refine Wl.ifN 497 at_494 (feq (by decide)).1 ?_
  refine Wl.aload 499 at_497 rfl rfl ?_
  refine Wl.aload 501 at_499 rfl rfl ?_
  refine Wl.iload 503 at_501 rfl ?_
  refine Wl.bipush 505 (6 : Int32) at_503 (by decide) ?_
  refine Wl.static 508 (argsL := [.ref s110, .ref a116, .int (11 : Int32), .int (6 : Int32)]) at_505 (w222 hw) (w223 hw) (w2 hw) (w224 hw) (show parseMethodDescriptor "(Ljava/lang/String;[CII)Z" = some ⟨[(.object "java/lang/String"), (.array .char), .int, .int], some .boolean⟩ by decide +kernel) rfl (at_met hw hcs hfm (rs := [p0, (102 : Int32), (101 : Int32), (110 : Int32), (99 : Int32), (101 : Int32), (58 : Int32), (123 : Int32), n0, n1, (125 : Int32)]) (es := [p0, (102 : Int32), (101 : Int32), (110 : Int32), (99 : Int32), (101 : Int32), (58 : Int32), (123 : Int32), n0, n1, (125 : Int32), (0 : Int32), (0 : Int32)]) (k := 11) (i := 6) (S112.ext B212) A208 (nle rfl) (nle rfl) rfl (nle rfl)) (fun _ q => nomatch q) rfl rfl rfl (by decide) ⟨⟨nle rfl, nle rfl⟩, nle rfl, nle rfl⟩ ?_
  intro v234 h235 hq236 _
  obtain ⟨rfl, rfl⟩ := hq236
  show WlO _ _ _ _ _ _ _ _ _ _ _ _ _ _ _ _ _ _ [.int (1 : Int32)]
  refine Wl.ifN 511 at_508 (feq (by decide)).1 ?_
  refine Wl.aload 513 at_511 rfl rfl ?_
  refine Wl.aload 515 at_513 rfl rfl ?_
  refine Wl.iload 517 at_515 rfl ?_
  refine Wl.bipush 519 (7 : Int32) at_517 (by decide) ?_
  refine Wl.static 522 (argsL := [.ref s110, .ref a116, .int (11 : Int32), .int (7 : Int32)]) at_519 (w222 hw) (w223 hw) (w2 hw) (w224 hw) (show parseMethodDescriptor "(Ljava/lang/String;[CII)Z" = some ⟨[(.object "java/lang/String"), (.array .char), .int, .int], some .boolean⟩ by decide +kernel) rfl (at_met hw hcs hfm (rs := [p0, (102 : Int32), (101 : Int32), (110 : Int32), (99 : Int32), (101 : Int32), (58 : Int32), (123 : Int32), n0, n1, (125 : Int32)]) (es := [p0, (102 : Int32), (101 : Int32), (110 : Int32), (99 : Int32), (101 : Int32), (58 : Int32), (123 : Int32), n0, n1, (125 : Int32), (0 : Int32), (0 : Int32)]) (k := 11) (i := 7) (S112.ext B212) A208 (nle rfl) (nle rfl) rfl (nle rfl)) (fun _ q => nomatch q) rfl rfl rfl (by decide) ⟨⟨nle rfl, nle rfl⟩, nle rfl, nle rfl⟩ ?_
  intro v237 h238 hq239 _
  obtain ⟨rfl, rfl⟩ := hq239
  show WlO _ _ _ _ _ _ _ _ _ _ _ _ _ _ _ _ _ _ [.int (1 : Int32)]
  refine Wl.ifN 525 at_522 (feq (by decide)).1 ?_
  refine Wl.aload 527 at_525 rfl rfl ?_
  refine Wl.aload 529 at_527 rfl rfl ?_
  refine Wl.iload 531 at_529 rfl ?_
  refine Wl.bipush 533 (8 : Int32) at_531 (by decide) ?_
  refine Wl.static 536 (argsL := [.ref s110, .ref a116, .int (11 : Int32), .int (8 : Int32)]) at_533 (w222 hw) (w223 hw) (w2 hw) (w224 hw) (show parseMethodDescriptor "(Ljava/lang/String;[CII)Z" = some ⟨[(.object "java/lang/String"), (.array .char), .int, .int], some .boolean⟩ by decide +kernel) rfl (at_met hw hcs hfm (rs := [p0, (102 : Int32), (101 : Int32), (110 : Int32), (99 : Int32), (101 : Int32), (58 : Int32), (123 : Int32), n0, n1, (125 : Int32)]) (es := [p0, (102 : Int32), (101 : Int32), (110 : Int32), (99 : Int32), (101 : Int32), (58 : Int32), (123 : Int32), n0, n1, (125 : Int32), (0 : Int32), (0 : Int32)]) (k := 11) (i := 8) (S112.ext B212) A208 (nle rfl) (nle rfl) rfl (nle rfl)) (fun _ q => nomatch q) rfl rfl rfl (by decide) ⟨⟨nle rfl, nle rfl⟩, nle rfl, nle rfl⟩ ?_
  intro v240 h241 hq242 _
  obtain ⟨rfl, rfl⟩ := hq242
  show WlO _ _ _ _ _ _ _ _ _ _ _ _ _ _ _ _ _ _ [.int (1 : Int32)]
  refine Wl.ifN 539 at_536 (feq (by decide)).1 ?_
  refine Wl.aload 541 at_539 rfl rfl ?_
  refine Wl.aload 543 at_541 rfl rfl ?_
  refine Wl.iload 545 at_543 rfl ?_
  refine Wl.bipush 547 (9 : Int32) at_545 (by decide) ?_
  refine Wl.static 550 (argsL := [.ref s110, .ref a116, .int (11 : Int32), .int (9 : Int32)]) at_547 (w222 hw) (w223 hw) (w2 hw) (w224 hw) (show parseMethodDescriptor "(Ljava/lang/String;[CII)Z" = some ⟨[(.object "java/lang/String"), (.array .char), .int, .int], some .boolean⟩ by decide +kernel) rfl (at_met hw hcs hfm (rs := [p0, (102 : Int32), (101 : Int32), (110 : Int32), (99 : Int32), (101 : Int32), (58 : Int32), (123 : Int32), n0, n1, (125 : Int32)]) (es := [p0, (102 : Int32), (101 : Int32), (110 : Int32), (99 : Int32), (101 : Int32), (58 : Int32), (123 : Int32), n0, n1, (125 : Int32), (0 : Int32), (0 : Int32)]) (k := 11) (i := 9) (S112.ext B212) A208 (nle rfl) (nle rfl) rfl (nle rfl)) (fun _ q => nomatch q) rfl rfl rfl (by decide) ⟨⟨nle rfl, nle rfl⟩, nle rfl, nle rfl⟩ ?_
  intro v243 h244 hq245 _
  obtain ⟨rfl, rfl⟩ := hq245
  show WlO _ _ _ _ _ _ _ _ _ _ _ _ _ _ _ _ _ _ [.int (1 : Int32)]
  refine Wl.ifN 553 at_550 (feq (by decide)).1 ?_
  refine Wl.aload 555 at_553 rfl rfl ?_
  refine Wl.aload 557 at_555 rfl rfl ?_
  refine Wl.iload 559 at_557 rfl ?_
  refine Wl.bipush 561 (10 : Int32) at_559 (by decide) ?_
  refine Wl.static 564 (argsL := [.ref s110, .ref a116, .int (11 : Int32), .int (10 : Int32)]) at_561 (w222 hw) (w223 hw) (w2 hw) (w224 hw) (show parseMethodDescriptor "(Ljava/lang/String;[CII)Z" = some ⟨[(.object "java/lang/String"), (.array .char), .int, .int], some .boolean⟩ by decide +kernel) rfl (at_met hw hcs hfm (rs := [p0, (102 : Int32), (101 : Int32), (110 : Int32), (99 : Int32), (101 : Int32), (58 : Int32), (123 : Int32), n0, n1, (125 : Int32)]) (es := [p0, (102 : Int32), (101 : Int32), (110 : Int32), (99 : Int32), (101 : Int32), (58 : Int32), (123 : Int32), n0, n1, (125 : Int32), (0 : Int32), (0 : Int32)]) (k := 11) (i := 10) (S112.ext B212) A208 (nle rfl) (nle rfl) rfl (nle rfl)) (fun _ q => nomatch q) rfl rfl rfl (by decide) ⟨⟨nle rfl, nle rfl⟩, nle rfl, nle rfl⟩ ?_
  intro v246 h247 hq248 _
  obtain ⟨rfl, rfl⟩ := hq248
  show WlO _ _ _ _ _ _ _ _ _ _ _ _ _ _ _ _ _ _ [.int (1 : Int32)]
  refine Wl.ifN 567 at_564 (feq (by decide)).1 ?_
  refine Wl.aload 569 at_567 rfl rfl ?_
  refine Wl.aload 571 at_569 rfl rfl ?_
  refine Wl.iload 573 at_571 rfl ?_
  refine Wl.bipush 575 (11 : Int32) at_573 (by decide) ?_
  refine Wl.static 578 (argsL := [.ref s110, .ref a116, .int (11 : Int32), .int (11 : Int32)]) at_575 (w222 hw) (w223 hw) (w2 hw) (w224 hw) (show parseMethodDescriptor "(Ljava/lang/String;[CII)Z" = some ⟨[(.object "java/lang/String"), (.array .char), .int, .int], some .boolean⟩ by decide +kernel) rfl (at_met hw hcs hfm (rs := [p0, (102 : Int32), (101 : Int32), (110 : Int32), (99 : Int32), (101 : Int32), (58 : Int32), (123 : Int32), n0, n1, (125 : Int32)]) (es := [p0, (102 : Int32), (101 : Int32), (110 : Int32), (99 : Int32), (101 : Int32), (58 : Int32), (123 : Int32), n0, n1, (125 : Int32), (0 : Int32), (0 : Int32)]) (k := 11) (i := 11) (S112.ext B212) A208 (nle rfl) (nle rfl) rfl (nle rfl)) (fun _ q => nomatch q) rfl rfl rfl (by decide) ⟨⟨nle rfl, nle rfl⟩, nle rfl, nle rfl⟩ ?_
  intro v249 h250 hq251 _
  obtain ⟨rfl, rfl⟩ := hq251
  show WlO _ _ _ _ _ _ _ _ _ _ _ _ _ _ _ _ _ _ [.int (1 : Int32)]
  refine Wl.ifN 581 at_578 (feq (by decide)).1 ?_
  refine Wl.aload 583 at_581 rfl rfl ?_
  refine Wl.aload 585 at_583 rfl rfl ?_
  refine Wl.iload 587 at_585 rfl ?_
  refine Wl.bipush 589 (12 : Int32) at_587 (by decide) ?_
  refine Wl.static 592 (argsL := [.ref s110, .ref a116, .int (11 : Int32), .int (12 : Int32)]) at_589 (w222 hw) (w223 hw) (w2 hw) (w224 hw) (show parseMethodDescriptor "(Ljava/lang/String;[CII)Z" = some ⟨[(.object "java/lang/String"), (.array .char), .int, .int], some .boolean⟩ by decide +kernel) rfl (at_met hw hcs hfm (rs := [p0, (102 : Int32), (101 : Int32), (110 : Int32), (99 : Int32), (101 : Int32), (58 : Int32), (123 : Int32), n0, n1, (125 : Int32)]) (es := [p0, (102 : Int32), (101 : Int32), (110 : Int32), (99 : Int32), (101 : Int32), (58 : Int32), (123 : Int32), n0, n1, (125 : Int32), (0 : Int32), (0 : Int32)]) (k := 11) (i := 12) (S112.ext B212) A208 (nle rfl) (nle rfl) rfl (nle rfl)) (fun _ q => nomatch q) rfl rfl rfl (by decide) ⟨⟨nle rfl, nle rfl⟩, nle rfl, nle rfl⟩ ?_
  intro v252 h253 hq254 _
  obtain ⟨rfl, rfl⟩ := hq254
  show WlO _ _ _ _ _ _ _ _ _ _ _ _ _ _ _ _ _ _ [.int (1 : Int32)]
  refine Wl.ifN 595 at_592 (feq (by decide)).1 ?_
  refine Wl.iconst 596 (1 : Int32) at_595 (by decide) ?_
  refine Wl.goto 600 at_596 ?_
  exact Wl.ireturn at_600 rfl rfl (by simp) (nle rfl) (nle rfl) rfl
set_option maxRecDepth 65536 in
set_option maxHeartbeats 40000000 in
theorem law_t13 {l : Launch} {Z : State} {a0 : Array Value} (hw : ∀ d ∈ tables_1, d.before a0 Z = true) (hcs : CSon Z) (hfm : Fmt Z) {as : Array Value} {h : Heap} {i0 i1 p0 p1 n0 n1 n2 : Int32} (lp0 : Lat p0) (lp1 : Lat p1) (ln0 : Lat n0) (ln1 : Lat n1) (ln2 : Lat n2) (p0123 : p0 ≠ 123) (p0125 : p0 ≠ 125) (p1123 : p1 ≠ 123) (p1125 : p1 ≠ 125) (hn0 : ¬ n0 = (125 : Int32)) :
    Wl l Z a0 consts_1 x code maxLocals ret room_1 as (fun v h' => v = some (.int 1)) [] h 0 0 86 #[.val (.int i0), .val (.int i1), .val (.int (1 : Int32)), .val (.int p0), .val (.int p1), .val (.int (3 : Int32)), .val (.int n0), .val (.int n1), .val (.int n2), .unset, .unset, .unset, .unset, .unset] [] := by
  refine Wl.iload_n 87 at_86 rfl ?_
  refine Wl.ifY 103 at_87 (feq (by decide)).2 ?_
  refine Wl.iload_n 104 at_103 rfl ?_
  refine Wl.iconst 105 (1 : Int32) at_104 (by decide) ?_
  refine Wl.icmpN 108 at_105 (teq (by decide)).2 ?_
  refine Wl.new 111 at_108 (w4 hw) (w5 hw) (w6 hw) (nle rfl) (nle rfl) ?_
  intro a1 h2 q3 E4 X5 D6
  have z7 : h.size ≤ a1 := Nat.le_of_eq q3.symm
  have B8 : Ext h h2 := E4
  have F9 : Fld Z h2 a1 "java/lang/String" "value" "[B" (.null) := D6 (Or.inr (w20 hw)) (ty := (.array .byte)) (by decide)
  have F10 : Fld Z h2 a1 "java/lang/String" "coder" "B" (.int 0) := D6 (Or.inr (w21 hw)) (ty := .byte) (by decide)
  refine Wl.dup 112 at_111 rfl ?_
  refine Wl.iconst 113 (1 : Int32) at_112 (by decide) ?_
  refine Wl.newarray 115 1 at_113 (w7 hw) (by decide) (by decide) (by decide) (nle rfl) (nle rfl) ?_
  intro a11 h12 k13 q14 E15 A16
  have A16 : Arv Z h12 a11 k13 .char (1 : Int32) [.int 0] (.int 0) := A16
  have z17 : h.size ≤ a11 := Nat.le_trans B8.1 (Nat.le_of_eq q14.symm)
  have z18 : h2.size ≤ a11 := Nat.le_of_eq q14.symm
  have ne19 : a1 ≠ a11 := Nat.ne_of_lt (by rw [q14]; exact (X5).lt)
  have B20 : Ext h h12 := extTr B8 E15
  have B21 : Ext h2 h12 := E15
  refine Wl.dup 116 at_115 rfl ?_
  refine Wl.iconst 117 (0 : Int32) at_116 (by decide) ?_
  refine Wl.iload_n 118 at_117 rfl ?_
  refine Wl.castore 119 0 at_118 A16 (List.mem_of_getElem? (i := 0) rfl) (by decide) (by decide) (by decide) (nle rfl) ?_
  intro h22 W23 A24
  rw [nar_ch (lp0).ch] at A24
  have A24 : Arv Z h22 a11 k13 .char (1 : Int32) [.int p0] (.int 0) := A24
  have B25 : Ext h h22 := extWr B20 W23 z17
  have B26 : Ext h2 h22 := extWr B21 W23 z18
  refine Wl.special 122 (argsL := [.ref a11]) at_119 (w8 hw) (w9 hw) (w6 hw) (w10 hw) (show parseMethodDescriptor "([C)V" = some ⟨[(.array .char)], none⟩ by decide +kernel) rfl (strC_met hw hcs (cs := [p0]) 4 (nle rfl) (nle rfl)  (latC lp0 latN) (X5.ext B26) (F9.ext B26) (F10.ext B26) A24) (allS (List.mem_of_getElem? (i := 1) rfl) (fun _ q => nomatch q)) rfl rfl rfl rfl (by decide) ⟨⟨nle rfl, nle rfl⟩, nle rfl, nle rfl⟩ ?_
  intro v27 h28 hq29 _
  obtain ⟨rfl, K30, S31⟩ := hq29
  have B32 : Ext h h28 := extKeep B25 K30 (allS z7 all0)
  show WlO _ _ _ _ _ _ _ _ _ _ _ _ _ _ _ _ _ _ [.ref a1]
  refine Wl.goto 144 at_122 ?_
  refine Wl.astore 146 #[.val (.int i0), .val (.int i1), .val (.int (1 : Int32)), .val (.int p0), .val (.int p1), .val (.int (3 : Int32)), .val (.int n0), .val (.int n1), .val (.int n2), .val (.ref a1), .unset, .unset, .unset, .unset] at_144 rfl rfl ?_
  refine Wl.iload 148 at_146 rfl ?_
  refine Wl.iconst 149 (1 : Int32) at_148 (by decide) ?_
  refine Wl.icmpY 170 at_149 (feq (by decide)).2 ?_
  refine Wl.iload 172 at_170 rfl ?_
  refine Wl.iconst 173 (2 : Int32) at_172 (by decide) ?_
  refine Wl.icmpY 199 at_173 (feq (by decide)).2 ?_
  refine Wl.new 202 at_199 (w4 hw) (w5 hw) (w6 hw) (nle rfl) (nle rfl) ?_
  intro a33 h34 q35 E36 X37 D38
  have z39 : h.size ≤ a33 := Nat.le_trans B32.1 (Nat.le_of_eq q35.symm)
  have z40 : h28.size ≤ a33 := Nat.le_of_eq q35.symm
  have ne41 : a1 ≠ a33 := Nat.ne_of_lt (by rw [q35]; exact ((S31).exa).lt)
  have ne42 : a11 ≠ a33 := Nat.ne_of_lt (by rw [q35]; exact ((A24.keep K30 (ninS ne19.symm nin0))).lt)
  have B43 : Ext h h34 := extTr B32 E36
  have B44 : Ext h28 h34 := E36
  have F45 : Fld Z h34 a33 "java/lang/String" "value" "[B" (.null) := D38 (Or.inr (w20 hw)) (ty := (.array .byte)) (by decide)
  have F46 : Fld Z h34 a33 "java/lang/String" "coder" "B" (.int 0) := D38 (Or.inr (w21 hw)) (ty := .byte) (by decide)
  refine Wl.dup 203 at_202 rfl ?_
  refine Wl.iconst 204 (3 : Int32) at_203 (by decide) ?_
  refine Wl.newarray 206 3 at_204 (w7 hw) (by decide) (by decide) (by decide) (nle rfl) (nle rfl) ?_
  intro a47 h48 k49 q50 E51 A52
  have A52 : Arv Z h48 a47 k49 .char (3 : Int32) [.int 0, .int 0, .int 0] (.int 0) := A52
  have z53 : h.size ≤ a47 := Nat.le_trans B43.1 (Nat.le_of_eq q50.symm)
  have z54 : h28.size ≤ a47 := Nat.le_trans B44.1 (Nat.le_of_eq q50.symm)
  have z55 : h34.size ≤ a47 := Nat.le_of_eq q50.symm
  have ne56 : a1 ≠ a47 := Nat.ne_of_lt (by rw [q50]; exact (((S31).exa.ext E36)).lt)
  have ne57 : a11 ≠ a47 := Nat.ne_of_lt (by rw [q50]; exact (((A24.keep K30 (ninS ne19.symm nin0)).ext E36)).lt)
  have ne58 : a33 ≠ a47 := Nat.ne_of_lt (by rw [q50]; exact (X37).lt)
  have B59 : Ext h h48 := extTr B43 E51
  have B60 : Ext h28 h48 := extTr B44 E51
  have B61 : Ext h34 h48 := E51
  refine Wl.dup 207 at_206 rfl ?_
  refine Wl.iconst 208 (0 : Int32) at_207 (by decide) ?_
  refine Wl.iload 210 at_208 rfl ?_
  refine Wl.castore 211 0 at_210 A52 (List.mem_of_getElem? (i := 0) rfl) (by decide) (by decide) (by decide) (nle rfl) ?_
  intro h62 W63 A64
  rw [nar_ch (ln0).ch] at A64
  have A64 : Arv Z h62 a47 k49 .char (3 : Int32) [.int n0, .int (0 : Int32), .int (0 : Int32)] (.int 0) := A64
  have B65 : Ext h h62 := extWr B59 W63 z53
  have B66 : Ext h28 h62 := extWr B60 W63 z54
  have B67 : Ext h34 h62 := extWr B61 W63 z55
  refine Wl.dup 212 at_211 rfl ?_
  refine Wl.iconst 213 (1 : Int32) at_212 (by decide) ?_
  refine Wl.iload 215 at_213 rfl ?_
  refine Wl.castore 216 1 at_215 A64 (List.mem_of_getElem? (i := 0) rfl) (by decide) (by decide) (by decide) (nle rfl) ?_
  intro h68 W69 A70
  rw [nar_ch (ln1).ch] at A70
  have A70 : Arv Z h68 a47 k49 .char (3 : Int32) [.int n0, .int n1, .int (0 : Int32)] (.int 0) := A70
  have B71 : Ext h h68 := extWr B65 W69 z53
  have B72 : Ext h28 h68 := extWr B66 W69 z54
  have B73 : Ext h34 h68 := extWr B67 W69 z55
  refine Wl.dup 217 at_216 rfl ?_
  refine Wl.iconst 218 (2 : Int32) at_217 (by decide) ?_
  refine Wl.iload 220 at_218 rfl ?_
  refine Wl.castore 221 2 at_220 A70 (List.mem_of_getElem? (i := 0) rfl) (by decide) (by decide) (by decide) (nle rfl) ?_
  intro h74 W75 A76
  rw [nar_ch (ln2).ch] at A76
  have A76 : Arv Z h74 a47 k49 .char (3 : Int32) [.int n0, .int n1, .int n2] (.int 0) := A76
  have B77 : Ext h h74 := extWr B71 W75 z53
  have B78 : Ext h28 h74 := extWr B72 W75 z54
  have B79 : Ext h34 h74 := extWr B73 W75 z55
  refine Wl.special 224 (argsL := [.ref a47]) at_221 (w8 hw) (w9 hw) (w6 hw) (w10 hw) (show parseMethodDescriptor "([C)V" = some ⟨[(.array .char)], none⟩ by decide +kernel) rfl (strC_met hw hcs (cs := [n0, n1, n2]) 4 (nle rfl) (nle rfl)  (latC ln0 (latC ln1 (latC ln2 latN))) (X37.ext B79) (F45.ext B79) (F46.ext B79) A76) (allS (List.mem_of_getElem? (i := 1) rfl) (fun _ q => nomatch q)) rfl rfl rfl rfl (by decide) ⟨⟨nle rfl, nle rfl⟩, nle rfl, nle rfl⟩ ?_
  intro v80 h81 hq82 _
  obtain ⟨rfl, K83, S84⟩ := hq82
  have B85 : Ext h h81 := extKeep B77 K83 (allS z39 all0)
  have B86 : Ext h28 h81 := extKeep B78 K83 (allS z40 all0)
  show WlO _ _ _ _ _ _ _ _ _ _ _ _ _ _ _ _ _ _ [.ref a33]
  refine Wl.astore 226 #[.val (.int i0), .val (.int i1), .val (.int (1 : Int32)), .val (.int p0), .val (.int p1), .val (.int (3 : Int32)), .val (.int n0), .val (.int n1), .val (.int n2), .val (.ref a1), .val (.ref a33), .unset, .unset, .unset] at_224 rfl rfl ?_
  refine Wl.new 229 at_226 (w37 hw) (w38 hw) (w39 hw) (nle rfl) (nle rfl) ?_
  intro a87 h88 q89 E90 X91 D92
  have z93 : h.size ≤ a87 := Nat.le_trans B85.1 (Nat.le_of_eq q89.symm)
  have z94 : h28.size ≤ a87 := Nat.le_trans B86.1 (Nat.le_of_eq q89.symm)
  have z95 : h81.size ≤ a87 := Nat.le_of_eq q89.symm
  have ne96 : a1 ≠ a87 := Nat.ne_of_lt (by rw [q89]; exact (((S31).exa.ext B86)).lt)
  have ne97 : a11 ≠ a87 := Nat.ne_of_lt (by rw [q89]; exact (((A24.keep K30 (ninS ne19.symm nin0)).ext B86)).lt)
  have ne98 : a33 ≠ a87 := Nat.ne_of_lt (by rw [q89]; exact ((S84).exa).lt)
  have ne99 : a47 ≠ a87 := Nat.ne_of_lt (by rw [q89]; exact ((A76.keep K83 (ninS ne58.symm nin0))).lt)
  have B100 : Ext h h88 := extTr B85 E90
  have B101 : Ext h28 h88 := extTr B86 E90
  have B102 : Ext h81 h88 := E90
  have F103 : Fld Z h88 a87 "com/example/portunus/portunus/LockKeys" "prefix" "Ljava/lang/String;" (.null) := D92 (Or.inr (w89 hw)) (ty := (.object "java/lang/String")) (by decide)
  refine Wl.dup 230 at_229 rfl ?_
  refine Wl.aload 232 at_230 rfl rfl ?_
  refine Wl.special 235 (argsL := [.ref a1]) at_232 (w40 hw) (w41 hw) (w39 hw) (w42 hw) (show parseMethodDescriptor "(Ljava/lang/String;)V" = some ⟨[(.object "java/lang/String")], none⟩ by decide +kernel) rfl (keys_met hw hcs X91 F103 (cs := [p0]) (S31.ext B101) (neC p0123 neN) (neC p0125 neN)) (allS (List.mem_of_getElem? (i := 0) rfl) (fun _ q => nomatch q)) rfl rfl rfl rfl (by decide) ⟨⟨nle rfl, nle rfl⟩, nle rfl, nle rfl⟩ ?_
  intro v104 h105 hq106 _
  obtain ⟨rfl, K107, X108, F109⟩ := hq106
  have B110 : Ext h h105 := extKeep B100 K107 (allS z93 all0)
  have B111 : Ext h28 h105 := extKeep B101 K107 (allS z94 all0)
  have B112 : Ext h81 h105 := extKeep B102 K107 (allS z95 all0)
  show WlO _ _ _ _ _ _ _ _ _ _ _ _ _ _ _ _ _ _ [.ref a87]
  refine Wl.aload 237 at_235 rfl rfl ?_
  refine Wl.virtual 240 (argsL := [.ref a33]) at_237 (w90 hw) (w91 hw) (w93 hw) (w92 hw) (w39 hw) (w94 hw) (nf_sel (w93 hw) rfl) X108 (show parseMethodDescriptor "(Ljava/lang/String;)Ljava/lang/String;" = some ⟨[(.object "java/lang/String")], some (.object "java/lang/String")⟩ by decide +kernel) rfl (key_met hw hcs hfm (cs := [n0, n1, n2]) (ps := [p0]) F109 (S31.ext B111) (nle rfl) (S84.ext B112) (by simp) (nle rfl) hn0 (nle rfl)) (fun _ q => nomatch q) rfl rfl rfl (by decide) ⟨⟨nle rfl, nle rfl⟩, nle rfl, nle rfl⟩ ?_
  intro v113 h114 hq115 _
  obtain ⟨s116, rfl, E117, S118⟩ := hq115
  have S118 : Stl Z h114 s116 [p0, (102 : Int32), (101 : Int32), (110 : Int32), (99 : Int32), (101 : Int32), (58 : Int32), (123 : Int32), n0, n1, n2, (125 : Int32)] := S118
  have B119 : Ext h h114 := extTr B110 E117
  have B120 : Ext h28 h114 := extTr B111 E117
  have B121 : Ext h81 h114 := extTr B112 E117
  show WlO _ _ _ _ _ _ _ _ _ _ _ _ _ _ _ _ _ _ [.ref s116]
  refine Wl.astore 242 #[.val (.int i0), .val (.int i1), .val (.int (1 : Int32)), .val (.int p0), .val (.int p1), .val (.int (3 : Int32)), .val (.int n0), .val (.int n1), .val (.int n2), .val (.ref a1), .val (.ref a33), .val (.ref s116), .unset, .unset] at_240 rfl rfl ?_
  refine Wl.bipush 244 (13 : Int32) at_242 (by decide) ?_
  refine Wl.newarray 246 13 at_244 (w7 hw) (by decide) (by decide) (by decide) (nle rfl) (nle rfl) ?_
  intro a122 h123 k124 q125 E126 A127
  have A127 : Arv Z h123 a122 k124 .char (13 : Int32) [.int 0, .int 0, .int 0, .int 0, .int 0, .int 0, .int 0, .int 0, .int 0, .int 0, .int 0, .int 0, .int 0] (.int 0) := A127
  have z128 : h.size ≤ a122 := Nat.le_trans B119.1 (Nat.le_of_eq q125.symm)
  have z129 : h28.size ≤ a122 := Nat.le_trans B120.1 (Nat.le_of_eq q125.symm)
  have z130 : h81.size ≤ a122 := Nat.le_trans B121.1 (Nat.le_of_eq q125.symm)
  have z131 : h114.size ≤ a122 := Nat.le_of_eq q125.symm
  have ne132 : a1 ≠ a122 := Nat.ne_of_lt (by rw [q125]; exact (((S31).exa.ext B120)).lt)
  have ne133 : a11 ≠ a122 := Nat.ne_of_lt (by rw [q125]; exact (((A24.keep K30 (ninS ne19.symm nin0)).ext B120)).lt)
  have ne134 : a33 ≠ a122 := Nat.ne_of_lt (by rw [q125]; exact (((S84).exa.ext B121)).lt)
  have ne135 : a47 ≠ a122 := Nat.ne_of_lt (by rw [q125]; exact (((A76.keep K83 (ninS ne58.symm nin0)).ext B121)).lt)
  have ne136 : a87 ≠ a122 := Nat.ne_of_lt (by rw [q125]; exact ((X108.ext E117)).lt)
  have ne137 : s116 ≠ a122 := Nat.ne_of_lt (by rw [q125]; exact ((S118).exa).lt)
  have B138 : Ext h h123 := extTr B119 E126
  have B139 : Ext h28 h123 := extTr B120 E126
  have B140 : Ext h81 h123 := extTr B121 E126
  have B141 : Ext h114 h123 := E126
  refine Wl.astore 248 #[.val (.int i0), .val (.int i1), .val (.int (1 : Int32)), .val (.int p0), .val (.int p1), .val (.int (3 : Int32)), .val (.int n0), .val (.int n1), .val (.int n2), .val (.ref a1), .val (.ref a33), .val (.ref s116), .val (.ref a122), .unset] at_246 rfl rfl ?_
  refine Wl.iconst 249 (0 : Int32) at_248 (by decide) ?_
  refine Wl.istore 251 #[.val (.int i0), .val (.int i1), .val (.int (1 : Int32)), .val (.int p0), .val (.int p1), .val (.int (3 : Int32)), .val (.int n0), .val (.int n1), .val (.int n2), .val (.ref a1), .val (.ref a33), .val (.ref s116), .val (.ref a122), .val (.int (0 : Int32))] at_249 rfl ?_
  refine Wl.iload_n 252 at_251 rfl ?_
  refine Wl.iconst 253 (1 : Int32) at_252 (by decide) ?_
  refine Wl.icmpN 256 at_253 (flt (by decide)).1 ?_
  refine Wl.aload 258 at_256 rfl rfl ?_
  refine Wl.iload 260 at_258 rfl ?_
  refine Wl.iload_n 261 at_260 rfl ?_
  refine Wl.castore 262 0 at_261 A127 (List.mem_of_getElem? (i := 0) rfl) (by decide) (by decide) (by decide) (nle rfl) ?_
  intro h142 W143 A144
  rw [nar_ch (lp0).ch] at A144
  have A144 : Arv Z h142 a122 k124 .char (13 : Int32) [.int p0, .int (0 : Int32), .int (0 : Int32), .int (0 : Int32), .int (0 : Int32), .int (0 : Int32), .int (0 : Int32), .int (0 : Int32), .int (0 : Int32), .int (0 : Int32), .int (0 : Int32), .int (0 : Int32), .int (0 : Int32)] (.int 0) := A144
  have B145 : Ext h h142 := extWr B138 W143 z128
  have B146 : Ext h28 h142 := extWr B139 W143 z129
  have B147 : Ext h81 h142 := extWr B140 W143 z130
  have B148 : Ext h114 h142 := extWr B141 W143 z131
  refine Wl.iinc 265 #[.val (.int i0), .val (.int i1), .val (.int (1 : Int32)), .val (.int p0), .val (.int p1), .val (.int (3 : Int32)), .val (.int n0), .val (.int n1), .val (.int n2), .val (.ref a1), .val (.ref a33), .val (.ref s116), .val (.ref a122), .val (.int (1 : Int32))] (1 : Int32) at_262 (by decide) rfl rfl ?_
  refine Wl.iload_n 266 at_265 rfl ?_
  refine Wl.iconst 267 (2 : Int32) at_266 (by decide) ?_
  refine Wl.icmpY 280 at_267 (tlt (by decide)).1 ?_
  refine Wl.aload 282 at_280 rfl rfl ?_
  refine Wl.iload 284 at_282 rfl ?_
  refine Wl.bipush 286 (102 : Int32) at_284 (by decide) ?_
  refine Wl.castore 287 1 at_286 A144 (List.mem_of_getElem? (i := 0) rfl) (by decide) (by decide) (by decide) (nle rfl) ?_
  intro h149 W150 A151
  rw [nar_ch (by decide)] at A151
  have A151 : Arv Z h149 a122 k124 .char (13 : Int32) [.int p0, .int (102 : Int32), .int (0 : Int32), .int (0 : Int32), .int (0 : Int32), .int (0 : Int32), .int (0 : Int32), .int (0 : Int32), .int (0 : Int32), .int (0 : Int32), .int (0 : Int32), .int (0 : Int32), .int (0 : Int32)] (.int 0) := A151
  have B152 : Ext h h149 := extWr B145 W150 z128
  have B153 : Ext h28 h149 := extWr B146 W150 z129
  have B154 : Ext h81 h149 := extWr B147 W150 z130
  have B155 : Ext h114 h149 := extWr B148 W150 z131
  refine Wl.iinc 290 #[.val (.int i0), .val (.int i1), .val (.int (1 : Int32)), .val (.int p0), .val (.int p1), .val (.int (3 : Int32)), .val (.int n0), .val (.int n1), .val (.int n2), .val (.ref a1), .val (.ref a33), .val (.ref s116), .val (.ref a122), .val (.int (2 : Int32))] (1 : Int32) at_287 (by decide) rfl rfl ?_
  refine Wl.aload 292 at_290 rfl rfl ?_
  refine Wl.iload 294 at_292 rfl ?_
  refine Wl.bipush 296 (101 : Int32) at_294 (by decide) ?_
  refine Wl.castore 297 2 at_296 A151 (List.mem_of_getElem? (i := 0) rfl) (by decide) (by decide) (by decide) (nle rfl) ?_
  intro h156 W157 A158
  rw [nar_ch (by decide)] at A158
  have A158 : Arv Z h156 a122 k124 .char (13 : Int32) [.int p0, .int (102 : Int32), .int (101 : Int32), .int (0 : Int32), .int (0 : Int32), .int (0 : Int32), .int (0 : Int32), .int (0 : Int32), .int (0 : Int32), .int (0 : Int32), .int (0 : Int32), .int (0 : Int32), .int (0 : Int32)] (.int 0) := A158
  have B159 : Ext h h156 := extWr B152 W157 z128
  have B160 : Ext h28 h156 := extWr B153 W157 z129
  have B161 : Ext h81 h156 := extWr B154 W157 z130
  have B162 : Ext h114 h156 := extWr B155 W157 z131
  refine Wl.iinc 300 #[.val (.int i0), .val (.int i1), .val (.int (1 : Int32)), .val (.int p0), .val (.int p1), .val (.int (3 : Int32)), .val (.int n0), .val (.int n1), .val (.int n2), .val (.ref a1), .val (.ref a33), .val (.ref s116), .val (.ref a122), .val (.int (3 : Int32))] (1 : Int32) at_297 (by decide) rfl rfl ?_
  refine Wl.aload 302 at_300 rfl rfl ?_
  refine Wl.iload 304 at_302 rfl ?_
  refine Wl.bipush 306 (110 : Int32) at_304 (by decide) ?_
  refine Wl.castore 307 3 at_306 A158 (List.mem_of_getElem? (i := 0) rfl) (by decide) (by decide) (by decide) (nle rfl) ?_
  intro h163 W164 A165
  rw [nar_ch (by decide)] at A165
  have A165 : Arv Z h163 a122 k124 .char (13 : Int32) [.int p0, .int (102 : Int32), .int (101 : Int32), .int (110 : Int32), .int (0 : Int32), .int (0 : Int32), .int (0 : Int32), .int (0 : Int32), .int (0 : Int32), .int (0 : Int32), .int (0 : Int32), .int (0 : Int32), .int (0 : Int32)] (.int 0) := A165
  have B166 : Ext h h163 := extWr B159 W164 z128
  have B167 : Ext h28 h163 := extWr B160 W164 z129
  have B168 : Ext h81 h163 := extWr B161 W164 z130
  have B169 : Ext h114 h163 := extWr B162 W164 z131
  refine Wl.iinc 310 #[.val (.int i0), .val (.int i1), .val (.int (1 : Int32)), .val (.int p0), .val (.int p1), .val (.int (3 : Int32)), .val (.int n0), .val (.int n1), .val (.int n2), .val (.ref a1), .val (.ref a33), .val (.ref s116), .val (.ref a122), .val (.int (4 : Int32))] (1 : Int32) at_307 (by decide) rfl rfl ?_
  refine Wl.aload 312 at_310 rfl rfl ?_
  refine Wl.iload 314 at_312 rfl ?_
  refine Wl.bipush 316 (99 : Int32) at_314 (by decide) ?_
  refine Wl.castore 317 4 at_316 A165 (List.mem_of_getElem? (i := 0) rfl) (by decide) (by decide) (by decide) (nle rfl) ?_
  intro h170 W171 A172
  rw [nar_ch (by decide)] at A172
  have A172 : Arv Z h170 a122 k124 .char (13 : Int32) [.int p0, .int (102 : Int32), .int (101 : Int32), .int (110 : Int32), .int (99 : Int32), .int (0 : Int32), .int (0 : Int32), .int (0 : Int32), .int (0 : Int32), .int (0 : Int32), .int (0 : Int32), .int (0 : Int32), .int (0 : Int32)] (.int 0) := A172
  have B173 : Ext h h170 := extWr B166 W171 z128
  have B174 : Ext h28 h170 := extWr B167 W171 z129
  have B175 : Ext h81 h170 := extWr B168 W171 z130
  have B176 : Ext h114 h170 := extWr B169 W171 z131
  refine Wl.iinc 320 #[.val (.int i0), .val (.int i1), .val (.int (1 : Int32)), .val (.int p0), .val (.int p1), .val (.int (3 : Int32)), .val (.int n0), .val (.int n1), .val (.int n2), .val (.ref a1), .val (.ref a33), .val (.ref s116), .val (.ref a122), .val (.int (5 : Int32))] (1 : Int32) at_317 (by decide) rfl rfl ?_
  refine Wl.aload 322 at_320 rfl rfl ?_
  refine Wl.iload 324 at_322 rfl ?_
  refine Wl.bipush 326 (101 : Int32) at_324 (by decide) ?_
  refine Wl.castore 327 5 at_326 A172 (List.mem_of_getElem? (i := 0) rfl) (by decide) (by decide) (by decide) (nle rfl) ?_
  intro h177 W178 A179
  rw [nar_ch (by decide)] at A179
  have A179 : Arv Z h177 a122 k124 .char (13 : Int32) [.int p0, .int (102 : Int32), .int (101 : Int32), .int (110 : Int32), .int (99 : Int32), .int (101 : Int32), .int (0 : Int32), .int (0 : Int32), .int (0 : Int32), .int (0 : Int32), .int (0 : Int32), .int (0 : Int32), .int (0 : Int32)] (.int 0) := A179
  have B180 : Ext h h177 := extWr B173 W178 z128
  have B181 : Ext h28 h177 := extWr B174 W178 z129
  have B182 : Ext h81 h177 := extWr B175 W178 z130
  have B183 : Ext h114 h177 := extWr B176 W178 z131
  refine Wl.iinc 330 #[.val (.int i0), .val (.int i1), .val (.int (1 : Int32)), .val (.int p0), .val (.int p1), .val (.int (3 : Int32)), .val (.int n0), .val (.int n1), .val (.int n2), .val (.ref a1), .val (.ref a33), .val (.ref s116), .val (.ref a122), .val (.int (6 : Int32))] (1 : Int32) at_327 (by decide) rfl rfl ?_
  refine Wl.aload 332 at_330 rfl rfl ?_
  refine Wl.iload 334 at_332 rfl ?_
  refine Wl.bipush 336 (58 : Int32) at_334 (by decide) ?_
  refine Wl.castore 337 6 at_336 A179 (List.mem_of_getElem? (i := 0) rfl) (by decide) (by decide) (by decide) (nle rfl) ?_
  intro h184 W185 A186
  rw [nar_ch (by decide)] at A186
  have A186 : Arv Z h184 a122 k124 .char (13 : Int32) [.int p0, .int (102 : Int32), .int (101 : Int32), .int (110 : Int32), .int (99 : Int32), .int (101 : Int32), .int (58 : Int32), .int (0 : Int32), .int (0 : Int32), .int (0 : Int32), .int (0 : Int32), .int (0 : Int32), .int (0 : Int32)] (.int 0) := A186
  have B187 : Ext h h184 := extWr B180 W185 z128
  have B188 : Ext h28 h184 := extWr B181 W185 z129
  have B189 : Ext h81 h184 := extWr B182 W185 z130
  have B190 : Ext h114 h184 := extWr B183 W185 z131
  refine Wl.iinc 340 #[.val (.int i0), .val (.int i1), .val (.int (1 : Int32)), .val (.int p0), .val (.int p1), .val (.int (3 : Int32)), .val (.int n0), .val (.int n1), .val (.int n2), .val (.ref a1), .val (.ref a33), .val (.ref s116), .val (.ref a122), .val (.int (7 : Int32))] (1 : Int32) at_337 (by decide) rfl rfl ?_
  refine Wl.aload 342 at_340 rfl rfl ?_
  refine Wl.iload 344 at_342 rfl ?_
  refine Wl.bipush 346 (123 : Int32) at_344 (by decide) ?_
  refine Wl.castore 347 7 at_346 A186 (List.mem_of_getElem? (i := 0) rfl) (by decide) (by decide) (by decide) (nle rfl) ?_
  intro h191 W192 A193
  rw [nar_ch (by decide)] at A193
  have A193 : Arv Z h191 a122 k124 .char (13 : Int32) [.int p0, .int (102 : Int32), .int (101 : Int32), .int (110 : Int32), .int (99 : Int32), .int (101 : Int32), .int (58 : Int32), .int (123 : Int32), .int (0 : Int32), .int (0 : Int32), .int (0 : Int32), .int (0 : Int32), .int (0 : Int32)] (.int 0) := A193
  have B194 : Ext h h191 := extWr B187 W192 z128
  have B195 : Ext h28 h191 := extWr B188 W192 z129
  have B196 : Ext h81 h191 := extWr B189 W192 z130
  have B197 : Ext h114 h191 := extWr B190 W192 z131
  refine Wl.iinc 350 #[.val (.int i0), .val (.int i1), .val (.int (1 : Int32)), .val (.int p0), .val (.int p1), .val (.int (3 : Int32)), .val (.int n0), .val (.int n1), .val (.int n2), .val (.ref a1), .val (.ref a33), .val (.ref s116), .val (.ref a122), .val (.int (8 : Int32))] (1 : Int32) at_347 (by decide) rfl rfl ?_
  refine Wl.aload 352 at_350 rfl rfl ?_
  refine Wl.iload 354 at_352 rfl ?_
  refine Wl.iload 356 at_354 rfl ?_
  refine Wl.castore 357 8 at_356 A193 (List.mem_of_getElem? (i := 0) rfl) (by decide) (by decide) (by decide) (nle rfl) ?_
  intro h198 W199 A200
  rw [nar_ch (ln0).ch] at A200
  have A200 : Arv Z h198 a122 k124 .char (13 : Int32) [.int p0, .int (102 : Int32), .int (101 : Int32), .int (110 : Int32), .int (99 : Int32), .int (101 : Int32), .int (58 : Int32), .int (123 : Int32), .int n0, .int (0 : Int32), .int (0 : Int32), .int (0 : Int32), .int (0 : Int32)] (.int 0) := A200
  have B201 : Ext h h198 := extWr B194 W199 z128
  have B202 : Ext h28 h198 := extWr B195 W199 z129
  have B203 : Ext h81 h198 := extWr B196 W199 z130
  have B204 : Ext h114 h198 := extWr B197 W199 z131
  refine Wl.iinc 360 #[.val (.int i0), .val (.int i1), .val (.int (1 : Int32)), .val (.int p0), .val (.int p1), .val (.int (3 : Int32)), .val (.int n0), .val (.int n1), .val (.int n2), .val (.ref a1), .val (.ref a33), .val (.ref s116), .val (.ref a122), .val (.int (9 : Int32))] (1 : Int32) at_357 (by decide) rfl rfl ?_
  refine Wl.iload 362 at_360 rfl ?_
  refine Wl.iconst 363 (2 : Int32) at_362 (by decide) ?_
  refine Wl.icmpN 366 at_363 (flt (by decide)).1 ?_
  refine Wl.aload 368 at_366 rfl rfl ?_
  refine Wl.iload 370 at_368 rfl ?_
  refine Wl.iload 372 at_370 rfl ?_
  refine Wl.castore 373 9 at_372 A200 (List.mem_of_getElem? (i := 0) rfl) (by decide) (by decide) (by decide) (nle rfl) ?_
  intro h205 W206 A207
  rw [nar_ch (ln1).ch] at A207
  have A207 : Arv Z h205 a122 k124 .char (13 : Int32) [.int p0, .int (102 : Int32), .int (101 : Int32), .int (110 : Int32), .int (99 : Int32), .int (101 : Int32), .int (58 : Int32), .int (123 : Int32), .int n0, .int n1, .int (0 : Int32), .int (0 : Int32), .int (0 : Int32)] (.int 0) := A207
  have B208 : Ext h h205 := extWr B201 W206 z128
  have B209 : Ext h28 h205 := extWr B202 W206 z129
  have B210 : Ext h81 h205 := extWr B203 W206 z130
  have B211 : Ext h114 h205 := extWr B204 W206 z131
  refine Wl.iinc 376 #[.val (.int i0), .val (.int i1), .val (.int (1 : Int32)), .val (.int p0), .val (.int p1), .val (.int (3 : Int32)), .val (.int n0), .val (.int n1), .val (.int n2), .val (.ref a1), .val (.ref a33), .val (.ref s116), .val (.ref a122), .val (.int (10 : Int32))] (1 : Int32) at_373 (by decide) rfl rfl ?_
  refine Wl.iload 378 at_376 rfl ?_
  refine Wl.iconst 379 (3 : Int32) at_378 (by decide) ?_
  refine Wl.icmpN 382 at_379 (flt (by decide)).1 ?_
  refine Wl.aload 384 at_382 rfl rfl ?_
  refine Wl.iload 386 at_384 rfl ?_
  refine Wl.iload 388 at_386 rfl ?_
  refine Wl.castore 389 10 at_388 A207 (List.mem_of_getElem? (i := 0) rfl) (by decide) (by decide) (by decide) (nle rfl) ?_
  intro h212 W213 A214
  rw [nar_ch (ln2).ch] at A214
  have A214 : Arv Z h212 a122 k124 .char (13 : Int32) [.int p0, .int (102 : Int32), .int (101 : Int32), .int (110 : Int32), .int (99 : Int32), .int (101 : Int32), .int (58 : Int32), .int (123 : Int32), .int n0, .int n1, .int n2, .int (0 : Int32), .int (0 : Int32)] (.int 0) := A214
  have B215 : Ext h h212 := extWr B208 W213 z128
  have B216 : Ext h28 h212 := extWr B209 W213 z129
  have B217 : Ext h81 h212 := extWr B210 W213 z130
  have B218 : Ext h114 h212 := extWr B211 W213 z131
  refine Wl.iinc 392 #[.val (.int i0), .val (.int i1), .val (.int (1 : Int32)), .val (.int p0), .val (.int p1), .val (.int (3 : Int32)), .val (.int n0), .val (.int n1), .val (.int n2), .val (.ref a1), .val (.ref a33), .val (.ref s116), .val (.ref a122), .val (.int (11 : Int32))] (1 : Int32) at_389 (by decide) rfl rfl ?_
  refine Wl.aload 394 at_392 rfl rfl ?_
  refine Wl.iload 396 at_394 rfl ?_
  refine Wl.bipush 398 (125 : Int32) at_396 (by decide) ?_
  refine Wl.castore 399 11 at_398 A214 (List.mem_of_getElem? (i := 0) rfl) (by decide) (by decide) (by decide) (nle rfl) ?_
  intro h219 W220 A221
  rw [nar_ch (by decide)] at A221
  have A221 : Arv Z h219 a122 k124 .char (13 : Int32) [.int p0, .int (102 : Int32), .int (101 : Int32), .int (110 : Int32), .int (99 : Int32), .int (101 : Int32), .int (58 : Int32), .int (123 : Int32), .int n0, .int n1, .int n2, .int (125 : Int32), .int (0 : Int32)] (.int 0) := A221
  have B222 : Ext h h219 := extWr B215 W220 z128
  have B223 : Ext h28 h219 := extWr B216 W220 z129
  have B224 : Ext h81 h219 := extWr B217 W220 z130
  have B225 : Ext h114 h219 := extWr B218 W220 z131
  refine Wl.iinc 402 #[.val (.int i0), .val (.int i1), .val (.int (1 : Int32)), .val (.int p0), .val (.int p1), .val (.int (3 : Int32)), .val (.int n0), .val (.int n1), .val (.int n2), .val (.ref a1), .val (.ref a33), .val (.ref s116), .val (.ref a122), .val (.int (12 : Int32))] (1 : Int32) at_399 (by decide) rfl rfl ?_
  refine Wl.aload 404 at_402 rfl rfl ?_
  refine Wl.ifnullN 407 at_404 ?_
  refine Wl.aload 409 at_407 rfl rfl ?_
  refine Wl.virtual 412 (argsL := []) at_409 (w221 hw) (w65 hw) (w67 hw) (w66 hw) (w6 hw) (w68 hw) (nf_sel (w67 hw) rfl) ((S118).exa.ext B225) (show parseMethodDescriptor "()I" = some ⟨[], some .int⟩ by decide +kernel) rfl (len_met hw hcs (S118.ext B225)) (fun _ q => nomatch q) rfl rfl rfl (by decide) ⟨⟨nle rfl, nle rfl⟩, nle rfl, nle rfl⟩ ?_
  intro v226 h227 hq228 _
  obtain ⟨rfl, rfl⟩ := hq228
  show WlO _ _ _ _ _ _ _ _ _ _ _ _ _ _ _ _ _ _ [.int (12 : Int32)]
  refine Wl.iload 414 at_412 rfl ?_
  refine Wl.icmpY 419 at_414 (teq (by decide)).1 ?_
  refine Wl.aload 421 at_419 rfl rfl ?_
  refine Wl.aload 423 at_421 rfl rfl ?_
  refine Wl.iload 425 at_423 rfl ?_
  refine Wl.iconst 426 (0 : Int32) at_425 (by decide) ?_
  refine Wl.static 429 (argsL := [.ref s116, .ref a122, .int (12 : Int32), .int (0 : Int32)]) at_426 (w222 hw) (w223 hw) (w2 hw) (w224 hw) (show parseMethodDescriptor "(Ljava/lang/String;[CII)Z" = some ⟨[(.object "java/lang/String"), (.array .char), .int, .int], some .boolean⟩ by decide +kernel) rfl (at_met hw hcs hfm (rs := [p0, (102 : Int32), (101 : Int32), (110 : Int32), (99 : Int32), (101 : Int32), (58 : Int32), (123 : Int32), n0, n1, n2, (125 : Int32)]) (es := [p0, (102 : Int32), (101 : Int32), (110 : Int32), (99 : Int32), (101 : Int32), (58 : Int32), (123 : Int32), n0, n1, n2, (125 : Int32), (0 : Int32)]) (k := 12) (i := 0) (S118.ext B225) A221 (nle rfl) (nle rfl) rfl (nle rfl)) (fun _ q => nomatch q) rfl rfl rfl (by decide) ⟨⟨nle rfl, nle rfl⟩, nle rfl, nle rfl⟩ ?_
  intro v229 h230 hq231 _
  obtain ⟨rfl, rfl⟩ := hq231
  show WlO _ _ _ _ _ _ _ _ _ _ _ _ _ _ _ _ _ _ [.int (1 : Int32)]
  refine Wl.ifN 432 at_429 (feq (by decide)).1 ?_
  refine Wl.aload 434 at_432 rfl rfl ?_
  refine Wl.aload 436 at_434 rfl rfl ?_
  refine Wl.iload 438 at_436 rfl ?_
  refine Wl.iconst 439 (1 : Int32) at_438 (by decide) ?_
  refine Wl.static 442 (argsL := [.ref s116, .ref a122, .int (12 : Int32), .int (1 : Int32)]) at_439 (w222 hw) (w223 hw) (w2 hw) (w224 hw) (show parseMethodDescriptor "(Ljava/lang/String;[CII)Z" = some ⟨[(.object "java/lang/String"), (.array .char), .int, .int], some .boolean⟩ by decide +kernel) rfl (at_met hw hcs hfm (rs := [p0, (102 : Int32), (101 : Int32), (110 : Int32), (99 : Int32), (101 : Int32), (58 : Int32), (123 : Int32), n0, n1, n2, (125 : Int32)]) (es := [p0, (102 : Int32), (101 : Int32), (110 : Int32), (99 : Int32), (101 : Int32), (58 : Int32), (123 : Int32), n0, n1, n2, (125 : Int32), (0 : Int32)]) (k := 12) (i := 1) (S118.ext B225) A221 (nle rfl) (nle rfl) rfl (nle rfl)) (fun _ q => nomatch q) rfl rfl rfl (by decide) ⟨⟨nle rfl, nle rfl⟩, nle rfl, nle rfl⟩ ?_
  intro v232 h233 hq234 _
  obtain ⟨rfl, rfl⟩ := hq234
  show WlO _ _ _ _ _ _ _ _ _ _ _ _ _ _ _ _ _ _ [.int (1 : Int32)]
  refine Wl.ifN 445 at_442 (feq (by decide)).1 ?_
  refine Wl.aload 447 at_445 rfl rfl ?_
  refine Wl.aload 449 at_447 rfl rfl ?_
  refine Wl.iload 451 at_449 rfl ?_
  refine Wl.iconst 452 (2 : Int32) at_451 (by decide) ?_
  refine Wl.static 455 (argsL := [.ref s116, .ref a122, .int (12 : Int32), .int (2 : Int32)]) at_452 (w222 hw) (w223 hw) (w2 hw) (w224 hw) (show parseMethodDescriptor "(Ljava/lang/String;[CII)Z" = some ⟨[(.object "java/lang/String"), (.array .char), .int, .int], some .boolean⟩ by decide +kernel) rfl (at_met hw hcs hfm (rs := [p0, (102 : Int32), (101 : Int32), (110 : Int32), (99 : Int32), (101 : Int32), (58 : Int32), (123 : Int32), n0, n1, n2, (125 : Int32)]) (es := [p0, (102 : Int32), (101 : Int32), (110 : Int32), (99 : Int32), (101 : Int32), (58 : Int32), (123 : Int32), n0, n1, n2, (125 : Int32), (0 : Int32)]) (k := 12) (i := 2) (S118.ext B225) A221 (nle rfl) (nle rfl) rfl (nle rfl)) (fun _ q => nomatch q) rfl rfl rfl (by decide) ⟨⟨nle rfl, nle rfl⟩, nle rfl, nle rfl⟩ ?_
  intro v235 h236 hq237 _
  obtain ⟨rfl, rfl⟩ := hq237
  show WlO _ _ _ _ _ _ _ _ _ _ _ _ _ _ _ _ _ _ [.int (1 : Int32)]
  refine Wl.ifN 458 at_455 (feq (by decide)).1 ?_
  refine Wl.aload 460 at_458 rfl rfl ?_
  refine Wl.aload 462 at_460 rfl rfl ?_
  refine Wl.iload 464 at_462 rfl ?_
  refine Wl.iconst 465 (3 : Int32) at_464 (by decide) ?_
  refine Wl.static 468 (argsL := [.ref s116, .ref a122, .int (12 : Int32), .int (3 : Int32)]) at_465 (w222 hw) (w223 hw) (w2 hw) (w224 hw) (show parseMethodDescriptor "(Ljava/lang/String;[CII)Z" = some ⟨[(.object "java/lang/String"), (.array .char), .int, .int], some .boolean⟩ by decide +kernel) rfl (at_met hw hcs hfm (rs := [p0, (102 : Int32), (101 : Int32), (110 : Int32), (99 : Int32), (101 : Int32), (58 : Int32), (123 : Int32), n0, n1, n2, (125 : Int32)]) (es := [p0, (102 : Int32), (101 : Int32), (110 : Int32), (99 : Int32), (101 : Int32), (58 : Int32), (123 : Int32), n0, n1, n2, (125 : Int32), (0 : Int32)]) (k := 12) (i := 3) (S118.ext B225) A221 (nle rfl) (nle rfl) rfl (nle rfl)) (fun _ q => nomatch q) rfl rfl rfl (by decide) ⟨⟨nle rfl, nle rfl⟩, nle rfl, nle rfl⟩ ?_
  intro v238 h239 hq240 _
  obtain ⟨rfl, rfl⟩ := hq240
  show WlO _ _ _ _ _ _ _ _ _ _ _ _ _ _ _ _ _ _ [.int (1 : Int32)]
  refine Wl.ifN 471 at_468 (feq (by decide)).1 ?_
  refine Wl.aload 473 at_471 rfl rfl ?_
  refine Wl.aload 475 at_473 rfl rfl ?_
  refine Wl.iload 477 at_475 rfl ?_
  refine Wl.iconst 478 (4 : Int32) at_477 (by decide) ?_
  refine Wl.static 481 (argsL := [.ref s116, .ref a122, .int (12 : Int32), .int (4 : Int32)]) at_478 (w222 hw) (w223 hw) (w2 hw) (w224 hw) (show parseMethodDescriptor "(Ljava/lang/String;[CII)Z" = some ⟨[(.object "java/lang/String"), (.array .char), .int, .int], some .boolean⟩ by decide +kernel) rfl (at_met hw hcs hfm (rs := [p0, (102 : Int32), (101 : Int32), (110 : Int32), (99 : Int32), (101 : Int32), (58 : Int32), (123 : Int32), n0, n1, n2, (125 : Int32)]) (es := [p0, (102 : Int32), (101 : Int32), (110 : Int32), (99 : Int32), (101 : Int32), (58 : Int32), (123 : Int32), n0, n1, n2, (125 : Int32), (0 : Int32)]) (k := 12) (i := 4) (S118.ext B225) A221 (nle rfl) (nle rfl) rfl (nle rfl)) (fun _ q => nomatch q) rfl rfl rfl (by decide) ⟨⟨nle rfl, nle rfl⟩, nle rfl, nle rfl⟩ ?_
  intro v241 h242 hq243 _
  obtain ⟨rfl, rfl⟩ := hq243
  show WlO _ _ _ _ _ _ _ _ _ _ _ _ _ _ _ _ _ _ [.int (1 : Int32)]
  refine Wl.ifN 484 at_481 (feq (by decide)).1 ?_
  refine Wl.aload 486 at_484 rfl rfl ?_
  refine Wl.aload 488 at_486 rfl rfl ?_
  refine Wl.iload 490 at_488 rfl ?_
  refine Wl.iconst 491 (5 : Int32) at_490 (by decide) ?_
  refine Wl.static 494 (argsL := [.ref s116, .ref a122, .int (12 : Int32), .int (5 : Int32)]) at_491 (w222 hw) (w223 hw) (w2 hw) (w224 hw) (show parseMethodDescriptor "(Ljava/lang/String;[CII)Z" = some ⟨[(.object "java/lang/String"), (.array .char), .int, .int], some .boolean⟩ by decide +kernel) rfl (at_met hw hcs hfm (rs := [p0, (102 : Int32), (101 : Int32), (110 : Int32), (99 : Int32), (101 : Int32), (58 : Int32), (123 : Int32), n0, n1, n2, (125 : Int32)]) (es := [p0, (102 : Int32), (101 : Int32), (110 : Int32), (99 : Int32), (101 : Int32), (58 : Int32), (123 : Int32), n0, n1, n2, (125 : Int32), (0 : Int32)]) (k := 12) (i := 5) (S118.ext B225) A221 (nle rfl) (nle rfl) rfl (nle rfl)) (fun _ q => nomatch q) rfl rfl rfl (by decide) ⟨⟨nle rfl, nle rfl⟩, nle rfl, nle rfl⟩ ?_
  intro v244 h245 hq246 _
  obtain ⟨rfl, rfl⟩ := hq246
  show WlO _ _ _ _ _ _ _ _ _ _ _ _ _ _ _ _ _ _ [.int (1 : Int32)]
  refine Wl.ifN 497 at_494 (feq (by decide)).1 ?_
  refine Wl.aload 499 at_497 rfl rfl ?_
  refine Wl.aload 501 at_499 rfl rfl ?_
  refine Wl.iload 503 at_501 rfl ?_
  refine Wl.bipush 505 (6 : Int32) at_503 (by decide) ?_
  refine Wl.static 508 (argsL := [.ref s116, .ref a122, .int (12 : Int32), .int (6 : Int32)]) at_505 (w222 hw) (w223 hw) (w2 hw) (w224 hw) (show parseMethodDescriptor "(Ljava/lang/String;[CII)Z" = some ⟨[(.object "java/lang/String"), (.array .char), .int, .int], some .boolean⟩ by decide +kernel) rfl (at_met hw hcs hfm (rs := [p0, (102 : Int32), (101 : Int32), (110 : Int32), (99 : Int32), (101 : Int32), (58 : Int32), (123 : Int32), n0, n1, n2, (125 : Int32)]) (es := [p0, (102 : Int32), (101 : Int32), (110 : Int32), (99 : Int32), (101 : Int32), (58 : Int32), (123 : Int32), n0, n1, n2, (125 : Int32), (0 : Int32)]) (k := 12) (i := 6) (S118.ext B225) A221 (nle rfl) (nle rfl) rfl (nle rfl)) (fun _ q => nomatch q) rfl rfl rfl (by decide) ⟨⟨nle rfl, nle rfl⟩, nle rfl, nle rfl⟩ ?_
  intro v247 h248 hq249 _
  obtain ⟨rfl, rfl⟩ := hq249
  show WlO _ _ _ _ _ _ _ _ _ _ _ _ _ _ _ _ _ _ [.int (1 : Int32)]
  refine Wl.ifN 511 at_508 (feq (by decide)).1 ?_
  refine Wl.aload 513 at_511 rfl rfl ?_
  refine Wl.aload 515 at_513 rfl rfl ?_
  refine Wl.iload 517 at_515 rfl ?_
  refine Wl.bipush 519 (7 : Int32) at_517 (by decide) ?_
  refine Wl.static 522 (argsL := [.ref s116, .ref a122, .int (12 : Int32), .int (7 : Int32)]) at_519 (w222 hw) (w223 hw) (w2 hw) (w224 hw) (show parseMethodDescriptor "(Ljava/lang/String;[CII)Z" = some ⟨[(.object "java/lang/String"), (.array .char), .int, .int], some .boolean⟩ by decide +kernel) rfl (at_met hw hcs hfm (rs := [p0, (102 : Int32), (101 : Int32), (110 : Int32), (99 : Int32), (101 : Int32), (58 : Int32), (123 : Int32), n0, n1, n2, (125 : Int32)]) (es := [p0, (102 : Int32), (101 : Int32), (110 : Int32), (99 : Int32), (101 : Int32), (58 : Int32), (123 : Int32), n0, n1, n2, (125 : Int32), (0 : Int32)]) (k := 12) (i := 7) (S118.ext B225) A221 (nle rfl) (nle rfl) rfl (nle rfl)) (fun _ q => nomatch q) rfl rfl rfl (by decide) ⟨⟨nle rfl, nle rfl⟩, nle rfl, nle rfl⟩ ?_
  intro v250 h251 hq252 _
  obtain ⟨rfl, rfl⟩ := hq252
  show WlO _ _ _ _ _ _ _ _ _ _ _ _ _ _ _ _ _ _ [.int (1 : Int32)]
  refine Wl.ifN 525 at_522 (feq (by decide)).1 ?_
  refine Wl.aload 527 at_525 rfl rfl ?_
  refine Wl.aload 529 at_527 rfl rfl ?_
  refine Wl.iload 531 at_529 rfl ?_
  refine Wl.bipush 533 (8 : Int32) at_531 (by decide) ?_
  refine Wl.static 536 (argsL := [.ref s116, .ref a122, .int (12 : Int32), .int (8 : Int32)]) at_533 (w222 hw) (w223 hw) (w2 hw) (w224 hw) (show parseMethodDescriptor "(Ljava/lang/String;[CII)Z" = some ⟨[(.object "java/lang/String"), (.array .char), .int, .int], some .boolean⟩ by decide +kernel) rfl (at_met hw hcs hfm (rs := [p0, (102 : Int32), (101 : Int32), (110 : Int32), (99 : Int32), (101 : Int32), (58 : Int32), (123 : Int32), n0, n1, n2, (125 : Int32)]) (es := [p0, (102 : Int32), (101 : Int32), (110 : Int32), (99 : Int32), (101 : Int32), (58 : Int32), (123 : Int32), n0, n1, n2, (125 : Int32), (0 : Int32)]) (k := 12) (i := 8) (S118.ext B225) A221 (nle rfl) (nle rfl) rfl (nle rfl)) (fun _ q => nomatch q) rfl rfl rfl (by decide) ⟨⟨nle rfl, nle rfl⟩, nle rfl, nle rfl⟩ ?_
  intro v253 h254 hq255 _
  obtain ⟨rfl, rfl⟩ := hq255
  show WlO _ _ _ _ _ _ _ _ _ _ _ _ _ _ _ _ _ _ [.int (1 : Int32)]
  refine Wl.ifN 539 at_536 (feq (by decide)).1 ?_
  refine Wl.aload 541 at_539 rfl rfl ?_
  refine Wl.aload 543 at_541 rfl rfl ?_
  refine Wl.iload 545 at_543 rfl ?_
  refine Wl.bipush 547 (9 : Int32) at_545 (by decide) ?_
  refine Wl.static 550 (argsL := [.ref s116, .ref a122, .int (12 : Int32), .int (9 : Int32)]) at_547 (w222 hw) (w223 hw) (w2 hw) (w224 hw) (show parseMethodDescriptor "(Ljava/lang/String;[CII)Z" = some ⟨[(.object "java/lang/String"), (.array .char), .int, .int], some .boolean⟩ by decide +kernel) rfl (at_met hw hcs hfm (rs := [p0, (102 : Int32), (101 : Int32), (110 : Int32), (99 : Int32), (101 : Int32), (58 : Int32), (123 : Int32), n0, n1, n2, (125 : Int32)]) (es := [p0, (102 : Int32), (101 : Int32), (110 : Int32), (99 : Int32), (101 : Int32), (58 : Int32), (123 : Int32), n0, n1, n2, (125 : Int32), (0 : Int32)]) (k := 12) (i := 9) (S118.ext B225) A221 (nle rfl) (nle rfl) rfl (nle rfl)) (fun _ q => nomatch q) rfl rfl rfl (by decide) ⟨⟨nle rfl, nle rfl⟩, nle rfl, nle rfl⟩ ?_
  intro v256 h257 hq258 _
  obtain ⟨rfl, rfl⟩ := hq258
  show WlO _ _ _ _ _ _ _ _ _ _ _ _ _ _ _ _ _ _ [.int (1 : Int32)]
  refine Wl.ifN 553 at_550 (feq (by decide)).1 ?_
  refine Wl.aload 555 at_553 rfl rfl ?_
  refine Wl.aload 557 at_555 rfl rfl ?_
  refine Wl.iload 559 at_557 rfl ?_
  refine Wl.bipush 561 (10 : Int32) at_559 (by decide) ?_
  refine Wl.static 564 (argsL := [.ref s116, .ref a122, .int (12 : Int32), .int (10 : Int32)]) at_561 (w222 hw) (w223 hw) (w2 hw) (w224 hw) (show parseMethodDescriptor "(Ljava/lang/String;[CII)Z" = some ⟨[(.object "java/lang/String"), (.array .char), .int, .int], some .boolean⟩ by decide +kernel) rfl (at_met hw hcs hfm (rs := [p0, (102 : Int32), (101 : Int32), (110 : Int32), (99 : Int32), (101 : Int32), (58 : Int32), (123 : Int32), n0, n1, n2, (125 : Int32)]) (es := [p0, (102 : Int32), (101 : Int32), (110 : Int32), (99 : Int32), (101 : Int32), (58 : Int32), (123 : Int32), n0, n1, n2, (125 : Int32), (0 : Int32)]) (k := 12) (i := 10) (S118.ext B225) A221 (nle rfl) (nle rfl) rfl (nle rfl)) (fun _ q => nomatch q) rfl rfl rfl (by decide) ⟨⟨nle rfl, nle rfl⟩, nle rfl, nle rfl⟩ ?_
  intro v259 h260 hq261 _
  obtain ⟨rfl, rfl⟩ := hq261
  show WlO _ _ _ _ _ _ _ _ _ _ _ _ _ _ _ _ _ _ [.int (1 : Int32)]
  refine Wl.ifN 567 at_564 (feq (by decide)).1 ?_
  refine Wl.aload 569 at_567 rfl rfl ?_
  refine Wl.aload 571 at_569 rfl rfl ?_
  refine Wl.iload 573 at_571 rfl ?_
  refine Wl.bipush 575 (11 : Int32) at_573 (by decide) ?_
  refine Wl.static 578 (argsL := [.ref s116, .ref a122, .int (12 : Int32), .int (11 : Int32)]) at_575 (w222 hw) (w223 hw) (w2 hw) (w224 hw) (show parseMethodDescriptor "(Ljava/lang/String;[CII)Z" = some ⟨[(.object "java/lang/String"), (.array .char), .int, .int], some .boolean⟩ by decide +kernel) rfl (at_met hw hcs hfm (rs := [p0, (102 : Int32), (101 : Int32), (110 : Int32), (99 : Int32), (101 : Int32), (58 : Int32), (123 : Int32), n0, n1, n2, (125 : Int32)]) (es := [p0, (102 : Int32), (101 : Int32), (110 : Int32), (99 : Int32), (101 : Int32), (58 : Int32), (123 : Int32), n0, n1, n2, (125 : Int32), (0 : Int32)]) (k := 12) (i := 11) (S118.ext B225) A221 (nle rfl) (nle rfl) rfl (nle rfl)) (fun _ q => nomatch q) rfl rfl rfl (by decide) ⟨⟨nle rfl, nle rfl⟩, nle rfl, nle rfl⟩ ?_
  intro v262 h263 hq264 _
  obtain ⟨rfl, rfl⟩ := hq264
  show WlO _ _ _ _ _ _ _ _ _ _ _ _ _ _ _ _ _ _ [.int (1 : Int32)]
  refine Wl.ifN 581 at_578 (feq (by decide)).1 ?_
  refine Wl.aload 583 at_581 rfl rfl ?_
  refine Wl.aload 585 at_583 rfl rfl ?_
  refine Wl.iload 587 at_585 rfl ?_
  refine Wl.bipush 589 (12 : Int32) at_587 (by decide) ?_
  refine Wl.static 592 (argsL := [.ref s116, .ref a122, .int (12 : Int32), .int (12 : Int32)]) at_589 (w222 hw) (w223 hw) (w2 hw) (w224 hw) (show parseMethodDescriptor "(Ljava/lang/String;[CII)Z" = some ⟨[(.object "java/lang/String"), (.array .char), .int, .int], some .boolean⟩ by decide +kernel) rfl (at_met hw hcs hfm (rs := [p0, (102 : Int32), (101 : Int32), (110 : Int32), (99 : Int32), (101 : Int32), (58 : Int32), (123 : Int32), n0, n1, n2, (125 : Int32)]) (es := [p0, (102 : Int32), (101 : Int32), (110 : Int32), (99 : Int32), (101 : Int32), (58 : Int32), (123 : Int32), n0, n1, n2, (125 : Int32), (0 : Int32)]) (k := 12) (i := 12) (S118.ext B225) A221 (nle rfl) (nle rfl) rfl (nle rfl)) (fun _ q => nomatch q) rfl rfl rfl (by decide) ⟨⟨nle rfl, nle rfl⟩, nle rfl, nle rfl⟩ ?_
  intro v265 h266 hq267 _
  obtain ⟨rfl, rfl⟩ := hq267
  show WlO _ _ _ _ _ _ _ _ _ _ _ _ _ _ _ _ _ _ [.int (1 : Int32)]
  refine Wl.ifN 595 at_592 (feq (by decide)).1 ?_
  refine Wl.iconst 596 (1 : Int32) at_595 (by decide) ?_
  refine Wl.goto 600 at_596 ?_
  exact Wl.ireturn at_600 rfl rfl (by simp) (nle rfl) (nle rfl) rfl
set_option maxRecDepth 65536 in
set_option maxHeartbeats 40000000 in
theorem law_t21 {l : Launch} {Z : State} {a0 : Array Value} (hw : ∀ d ∈ tables_1, d.before a0 Z = true) (hcs : CSon Z) (hfm : Fmt Z) {as : Array Value} {h : Heap} {i0 i1 p0 p1 n0 n1 n2 : Int32} (lp0 : Lat p0) (lp1 : Lat p1) (ln0 : Lat n0) (ln1 : Lat n1) (ln2 : Lat n2) (p0123 : p0 ≠ 123) (p0125 : p0 ≠ 125) (p1123 : p1 ≠ 123) (p1125 : p1 ≠ 125) (hn0 : ¬ n0 = (125 : Int32)) :
    Wl l Z a0 consts_1 x code maxLocals ret room_1 as (fun v h' => v = some (.int 1)) [] h 0 0 86 #[.val (.int i0), .val (.int i1), .val (.int (2 : Int32)), .val (.int p0), .val (.int p1), .val (.int (1 : Int32)), .val (.int n0), .val (.int n1), .val (.int n2), .unset, .unset, .unset, .unset, .unset] [] := by
  refine Wl.iload_n 87 at_86 rfl ?_
  refine Wl.ifY 103 at_87 (feq (by decide)).2 ?_
  refine Wl.iload_n 104 at_103 rfl ?_
  refine Wl.iconst 105 (1 : Int32) at_104 (by decide) ?_
  refine Wl.icmpY 125 at_105 (feq (by decide)).2 ?_
  refine Wl.new 128 at_125 (w4 hw) (w5 hw) (w6 hw) (nle rfl) (nle rfl) ?_
  intro a1 h2 q3 E4 X5 D6
  have z7 : h.size ≤ a1 := Nat.le_of_eq q3.symm
  have B8 : Ext h h2 := E4
  have F9 : Fld Z h2 a1 "java/lang/String" "value" "[B" (.null) := D6 (Or.inr (w20 hw)) (ty := (.array .byte)) (by decide)
  have F10 : Fld Z h2 a1 "java/lang/String" "coder" "B" (.int 0) := D6 (Or.inr (w21 hw)) (ty := .byte) (by decide)
  refine Wl.dup 129 at_128 rfl ?_
  refine Wl.iconst 130 (2 : Int32) at_129 (by decide) ?_
  refine Wl.newarray 132 2 at_130 (w7 hw) (by decide) (by decide) (by decide) (nle rfl) (nle rfl) ?_
  intro a11 h12 k13 q14 E15 A16
  have A16 : Arv Z h12 a11 k13 .char (2 : Int32) [.int 0, .int 0] (.int 0) := A16
  have z17 : h.size ≤ a11 := Nat.le_trans B8.1 (Nat.le_of_eq q14.symm)
  have z18 : h2.size ≤ a11 := Nat.le_of_eq q14.symm
  have ne19 : a1 ≠ a11 := Nat.ne_of_lt (by rw [q14]; exact (X5).lt)
  have B20 : Ext h h12 := extTr B8 E15
  have B21 : Ext h2 h12 := E15
  refine Wl.dup 133 at_132 rfl ?_
  refine Wl.iconst 134 (0 : Int32) at_133 (by decide) ?_
  refine Wl.iload_n 135 at_134 rfl ?_
  refine Wl.castore 136 0 at_135 A16 (List.mem_of_getElem? (i := 0) rfl) (by decide) (by decide) (by decide) (nle rfl) ?_
  intro h22 W23 A24
  rw [nar_ch (lp0).ch] at A24
  have A24 : Arv Z h22 a11 k13 .char (2 : Int32) [.int p0, .int (0 : Int32)] (.int 0) := A24
  have B25 : Ext h h22 := extWr B20 W23 z17
  have B26 : Ext h2 h22 := extWr B21 W23 z18
  refine Wl.dup 137 at_136 rfl ?_
  refine Wl.iconst 138 (1 : Int32) at_137 (by decide) ?_
  refine Wl.iload 140 at_138 rfl ?_
  refine Wl.castore 141 1 at_140 A24 (List.mem_of_getElem? (i := 0) rfl) (by decide) (by decide) (by decide) (nle rfl) ?_
  intro h27 W28 A29
  rw [nar_ch (lp1).ch] at A29
  have A29 : Arv Z h27 a11 k13 .char (2 : Int32) [.int p0, .int p1] (.int 0) := A29
  have B30 : Ext h h27 := extWr B25 W28 z17
  have B31 : Ext h2 h27 := extWr B26 W28 z18
  refine Wl.special 144 (argsL := [.ref a11]) at_141 (w8 hw) (w9 hw) (w6 hw) (w10 hw) (show parseMethodDescriptor "([C)V" = some ⟨[(.array .char)], none⟩ by decide +kernel) rfl (strC_met hw hcs (cs := [p0, p1]) 4 (nle rfl) (nle rfl)  (latC lp0 (latC lp1 latN)) (X5.ext B31) (F9.ext B31) (F10.ext B31) A29) (allS (List.mem_of_getElem? (i := 1) rfl) (fun _ q => nomatch q)) rfl rfl rfl rfl (by decide) ⟨⟨nle rfl, nle rfl⟩, nle rfl, nle rfl⟩ ?_
  intro v32 h33 hq34 _
  obtain ⟨rfl, K35, S36⟩ := hq34
  have B37 : Ext h h33 := extKeep B30 K35 (allS z7 all0)
  show WlO _ _ _ _ _ _ _ _ _ _ _ _ _ _ _ _ _ _ [.ref a1]
  refine Wl.astore 146 #[.val (.int i0), .val (.int i1), .val (.int (2 : Int32)), .val (.int p0), .val (.int p1), .val (.int (1 : Int32)), .val (.int n0), .val (.int n1), .val (.int n2), .val (.ref a1), .unset, .unset, .unset, .unset] at_144 rfl rfl ?_
  refine Wl.iload 148 at_146 rfl ?_
  refine Wl.iconst 149 (1 : Int32) at_148 (by decide) ?_
  refine Wl.icmpN 152 at_149 (teq (by decide)).2 ?_
  refine Wl.new 155 at_152 (w4 hw) (w5 hw) (w6 hw) (nle rfl) (nle rfl) ?_
  intro a38 h39 q40 E41 X42 D43
  have z44 : h.size ≤ a38 := Nat.le_trans B37.1 (Nat.le_of_eq q40.symm)
  have z45 : h33.size ≤ a38 := Nat.le_of_eq q40.symm
  have ne46 : a1 ≠ a38 := Nat.ne_of_lt (by rw [q40]; exact ((S36).exa).lt)
  have ne47 : a11 ≠ a38 := Nat.ne_of_lt (by rw [q40]; exact ((A29.keep K35 (ninS ne19.symm nin0))).lt)
  have B48 : Ext h h39 := extTr B37 E41
  have B49 : Ext h33 h39 := E41
  have F50 : Fld Z h39 a38 "java/lang/String" "value" "[B" (.null) := D43 (Or.inr (w20 hw)) (ty := (.array .byte)) (by decide)
  have F51 : Fld Z h39 a38 "java/lang/String" "coder" "B" (.int 0) := D43 (Or.inr (w21 hw)) (ty := .byte) (by decide)
  refine Wl.dup 156 at_155 rfl ?_
  refine Wl.iconst 157 (1 : Int32) at_156 (by decide) ?_
  refine Wl.newarray 159 1 at_157 (w7 hw) (by decide) (by decide) (by decide) (nle rfl) (nle rfl) ?_
  intro a52 h53 k54 q55 E56 A57
  have A57 : Arv Z h53 a52 k54 .char (1 : Int32) [.int 0] (.int 0) := A57
  have z58 : h.size ≤ a52 := Nat.le_trans B48.1 (Nat.le_of_eq q55.symm)
  have z59 : h33.size ≤ a52 := Nat.le_trans B49.1 (Nat.le_of_eq q55.symm)
  have z60 : h39.size ≤ a52 := Nat.le_of_eq q55.symm
  have ne61 : a1 ≠ a52 := Nat.ne_of_lt (by rw [q55]; exact (((S36).exa.ext E41)).lt)
  have ne62 : a11 ≠ a52 := Nat.ne_of_lt (by rw [q55]; exact (((A29.keep K35 (ninS ne19.symm nin0)).ext E41)).lt)
  have ne63 : a38 ≠ a52 := Nat.ne_of_lt (by rw [q55]; exact (X42).lt)
  have B64 : Ext h h53 := extTr B48 E56
  have B65 : Ext h33 h53 := extTr B49 E56
  have B66 : Ext h39 h53 := E56
  refine Wl.dup 160 at_159 rfl ?_
  refine Wl.iconst 161 (0 : Int32) at_160 (by decide) ?_
  refine Wl.iload 163 at_161 rfl ?_
  refine Wl.castore 164 0 at_163 A57 (List.mem_of_getElem? (i := 0) rfl) (by decide) (by decide) (by decide) (nle rfl) ?_
  intro h67 W68 A69
  rw [nar_ch (ln0).ch] at A69
  have A69 : Arv Z h67 a52 k54 .char (1 : Int32) [.int n0] (.int 0) := A69
  have B70 : Ext h h67 := extWr B64 W68 z58
  have B71 : Ext h33 h67 := extWr B65 W68 z59
  have B72 : Ext h39 h67 := extWr B66 W68 z60
  refine Wl.special 167 (argsL := [.ref a52]) at_164 (w8 hw) (w9 hw) (w6 hw) (w10 hw) (show parseMethodDescriptor "([C)V" = some ⟨[(.array .char)], none⟩ by decide +kernel) rfl (strC_met hw hcs (cs := [n0]) 4 (nle rfl) (nle rfl)  (latC ln0 latN) (X42.ext B72) (F50.ext B72) (F51.ext B72) A69) (allS (List.mem_of_getElem? (i := 1) rfl) (fun _ q => nomatch q)) rfl rfl rfl rfl (by decide) ⟨⟨nle rfl, nle rfl⟩, nle rfl, nle rfl⟩ ?_
  intro v73 h74 hq75 _
  obtain ⟨rfl, K76, S77⟩ := hq75
  have B78 : Ext h h74 := extKeep B70 K76 (allS z44 all0)
  have B79 : Ext h33 h74 := extKeep B71 K76 (allS z45 all0)
  show WlO _ _ _ _ _ _ _ _ _ _ _ _ _ _ _ _ _ _ [.ref a38]
  refine Wl.goto 224 at_167 ?_
  refine Wl.astore 226 #[.val (.int i0), .val (.int i1), .val (.int (2 : Int32)), .val (.int p0), .val (.int p1), .val (.int (1 : Int32)), .val (.int n0), .val (.int n1), .val (.int n2), .val (.ref a1), .val (.ref a38), .unset, .unset, .unset] at_224 rfl rfl ?_
  refine Wl.new 229 at_226 (w37 hw) (w38 hw) (w39 hw) (nle rfl) (nle rfl) ?_
  intro a80 h81 q82 E83 X84 D85
  have z86 : h.size ≤ a80 := Nat.le_trans B78.1 (Nat.le_of_eq q82.symm)
  have z87 : h33.size ≤ a80 := Nat.le_trans B79.1 (Nat.le_of_eq q82.symm)
  have z88 : h74.size ≤ a80 := Nat.le_of_eq q82.symm
  have ne89 : a1 ≠ a80 := Nat.ne_of_lt (by rw [q82]; exact (((S36).exa.ext B79)).lt)
  have ne90 : a11 ≠ a80 := Nat.ne_of_lt (by rw [q82]; exact (((A29.keep K35 (ninS ne19.symm nin0)).ext B79)).lt)
  have ne91 : a38 ≠ a80 := Nat.ne_of_lt (by rw [q82]; exact ((S77).exa).lt)
  have ne92 : a52 ≠ a80 := Nat.ne_of_lt (by rw [q82]; exact ((A69.keep K76 (ninS ne63.symm nin0))).lt)
  have B93 : Ext h h81 := extTr B78 E83
  have B94 : Ext h33 h81 := extTr B79 E83
  have B95 : Ext h74 h81 := E83
  have F96 : Fld Z h81 a80 "com/example/portunus/portunus/LockKeys" "prefix" "Ljava/lang/String;" (.null) := D85 (Or.inr (w89 hw)) (ty := (.object "java/lang/String")) (by decide)
  refine Wl.dup 230 at_229 rfl ?_
  refine Wl.aload 232 at_230 rfl rfl ?_
  refine Wl.special 235 (argsL := [.ref a1]) at_232 (w40 hw) (w41 hw) (w39 hw) (w42 hw) (show parseMethodDescriptor "(Ljava/lang/String;)V" = some ⟨[(.object "java/lang/String")], none⟩ by decide +kernel) rfl (keys_met hw hcs X84 F96 (cs := [p0, p1]) (S36.ext B94) (neC p0123 (neC p1123 neN)) (neC p0125 (neC p1125 neN))) (allS (List.mem_of_getElem? (i := 0) rfl) (fun _ q => nomatch q)) rfl rfl rfl rfl (by decide) ⟨⟨nle rfl, nle rfl⟩, nle rfl, nle rfl⟩ ?_
  intro v97 h98 hq99 _
  obtain ⟨rfl, K100, X101, F102⟩ := hq99
  have B103 : Ext h h98 := extKeep B93 K100 (allS z86 all0)
  have B104 : Ext h33 h98 := extKeep B94 K100 (allS z87 all0)
  have B105 : Ext h74 h98 := extKeep B95 K100 (allS z88 all0)
  show WlO _ _ _ _ _ _ _ _ _ _ _ _ _ _ _ _ _ _ [.ref a80]
  refine Wl.aload 237 at_235 rfl rfl ?_
  refine Wl.virtual 240 (argsL := [.ref a38]) at_237 (w90 hw) (w91 hw) (w93 hw) (w92 hw) (w39 hw) (w94 hw) (nf_sel (w93 hw) rfl) X101 (show parseMethodDescriptor "(Ljava/lang/String;)Ljava/lang/String;" = some ⟨[(.object "java/lang/String")], some (.object "java/lang/String")⟩ by decide +kernel) rfl (key_met hw hcs hfm (cs := [n0]) (ps := [p0, p1]) F102 (S36.ext B104) (nle rfl) (S77.ext B105) (by simp) (nle rfl) hn0 (nle rfl)) (fun _ q => nomatch q) rfl rfl rfl (by decide) ⟨⟨nle rfl, nle rfl⟩, nle rfl, nle rfl⟩ ?_
  intro v106 h107 hq108 _
  obtain ⟨s109, rfl, E110, S111⟩ := hq108
  have S111 : Stl Z h107 s109 [p0, p1, (102 : Int32), (101 : Int32), (110 : Int32), (99 : Int32), (101 : Int32), (58 : Int32), (123 : Int32), n0, (125 : Int32)] := S111
  have B112 : Ext h h107 := extTr B103 E110
  have B113 : Ext h33 h107 := extTr B104 E110
  have B114 : Ext h74 h107 := extTr B105 E110
  show WlO _ _ _ _ _ _ _ _ _ _ _ _ _ _ _ _ _ _ [.ref s109]
  refine Wl.astore 242 #[.val (.int i0), .val (.int i1), .val (.int (2 : Int32)), .val (.int p0), .val (.int p1), .val (.int (1 : Int32)), .val (.int n0), .val (.int n1), .val (.int n2), .val (.ref a1), .val (.ref a38), .val (.ref s109), .unset, .unset] at_240 rfl rfl ?_
  refine Wl.bipush 244 (13 : Int32) at_242 (by decide) ?_
  refine Wl.newarray 246 13 at_244 (w7 hw) (by decide) (by decide) (by decide) (nle rfl) (nle rfl) ?_
  intro a115 h116 k117 q118 E119 A120
  have A120 : Arv Z h116 a115 k117 .char (13 : Int32) [.int 0, .int 0, .int 0, .int 0, .int 0, .int 0, .int 0, .int 0, .int 0, .int 0, .int 0, .int 0, .int 0] (.int 0) := A120
  have z121 : h.size ≤ a115 := Nat.le_trans B112.1 (Nat.le_of_eq q118.symm)
  have z122 : h33.size ≤ a115 := Nat.le_trans B113.1 (Nat.le_of_eq q118.symm)
  have z123 : h74.size ≤ a115 := Nat.le_trans B114.1 (Nat.le_of_eq q118.symm)
  have z124 : h107.size ≤ a115 := Nat.le_of_eq q118.symm
  have ne125 : a1 ≠ a115 := Nat.ne_of_lt (by rw [q118]; exact (((S36).exa.ext B113)).lt)
  have ne126 : a11 ≠ a115 := Nat.ne_of_lt (by rw [q118]; exact (((A29.keep K35 (ninS ne19.symm nin0)).ext B113)).lt)
  have ne127 : a38 ≠ a115 := Nat.ne_of_lt (by rw [q118]; exact (((S77).exa.ext B114)).lt)
  have ne128 : a52 ≠ a115 := Nat.ne_of_lt (by rw [q118]; exact (((A69.keep K76 (ninS ne63.symm nin0)).ext B114)).lt)
  have ne129 : a80 ≠ a115 := Nat.ne_of_lt (by rw [q118]; exact ((X101.ext E110)).lt)
  have ne130 : s109 ≠ a115 := Nat.ne_of_lt (by rw [q118]; exact ((S111).exa).lt)
  have B131 : Ext h h116 := extTr B112 E119
  have B132 : Ext h33 h116 := extTr B113 E119
  have B133 : Ext h74 h116 := extTr B114 E119
  have B134 : Ext h107 h116 := E119
  refine Wl.astore 248 #[.val (.int i0), .val (.int i1), .val (.int (2 : Int32)), .val (.int p0), .val (.int p1), .val (.int (1 : Int32)), .val (.int n0), .val (.int n1), .val (.int n2), .val (.ref a1), .val (.ref a38), .val (.ref s109), .val (.ref a115), .unset] at_246 rfl rfl ?_
  refine Wl.iconst 249 (0 : Int32) at_248 (by decide) ?_
  refine Wl.istore 251 #[.val (.int i0), .val (.int i1), .val (.int (2 : Int32)), .val (.int p0), .val (.int p1), .val (.int (1 : Int32)), .val (.int n0), .val (.int n1), .val (.int n2), .val (.ref a1), .val (.ref a38), .val (.ref s109), .val (.ref a115), .val (.int (0 : Int32))] at_249 rfl ?_
  refine Wl.iload_n 252 at_251 rfl ?_
  refine Wl.iconst 253 (1 : Int32) at_252 (by decide) ?_
  refine Wl.icmpN 256 at_253 (flt (by decide)).1 ?_
  refine Wl.aload 258 at_256 rfl rfl ?_
  refine Wl.iload 260 at_258 rfl ?_
  refine Wl.iload_n 261 at_260 rfl ?_
  refine Wl.castore 262 0 at_261 A120 (List.mem_of_getElem? (i := 0) rfl) (by decide) (by decide) (by decide) (nle rfl) ?_
  intro h135 W136 A137
  rw [nar_ch (lp0).ch] at A137
  have A137 : Arv Z h135 a115 k117 .char (13 : Int32) [.int p0, .int (0 : Int32), .int (0 : Int32), .int (0 : Int32), .int (0 : Int32), .int (0 : Int32), .int (0 : Int32), .int (0 : Int32), .int (0 : Int32), .int (0 : Int32), .int (0 : Int32), .int (0 : Int32), .int (0 : Int32)] (.int 0) := A137
  have B138 : Ext h h135 := extWr B131 W136 z121
  have B139 : Ext h33 h135 := extWr B132 W136 z122
  have B140 : Ext h74 h135 := extWr B133 W136 z123
  have B141 : Ext h107 h135 := extWr B134 W136 z124
  refine Wl.iinc 265 #[.val (.int i0), .val (.int i1), .val (.int (2 : Int32)), .val (.int p0), .val (.int p1), .val (.int (1 : Int32)), .val (.int n0), .val (.int n1), .val (.int n2), .val (.ref a1), .val (.ref a38), .val (.ref s109), .val (.ref a115), .val (.int (1 : Int32))] (1 : Int32) at_262 (by decide) rfl rfl ?_
  refine Wl.iload_n 266 at_265 rfl ?_
  refine Wl.iconst 267 (2 : Int32) at_266 (by decide) ?_
  refine Wl.icmpN 270 at_267 (flt (by decide)).1 ?_
  refine Wl.aload 272 at_270 rfl rfl ?_
  refine Wl.iload 274 at_272 rfl ?_
  refine Wl.iload 276 at_274 rfl ?_
  refine Wl.castore 277 1 at_276 A137 (List.mem_of_getElem? (i := 0) rfl) (by decide) (by decide) (by decide) (nle rfl) ?_
  intro h142 W143 A144
  rw [nar_ch (lp1).ch] at A144
  have A144 : Arv Z h142 a115 k117 .char (13 : Int32) [.int p0, .int p1, .int (0 : Int32), .int (0 : Int32), .int (0 : Int32), .int (0 : Int32), .int (0 : Int32), .int (0 : Int32), .int (0 : Int32), .int (0 : Int32), .int (0 : Int32), .int (0 : Int32), .int (0 : Int32)] (.int 0) := A144
  have B145 : Ext h h142 := extWr B138 W143 z121
  have B146 : Ext h33 h142 := extWr B139 W143 z122
  have B147 : Ext h74 h142 := extWr B140 W143 z123
  have B148 : Ext h107 h142 := extWr B141 W143 z124
  refine Wl.iinc 280 #[.val (.int i0), .val (.int i1), .val (.int (2 : Int32)), .val (.int p0), .val (.int p1), .val (.int (1 : Int32)), .val (.int n0), .val (.int n1), .val (.int n2), .val (.ref a1), .val (.ref a38), .val (.ref s109), .val (.ref a115), .val (.int (2 : Int32))] (1 : Int32) at_277 (by decide) rfl rfl ?_
  refine Wl.aload 282 at_280 rfl rfl ?_
  refine Wl.iload 284 at_282 rfl ?_
  refine Wl.bipush 286 (102 : Int32) at_284 (by decide) ?_
  refine Wl.castore 287 2 at_286 A144 (List.mem_of_getElem? (i := 0) rfl) (by decide) (by decide) (by decide) (nle rfl) ?_
  intro h149 W150 A151
  rw [nar_ch (by decide)] at A151
  have A151 : Arv Z h149 a115 k117 .char (13 : Int32) [.int p0, .int p1, .int (102 : Int32), .int (0 : Int32), .int (0 : Int32), .int (0 : Int32), .int (0 : Int32), .int (0 : Int32), .int (0 : Int32), .int (0 : Int32), .int (0 : Int32), .int (0 : Int32), .int (0 : Int32)] (.int 0) := A151
  have B152 : Ext h h149 := extWr B145 W150 z121
  have B153 : Ext h33 h149 := extWr B146 W150 z122
  have B154 : Ext h74 h149 := extWr B147 W150 z123
  have B155 : Ext h107 h149 := extWr B148 W150 z124
  refine Wl.iinc 290 #[.val (.int i0), .val (.int i1), .val (.int (2 : Int32)), .val (.int p0), .val (.int p1), .val (.int (1 : Int32)), .val (.int n0), .val (.int n1), .val (.int n2), .val (.ref a1), .val (.ref a38), .val (.ref s109), .val (.ref a115), .val (.int (3 : Int32))] (1 : Int32) at_287 (by decide) rfl rfl ?_
  refine Wl.aload 292 at_290 rfl rfl ?_
  refine Wl.iload 294 at_292 rfl ?_
  refine Wl.bipush 296 (101 : Int32) at_294 (by decide) ?_
  refine Wl.castore 297 3 at_296 A151 (List.mem_of_getElem? (i := 0) rfl) (by decide) (by decide) (by decide) (nle rfl) ?_
  intro h156 W157 A158
  rw [nar_ch (by decide)] at A158
  have A158 : Arv Z h156 a115 k117 .char (13 : Int32) [.int p0, .int p1, .int (102 : Int32), .int (101 : Int32), .int (0 : Int32), .int (0 : Int32), .int (0 : Int32), .int (0 : Int32), .int (0 : Int32), .int (0 : Int32), .int (0 : Int32), .int (0 : Int32), .int (0 : Int32)] (.int 0) := A158
  have B159 : Ext h h156 := extWr B152 W157 z121
  have B160 : Ext h33 h156 := extWr B153 W157 z122
  have B161 : Ext h74 h156 := extWr B154 W157 z123
  have B162 : Ext h107 h156 := extWr B155 W157 z124
  refine Wl.iinc 300 #[.val (.int i0), .val (.int i1), .val (.int (2 : Int32)), .val (.int p0), .val (.int p1), .val (.int (1 : Int32)), .val (.int n0), .val (.int n1), .val (.int n2), .val (.ref a1), .val (.ref a38), .val (.ref s109), .val (.ref a115), .val (.int (4 : Int32))] (1 : Int32) at_297 (by decide) rfl rfl ?_
  refine Wl.aload 302 at_300 rfl rfl ?_
  refine Wl.iload 304 at_302 rfl ?_
  refine Wl.bipush 306 (110 : Int32) at_304 (by decide) ?_
  refine Wl.castore 307 4 at_306 A158 (List.mem_of_getElem? (i := 0) rfl) (by decide) (by decide) (by decide) (nle rfl) ?_
  intro h163 W164 A165
  rw [nar_ch (by decide)] at A165
  have A165 : Arv Z h163 a115 k117 .char (13 : Int32) [.int p0, .int p1, .int (102 : Int32), .int (101 : Int32), .int (110 : Int32), .int (0 : Int32), .int (0 : Int32), .int (0 : Int32), .int (0 : Int32), .int (0 : Int32), .int (0 : Int32), .int (0 : Int32), .int (0 : Int32)] (.int 0) := A165
  have B166 : Ext h h163 := extWr B159 W164 z121
  have B167 : Ext h33 h163 := extWr B160 W164 z122
  have B168 : Ext h74 h163 := extWr B161 W164 z123
  have B169 : Ext h107 h163 := extWr B162 W164 z124
  refine Wl.iinc 310 #[.val (.int i0), .val (.int i1), .val (.int (2 : Int32)), .val (.int p0), .val (.int p1), .val (.int (1 : Int32)), .val (.int n0), .val (.int n1), .val (.int n2), .val (.ref a1), .val (.ref a38), .val (.ref s109), .val (.ref a115), .val (.int (5 : Int32))] (1 : Int32) at_307 (by decide) rfl rfl ?_
  refine Wl.aload 312 at_310 rfl rfl ?_
  refine Wl.iload 314 at_312 rfl ?_
  refine Wl.bipush 316 (99 : Int32) at_314 (by decide) ?_
  refine Wl.castore 317 5 at_316 A165 (List.mem_of_getElem? (i := 0) rfl) (by decide) (by decide) (by decide) (nle rfl) ?_
  intro h170 W171 A172
  rw [nar_ch (by decide)] at A172
  have A172 : Arv Z h170 a115 k117 .char (13 : Int32) [.int p0, .int p1, .int (102 : Int32), .int (101 : Int32), .int (110 : Int32), .int (99 : Int32), .int (0 : Int32), .int (0 : Int32), .int (0 : Int32), .int (0 : Int32), .int (0 : Int32), .int (0 : Int32), .int (0 : Int32)] (.int 0) := A172
  have B173 : Ext h h170 := extWr B166 W171 z121
  have B174 : Ext h33 h170 := extWr B167 W171 z122
  have B175 : Ext h74 h170 := extWr B168 W171 z123
  have B176 : Ext h107 h170 := extWr B169 W171 z124
  refine Wl.iinc 320 #[.val (.int i0), .val (.int i1), .val (.int (2 : Int32)), .val (.int p0), .val (.int p1), .val (.int (1 : Int32)), .val (.int n0), .val (.int n1), .val (.int n2), .val (.ref a1), .val (.ref a38), .val (.ref s109), .val (.ref a115), .val (.int (6 : Int32))] (1 : Int32) at_317 (by decide) rfl rfl ?_
  refine Wl.aload 322 at_320 rfl rfl ?_
  refine Wl.iload 324 at_322 rfl ?_
  refine Wl.bipush 326 (101 : Int32) at_324 (by decide) ?_
  refine Wl.castore 327 6 at_326 A172 (List.mem_of_getElem? (i := 0) rfl) (by decide) (by decide) (by decide) (nle rfl) ?_
  intro h177 W178 A179
  rw [nar_ch (by decide)] at A179
  have A179 : Arv Z h177 a115 k117 .char (13 : Int32) [.int p0, .int p1, .int (102 : Int32), .int (101 : Int32), .int (110 : Int32), .int (99 : Int32), .int (101 : Int32), .int (0 : Int32), .int (0 : Int32), .int (0 : Int32), .int (0 : Int32), .int (0 : Int32), .int (0 : Int32)] (.int 0) := A179
  have B180 : Ext h h177 := extWr B173 W178 z121
  have B181 : Ext h33 h177 := extWr B174 W178 z122
  have B182 : Ext h74 h177 := extWr B175 W178 z123
  have B183 : Ext h107 h177 := extWr B176 W178 z124
  refine Wl.iinc 330 #[.val (.int i0), .val (.int i1), .val (.int (2 : Int32)), .val (.int p0), .val (.int p1), .val (.int (1 : Int32)), .val (.int n0), .val (.int n1), .val (.int n2), .val (.ref a1), .val (.ref a38), .val (.ref s109), .val (.ref a115), .val (.int (7 : Int32))] (1 : Int32) at_327 (by decide) rfl rfl ?_
  refine Wl.aload 332 at_330 rfl rfl ?_
  refine Wl.iload 334 at_332 rfl ?_
  refine Wl.bipush 336 (58 : Int32) at_334 (by decide) ?_
  refine Wl.castore 337 7 at_336 A179 (List.mem_of_getElem? (i := 0) rfl) (by decide) (by decide) (by decide) (nle rfl) ?_
  intro h184 W185 A186
  rw [nar_ch (by decide)] at A186
  have A186 : Arv Z h184 a115 k117 .char (13 : Int32) [.int p0, .int p1, .int (102 : Int32), .int (101 : Int32), .int (110 : Int32), .int (99 : Int32), .int (101 : Int32), .int (58 : Int32), .int (0 : Int32), .int (0 : Int32), .int (0 : Int32), .int (0 : Int32), .int (0 : Int32)] (.int 0) := A186
  have B187 : Ext h h184 := extWr B180 W185 z121
  have B188 : Ext h33 h184 := extWr B181 W185 z122
  have B189 : Ext h74 h184 := extWr B182 W185 z123
  have B190 : Ext h107 h184 := extWr B183 W185 z124
  refine Wl.iinc 340 #[.val (.int i0), .val (.int i1), .val (.int (2 : Int32)), .val (.int p0), .val (.int p1), .val (.int (1 : Int32)), .val (.int n0), .val (.int n1), .val (.int n2), .val (.ref a1), .val (.ref a38), .val (.ref s109), .val (.ref a115), .val (.int (8 : Int32))] (1 : Int32) at_337 (by decide) rfl rfl ?_
  refine Wl.aload 342 at_340 rfl rfl ?_
  refine Wl.iload 344 at_342 rfl ?_
  refine Wl.bipush 346 (123 : Int32) at_344 (by decide) ?_
  refine Wl.castore 347 8 at_346 A186 (List.mem_of_getElem? (i := 0) rfl) (by decide) (by decide) (by decide) (nle rfl) ?_
  intro h191 W192 A193
  rw [nar_ch (by decide)] at A193
  have A193 : Arv Z h191 a115 k117 .char (13 : Int32) [.int p0, .int p1, .int (102 : Int32), .int (101 : Int32), .int (110 : Int32), .int (99 : Int32), .int (101 : Int32), .int (58 : Int32), .int (123 : Int32), .int (0 : Int32), .int (0 : Int32), .int (0 : Int32), .int (0 : Int32)] (.int 0) := A193
  have B194 : Ext h h191 := extWr B187 W192 z121
  have B195 : Ext h33 h191 := extWr B188 W192 z122
  have B196 : Ext h74 h191 := extWr B189 W192 z123
  have B197 : Ext h107 h191 := extWr B190 W192 z124
  refine Wl.iinc 350 #[.val (.int i0), .val (.int i1), .val (.int (2 : Int32)), .val (.int p0), .val (.int p1), .val (.int (1 : Int32)), .val (.int n0), .val (.int n1), .val (.int n2), .val (.ref a1), .val (.ref a38), .val (.ref s109), .val (.ref a115), .val (.int (9 : Int32))] (1 : Int32) at_347 (by decide) rfl rfl ?_
  refine Wl.aload 352 at_350 rfl rfl ?_
  refine Wl.iload 354 at_352 rfl ?_
  refine Wl.iload 356 at_354 rfl ?_
  refine Wl.castore 357 9 at_356 A193 (List.mem_of_getElem? (i := 0) rfl) (by decide) (by decide) (by decide) (nle rfl) ?_
  intro h198 W199 A200
  rw [nar_ch (ln0).ch] at A200
  have A200 : Arv Z h198 a115 k117 .char (13 : Int32) [.int p0, .int p1, .int (102 : Int32), .int (101 : Int32), .int (110 : Int32), .int (99 : Int32), .int (101 : Int32), .int (58 : Int32), .int (123 : Int32), .int n0, .int (0 : Int32), .int (0 : Int32), .int (0 : Int32)] (.int 0) := A200
  have B201 : Ext h h198 := extWr B194 W199 z121
  have B202 : Ext h33 h198 := extWr B195 W199 z122
  have B203 : Ext h74 h198 := extWr B196 W199 z123
  have B204 : Ext h107 h198 := extWr B197 W199 z124
  refine Wl.iinc 360 #[.val (.int i0), .val (.int i1), .val (.int (2 : Int32)), .val (.int p0), .val (.int p1), .val (.int (1 : Int32)), .val (.int n0), .val (.int n1), .val (.int n2), .val (.ref a1), .val (.ref a38), .val (.ref s109), .val (.ref a115), .val (.int (10 : Int32))] (1 : Int32) at_357 (by decide) rfl rfl ?_
  refine Wl.iload 362 at_360 rfl ?_
  refine Wl.iconst 363 (2 : Int32) at_362 (by decide) ?_
  refine Wl.icmpY 376 at_363 (tlt (by decide)).1 ?_
  refine Wl.iload 378 at_376 rfl ?_
  refine Wl.iconst 379 (3 : Int32) at_378 (by decide) ?_
  refine Wl.icmpY 392 at_379 (tlt (by decide)).1 ?_
  refine Wl.aload 394 at_392 rfl rfl ?_
  refine Wl.iload 396 at_394 rfl ?_
  refine Wl.bipush 398 (125 : Int32) at_396 (by decide) ?_
  refine Wl.castore 399 10 at_398 A200 (List.mem_of_getElem? (i := 0) rfl) (by decide) (by decide) (by decide) (nle rfl) ?_
  intro h205 W206 A207
  rw [nar_ch (by decide)] at A207
  have A207 : Arv Z h205 a115 k117 .char (13 : Int32) [.int p0, .int p1, .int (102 : Int32), .int (101 : Int32), .int (110 : Int32), .int (99 : Int32), .int (101 : Int32), .int (58 : Int32), .int (123 : Int32), .int n0, .int (125 : Int32), .int (0 : Int32), .int (0 : Int32)] (.int 0) := A207
  have B208 : Ext h h205 := extWr B201 W206 z121
  have B209 : Ext h33 h205 := extWr B202 W206 z122
  have B210 : Ext h74 h205 := extWr B203 W206 z123
  have B211 : Ext h107 h205 := extWr B204 W206 z124
  refine Wl.iinc 402 #[.val (.int i0), .val (.int i1), .val (.int (2 : Int32)), .val (.int p0), .val (.int p1), .val (.int (1 : Int32)), .val (.int n0), .val (.int n1), .val (.int n2), .val (.ref a1), .val (.ref a38), .val (.ref s109), .val (.ref a115), .val (.int (11 : Int32))] (1 : Int32) at_399 (by decide) rfl rfl ?_
  refine Wl.aload 404 at_402 rfl rfl ?_
  refine Wl.ifnullN 407 at_404 ?_
  refine Wl.aload 409 at_407 rfl rfl ?_
  refine Wl.virtual 412 (argsL := []) at_409 (w221 hw) (w65 hw) (w67 hw) (w66 hw) (w6 hw) (w68 hw) (nf_sel (w67 hw) rfl) ((S111).exa.ext B211) (show parseMethodDescriptor "()I" = some ⟨[], some .int⟩ by decide +kernel) rfl (len_met hw hcs (S111.ext B211)) (fun _ q => nomatch q) rfl rfl rfl (by decide) ⟨⟨nle rfl, nle rfl⟩, nle rfl, nle rfl⟩ ?_
  intro v212 h213 hq214 _
  obtain ⟨rfl, rfl⟩ := hq214
  show WlO _ _ _ _ _ _ _ _ _ _ _ _ _ _ _ _ _ _ [.int (11 : Int32)]
  refine Wl.iload 414 at_412 rfl ?_
  refine Wl.icmpY 419 at_414 (teq (by decide)).1 ?_
  refine Wl.aload 421 at_419 rfl rfl ?_
  refine Wl.aload 423 at_421 rfl rfl ?_
  refine Wl.iload 425 at_423 rfl ?_
  refine Wl.iconst 426 (0 : Int32) at_425 (by decide) ?_
  refine Wl.static 429 (argsL := [.ref s109, .ref a115, .int (11 : Int32), .int (0 : Int32)]) at_426 (w222 hw) (w223 hw) (w2 hw) (w224 hw) (show parseMethodDescriptor "(Ljava/lang/String;[CII)Z" = some ⟨[(.object "java/lang/String"), (.array .char), .int, .int], some .boolean⟩ by decide +kernel) rfl (at_met hw hcs hfm (rs := [p0, p1, (102 : Int32), (101 : Int32), (110 : Int32), (99 : Int32), (101 : Int32), (58 : Int32), (123 : Int32), n0, (125 : Int32)]) (es := [p0, p1, (102 : Int32), (101 : Int32), (110 : Int32), (99 : Int32), (101 : Int32), (58 : Int32), (123 : Int32), n0, (125 : Int32), (0 : Int32), (0 : Int32)]) (k := 11) (i := 0) (S111.ext B211) A207 (nle rfl) (nle rfl) rfl (nle rfl)) (fun _ q => nomatch q) rfl rfl rfl (by decide) ⟨⟨nle rfl, nle rfl⟩, nle rfl, nle rfl⟩ ?_
  intro v215 h216 hq217 _
  obtain ⟨rfl, rfl⟩ := hq217
  show WlO _ _ _ _ _ _ _ _ _ _ _ _ _ _ _ _ _ _ [.int (1 : Int32)]
  refine Wl.ifN 432 at_429 (feq (by decide)).1 ?_
  refine Wl.aload 434 at_432 rfl rfl ?_
  refine Wl.aload 436 at_434 rfl rfl ?_
  refine Wl.iload 438 at_436 rfl ?_
  refine Wl.iconst 439 (1 : Int32) at_438 (by decide) ?_
  refine Wl.static 442 (argsL := [.ref s109, .ref a115, .int (11 : Int32), .int (1 : Int32)]) at_439 (w222 hw) (w223 hw) (w2 hw) (w224 hw) (show parseMethodDescriptor "(Ljava/lang/String;[CII)Z" = some ⟨[(.object "java/lang/String"), (.array .char), .int, .int], some .boolean⟩ by decide +kernel) rfl (at_met hw hcs hfm (rs := [p0, p1, (102 : Int32), (101 : Int32), (110 : Int32), (99 : Int32), (101 : Int32), (58 : Int32), (123 : Int32), n0, (125 : Int32)]) (es := [p0, p1, (102 : Int32), (101 : Int32), (110 : Int32), (99 : Int32), (101 : Int32), (58 : Int32), (123 : Int32), n0, (125 : Int32), (0 : Int32), (0 : Int32)]) (k := 11) (i := 1) (S111.ext B211) A207 (nle rfl) (nle rfl) rfl (nle rfl)) (fun _ q => nomatch q) rfl rfl rfl (by decide) ⟨⟨nle rfl, nle rfl⟩, nle rfl, nle rfl⟩ ?_
  intro v218 h219 hq220 _
  obtain ⟨rfl, rfl⟩ := hq220
  show WlO _ _ _ _ _ _ _ _ _ _ _ _ _ _ _ _ _ _ [.int (1 : Int32)]
  refine Wl.ifN 445 at_442 (feq (by decide)).1 ?_
  refine Wl.aload 447 at_445 rfl rfl ?_
  refine Wl.aload 449 at_447 rfl rfl ?_
  refine Wl.iload 451 at_449 rfl ?_
  refine Wl.iconst 452 (2 : Int32) at_451 (by decide) ?_
  refine Wl.static 455 (argsL := [.ref s109, .ref a115, .int (11 : Int32), .int (2 : Int32)]) at_452 (w222 hw) (w223 hw) (w2 hw) (w224 hw) (show parseMethodDescriptor "(Ljava/lang/String;[CII)Z" = some ⟨[(.object "java/lang/String"), (.array .char), .int, .int], some .boolean⟩ by decide +kernel) rfl (at_met hw hcs hfm (rs := [p0, p1, (102 : Int32), (101 : Int32), (110 : Int32), (99 : Int32), (101 : Int32), (58 : Int32), (123 : Int32), n0, (125 : Int32)]) (es := [p0, p1, (102 : Int32), (101 : Int32), (110 : Int32), (99 : Int32), (101 : Int32), (58 : Int32), (123 : Int32), n0, (125 : Int32), (0 : Int32), (0 : Int32)]) (k := 11) (i := 2) (S111.ext B211) A207 (nle rfl) (nle rfl) rfl (nle rfl)) (fun _ q => nomatch q) rfl rfl rfl (by decide) ⟨⟨nle rfl, nle rfl⟩, nle rfl, nle rfl⟩ ?_
  intro v221 h222 hq223 _
  obtain ⟨rfl, rfl⟩ := hq223
  show WlO _ _ _ _ _ _ _ _ _ _ _ _ _ _ _ _ _ _ [.int (1 : Int32)]
  refine Wl.ifN 458 at_455 (feq (by decide)).1 ?_
  refine Wl.aload 460 at_458 rfl rfl ?_
  refine Wl.aload 462 at_460 rfl rfl ?_
  refine Wl.iload 464 at_462 rfl ?_
  refine Wl.iconst 465 (3 : Int32) at_464 (by decide) ?_
  refine Wl.static 468 (argsL := [.ref s109, .ref a115, .int (11 : Int32), .int (3 : Int32)]) at_465 (w222 hw) (w223 hw) (w2 hw) (w224 hw) (show parseMethodDescriptor "(Ljava/lang/String;[CII)Z" = some ⟨[(.object "java/lang/String"), (.array .char), .int, .int], some .boolean⟩ by decide +kernel) rfl (at_met hw hcs hfm (rs := [p0, p1, (102 : Int32), (101 : Int32), (110 : Int32), (99 : Int32), (101 : Int32), (58 : Int32), (123 : Int32), n0, (125 : Int32)]) (es := [p0, p1, (102 : Int32), (101 : Int32), (110 : Int32), (99 : Int32), (101 : Int32), (58 : Int32), (123 : Int32), n0, (125 : Int32), (0 : Int32), (0 : Int32)]) (k := 11) (i := 3) (S111.ext B211) A207 (nle rfl) (nle rfl) rfl (nle rfl)) (fun _ q => nomatch q) rfl rfl rfl (by decide) ⟨⟨nle rfl, nle rfl⟩, nle rfl, nle rfl⟩ ?_
  intro v224 h225 hq226 _
  obtain ⟨rfl, rfl⟩ := hq226
  show WlO _ _ _ _ _ _ _ _ _ _ _ _ _ _ _ _ _ _ [.int (1 : Int32)]
  refine Wl.ifN 471 at_468 (feq (by decide)).1 ?_
  refine Wl.aload 473 at_471 rfl rfl ?_
  refine Wl.aload 475 at_473 rfl rfl ?_
  refine Wl.iload 477 at_475 rfl ?_
  refine Wl.iconst 478 (4 : Int32) at_477 (by decide) ?_
  refine Wl.static 481 (argsL := [.ref s109, .ref a115, .int (11 : Int32), .int (4 : Int32)]) at_478 (w222 hw) (w223 hw) (w2 hw) (w224 hw) (show parseMethodDescriptor "(Ljava/lang/String;[CII)Z" = some ⟨[(.object "java/lang/String"), (.array .char), .int, .int], some .boolean⟩ by decide +kernel) rfl (at_met hw hcs hfm (rs := [p0, p1, (102 : Int32), (101 : Int32), (110 : Int32), (99 : Int32), (101 : Int32), (58 : Int32), (123 : Int32), n0, (125 : Int32)]) (es := [p0, p1, (102 : Int32), (101 : Int32), (110 : Int32), (99 : Int32), (101 : Int32), (58 : Int32), (123 : Int32), n0, (125 : Int32), (0 : Int32), (0 : Int32)]) (k := 11) (i := 4) (S111.ext B211) A207 (nle rfl) (nle rfl) rfl (nle rfl)) (fun _ q => nomatch q) rfl rfl rfl (by decide) ⟨⟨nle rfl, nle rfl⟩, nle rfl, nle rfl⟩ ?_
  intro v227 h228 hq229 _
  obtain ⟨rfl, rfl⟩ := hq229
  show WlO _ _ _ _ _ _ _ _ _ _ _ _ _ _ _ _ _ _ [.int (1 : Int32)]
  refine Wl.ifN 484 at_481 (feq (by decide)).1 ?_
  refine Wl.aload 486 at_484 rfl rfl ?_
  refine Wl.aload 488 at_486 rfl rfl ?_
  refine Wl.iload 490 at_488 rfl ?_
  refine Wl.iconst 491 (5 : Int32) at_490 (by decide) ?_
  refine Wl.static 494 (argsL := [.ref s109, .ref a115, .int (11 : Int32), .int (5 : Int32)]) at_491 (w222 hw) (w223 hw) (w2 hw) (w224 hw) (show parseMethodDescriptor "(Ljava/lang/String;[CII)Z" = some ⟨[(.object "java/lang/String"), (.array .char), .int, .int], some .boolean⟩ by decide +kernel) rfl (at_met hw hcs hfm (rs := [p0, p1, (102 : Int32), (101 : Int32), (110 : Int32), (99 : Int32), (101 : Int32), (58 : Int32), (123 : Int32), n0, (125 : Int32)]) (es := [p0, p1, (102 : Int32), (101 : Int32), (110 : Int32), (99 : Int32), (101 : Int32), (58 : Int32), (123 : Int32), n0, (125 : Int32), (0 : Int32), (0 : Int32)]) (k := 11) (i := 5) (S111.ext B211) A207 (nle rfl) (nle rfl) rfl (nle rfl)) (fun _ q => nomatch q) rfl rfl rfl (by decide) ⟨⟨nle rfl, nle rfl⟩, nle rfl, nle rfl⟩ ?_
  intro v230 h231 hq232 _
  obtain ⟨rfl, rfl⟩ := hq232
  show WlO _ _ _ _ _ _ _ _ _ _ _ _ _ _ _ _ _ _ [.int (1 : Int32)]
  refine Wl.ifN 497 at_494 (feq (by decide)).1 ?_
  refine Wl.aload 499 at_497 rfl rfl ?_
  refine Wl.aload 501 at_499 rfl rfl ?_
  refine Wl.iload 503 at_501 rfl ?_
  refine Wl.bipush 505 (6 : Int32) at_503 (by decide) ?_
  refine Wl.static 508 (argsL := [.ref s109, .ref a115, .int (11 : Int32), .int (6 : Int32)]) at_505 (w222 hw) (w223 hw) (w2 hw) (w224 hw) (show parseMethodDescriptor "(Ljava/lang/String;[CII)Z" = some ⟨[(.object "java/lang/String"), (.array .char), .int, .int], some .boolean⟩ by decide +kernel) rfl (at_met hw hcs hfm (rs := [p0, p1, (102 : Int32), (101 : Int32), (110 : Int32), (99 : Int32), (101 : Int32), (58 : Int32), (123 : Int32), n0, (125 : Int32)]) (es := [p0, p1, (102 : Int32), (101 : Int32), (110 : Int32), (99 : Int32), (101 : Int32), (58 : Int32), (123 : Int32), n0, (125 : Int32), (0 : Int32), (0 : Int32)]) (k := 11) (i := 6) (S111.ext B211) A207 (nle rfl) (nle rfl) rfl (nle rfl)) (fun _ q => nomatch q) rfl rfl rfl (by decide) ⟨⟨nle rfl, nle rfl⟩, nle rfl, nle rfl⟩ ?_
  intro v233 h234 hq235 _
  obtain ⟨rfl, rfl⟩ := hq235
  show WlO _ _ _ _ _ _ _ _ _ _ _ _ _ _ _ _ _ _ [.int (1 : Int32)]
  refine Wl.ifN 511 at_508 (feq (by decide)).1 ?_
  refine Wl.aload 513 at_511 rfl rfl ?_
  refine Wl.aload 515 at_513 rfl rfl ?_
  refine Wl.iload 517 at_515 rfl ?_
  refine Wl.bipush 519 (7 : Int32) at_517 (by decide) ?_
  refine Wl.static 522 (argsL := [.ref s109, .ref a115, .int (11 : Int32), .int (7 : Int32)]) at_519 (w222 hw) (w223 hw) (w2 hw) (w224 hw) (show parseMethodDescriptor "(Ljava/lang/String;[CII)Z" = some ⟨[(.object "java/lang/String"), (.array .char), .int, .int], some .boolean⟩ by decide +kernel) rfl (at_met hw hcs hfm (rs := [p0, p1, (102 : Int32), (101 : Int32), (110 : Int32), (99 : Int32), (101 : Int32), (58 : Int32), (123 : Int32), n0, (125 : Int32)]) (es := [p0, p1, (102 : Int32), (101 : Int32), (110 : Int32), (99 : Int32), (101 : Int32), (58 : Int32), (123 : Int32), n0, (125 : Int32), (0 : Int32), (0 : Int32)]) (k := 11) (i := 7) (S111.ext B211) A207 (nle rfl) (nle rfl) rfl (nle rfl)) (fun _ q => nomatch q) rfl rfl rfl (by decide) ⟨⟨nle rfl, nle rfl⟩, nle rfl, nle rfl⟩ ?_
  intro v236 h237 hq238 _
  obtain ⟨rfl, rfl⟩ := hq238
  show WlO _ _ _ _ _ _ _ _ _ _ _ _ _ _ _ _ _ _ [.int (1 : Int32)]
  refine Wl.ifN 525 at_522 (feq (by decide)).1 ?_
  refine Wl.aload 527 at_525 rfl rfl ?_
  refine Wl.aload 529 at_527 rfl rfl ?_
  refine Wl.iload 531 at_529 rfl ?_
  refine Wl.bipush 533 (8 : Int32) at_531 (by decide) ?_
  refine Wl.static 536 (argsL := [.ref s109, .ref a115, .int (11 : Int32), .int (8 : Int32)]) at_533 (w222 hw) (w223 hw) (w2 hw) (w224 hw) (show parseMethodDescriptor "(Ljava/lang/String;[CII)Z" = some ⟨[(.object "java/lang/String"), (.array .char), .int, .int], some .boolean⟩ by decide +kernel) rfl (at_met hw hcs hfm (rs := [p0, p1, (102 : Int32), (101 : Int32), (110 : Int32), (99 : Int32), (101 : Int32), (58 : Int32), (123 : Int32), n0, (125 : Int32)]) (es := [p0, p1, (102 : Int32), (101 : Int32), (110 : Int32), (99 : Int32), (101 : Int32), (58 : Int32), (123 : Int32), n0, (125 : Int32), (0 : Int32), (0 : Int32)]) (k := 11) (i := 8) (S111.ext B211) A207 (nle rfl) (nle rfl) rfl (nle rfl)) (fun _ q => nomatch q) rfl rfl rfl (by decide) ⟨⟨nle rfl, nle rfl⟩, nle rfl, nle rfl⟩ ?_
  intro v239 h240 hq241 _
  obtain ⟨rfl, rfl⟩ := hq241
  show WlO _ _ _ _ _ _ _ _ _ _ _ _ _ _ _ _ _ _ [.int (1 : Int32)]
  refine Wl.ifN 539 at_536 (feq (by decide)).1 ?_
  refine Wl.aload 541 at_539 rfl rfl ?_
  refine Wl.aload 543 at_541 rfl rfl ?_
  refine Wl.iload 545 at_543 rfl ?_
  refine Wl.bipush 547 (9 : Int32) at_545 (by decide) ?_
  refine Wl.static 550 (argsL := [.ref s109, .ref a115, .int (11 : Int32), .int (9 : Int32)]) at_547 (w222 hw) (w223 hw) (w2 hw) (w224 hw) (show parseMethodDescriptor "(Ljava/lang/String;[CII)Z" = some ⟨[(.object "java/lang/String"), (.array .char), .int, .int], some .boolean⟩ by decide +kernel) rfl (at_met hw hcs hfm (rs := [p0, p1, (102 : Int32), (101 : Int32), (110 : Int32), (99 : Int32), (101 : Int32), (58 : Int32), (123 : Int32), n0, (125 : Int32)]) (es := [p0, p1, (102 : Int32), (101 : Int32), (110 : Int32), (99 : Int32), (101 : Int32), (58 : Int32), (123 : Int32), n0, (125 : Int32), (0 : Int32), (0 : Int32)]) (k := 11) (i := 9) (S111.ext B211) A207 (nle rfl) (nle rfl) rfl (nle rfl)) (fun _ q => nomatch q) rfl rfl rfl (by decide) ⟨⟨nle rfl, nle rfl⟩, nle rfl, nle rfl⟩ ?_
  intro v242 h243 hq244 _
  obtain ⟨rfl, rfl⟩ := hq244
  show WlO _ _ _ _ _ _ _ _ _ _ _ _ _ _ _ _ _ _ [.int (1 : Int32)]
  refine Wl.ifN 553 at_550 (feq (by decide)).1 ?_
  refine Wl.aload 555 at_553 rfl rfl ?_
  refine Wl.aload 557 at_555 rfl rfl ?_
  refine Wl.iload 559 at_557 rfl ?_
  refine Wl.bipush 561 (10 : Int32) at_559 (by decide) ?_
  refine Wl.static 564 (argsL := [.ref s109, .ref a115, .int (11 : Int32), .int (10 : Int32)]) at_561 (w222 hw) (w223 hw) (w2 hw) (w224 hw) (show parseMethodDescriptor "(Ljava/lang/String;[CII)Z" = some ⟨[(.object "java/lang/String"), (.array .char), .int, .int], some .boolean⟩ by decide +kernel) rfl (at_met hw hcs hfm (rs := [p0, p1, (102 : Int32), (101 : Int32), (110 : Int32), (99 : Int32), (101 : Int32), (58 : Int32), (123 : Int32), n0, (125 : Int32)]) (es := [p0, p1, (102 : Int32), (101 : Int32), (110 : Int32), (99 : Int32), (101 : Int32), (58 : Int32), (123 : Int32), n0, (125 : Int32), (0 : Int32), (0 : Int32)]) (k := 11) (i := 10) (S111.ext B211) A207 (nle rfl) (nle rfl) rfl (nle rfl)) (fun _ q => nomatch q) rfl rfl rfl (by decide) ⟨⟨nle rfl, nle rfl⟩, nle rfl, nle rfl⟩ ?_
  intro v245 h246 hq247 _
  obtain ⟨rfl, rfl⟩ := hq247
  show WlO _ _ _ _ _ _ _ _ _ _ _ _ _ _ _ _ _ _ [.int (1 : Int32)]
  refine Wl.ifN 567 at_564 (feq (by decide)).1 ?_
  refine Wl.aload 569 at_567 rfl rfl ?_
  refine Wl.aload 571 at_569 rfl rfl ?_
  refine Wl.iload 573 at_571 rfl ?_
  refine Wl.bipush 575 (11 : Int32) at_573 (by decide) ?_
  refine Wl.static 578 (argsL := [.ref s109, .ref a115, .int (11 : Int32), .int (11 : Int32)]) at_575 (w222 hw) (w223 hw) (w2 hw) (w224 hw) (show parseMethodDescriptor "(Ljava/lang/String;[CII)Z" = some ⟨[(.object "java/lang/String"), (.array .char), .int, .int], some .boolean⟩ by decide +kernel) rfl (at_met hw hcs hfm (rs := [p0, p1, (102 : Int32), (101 : Int32), (110 : Int32), (99 : Int32), (101 : Int32), (58 : Int32), (123 : Int32), n0, (125 : Int32)]) (es := [p0, p1, (102 : Int32), (101 : Int32), (110 : Int32), (99 : Int32), (101 : Int32), (58 : Int32), (123 : Int32), n0, (125 : Int32), (0 : Int32), (0 : Int32)]) (k := 11) (i := 11) (S111.ext B211) A207 (nle rfl) (nle rfl) rfl (nle rfl)) (fun _ q => nomatch q) rfl rfl rfl (by decide) ⟨⟨nle rfl, nle rfl⟩, nle rfl, nle rfl⟩ ?_
  intro v248 h249 hq250 _
  obtain ⟨rfl, rfl⟩ := hq250
  show WlO _ _ _ _ _ _ _ _ _ _ _ _ _ _ _ _ _ _ [.int (1 : Int32)]
  refine Wl.ifN 581 at_578 (feq (by decide)).1 ?_
  refine Wl.aload 583 at_581 rfl rfl ?_
  refine Wl.aload 585 at_583 rfl rfl ?_
  refine Wl.iload 587 at_585 rfl ?_
  refine Wl.bipush 589 (12 : Int32) at_587 (by decide) ?_
  refine Wl.static 592 (argsL := [.ref s109, .ref a115, .int (11 : Int32), .int (12 : Int32)]) at_589 (w222 hw) (w223 hw) (w2 hw) (w224 hw) (show parseMethodDescriptor "(Ljava/lang/String;[CII)Z" = some ⟨[(.object "java/lang/String"), (.array .char), .int, .int], some .boolean⟩ by decide +kernel) rfl (at_met hw hcs hfm (rs := [p0, p1, (102 : Int32), (101 : Int32), (110 : Int32), (99 : Int32), (101 : Int32), (58 : Int32), (123 : Int32), n0, (125 : Int32)]) (es := [p0, p1, (102 : Int32), (101 : Int32), (110 : Int32), (99 : Int32), (101 : Int32), (58 : Int32), (123 : Int32), n0, (125 : Int32), (0 : Int32), (0 : Int32)]) (k := 11) (i := 12) (S111.ext B211) A207 (nle rfl) (nle rfl) rfl (nle rfl)) (fun _ q => nomatch q) rfl rfl rfl (by decide) ⟨⟨nle rfl, nle rfl⟩, nle rfl, nle rfl⟩ ?_
  intro v251 h252 hq253 _
  obtain ⟨rfl, rfl⟩ := hq253
  show WlO _ _ _ _ _ _ _ _ _ _ _ _ _ _ _ _ _ _ [.int (1 : Int32)]
  refine Wl.ifN 595 at_592 (feq (by decide)).1 ?_
  refine Wl.iconst 596 (1 : Int32) at_595 (by decide) ?_
  refine Wl.goto 600 at_596 ?_
  exact Wl.ireturn at_600 rfl rfl (by simp) (nle rfl) (nle rfl) rfl
set_option maxRecDepth 65536 in
set_option maxHeartbeats 40000000 in
theorem law_t22 {l : Launch} {Z : State} {a0 : Array Value} (hw : ∀ d ∈ tables_1, d.before a0 Z = true) (hcs : CSon Z) (hfm : Fmt Z) {as : Array Value} {h : Heap} {i0 i1 p0 p1 n0 n1 n2 : Int32} (lp0 : Lat p0) (lp1 : Lat p1) (ln0 : Lat n0) (ln1 : Lat n1) (ln2 : Lat n2) (p0123 : p0 ≠ 123) (p0125 : p0 ≠ 125) (p1123 : p1 ≠ 123) (p1125 : p1 ≠ 125) (hn0 : ¬ n0 = (125 : Int32)) :
    Wl l Z a0 consts_1 x code maxLocals ret room_1 as (fun v h' => v = some (.int 1)) [] h 0 0 86 #[.val (.int i0), .val (.int i1), .val (.int (2 : Int32)), .val (.int p0), .val (.int p1), .val (.int (2 : Int32)), .val (.int n0), .val (.int n1), .val (.int n2), .unset, .unset, .unset, .unset, .unset] [] := by
  refine Wl.iload_n 87 at_86 rfl ?_
  refine Wl.ifY 103 at_87 (feq (by decide)).2 ?_
  refine Wl.iload_n 104 at_103 rfl ?_
  refine Wl.iconst 105 (1 : Int32) at_104 (by decide) ?_
  refine Wl.icmpY 125 at_105 (feq (by decide)).2 ?_
  refine Wl.new 128 at_125 (w4 hw) (w5 hw) (w6 hw) (nle rfl) (nle rfl) ?_
  intro a1 h2 q3 E4 X5 D6
  have z7 : h.size ≤ a1 := Nat.le_of_eq q3.symm
  have B8 : Ext h h2 := E4
  have F9 : Fld Z h2 a1 "java/lang/String" "value" "[B" (.null) := D6 (Or.inr (w20 hw)) (ty := (.array .byte)) (by decide)
  have F10 : Fld Z h2 a1 "java/lang/String" "coder" "B" (.int 0) := D6 (Or.inr (w21 hw)) (ty := .byte) (by decide)
  refine Wl.dup 129 at_128 rfl ?_
  refine Wl.iconst 130 (2 : Int32) at_129 (by decide) ?_
  refine Wl.newarray 132 2 at_130 (w7 hw) (by decide) (by decide) (by decide) (nle rfl) (nle rfl) ?_
  intro a11 h12 k13 q14 E15 A16
  have A16 : Arv Z h12 a11 k13 .char (2 : Int32) [.int 0, .int 0] (.int 0) := A16
  have z17 : h.size ≤ a11 := Nat.le_trans B8.1 (Nat.le_of_eq q14.symm)
  have z18 : h2.size ≤ a11 := Nat.le_of_eq q14.symm
  have ne19 : a1 ≠ a11 := Nat.ne_of_lt (by rw [q14]; exact (X5).lt)
  have B20 : Ext h h12 := extTr B8 E15
  have B21 : Ext h2 h12 := E15
  refine Wl.dup 133 at_132 rfl ?_
  refine Wl.iconst 134 (0 : Int32) at_133 (by decide) ?_
  refine Wl.iload_n 135 at_134 rfl ?_
  refine Wl.castore 136 0 at_135 A16 (List.mem_of_getElem? (i := 0) rfl) (by decide) (by decide) (by decide) (nle rfl) ?_
  intro h22 W23 A24
  rw [nar_ch (lp0).ch] at A24
  have A24 : Arv Z h22 a11 k13 .char (2 : Int32) [.int p0, .int (0 : Int32)] (.int 0) := A24
  have B25 : Ext h h22 := extWr B20 W23 z17
  have B26 : Ext h2 h22 := extWr B21 W23 z18
  refine Wl.dup 137 at_136 rfl ?_
  refine Wl.iconst 138 (1 : Int32) at_137 (by decide) ?_
  refine Wl.iload 140 at_138 rfl ?_
  refine Wl.castore 141 1 at_140 A24 (List.mem_of_getElem? (i := 0) rfl) (by decide) (by decide) (by decide) (nle rfl) ?_
  intro h27 W28 A29
  rw [nar_ch (lp1).ch] at A29
  have A29 : Arv Z h27 a11 k13 .char (2 : Int32) [.int p0, .int p1] (.int 0) := A29
  have B30 : Ext h h27 := extWr B25 W28 z17
  have B31 : Ext h2 h27 := extWr B26 W28 z18
  refine Wl.special 144 (argsL := [.ref a11]) at_141 (w8 hw) (w9 hw) (w6 hw) (w10 hw) (show parseMethodDescriptor "([C)V" = some ⟨[(.array .char)], none⟩ by decide +kernel) rfl (strC_met hw hcs (cs := [p0, p1]) 4 (nle rfl) (nle rfl)  (latC lp0 (latC lp1 latN)) (X5.ext B31) (F9.ext B31) (F10.ext B31) A29) (allS (List.mem_of_getElem? (i := 1) rfl) (fun _ q => nomatch q)) rfl rfl rfl rfl (by decide) ⟨⟨nle rfl, nle rfl⟩, nle rfl, nle rfl⟩ ?_
  intro v32 h33 hq34 _
  obtain ⟨rfl, K35, S36⟩ := hq34
  have B37 : Ext h h33 := extKeep B30 K35 (allS z7 all0)
  show WlO _ _ _ _ _ _ _ _ _ _ _ _ _ _ _ _ _ _ [.ref a1]
  refine Wl.astore 146 #[.val (.int i0), .val (.int i1), .val (.int (2 : Int32)), .val (.int p0), .val (.int p1), .val (.int (2 : Int32)), .val (.int n0), .val (.int n1), .val (.int n2), .val (.ref a1), .unset, .unset, .unset, .unset] at_144 rfl rfl ?_
  refine Wl.iload 148 at_146 rfl ?_
  refine Wl.iconst 149 (1 : Int32) at_148 (by decide) ?_
  refine Wl.icmpY 170 at_149 (feq (by decide)).2 ?_
  refine Wl.iload 172 at_170 rfl ?_
  refine Wl.iconst 173 (2 : Int32) at_172 (by decide) ?_
  refine Wl.icmpN 176 at_173 (teq (by decide)).2 ?_
  refine Wl.new 179 at_176 (w4 hw) (w5 hw) (w6 hw) (nle rfl) (nle rfl) ?_
  intro a38 h39 q40 E41 X42 D43
  have z44 : h.size ≤ a38 := Nat.le_trans B37.1 (Nat.le_of_eq q40.symm)
  have z45 : h33.size ≤ a38 := Nat.le_of_eq q40.symm
  have ne46 : a1 ≠ a38 := Nat.ne_of_lt (by rw [q40]; exact ((S36).exa).lt)
  have ne47 : a11 ≠ a38 := Nat.ne_of_lt (by rw [q40]; exact ((A29.keep K35 (ninS ne19.symm nin0))).lt)
  have B48 : Ext h h39 := extTr B37 E41
  have B49 : Ext h33 h39 := E41
  have F50 : Fld Z h39 a38 "java/lang/String" "value" "[B" (.null) := D43 (Or.inr (w20 hw)) (ty := (.array .byte)) (by decide)
  have F51 : Fld Z h39 a38 "java/lang/String" "coder" "B" (.int 0) := D43 (Or.inr (w21 hw)) (ty := .byte) (by decide)
  refine Wl.dup 180 at_179 rfl ?_
  refine Wl.iconst 181 (2 : Int32) at_180 (by decide) ?_
  refine Wl.newarray 183 2 at_181 (w7 hw) (by decide) (by decide) (by decide) (nle rfl) (nle rfl) ?_
  intro a52 h53 k54 q55 E56 A57
  have A57 : Arv Z h53 a52 k54 .char (2 : Int32) [.int 0, .int 0] (.int 0) := A57
  have z58 : h.size ≤ a52 := Nat.le_trans B48.1 (Nat.le_of_eq q55.symm)
  have z59 : h33.size ≤ a52 := Nat.le_trans B49.1 (Nat.le_of_eq q55.symm)
  have z60 : h39.size ≤ a52 := Nat.le_of_eq q55.symm
  have ne61 : a1 ≠ a52 := Nat.ne_of_lt (by rw [q55]; exact (((S36).exa.ext E41)).lt)
  have ne62 : a11 ≠ a52 := Nat.ne_of_lt (by rw [q55]; exact (((A29.keep K35 (ninS ne19.symm nin0)).ext E41)).lt)
  have ne63 : a38 ≠ a52 := Nat.ne_of_lt (by rw [q55]; exact (X42).lt)
  have B64 : Ext h h53 := extTr B48 E56
  have B65 : Ext h33 h53 := extTr B49 E56
  have B66 : Ext h39 h53 := E56
  refine Wl.dup 184 at_183 rfl ?_
  refine Wl.iconst 185 (0 : Int32) at_184 (by decide) ?_
  refine Wl.iload 187 at_185 rfl ?_
  refine Wl.castore 188 0 at_187 A57 (List.mem_of_getElem? (i := 0) rfl) (by decide) (by decide) (by decide) (nle rfl) ?_
  intro h67 W68 A69
  rw [nar_ch (ln0).ch] at A69
  have A69 : Arv Z h67 a52 k54 .char (2 : Int32) [.int n0, .int (0 : Int32)] (.int 0) := A69
  have B70 : Ext h h67 := extWr B64 W68 z58
  have B71 : Ext h33 h67 := extWr B65 W68 z59
  have B72 : Ext h39 h67 := extWr B66 W68 z60
  refine Wl.dup 189 at_188 rfl ?_
  refine Wl.iconst 190 (1 : Int32) at_189 (by decide) ?_
  refine Wl.iload 192 at_190 rfl ?_
  refine Wl.castore 193 1 at_192 A69 (List.mem_of_getElem? (i := 0) rfl) (by decide) (by decide) (by decide) (nle rfl) ?_
  intro h73 W74 A75
  rw [nar_ch (ln1).ch] at A75
  have A75 : Arv Z h73 a52 k54 .char (2 : Int32) [.int n0, .int n1] (.int 0) := A75
  have B76 : Ext h h73 := extWr B70 W74 z58
  have B77 : Ext h33 h73 := extWr B71 W74 z59
  have B78 : Ext h39 h73 := extWr B72 W74 z60
  refine Wl.special 196 (argsL := [.ref a52]) at_193 (w8 hw) (w9 hw) (w6 hw) (w10 hw) (show parseMethodDescriptor "([C)V" = some ⟨[(.array .char)], none⟩ by decide +kernel) rfl (strC_met hw hcs (cs := [n0, n1]) 4 (nle rfl) (nle rfl)  (latC ln0 (latC ln1 latN)) (X42.ext B78) (F50.ext B78) (F51.ext B78) A75) (allS (List.mem_of_getElem? (i := 1) rfl) (fun _ q => nomatch q)) rfl rfl rfl rfl (by decide) ⟨⟨nle rfl, nle rfl⟩, nle rfl, nle rfl⟩ ?_
  intro v79 h80 hq81 _
  obtain ⟨rfl, K82, S83⟩ := hq81
  have B84 : Ext h h80 := extKeep B76 K82 (allS z44 all0)
  have B85 : Ext h33 h80 := extKeep B77 K82 (allS z45 all0)
  show WlO _ _ _ _ _ _ _ _ _ _ _ _ _ _ _ _ _ _ [.ref a38]
  refine Wl.goto 224 at_196 ?_
  refine Wl.astore 226 #[.val (.int i0), .val (.int i1), .val (.int (2 : Int32)), .val (.int p0), .val (.int p1), .val (.int (2 : Int32)), .val (.int n0), .val (.int n1), .val (.int n2), .val (.ref a1), .val (.ref a38), .unset, .unset, .unset] at_224 rfl rfl ?_
  refine Wl.new 229 at_226 (w37 hw) (w38 hw) (w39 hw) (nle rfl) (nle rfl) ?_
  intro a86 h87 q88 E89 X90 D91
  have z92 : h.size ≤ a86 := Nat.le_trans B84.1 (Nat.le_of_eq q88.symm)
  have z93 : h33.size ≤ a86 := Nat.le_trans B85.1 (Nat.le_of_eq q88.symm)
  have z94 : h80.size ≤ a86 := Nat.le_of_eq q88.symm
  have ne95 : a1 ≠ a86 := Nat.ne_of_lt (by rw [q88]; exact (((S36).exa.ext B85)).lt)
  have ne96 : a11 ≠ a86 := Nat.ne_of_lt (by rw [q88]; exact (((A29.keep K35 (ninS ne19.symm nin0)).ext B85)).lt)
  have ne97 : a38 ≠ a86 := Nat.ne_of_lt (by rw [q88]; exact ((S83).exa).lt)
  have ne98 : a52 ≠ a86 := Nat.ne_of_lt (by rw [q88]; exact ((A75.keep K82 (ninS ne63.symm nin0))).lt)
  have B99 : Ext h h87 := extTr B84 E89
  have B100 : Ext h33 h87 := extTr B85 E89
  have B101 : Ext h80 h87 := E89
  have F102 : Fld Z h87 a86 "com/example/portunus/portunus/LockKeys" "prefix" "Ljava/lang/String;" (.null) := D91 (Or.inr (w89 hw)) (ty := (.object "java/lang/String")) (by decide)
  refine Wl.dup 230 at_229 rfl ?_
  refine Wl.aload 232 at_230 rfl rfl ?_
  refine Wl.special 235 (argsL := [.ref a1]) at_232 (w40 hw) (w41 hw) (w39 hw) (w42 hw) (show parseMethodDescriptor "(Ljava/lang/String;)V" = some ⟨[(.object "java/lang/String")], none⟩ by decide +kernel) rfl (keys_met hw hcs X90 F102 (cs := [p0, p1]) (S36.ext B100) (neC p0123 (neC p1123 neN)) (neC p0125 (neC p1125 neN))) (allS (List.mem_of_getElem? (i := 0) rfl) (fun _ q => nomatch q)) rfl rfl rfl rfl (by decide) ⟨⟨nle rfl, nle rfl⟩, nle rfl, nle rfl⟩ ?_
  intro v103 h104 hq105 _
  obtain ⟨rfl, K106, X107, F108⟩ := hq105
  have B109 : Ext h h104 := extKeep B99 K106 (allS z92 all0)
  have B110 : Ext h33 h104 := extKeep B100 K106 (allS z93 all0)
  have B111 : Ext h80 h104 := extKeep B101 K106 (allS z94 all0)
  show WlO _ _ _ _ _ _ _ _ _ _ _ _ _ _ _ _ _ _ [.ref a86]
  refine Wl.aload 237 at_235 rfl rfl ?_
  refine Wl.virtual 240 (argsL := [.ref a38]) at_237 (w90 hw) (w91 hw) (w93 hw) (w92 hw) (w39 hw) (w94 hw) (nf_sel (w93 hw) rfl) X107 (show parseMethodDescriptor "(Ljava/lang/String;)Ljava/lang/String;" = some ⟨[(.object "java/lang/String")], some (.object "java/lang/String")⟩ by decide +kernel) rfl (key_met hw hcs hfm (cs := [n0, n1]) (ps := [p0, p1]) F108 (S36.ext B110) (nle rfl) (S83.ext B111) (by simp) (nle rfl) hn0 (nle rfl)) (fun _ q => nomatch q) rfl rfl rfl (by decide) ⟨⟨nle rfl, nle rfl⟩, nle rfl, nle rfl⟩ ?_
  intro v112 h113 hq114 _
  obtain ⟨s115, rfl, E116, S117⟩ := hq114
  have S117 : Stl Z h113 s115 [p0, p1, (102 : Int32), (101 : Int32), (110 : Int32), (99 : Int32), (101 : Int32), (58 : Int32), (123 : Int32), n0, n1, (125 : Int32)] := S117
  have B118 : Ext h h113 := extTr B109 E116
  have B119 : Ext h33 h113 := extTr B110 E116
  have B120 : Ext h80 h113 := extTr B111 E116
  show WlO _ _ _ _ _ _ _ _ _ _ _ _ _ _ _ _ _ _ [.ref s115]
  refine Wl.astore 242 #[.val (.int i0), .val (.int i1), .val (.int (2 : Int32)), .val (.int p0), .val (.int p1), .val (.int (2 : Int32)), .val (.int n0), .val (.int n1), .val (.int n2), .val (.ref a1), .val (.ref a38), .val (.ref s115), .unset, .unset] at_240 rfl rfl ?_
  refine Wl.bipush 244 (13 : Int32) at_242 (by decide) ?_
  refine Wl.newarray 246 13 at_244 (w7 hw) (by decide) (by decide) (by decide) (nle rfl) (nle rfl) ?_
  intro a121 h122 k123 q124 E125 A126
  have A126 : Arv Z h122 a121 k123 .char (13 : Int32) [.int 0, .int 0, .int 0, .int 0, .int 0, .int 0, .int 0, .int 0, .int 0, .int 0, .int 0, .int 0, .int 0] (.int 0) := A126
  have z127 : h.size ≤ a121 := Nat.le_trans B118.1 (Nat.le_of_eq q124.symm)
  have z128 : h33.size ≤ a121 := Nat.le_trans B119.1 (Nat.le_of_eq q124.symm)
  have z129 : h80.size ≤ a121 := Nat.le_trans B120.1 (Nat.le_of_eq q124.symm)
  have z130 : h113.size ≤ a121 := Nat.le_of_eq q124.symm
  have ne131 : a1 ≠ a121 := Nat.ne_of_lt (by rw [q124]; exact (((S36).exa.ext B119)).lt)
  have ne132 : a11 ≠ a121 := Nat.ne_of_lt (by rw [q124]; exact (((A29.keep K35 (ninS ne19.symm nin0)).ext B119)).lt)
  have ne133 : a38 ≠ a121 := Nat.ne_of_lt (by rw [q124]; exact (((S83).exa.ext B120)).lt)
  have ne134 : a52 ≠ a121 := Nat.ne_of_lt (by rw [q124]; exact (((A75.keep K82 (ninS ne63.symm nin0)).ext B120)).lt)
  have ne135 : a86 ≠ a121 := Nat.ne_of_lt (by rw [q124]; exact ((X107.ext E116)).lt)
  have ne136 : s115 ≠ a121 := Nat.ne_of_lt (by rw [q124]; exact ((S117).exa).lt)
  have B137 : Ext h h122 := extTr B118 E125
  have B138 : Ext h33 h122 := extTr B119 E125
  have B139 : Ext h80 h122 := extTr B120 E125
  have B140 : Ext h113 h122 := E125
  refine Wl.astore 248 #[.val (.int i0), .val (.int i1), .val (.int (2 : Int32)), .val (.int p0), .val (.int p1), .val (.int (2 : Int32)), .val (.int n0), .val (.int n1), .val (.int n2), .val (.ref a1), .val (.ref a38), .val (.ref s115), .val (.ref a121), .unset] at_246 rfl rfl ?_
  refine Wl.iconst 249 (0 : Int32) at_248 (by decide) ?_
  refine Wl.istore 251 #[.val (.int i0), .val (.int i1), .val (.int (2 : Int32)), .val (.int p0), .val (.int p1), .val (.int (2 : Int32)), .val (.int n0), .val (.int n1), .val (.int n2), .val (.ref a1), .val (.ref a38), .val (.ref s115), .val (.ref a121), .val (.int (0 : Int32))] at_249 rfl ?_
  refine Wl.iload_n 252 at_251 rfl ?_
  refine Wl.iconst 253 (1 : Int32) at_252 (by decide) ?_
  refine Wl.icmpN 256 at_253 (flt (by decide)).1 ?_
  refine Wl.aload 258 at_256 rfl rfl ?_
  refine Wl.iload 260 at_258 rfl ?_
  refine Wl.iload_n 261 at_260 rfl ?_
  refine Wl.castore 262 0 at_261 A126 (List.mem_of_getElem? (i := 0) rfl) (by decide) (by decide) (by decide) (nle rfl) ?_
  intro h141 W142 A143
  rw [nar_ch (lp0).ch] at A143
  have A143 : Arv Z h141 a121 k123 .char (13 : Int32) [.int p0, .int (0 : Int32), .int (0 : Int32), .int (0 : Int32), .int (0 : Int32), .int (0 : Int32), .int (0 : Int32), .int (0 : Int32), .int (0 : Int32), .int (0 : Int32), .int (0 : Int32), .int (0 : Int32), .int (0 : Int32)] (.int 0) := A143
  have B144 : Ext h h141 := extWr B137 W142 z127
  have B145 : Ext h33 h141 := extWr B138 W142 z128
  have B146 : Ext h80 h141 := extWr B139 W142 z129
  have B147 : Ext h113 h141 := extWr B140 W142 z130
  refine Wl.iinc 265 #[.val (.int i0), .val (.int i1), .val (.int (2 : Int32)), .val (.int p0), .val (.int p1), .val (.int (2 : Int32)), .val (.int n0), .val (.int n1), .val (.int n2), .val (.ref a1), .val (.ref a38), .val (.ref s115), .val (.ref a121), .val (.int (1 : Int32))] (1 : Int32) at_262 (by decide) rfl rfl ?_
  refine Wl.iload_n 266 at_265 rfl ?_
  refine Wl.iconst 267 (2 : Int32) at_266 (by decide) ?_
  refine Wl.icmpN 270 at_267 (flt (by decide)).1 ?_
  refine Wl.aload 272 at_270 rfl rfl ?_
  refine Wl.iload 274 at_272 rfl ?_
  refine Wl.iload 276 at_274 rfl ?_
  refine Wl.castore 277 1 at_276 A143 (List.mem_of_getElem? (i := 0) rfl) (by decide) (by decide) (by decide) (nle rfl) ?_
  intro h148 W149 A150
  rw [nar_ch (lp1).ch] at A150
  have A150 : Arv Z h148 a121 k123 .char (13 : Int32) [.int p0, .int p1, .int (0 : Int32), .int (0 : Int32), .int (0 : Int32), .int (0 : Int32), .int (0 : Int32), .int (0 : Int32), .int (0 : Int32), .int (0 : Int32), .int (0 : Int32), .int (0 : Int32), .int (0 : Int32)] (.int 0) := A150
  have B151 : Ext h h148 := extWr B144 W149 z127
  have B152 : Ext h33 h148 := extWr B145 W149 z128
  have B153 : Ext h80 h148 := extWr B146 W149 z129
  have B154 : Ext h113 h148 := extWr B147 W149 z130
  refine Wl.iinc 280 #[.val (.int i0), .val (.int i1), .val (.int (2 : Int32)), .val (.int p0), .val (.int p1), .val (.int (2 : Int32)), .val (.int n0), .val (.int n1), .val (.int n2), .val (.ref a1), .val (.ref a38), .val (.ref s115), .val (.ref a121), .val (.int (2 : Int32))] (1 : Int32) at_277 (by decide) rfl rfl ?_
  refine Wl.aload 282 at_280 rfl rfl ?_
  refine Wl.iload 284 at_282 rfl ?_
  refine Wl.bipush 286 (102 : Int32) at_284 (by decide) ?_
  refine Wl.castore 287 2 at_286 A150 (List.mem_of_getElem? (i := 0) rfl) (by decide) (by decide) (by decide) (nle rfl) ?_
  intro h155 W156 A157
  rw [nar_ch (by decide)] at A157
  have A157 : Arv Z h155 a121 k123 .char (13 : Int32) [.int p0, .int p1, .int (102 : Int32), .int (0 : Int32), .int (0 : Int32), .int (0 : Int32), .int (0 : Int32), .int (0 : Int32), .int (0 : Int32), .int (0 : Int32), .int (0 : Int32), .int (0 : Int32), .int (0 : Int32)] (.int 0) := A157
  have B158 : Ext h h155 := extWr B151 W156 z127
  have B159 : Ext h33 h155 := extWr B152 W156 z128
  have B160 : Ext h80 h155 := extWr B153 W156 z129
  have B161 : Ext h113 h155 := extWr B154 W156 z130
  refine Wl.iinc 290 #[.val (.int i0), .val (.int i1), .val (.int (2 : Int32)), .val (.int p0), .val (.int p1), .val (.int (2 : Int32)), .val (.int n0), .val (.int n1), .val (.int n2), .val (.ref a1), .val (.ref a38), .val (.ref s115), .val (.ref a121), .val (.int (3 : Int32))] (1 : Int32) at_287 (by decide) rfl rfl ?_
  refine Wl.aload 292 at_290 rfl rfl ?_
  refine Wl.iload 294 at_292 rfl ?_
  refine Wl.bipush 296 (101 : Int32) at_294 (by decide) ?_
  refine Wl.castore 297 3 at_296 A157 (List.mem_of_getElem? (i := 0) rfl) (by decide) (by decide) (by decide) (nle rfl) ?_
  intro h162 W163 A164
  rw [nar_ch (by decide)] at A164
  have A164 : Arv Z h162 a121 k123 .char (13 : Int32) [.int p0, .int p1, .int (102 : Int32), .int (101 : Int32), .int (0 : Int32), .int (0 : Int32), .int (0 : Int32), .int (0 : Int32), .int (0 : Int32), .int (0 : Int32), .int (0 : Int32), .int (0 : Int32), .int (0 : Int32)] (.int 0) := A164
  have B165 : Ext h h162 := extWr B158 W163 z127
  have B166 : Ext h33 h162 := extWr B159 W163 z128
  have B167 : Ext h80 h162 := extWr B160 W163 z129
  have B168 : Ext h113 h162 := extWr B161 W163 z130
  refine Wl.iinc 300 #[.val (.int i0), .val (.int i1), .val (.int (2 : Int32)), .val (.int p0), .val (.int p1), .val (.int (2 : Int32)), .val (.int n0), .val (.int n1), .val (.int n2), .val (.ref a1), .val (.ref a38), .val (.ref s115), .val (.ref a121), .val (.int (4 : Int32))] (1 : Int32) at_297 (by decide) rfl rfl ?_
  refine Wl.aload 302 at_300 rfl rfl ?_
  refine Wl.iload 304 at_302 rfl ?_
  refine Wl.bipush 306 (110 : Int32) at_304 (by decide) ?_
  refine Wl.castore 307 4 at_306 A164 (List.mem_of_getElem? (i := 0) rfl) (by decide) (by decide) (by decide) (nle rfl) ?_
  intro h169 W170 A171
  rw [nar_ch (by decide)] at A171
  have A171 : Arv Z h169 a121 k123 .char (13 : Int32) [.int p0, .int p1, .int (102 : Int32), .int (101 : Int32), .int (110 : Int32), .int (0 : Int32), .int (0 : Int32), .int (0 : Int32), .int (0 : Int32), .int (0 : Int32), .int (0 : Int32), .int (0 : Int32), .int (0 : Int32)] (.int 0) := A171
  have B172 : Ext h h169 := extWr B165 W170 z127
  have B173 : Ext h33 h169 := extWr B166 W170 z128
  have B174 : Ext h80 h169 := extWr B167 W170 z129
  have B175 : Ext h113 h169 := extWr B168 W170 z130
  refine Wl.iinc 310 #[.val (.int i0), .val (.int i1), .val (.int (2 : Int32)), .val (.int p0), .val (.int p1), .val (.int (2 : Int32)), .val (.int n0), .val (.int n1), .val (.int n2), .val (.ref a1), .val (.ref a38), .val (.ref s115), .val (.ref a121), .val (.int (5 : Int32))] (1 : Int32) at_307 (by decide) rfl rfl ?_
  refine Wl.aload 312 at_310 rfl rfl ?_
  refine Wl.iload 314 at_312 rfl ?_
  refine Wl.bipush 316 (99 : Int32) at_314 (by decide) ?_
  refine Wl.castore 317 5 at_316 A171 (List.mem_of_getElem? (i := 0) rfl) (by decide) (by decide) (by decide) (nle rfl) ?_
  intro h176 W177 A178
  rw [nar_ch (by decide)] at A178
  have A178 : Arv Z h176 a121 k123 .char (13 : Int32) [.int p0, .int p1, .int (102 : Int32), .int (101 : Int32), .int (110 : Int32), .int (99 : Int32), .int (0 : Int32), .int (0 : Int32), .int (0 : Int32), .int (0 : Int32), .int (0 : Int32), .int (0 : Int32), .int (0 : Int32)] (.int 0) := A178
  have B179 : Ext h h176 := extWr B172 W177 z127
  have B180 : Ext h33 h176 := extWr B173 W177 z128
  have B181 : Ext h80 h176 := extWr B174 W177 z129
  have B182 : Ext h113 h176 := extWr B175 W177 z130
  refine Wl.iinc 320 #[.val (.int i0), .val (.int i1), .val (.int (2 : Int32)), .val (.int p0), .val (.int p1), .val (.int (2 : Int32)), .val (.int n0), .val (.int n1), .val (.int n2), .val (.ref a1), .val (.ref a38), .val (.ref s115), .val (.ref a121), .val (.int (6 : Int32))] (1 : Int32) at_317 (by decide) rfl rfl ?_
  refine Wl.aload 322 at_320 rfl rfl ?_
  refine Wl.iload 324 at_322 rfl ?_
  refine Wl.bipush 326 (101 : Int32) at_324 (by decide) ?_
  refine Wl.castore 327 6 at_326 A178 (List.mem_of_getElem? (i := 0) rfl) (by decide) (by decide) (by decide) (nle rfl) ?_
  intro h183 W184 A185
  rw [nar_ch (by decide)] at A185
  have A185 : Arv Z h183 a121 k123 .char (13 : Int32) [.int p0, .int p1, .int (102 : Int32), .int (101 : Int32), .int (110 : Int32), .int (99 : Int32), .int (101 : Int32), .int (0 : Int32), .int (0 : Int32), .int (0 : Int32), .int (0 : Int32), .int (0 : Int32), .int (0 : Int32)] (.int 0) := A185
  have B186 : Ext h h183 := extWr B179 W184 z127
  have B187 : Ext h33 h183 := extWr B180 W184 z128
  have B188 : Ext h80 h183 := extWr B181 W184 z129
  have B189 : Ext h113 h183 := extWr B182 W184 z130
  refine Wl.iinc 330 #[.val (.int i0), .val (.int i1), .val (.int (2 : Int32)), .val (.int p0), .val (.int p1), .val (.int (2 : Int32)), .val (.int n0), .val (.int n1), .val (.int n2), .val (.ref a1), .val (.ref a38), .val (.ref s115), .val (.ref a121), .val (.int (7 : Int32))] (1 : Int32) at_327 (by decide) rfl rfl ?_
  refine Wl.aload 332 at_330 rfl rfl ?_
  refine Wl.iload 334 at_332 rfl ?_
  refine Wl.bipush 336 (58 : Int32) at_334 (by decide) ?_
  refine Wl.castore 337 7 at_336 A185 (List.mem_of_getElem? (i := 0) rfl) (by decide) (by decide) (by decide) (nle rfl) ?_
  intro h190 W191 A192
  rw [nar_ch (by decide)] at A192
  have A192 : Arv Z h190 a121 k123 .char (13 : Int32) [.int p0, .int p1, .int (102 : Int32), .int (101 : Int32), .int (110 : Int32), .int (99 : Int32), .int (101 : Int32), .int (58 : Int32), .int (0 : Int32), .int (0 : Int32), .int (0 : Int32), .int (0 : Int32), .int (0 : Int32)] (.int 0) := A192
  have B193 : Ext h h190 := extWr B186 W191 z127
  have B194 : Ext h33 h190 := extWr B187 W191 z128
  have B195 : Ext h80 h190 := extWr B188 W191 z129
  have B196 : Ext h113 h190 := extWr B189 W191 z130
  refine Wl.iinc 340 #[.val (.int i0), .val (.int i1), .val (.int (2 : Int32)), .val (.int p0), .val (.int p1), .val (.int (2 : Int32)), .val (.int n0), .val (.int n1), .val (.int n2), .val (.ref a1), .val (.ref a38), .val (.ref s115), .val (.ref a121), .val (.int (8 : Int32))] (1 : Int32) at_337 (by decide) rfl rfl ?_
  refine Wl.aload 342 at_340 rfl rfl ?_
  refine Wl.iload 344 at_342 rfl ?_
  refine Wl.bipush 346 (123 : Int32) at_344 (by decide) ?_
  refine Wl.castore 347 8 at_346 A192 (List.mem_of_getElem? (i := 0) rfl) (by decide) (by decide) (by decide) (nle rfl) ?_
  intro h197 W198 A199
  rw [nar_ch (by decide)] at A199
  have A199 : Arv Z h197 a121 k123 .char (13 : Int32) [.int p0, .int p1, .int (102 : Int32), .int (101 : Int32), .int (110 : Int32), .int (99 : Int32), .int (101 : Int32), .int (58 : Int32), .int (123 : Int32), .int (0 : Int32), .int (0 : Int32), .int (0 : Int32), .int (0 : Int32)] (.int 0) := A199
  have B200 : Ext h h197 := extWr B193 W198 z127
  have B201 : Ext h33 h197 := extWr B194 W198 z128
  have B202 : Ext h80 h197 := extWr B195 W198 z129
  have B203 : Ext h113 h197 := extWr B196 W198 z130
  refine Wl.iinc 350 #[.val (.int i0), .val (.int i1), .val (.int (2 : Int32)), .val (.int p0), .val (.int p1), .val (.int (2 : Int32)), .val (.int n0), .val (.int n1), .val (.int n2), .val (.ref a1), .val (.ref a38), .val (.ref s115), .val (.ref a121), .val (.int (9 : Int32))] (1 : Int32) at_347 (by decide) rfl rfl ?_
  refine Wl.aload 352 at_350 rfl rfl ?_
  refine Wl.iload 354 at_352 rfl ?_
  refine Wl.iload 356 at_354 rfl ?_
  refine Wl.castore 357 9 at_356 A199 (List.mem_of_getElem? (i := 0) rfl) (by decide) (by decide) (by decide) (nle rfl) ?_
  intro h204 W205 A206
  rw [nar_ch (ln0).ch] at A206
  have A206 : Arv Z h204 a121 k123 .char (13 : Int32) [.int p0, .int p1, .int (102 : Int32), .int (101 : Int32), .int (110 : Int32), .int (99 : Int32), .int (101 : Int32), .int (58 : Int32), .int (123 : Int32), .int n0, .int (0 : Int32), .int (0 : Int32), .int (0 : Int32)] (.int 0) := A206
  have B207 : Ext h h204 := extWr B200 W205 z127
  have B208 : Ext h33 h204 := extWr B201 W205 z128
  have B209 : Ext h80 h204 := extWr B202 W205 z129
  have B210 : Ext h113 h204 := extWr B203 W205 z130
  refine Wl.iinc 360 #[.val (.int i0), .val (.int i1), .val (.int (2 : Int32)), .val (.int p0), .val (.int p1), .val (.int (2 : Int32)), .val (.int n0), .val (.int n1), .val (.int n2), .val (.ref a1), .val (.ref a38), .val (.ref s115), .val (.ref a121), .val (.int (10 : Int32))] (1 : Int32) at_357 (by decide) rfl rfl ?_
  refine Wl.iload 362 at_360 rfl ?_
  refine Wl.iconst 363 (2 : Int32) at_362 (by decide) ?_
  refine Wl.icmpN 366 at_363 (flt (by decide)).1 ?_
  refine Wl.aload 368 at_366 rfl rfl ?_
  refine Wl.iload 370 at_368 rfl ?_
  refine Wl.iload 372 at_370 rfl ?_
  refine Wl.castore 373 10 at_372 A206 (List.mem_of_getElem? (i := 0) rfl) (by decide) (by decide) (by decide) (nle rfl) ?_
  intro h211 W212 A213
  rw [nar_ch (ln1).ch] at A213
  have A213 : Arv Z h211 a121 k123 .char (13 : Int32) [.int p0, .int p1, .int (102 : Int32), .int (101 : Int32), .int (110 : Int32), .int (99 : Int32), .int (101 : Int32), .int (58 : Int32), .int (123 : Int32), .int n0, .int n1, .int (0 : Int32), .int (0 : Int32)] (.int 0) := A213
  have B214 : Ext h h211 := extWr B207 W212 z127
  have B215 : Ext h33 h211 := extWr B208 W212 z128
  have B216 : Ext h80 h211 := extWr B209 W212 z129
  have B217 : Ext h113 h211 := extWr B210 W212 z130
  refine Wl.iinc 376 #[.val (.int i0), .val (.int i1), .val (.int (2 : Int32)), .val (.int p0), .val (.int p1), .val (.int (2 : Int32)), .val (.int n0), .val (.int n1), .val (.int n2), .val (.ref a1), .val (.ref a38), .val (.ref s115), .val (.ref a121), .val (.int (11 : Int32))] (1 : Int32) at_373 (by decide) rfl rfl ?_
  refine Wl.iload 378 at_376 rfl ?_
  refine Wl.iconst 379 (3 : Int32) at_378 (by decide) ?_
  refine Wl.icmpY 392 at_379 (tlt (by decide)).1 ?_
  refine Wl.aload 394 at_392 rfl rfl ?_
  refine Wl.iload 396 at_394 rfl ?_
  refine Wl.bipush 398 (125 : Int32) at_396 (by decide) ?_
  refine Wl.castore 399 11 at_398 A213 (List.mem_of_getElem? (i := 0) rfl) (by decide) (by decide) (by decide) (nle rfl) ?_
  intro h218 W219 A220
  rw [nar_ch (by decide)] at A220
  have A220 : Arv Z h218 a121 k123 .char (13 : Int32) [.int p0, .int p1, .int (102 : Int32), .int (101 : Int32), .int (110 : Int32), .int (99 : Int32), .int (101 : Int32), .int (58 : Int32), .int (123 : Int32), .int n0, .int n1, .int (125 : Int32), .int (0 : Int32)] (.int 0) := A220
  have B221 : Ext h h218 := extWr B214 W219 z127
  have B222 : Ext h33 h218 := extWr B215 W219 z128
  have B223 : Ext h80 h218 := extWr B216 W219 z129
  have B224 : Ext h113 h218 := extWr B217 W219 z130
  refine Wl.iinc 402 #[.val (.int i0), .val (.int i1), .val (.int (2 : Int32)), .val (.int p0), .val (.int p1), .val (.int (2 : Int32)), .val (.int n0), .val (.int n1), .val (.int n2), .val (.ref a1), .val (.ref a38), .val (.ref s115), .val (.ref a121), .val (.int (12 : Int32))] (1 : Int32) at_399 (by decide) rfl rfl ?_
  refine Wl.aload 404 at_402 rfl rfl ?_
  refine Wl.ifnullN 407 at_404 ?_
  refine Wl.aload 409 at_407 rfl rfl ?_
  refine Wl.virtual 412 (argsL := []) at_409 (w221 hw) (w65 hw) (w67 hw) (w66 hw) (w6 hw) (w68 hw) (nf_sel (w67 hw) rfl) ((S117).exa.ext B224) (show parseMethodDescriptor "()I" = some ⟨[], some .int⟩ by decide +kernel) rfl (len_met hw hcs (S117.ext B224)) (fun _ q => nomatch q) rfl rfl rfl (by decide) ⟨⟨nle rfl, nle rfl⟩, nle rfl, nle rfl⟩ ?_
  intro v225 h226 hq227 _
  obtain ⟨rfl, rfl⟩ := hq227
  show WlO _ _ _ _ _ _ _ _ _ _ _ _ _ _ _ _ _ _ [.int (12 : Int32)]
  refine Wl.iload 414 at_412 rfl ?_
  refine Wl.icmpY 419 at_414 (teq (by decide)).1 ?_
  refine Wl.aload 421 at_419 rfl rfl ?_
  refine Wl.aload 423 at_421 rfl rfl ?_
  refine Wl.iload 425 at_423 rfl ?_
  refine Wl.iconst 426 (0 : Int32) at_425 (by decide) ?_
  refine Wl.static 429 (argsL := [.ref s115, .ref a121, .int (12 : Int32), .int (0 : Int32)]) at_426 (w222 hw) (w223 hw) (w2 hw) (w224 hw) (show parseMethodDescriptor "(Ljava/lang/String;[CII)Z" = some ⟨[(.object "java/lang/String"), (.array .char), .int, .int], some .boolean⟩ by decide +kernel) rfl (at_met hw hcs hfm (rs := [p0, p1, (102 : Int32), (101 : Int32), (110 : Int32), (99 : Int32), (101 : Int32), (58 : Int32), (123 : Int32), n0, n1, (125 : Int32)]) (es := [p0, p1, (102 : Int32), (101 : Int32), (110 : Int32), (99 : Int32), (101 : Int32), (58 : Int32), (123 : Int32), n0, n1, (125 : Int32), (0 : Int32)]) (k := 12) (i := 0) (S117.ext B224) A220 (nle rfl) (nle rfl) rfl (nle rfl)) (fun _ q => nomatch q) rfl rfl rfl (by decide) ⟨⟨nle rfl, nle rfl⟩, nle rfl, nle rfl⟩ ?_
  intro v228 h229 hq230 _
  obtain ⟨rfl, rfl⟩ := hq230
  show WlO _ _ _ _ _ _ _ _ _ _ _ _ _ _ _ _ _ _ [.int (1 : Int32)]
  refine Wl.ifN 432 at_429 (feq (by decide)).1 ?_
  refine Wl.aload 434 at_432 rfl rfl ?_
  refine Wl.aload 436 at_434 rfl rfl ?_
  refine Wl.iload 438 at_436 rfl ?_
  refine Wl.iconst 439 (1 : Int32) at_438 (by decide) ?_
  refine Wl.static 442 (argsL := [.ref s115, .ref a121, .int (12 : Int32), .int (1 : Int32)]) at_439 (w222 hw) (w223 hw) (w2 hw) (w224 hw) (show parseMethodDescriptor "(Ljava/lang/String;[CII)Z" = some ⟨[(.object "java/lang/String"), (.array .char), .int, .int], some .boolean⟩ by decide +kernel) rfl (at_met hw hcs hfm (rs := [p0, p1, (102 : Int32), (101 : Int32), (110 : Int32), (99 : Int32), (101 : Int32), (58 : Int32), (123 : Int32), n0, n1, (125 : Int32)]) (es := [p0, p1, (102 : Int32), (101 : Int32), (110 : Int32), (99 : Int32), (101 : Int32), (58 : Int32), (123 : Int32), n0, n1, (125 : Int32), (0 : Int32)]) (k := 12) (i := 1) (S117.ext B224) A220 (nle rfl) (nle rfl) rfl (nle rfl)) (fun _ q => nomatch q) rfl rfl rfl (by decide) ⟨⟨nle rfl, nle rfl⟩, nle rfl, nle rfl⟩ ?_
  intro v231 h232 hq233 _
  obtain ⟨rfl, rfl⟩ := hq233
  show WlO _ _ _ _ _ _ _ _ _ _ _ _ _ _ _ _ _ _ [.int (1 : Int32)]
  refine Wl.ifN 445 at_442 (feq (by decide)).1 ?_
  refine Wl.aload 447 at_445 rfl rfl ?_
  refine Wl.aload 449 at_447 rfl rfl ?_
  refine Wl.iload 451 at_449 rfl ?_
  refine Wl.iconst 452 (2 : Int32) at_451 (by decide) ?_
  refine Wl.static 455 (argsL := [.ref s115, .ref a121, .int (12 : Int32), .int (2 : Int32)]) at_452 (w222 hw) (w223 hw) (w2 hw) (w224 hw) (show parseMethodDescriptor "(Ljava/lang/String;[CII)Z" = some ⟨[(.object "java/lang/String"), (.array .char), .int, .int], some .boolean⟩ by decide +kernel) rfl (at_met hw hcs hfm (rs := [p0, p1, (102 : Int32), (101 : Int32), (110 : Int32), (99 : Int32), (101 : Int32), (58 : Int32), (123 : Int32), n0, n1, (125 : Int32)]) (es := [p0, p1, (102 : Int32), (101 : Int32), (110 : Int32), (99 : Int32), (101 : Int32), (58 : Int32), (123 : Int32), n0, n1, (125 : Int32), (0 : Int32)]) (k := 12) (i := 2) (S117.ext B224) A220 (nle rfl) (nle rfl) rfl (nle rfl)) (fun _ q => nomatch q) rfl rfl rfl (by decide) ⟨⟨nle rfl, nle rfl⟩, nle rfl, nle rfl⟩ ?_
  intro v234 h235 hq236 _
  obtain ⟨rfl, rfl⟩ := hq236
  show WlO _ _ _ _ _ _ _ _ _ _ _ _ _ _ _ _ _ _ [.int (1 : Int32)]
  refine Wl.ifN 458 at_455 (feq (by decide)).1 ?_
  refine Wl.aload 460 at_458 rfl rfl ?_
  refine Wl.aload 462 at_460 rfl rfl ?_
  refine Wl.iload 464 at_462 rfl ?_
  refine Wl.iconst 465 (3 : Int32) at_464 (by decide) ?_
  refine Wl.static 468 (argsL := [.ref s115, .ref a121, .int (12 : Int32), .int (3 : Int32)]) at_465 (w222 hw) (w223 hw) (w2 hw) (w224 hw) (show parseMethodDescriptor "(Ljava/lang/String;[CII)Z" = some ⟨[(.object "java/lang/String"), (.array .char), .int, .int], some .boolean⟩ by decide +kernel) rfl (at_met hw hcs hfm (rs := [p0, p1, (102 : Int32), (101 : Int32), (110 : Int32), (99 : Int32), (101 : Int32), (58 : Int32), (123 : Int32), n0, n1, (125 : Int32)]) (es := [p0, p1, (102 : Int32), (101 : Int32), (110 : Int32), (99 : Int32), (101 : Int32), (58 : Int32), (123 : Int32), n0, n1, (125 : Int32), (0 : Int32)]) (k := 12) (i := 3) (S117.ext B224) A220 (nle rfl) (nle rfl) rfl (nle rfl)) (fun _ q => nomatch q) rfl rfl rfl (by decide) ⟨⟨nle rfl, nle rfl⟩, nle rfl, nle rfl⟩ ?_
  intro v237 h238 hq239 _
  obtain ⟨rfl, rfl⟩ := hq239
  show WlO _ _ _ _ _ _ _ _ _ _ _ _ _ _ _ _ _ _ [.int (1 : Int32)]
  refine Wl.ifN 471 at_468 (feq (by decide)).1 ?_
  refine Wl.aload 473 at_471 rfl rfl ?_
  refine Wl.aload 475 at_473 rfl rfl ?_
  refine Wl.iload 477 at_475 rfl ?_
  refine Wl.iconst 478 (4 : Int32) at_477 (by decide) ?_
  refine Wl.static 481 (argsL := [.ref s115, .ref a121, .int (12 : Int32), .int (4 : Int32)]) at_478 (w222 hw) (w223 hw) (w2 hw) (w224 hw) (show parseMethodDescriptor "(Ljava/lang/String;[CII)Z" = some ⟨[(.object "java/lang/String"), (.array .char), .int, .int], some .boolean⟩ by decide +kernel) rfl (at_met hw hcs hfm (rs := [p0, p1, (102 : Int32), (101 : Int32), (110 : Int32), (99 : Int32), (101 : Int32), (58 : Int32), (123 : Int32), n0, n1, (125 : Int32)]) (es := [p0, p1, (102 : Int32), (101 : Int32), (110 : Int32), (99 : Int32), (101 : Int32), (58 : Int32), (123 : Int32), n0, n1, (125 : Int32), (0 : Int32)]) (k := 12) (i := 4) (S117.ext B224) A220 (nle rfl) (nle rfl) rfl (nle rfl)) (fun _ q => nomatch q) rfl rfl rfl (by decide) ⟨⟨nle rfl, nle rfl⟩, nle rfl, nle rfl⟩ ?_
  intro v240 h241 hq242 _
  obtain ⟨rfl, rfl⟩ := hq242
  show WlO _ _ _ _ _ _ _ _ _ _ _ _ _ _ _ _ _ _ [.int (1 : Int32)]
  refine Wl.ifN 484 at_481 (feq (by decide)).1 ?_
  refine Wl.aload 486 at_484 rfl rfl ?_
  refine Wl.aload 488 at_486 rfl rfl ?_
  refine Wl.iload 490 at_488 rfl ?_
  refine Wl.iconst 491 (5 : Int32) at_490 (by decide) ?_
  refine Wl.static 494 (argsL := [.ref s115, .ref a121, .int (12 : Int32), .int (5 : Int32)]) at_491 (w222 hw) (w223 hw) (w2 hw) (w224 hw) (show parseMethodDescriptor "(Ljava/lang/String;[CII)Z" = some ⟨[(.object "java/lang/String"), (.array .char), .int, .int], some .boolean⟩ by decide +kernel) rfl (at_met hw hcs hfm (rs := [p0, p1, (102 : Int32), (101 : Int32), (110 : Int32), (99 : Int32), (101 : Int32), (58 : Int32), (123 : Int32), n0, n1, (125 : Int32)]) (es := [p0, p1, (102 : Int32), (101 : Int32), (110 : Int32), (99 : Int32), (101 : Int32), (58 : Int32), (123 : Int32), n0, n1, (125 : Int32), (0 : Int32)]) (k := 12) (i := 5) (S117.ext B224) A220 (nle rfl) (nle rfl) rfl (nle rfl)) (fun _ q => nomatch q) rfl rfl rfl (by decide) ⟨⟨nle rfl, nle rfl⟩, nle rfl, nle rfl⟩ ?_
  intro v243 h244 hq245 _
  obtain ⟨rfl, rfl⟩ := hq245
  show WlO _ _ _ _ _ _ _ _ _ _ _ _ _ _ _ _ _ _ [.int (1 : Int32)]
  refine Wl.ifN 497 at_494 (feq (by decide)).1 ?_
  refine Wl.aload 499 at_497 rfl rfl ?_
  refine Wl.aload 501 at_499 rfl rfl ?_
  refine Wl.iload 503 at_501 rfl ?_
  refine Wl.bipush 505 (6 : Int32) at_503 (by decide) ?_
  refine Wl.static 508 (argsL := [.ref s115, .ref a121, .int (12 : Int32), .int (6 : Int32)]) at_505 (w222 hw) (w223 hw) (w2 hw) (w224 hw) (show parseMethodDescriptor "(Ljava/lang/String;[CII)Z" = some ⟨[(.object "java/lang/String"), (.array .char), .int, .int], some .boolean⟩ by decide +kernel) rfl (at_met hw hcs hfm (rs := [p0, p1, (102 : Int32), (101 : Int32), (110 : Int32), (99 : Int32), (101 : Int32), (58 : Int32), (123 : Int32), n0, n1, (125 : Int32)]) (es := [p0, p1, (102 : Int32), (101 : Int32), (110 : Int32), (99 : Int32), (101 : Int32), (58 : Int32), (123 : Int32), n0, n1, (125 : Int32), (0 : Int32)]) (k := 12) (i := 6) (S117.ext B224) A220 (nle rfl) (nle rfl) rfl (nle rfl)) (fun _ q => nomatch q) rfl rfl rfl (by decide) ⟨⟨nle rfl, nle rfl⟩, nle rfl, nle rfl⟩ ?_
  intro v246 h247 hq248 _
  obtain ⟨rfl, rfl⟩ := hq248
  show WlO _ _ _ _ _ _ _ _ _ _ _ _ _ _ _ _ _ _ [.int (1 : Int32)]
  refine Wl.ifN 511 at_508 (feq (by decide)).1 ?_
  refine Wl.aload 513 at_511 rfl rfl ?_
  refine Wl.aload 515 at_513 rfl rfl ?_
  refine Wl.iload 517 at_515 rfl ?_
  refine Wl.bipush 519 (7 : Int32) at_517 (by decide) ?_
  refine Wl.static 522 (argsL := [.ref s115, .ref a121, .int (12 : Int32), .int (7 : Int32)]) at_519 (w222 hw) (w223 hw) (w2 hw) (w224 hw) (show parseMethodDescriptor "(Ljava/lang/String;[CII)Z" = some ⟨[(.object "java/lang/String"), (.array .char), .int, .int], some .boolean⟩ by decide +kernel) rfl (at_met hw hcs hfm (rs := [p0, p1, (102 : Int32), (101 : Int32), (110 : Int32), (99 : Int32), (101 : Int32), (58 : Int32), (123 : Int32), n0, n1, (125 : Int32)]) (es := [p0, p1, (102 : Int32), (101 : Int32), (110 : Int32), (99 : Int32), (101 : Int32), (58 : Int32), (123 : Int32), n0, n1, (125 : Int32), (0 : Int32)]) (k := 12) (i := 7) (S117.ext B224) A220 (nle rfl) (nle rfl) rfl (nle rfl)) (fun _ q => nomatch q) rfl rfl rfl (by decide) ⟨⟨nle rfl, nle rfl⟩, nle rfl, nle rfl⟩ ?_
  intro v249 h250 hq251 _
  obtain ⟨rfl, rfl⟩ := hq251
  show WlO _ _ _ _ _ _ _ _ _ _ _ _ _ _ _ _ _ _ [.int (1 : Int32)]
  refine Wl.ifN 525 at_522 (feq (by decide)).1 ?_
  refine Wl.aload 527 at_525 rfl rfl ?_
  refine Wl.aload 529 at_527 rfl rfl ?_
  refine Wl.iload 531 at_529 rfl ?_
  refine Wl.bipush 533 (8 : Int32) at_531 (by decide) ?_
  refine Wl.static 536 (argsL := [.ref s115, .ref a121, .int (12 : Int32), .int (8 : Int32)]) at_533 (w222 hw) (w223 hw) (w2 hw) (w224 hw) (show parseMethodDescriptor "(Ljava/lang/String;[CII)Z" = some ⟨[(.object "java/lang/String"), (.array .char), .int, .int], some .boolean⟩ by decide +kernel) rfl (at_met hw hcs hfm (rs := [p0, p1, (102 : Int32), (101 : Int32), (110 : Int32), (99 : Int32), (101 : Int32), (58 : Int32), (123 : Int32), n0, n1, (125 : Int32)]) (es := [p0, p1, (102 : Int32), (101 : Int32), (110 : Int32), (99 : Int32), (101 : Int32), (58 : Int32), (123 : Int32), n0, n1, (125 : Int32), (0 : Int32)]) (k := 12) (i := 8) (S117.ext B224) A220 (nle rfl) (nle rfl) rfl (nle rfl)) (fun _ q => nomatch q) rfl rfl rfl (by decide) ⟨⟨nle rfl, nle rfl⟩, nle rfl, nle rfl⟩ ?_
  intro v252 h253 hq254 _
  obtain ⟨rfl, rfl⟩ := hq254
  show WlO _ _ _ _ _ _ _ _ _ _ _ _ _ _ _ _ _ _ [.int (1 : Int32)]
  refine Wl.ifN 539 at_536 (feq (by decide)).1 ?_
  refine Wl.aload 541 at_539 rfl rfl ?_
  refine Wl.aload 543 at_541 rfl rfl ?_
  refine Wl.iload 545 at_543 rfl ?_
  refine Wl.bipush 547 (9 : Int32) at_545 (by decide) ?_
  refine Wl.static 550 (argsL := [.ref s115, .ref a121, .int (12 : Int32), .int (9 : Int32)]) at_547 (w222 hw) (w223 hw) (w2 hw) (w224 hw) (show parseMethodDescriptor "(Ljava/lang/String;[CII)Z" = some ⟨[(.object "java/lang/String"), (.array .char), .int, .int], some .boolean⟩ by decide +kernel) rfl (at_met hw hcs hfm (rs := [p0, p1, (102 : Int32), (101 : Int32), (110 : Int32), (99 : Int32), (101 : Int32), (58 : Int32), (123 : Int32), n0, n1, (125 : Int32)]) (es := [p0, p1, (102 : Int32), (101 : Int32), (110 : Int32), (99 : Int32), (101 : Int32), (58 : Int32), (123 : Int32), n0, n1, (125 : Int32), (0 : Int32)]) (k := 12) (i := 9) (S117.ext B224) A220 (nle rfl) (nle rfl) rfl (nle rfl)) (fun _ q => nomatch q) rfl rfl rfl (by decide) ⟨⟨nle rfl, nle rfl⟩, nle rfl, nle rfl⟩ ?_
  intro v255 h256 hq257 _
  obtain ⟨rfl, rfl⟩ := hq257
  show WlO _ _ _ _ _ _ _ _ _ _ _ _ _ _ _ _ _ _ [.int (1 : Int32)]
  refine Wl.ifN 553 at_550 (feq (by decide)).1 ?_
  refine Wl.aload 555 at_553 rfl rfl ?_
  refine Wl.aload 557 at_555 rfl rfl ?_
  refine Wl.iload 559 at_557 rfl ?_
  refine Wl.bipush 561 (10 : Int32) at_559 (by decide) ?_
  refine Wl.static 564 (argsL := [.ref s115, .ref a121, .int (12 : Int32), .int (10 : Int32)]) at_561 (w222 hw) (w223 hw) (w2 hw) (w224 hw) (show parseMethodDescriptor "(Ljava/lang/String;[CII)Z" = some ⟨[(.object "java/lang/String"), (.array .char), .int, .int], some .boolean⟩ by decide +kernel) rfl (at_met hw hcs hfm (rs := [p0, p1, (102 : Int32), (101 : Int32), (110 : Int32), (99 : Int32), (101 : Int32), (58 : Int32), (123 : Int32), n0, n1, (125 : Int32)]) (es := [p0, p1, (102 : Int32), (101 : Int32), (110 : Int32), (99 : Int32), (101 : Int32), (58 : Int32), (123 : Int32), n0, n1, (125 : Int32), (0 : Int32)]) (k := 12) (i := 10) (S117.ext B224) A220 (nle rfl) (nle rfl) rfl (nle rfl)) (fun _ q => nomatch q) rfl rfl rfl (by decide) ⟨⟨nle rfl, nle rfl⟩, nle rfl, nle rfl⟩ ?_
  intro v258 h259 hq260 _
  obtain ⟨rfl, rfl⟩ := hq260
  show WlO _ _ _ _ _ _ _ _ _ _ _ _ _ _ _ _ _ _ [.int (1 : Int32)]
  refine Wl.ifN 567 at_564 (feq (by decide)).1 ?_
  refine Wl.aload 569 at_567 rfl rfl ?_
  refine Wl.aload 571 at_569 rfl rfl ?_
  refine Wl.iload 573 at_571 rfl ?_
  refine Wl.bipush 575 (11 : Int32) at_573 (by decide) ?_
  refine Wl.static 578 (argsL := [.ref s115, .ref a121, .int (12 : Int32), .int (11 : Int32)]) at_575 (w222 hw) (w223 hw) (w2 hw) (w224 hw) (show parseMethodDescriptor "(Ljava/lang/String;[CII)Z" = some ⟨[(.object "java/lang/String"), (.array .char), .int, .int], some .boolean⟩ by decide +kernel) rfl (at_met hw hcs hfm (rs := [p0, p1, (102 : Int32), (101 : Int32), (110 : Int32), (99 : Int32), (101 : Int32), (58 : Int32), (123 : Int32), n0, n1, (125 : Int32)]) (es := [p0, p1, (102 : Int32), (101 : Int32), (110 : Int32), (99 : Int32), (101 : Int32), (58 : Int32), (123 : Int32), n0, n1, (125 : Int32), (0 : Int32)]) (k := 12) (i := 11) (S117.ext B224) A220 (nle rfl) (nle rfl) rfl (nle rfl)) (fun _ q => nomatch q) rfl rfl rfl (by decide) ⟨⟨nle rfl, nle rfl⟩, nle rfl, nle rfl⟩ ?_
  intro v261 h262 hq263 _
  obtain ⟨rfl, rfl⟩ := hq263
  show WlO _ _ _ _ _ _ _ _ _ _ _ _ _ _ _ _ _ _ [.int (1 : Int32)]
  refine Wl.ifN 581 at_578 (feq (by decide)).1 ?_
  refine Wl.aload 583 at_581 rfl rfl ?_
  refine Wl.aload 585 at_583 rfl rfl ?_
  refine Wl.iload 587 at_585 rfl ?_
  refine Wl.bipush 589 (12 : Int32) at_587 (by decide) ?_
  refine Wl.static 592 (argsL := [.ref s115, .ref a121, .int (12 : Int32), .int (12 : Int32)]) at_589 (w222 hw) (w223 hw) (w2 hw) (w224 hw) (show parseMethodDescriptor "(Ljava/lang/String;[CII)Z" = some ⟨[(.object "java/lang/String"), (.array .char), .int, .int], some .boolean⟩ by decide +kernel) rfl (at_met hw hcs hfm (rs := [p0, p1, (102 : Int32), (101 : Int32), (110 : Int32), (99 : Int32), (101 : Int32), (58 : Int32), (123 : Int32), n0, n1, (125 : Int32)]) (es := [p0, p1, (102 : Int32), (101 : Int32), (110 : Int32), (99 : Int32), (101 : Int32), (58 : Int32), (123 : Int32), n0, n1, (125 : Int32), (0 : Int32)]) (k := 12) (i := 12) (S117.ext B224) A220 (nle rfl) (nle rfl) rfl (nle rfl)) (fun _ q => nomatch q) rfl rfl rfl (by decide) ⟨⟨nle rfl, nle rfl⟩, nle rfl, nle rfl⟩ ?_
  intro v264 h265 hq266 _
  obtain ⟨rfl, rfl⟩ := hq266
  show WlO _ _ _ _ _ _ _ _ _ _ _ _ _ _ _ _ _ _ [.int (1 : Int32)]
  refine Wl.ifN 595 at_592 (feq (by decide)).1 ?_
  refine Wl.iconst 596 (1 : Int32) at_595 (by decide) ?_
  refine Wl.goto 600 at_596 ?_
  exact Wl.ireturn at_600 rfl rfl (by simp) (nle rfl) (nle rfl) rfl
set_option maxRecDepth 65536 in
set_option maxHeartbeats 40000000 in
theorem law_t23 {l : Launch} {Z : State} {a0 : Array Value} (hw : ∀ d ∈ tables_1, d.before a0 Z = true) (hcs : CSon Z) (hfm : Fmt Z) {as : Array Value} {h : Heap} {i0 i1 p0 p1 n0 n1 n2 : Int32} (lp0 : Lat p0) (lp1 : Lat p1) (ln0 : Lat n0) (ln1 : Lat n1) (ln2 : Lat n2) (p0123 : p0 ≠ 123) (p0125 : p0 ≠ 125) (p1123 : p1 ≠ 123) (p1125 : p1 ≠ 125) (hn0 : ¬ n0 = (125 : Int32)) :
    Wl l Z a0 consts_1 x code maxLocals ret room_1 as (fun v h' => v = some (.int 1)) [] h 0 0 86 #[.val (.int i0), .val (.int i1), .val (.int (2 : Int32)), .val (.int p0), .val (.int p1), .val (.int (3 : Int32)), .val (.int n0), .val (.int n1), .val (.int n2), .unset, .unset, .unset, .unset, .unset] [] := by
  refine Wl.iload_n 87 at_86 rfl ?_
  refine Wl.ifY 103 at_87 (feq (by decide)).2 ?_
  refine Wl.iload_n 104 at_103 rfl ?_
  refine Wl.iconst 105 (1 : Int32) at_104 (by decide) ?_
  refine Wl.icmpY 125 at_105 (feq (by decide)).2 ?_
  refine Wl.new 128 at_125 (w4 hw) (w5 hw) (w6 hw) (nle rfl) (nle rfl) ?_
  intro a1 h2 q3 E4 X5 D6
  have z7 : h.size ≤ a1 := Nat.le_of_eq q3.symm
  have B8 : Ext h h2 := E4
  have F9 : Fld Z h2 a1 "java/lang/String" "value" "[B" (.null) := D6 (Or.inr (w20 hw)) (ty := (.array .byte)) (by decide)
  have F10 : Fld Z h2 a1 "java/lang/String" "coder" "B" (.int 0) := D6 (Or.inr (w21 hw)) (ty := .byte) (by decide)
  refine Wl.dup 129 at_128 rfl ?_
  refine Wl.iconst 130 (2 : Int32) at_129 (by decide) ?_
  refine Wl.newarray 132 2 at_130 (w7 hw) (by decide) (by decide) (by decide) (nle rfl) (nle rfl) ?_
  intro a11 h12 k13 q14 E15 A16
  have A16 : Arv Z h12 a11 k13 .char (2 : Int32) [.int 0, .int 0] (.int 0) := A16
  have z17 : h.size ≤ a11 := Nat.le_trans B8.1 (Nat.le_of_eq q14.symm)
  have z18 : h2.size ≤ a11 := Nat.le_of_eq q14.symm
  have ne19 : a1 ≠ a11 := Nat.ne_of_lt (by rw [q14]; exact (X5).lt)
  have B20 : Ext h h12 := extTr B8 E15
  have B21 : Ext h2 h12 := E15
  refine Wl.dup 133 at_132 rfl ?_
  refine Wl.iconst 134 (0 : Int32) at_133 (by decide) ?_
  refine Wl.iload_n 135 at_134 rfl ?_
  refine Wl.castore 136 0 at_135 A16 (List.mem_of_getElem? (i := 0) rfl) (by decide) (by decide) (by decide) (nle rfl) ?_
  intro h22 W23 A24
  rw [nar_ch (lp0).ch] at A24
  have A24 : Arv Z h22 a11 k13 .char (2 : Int32) [.int p0, .int (0 : Int32)] (.int 0) := A24
  have B25 : Ext h h22 := extWr B20 W23 z17
  have B26 : Ext h2 h22 := extWr B21 W23 z18
  refine Wl.dup 137 at_136 rfl ?_
  refine Wl.iconst 138 (1 : Int32) at_137 (by decide) ?_
  refine Wl.iload 140 at_138 rfl ?_
  refine Wl.castore 141 1 at_140 A24 (List.mem_of_getElem? (i := 0) rfl) (by decide) (by decide) (by decide) (nle rfl) ?_
  intro h27 W28 A29
  rw [nar_ch (lp1).ch] at A29
  have A29 : Arv Z h27 a11 k13 .char (2 : Int32) [.int p0, .int p1] (.int 0) := A29
  have B30 : Ext h h27 := extWr B25 W28 z17
  have B31 : Ext h2 h27 := extWr B26 W28 z18
  refine Wl.special 144 (argsL := [.ref a11]) at_141 (w8 hw) (w9 hw) (w6 hw) (w10 hw) (show parseMethodDescriptor "([C)V" = some ⟨[(.array .char)], none⟩ by decide +kernel) rfl (strC_met hw hcs (cs := [p0, p1]) 4 (nle rfl) (nle rfl)  (latC lp0 (latC lp1 latN)) (X5.ext B31) (F9.ext B31) (F10.ext B31) A29) (allS (List.mem_of_getElem? (i := 1) rfl) (fun _ q => nomatch q)) rfl rfl rfl rfl (by decide) ⟨⟨nle rfl, nle rfl⟩, nle rfl, nle rfl⟩ ?_
  intro v32 h33 hq34 _
  obtain ⟨rfl, K35, S36⟩ := hq34
  have B37 : Ext h h33 := extKeep B30 K35 (allS z7 all0)
  show WlO _ _ _ _ _ _ _ _ _ _ _ _ _ _ _ _ _ _ [.ref a1]
  refine Wl.astore 146 #[.val (.int i0), .val (.int i1), .val (.int (2 : Int32)), .val (.int p0), .val (.int p1), .val (.int (3 : Int32)), .val (.int n0), .val (.int n1), .val (.int n2), .val (.ref a1), .unset, .unset, .unset, .unset] at_144 rfl rfl ?_
  refine Wl.iload 148 at_146 rfl ?_
  refine Wl.iconst 149 (1 : Int32) at_148 (by decide) ?_
  refine Wl.icmpY 170 at_149 (feq (by decide)).2 ?_
  refine Wl.iload 172 at_170 rfl ?_
  refine Wl.iconst 173 (2 : Int32) at_172 (by decide) ?_
  refine Wl.icmpY 199 at_173 (feq (by decide)).2 ?_
  refine Wl.new 202 at_199 (w4 hw) (w5 hw) (w6 hw) (nle rfl) (nle rfl) ?_
  intro a38 h39 q40 E41 X42 D43
  have z44 : h.size ≤ a38 := Nat.le_trans B37.1 (Nat.le_of_eq q40.symm)
  have z45 : h33.size ≤ a38 := Nat.le_of_eq q40.symm
  have ne46 : a1 ≠ a38 := Nat.ne_of_lt (by rw [q40]; exact ((S36).exa).lt)
  have ne47 : a11 ≠ a38 := Nat.ne_of_lt (by rw [q40]; exact ((A29.keep K35 (ninS ne19.symm nin0))).lt)
  have B48 : Ext h h39 := extTr B37 E41
  have B49 : Ext h33 h39 := E41
  have F50 : Fld Z h39 a38 "java/lang/String" "value" "[B" (.null) := D43 (Or.inr (w20 hw)) (ty := (.array .byte)) (by decide)
  have F51 : Fld Z h39 a38 "java/lang/String" "coder" "B" (.int 0) := D43 (Or.inr (w21 hw)) (ty := .byte) (by decide)
  refine Wl.dup 203 at_202 rfl ?_
  refine Wl.iconst 204 (3 : Int32) at_203 (by decide) ?_
  refine Wl.newarray 206 3 at_204 (w7 hw) (by decide) (by decide) (by decide) (nle rfl) (nle rfl) ?_
  intro a52 h53 k54 q55 E56 A57
  have A57 : Arv Z h53 a52 k54 .char (3 : Int32) [.int 0, .int 0, .int 0] (.int 0) := A57
  have z58 : h.size ≤ a52 := Nat.le_trans B48.1 (Nat.le_of_eq q55.symm)
  have z59 : h33.size ≤ a52 := Nat.le_trans B49.1 (Nat.le_of_eq q55.symm)
  have z60 : h39.size ≤ a52 := Nat.le_of_eq q55.symm
  have ne61 : a1 ≠ a52 := Nat.ne_of_lt (by rw [q55]; exact (((S36).exa.ext E41)).lt)
  have ne62 : a11 ≠ a52 := Nat.ne_of_lt (by rw [q55]; exact (((A29.keep K35 (ninS ne19.symm nin0)).ext E41)).lt)
  have ne63 : a38 ≠ a52 := Nat.ne_of_lt (by rw [q55]; exact (X42).lt)
  have B64 : Ext h h53 := extTr B48 E56
  have B65 : Ext h33 h53 := extTr B49 E56
  have B66 : Ext h39 h53 := E56
  refine Wl.dup 207 at_206 rfl ?_
  refine Wl.iconst 208 (0 : Int32) at_207 (by decide) ?_
  refine Wl.iload 210 at_208 rfl ?_
  refine Wl.castore 211 0 at_210 A57 (List.mem_of_getElem? (i := 0) rfl) (by decide) (by decide) (by decide) (nle rfl) ?_
  intro h67 W68 A69
  rw [nar_ch (ln0).ch] at A69
  have A69 : Arv Z h67 a52 k54 .char (3 : Int32) [.int n0, .int (0 : Int32), .int (0 : Int32)] (.int 0) := A69
  have B70 : Ext h h67 := extWr B64 W68 z58
  have B71 : Ext h33 h67 := extWr B65 W68 z59
  have B72 : Ext h39 h67 := extWr B66 W68 z60
  refine Wl.dup 212 at_211 rfl ?_
  refine Wl.iconst 213 (1 : Int32) at_212 (by decide) ?_
  refine Wl.iload 215 at_213 rfl ?_
  refine Wl.castore 216 1 at_215 A69 (List.mem_of_getElem? (i := 0) rfl) (by decide) (by decide) (by decide) (nle rfl) ?_
  intro h73 W74 A75
  rw [nar_ch (ln1).ch] at A75
  have A75 : Arv Z h73 a52 k54 .char (3 : Int32) [.int n0, .int n1, .int (0 : Int32)] (.int 0) := A75
  have B76 : Ext h h73 := extWr B70 W74 z58
  have B77 : Ext h33 h73 := extWr B71 W74 z59
  have B78 : Ext h39 h73 := extWr B72 W74 z60
  refine Wl.dup 217 at_216 rfl ?_
  refine Wl.iconst 218 (2 : Int32) at_217 (by decide) ?_
  refine Wl.iload 220 at_218 rfl ?_
  refine Wl.castore 221 2 at_220 A75 (List.mem_of_getElem? (i := 0) rfl) (by decide) (by decide) (by decide) (nle rfl) ?_
  intro h79 W80 A81
  rw [nar_ch (ln2).ch] at A81
  have A81 : Arv Z h79 a52 k54 .char (3 : Int32) [.int n0, .int n1, .int n2] (.int 0) := A81
  have B82 : Ext h h79 := extWr B76 W80 z58
  have B83 : Ext h33 h79 := extWr B77 W80 z59
  have B84 : Ext h39 h79 := extWr B78 W80 z60
  refine Wl.special 224 (argsL := [.ref a52]) at_221 (w8 hw) (w9 hw) (w6 hw) (w10 hw) (show parseMethodDescriptor "([C)V" = some ⟨[(.array .char)], none⟩ by decide +kernel) rfl (strC_met hw hcs (cs := [n0, n1, n2]) 4 (nle rfl) (nle rfl)  (latC ln0 (latC ln1 (latC ln2 latN))) (X42.ext B84) (F50.ext B84) (F51.ext B84) A81) (allS (List.mem_of_getElem? (i := 1) rfl) (fun _ q => nomatch q)) rfl rfl rfl rfl (by decide) ⟨⟨nle rfl, nle rfl⟩, nle rfl, nle rfl⟩ ?_
  intro v85 h86 hq87 _
  obtain ⟨rfl, K88, S89⟩ := hq87
  have B90 : Ext h h86 := extKeep B82 K88 (allS z44 all0)
  have B91 : Ext h33 h86 := extKeep B83 K88 (allS z45 all0)
  show WlO _ _ _ _ _ _ _ _ _ _ _ _ _ _ _ _ _ _ [.ref a38]
  refine Wl.astore 226 #[.val (.int i0), .val (.int i1), .val (.int (2 : Int32)), .val (.int p0), .val (.int p1), .val (.int (3 : Int32)), .val (.int n0), .val (.int n1), .val (.int n2), .val (.ref a1), .val (.ref a38), .unset, .unset, .unset] at_224 rfl rfl ?_
  refine Wl.new 229 at_226 (w37 hw) (w38 hw) (w39 hw) (nle rfl) (nle rfl) ?_
  intro a92 h93 q94 E95 X96 D97
  have z98 : h.size ≤ a92 := Nat.le_trans B90.1 (Nat.le_of_eq q94.symm)
  have z99 : h33.size ≤ a92 := Nat.le_trans B91.1 (Nat.le_of_eq q94.symm)
  have z100 : h86.size ≤ a92 := Nat.le_of_eq q94.symm
  have ne101 : a1 ≠ a92 := Nat.ne_of_lt (by rw [q94]; exact (((S36).exa.ext B91)).lt)
  have ne102 : a11 ≠ a92 := Nat.ne_of_lt (by rw [q94]; exact (((A29.keep K35 (ninS ne19.symm nin0)).ext B91)).lt)
  have ne103 : a38 ≠ a92 := Nat.ne_of_lt (by rw [q94]; exact ((S89).exa).lt)
  have ne104 : a52 ≠ a92 := Nat.ne_of_lt (by rw [q94]; exact ((A81.keep K88 (ninS ne63.symm nin0))).lt)
  have B105 : Ext h h93 := extTr B90 E95
  have B106 : Ext h33 h93 := extTr B91 E95
  have B107 : Ext h86 h93 := E95
  have F108 : Fld Z h93 a92 "com/example/portunus/portunus/LockKeys" "prefix" "Ljava/lang/String;" (.null) := D97 (Or.inr (w89 hw)) (ty := (.object "java/lang/String")) (by decide)
  refine Wl.dup 230 at_229 rfl ?_
  refine Wl.aload 232 at_230 rfl rfl ?_
  refine Wl.special 235 (argsL := [.ref a1]) at_232 (w40 hw) (w41 hw) (w39 hw) (w42 hw) (show parseMethodDescriptor "(Ljava/lang/String;)V" = some ⟨[(.object "java/lang/String")], none⟩ by decide +kernel) rfl (keys_met hw hcs X96 F108 (cs := [p0, p1]) (S36.ext B106) (neC p0123 (neC p1123 neN)) (neC p0125 (neC p1125 neN))) (allS (List.mem_of_getElem? (i := 0) rfl) (fun _ q => nomatch q)) rfl rfl rfl rfl (by decide) ⟨⟨nle rfl, nle rfl⟩, nle rfl, nle rfl⟩ ?_
  intro v109 h110 hq111 _
  obtain ⟨rfl, K112, X113, F114⟩ := hq111
  have B115 : Ext h h110 := extKeep B105 K112 (allS z98 all0)
  have B116 : Ext h33 h110 := extKeep B106 K112 (allS z99 all0)
  have B117 : Ext h86 h110 := extKeep B107 K112 (allS z100 all0)
  show WlO _ _ _ _ _ _ _ _ _ _ _ _ _ _ _ _ _ _ [.ref a92]
  refine Wl.aload 237 at_235 rfl rfl ?_
  refine Wl.virtual 240 (argsL := [.ref a38]) at_237 (w90 hw) (w91 hw) (w93 hw) (w92 hw) (w39 hw) (w94 hw) (nf_sel (w93 hw) rfl) X113 (show parseMethodDescriptor "(Ljava/lang/String;)Ljava/lang/String;" = some ⟨[(.object "java/lang/String")], some (.object "java/lang/String")⟩ by decide +kernel) rfl (key_met hw hcs hfm (cs := [n0, n1, n2]) (ps := [p0, p1]) F114 (S36.ext B116) (nle rfl) (S89.ext B117) (by simp) (nle rfl) hn0 (nle rfl)) (fun _ q => nomatch q) rfl rfl rfl (by decide) ⟨⟨nle rfl, nle rfl⟩, nle rfl, nle rfl⟩ ?_
  intro v118 h119 hq120 _
  obtain ⟨s121, rfl, E122, S123⟩ := hq120
  have S123 : Stl Z h119 s121 [p0, p1, (102 : Int32), (101 : Int32), (110 : Int32), (99 : Int32), (101 : Int32), (58 : Int32), (123 : Int32), n0, n1, n2, (125 : Int32)] := S123
  have B124 : Ext h h119 := extTr B115 E122
  have B125 : Ext h33 h119 := extTr B116 E122
  have B126 : Ext h86 h119 := extTr B117 E122
  show WlO _ _ _ _ _ _ _ _ _ _ _ _ _ _ _ _ _ _ [.ref s121]
  refine Wl.astore 242 #[.val (.int i0), .val (.int i1), .val (.int (2 : Int32)), .val (.int p0), .val (.int p1), .val (.int (3 : Int32)), .val (.int n0), .val (.int n1), .val (.int n2), .val (.ref a1), .val (.ref a38), .val (.ref s121), .unset, .unset] at_240 rfl rfl ?_
  refine Wl.bipush 244 (13 : Int32) at_242 (by decide) ?_
  refine Wl.newarray 246 13 at_244 (w7 hw) (by decide) (by decide) (by decide) (nle rfl) (nle rfl) ?_
  intro a127 h128 k129 q130 E131 A132
  have A132 : Arv Z h128 a127 k129 .char (13 : Int32) [.int 0, .int 0, .int 0, .int 0, .int 0, .int 0, .int 0, .int 0, .int 0, .int 0, .int 0, .int 0, .int 0] (.int 0) := A132
  have z133 : h.size ≤ a127 := Nat.le_trans B124.1 (Nat.le_of_eq q130.symm)
  have z134 : h33.size ≤ a127 := Nat.le_trans B125.1 (Nat.le_of_eq q130.symm)
  have z135 : h86.size ≤ a127 := Nat.le_trans B126.1 (Nat.le_of_eq q130.symm)
  have z136 : h119.size ≤ a127 := Nat.le_of_eq q130.symm
  have ne137 : a1 ≠ a127 := Nat.ne_of_lt (by rw [q130]; exact (((S36).exa.ext B125)).lt)
  have ne138 : a11 ≠ a127 := Nat.ne_of_lt (by rw [q130]; exact (((A29.keep K35 (ninS ne19.symm nin0)).ext B125)).lt)
  have ne139 : a38 ≠ a127 := Nat.ne_of_lt (by rw [q130]; exact (((S89).exa.ext B126)).lt)
  have ne140 : a52 ≠ a127 := Nat.ne_of_lt (by rw [q130]; exact (((A81.keep K88 (ninS ne63.symm nin0)).ext B126)).lt)
  have ne141 : a92 ≠ a127 := Nat.ne_of_lt (by rw [q130]; exact ((X113.ext E122)).lt)
  have ne142 : s121 ≠ a127 := Nat.ne_of_lt (by rw [q130]; exact ((S123).exa).lt)
  have B143 : Ext h h128 := extTr B124 E131
  have B144 : Ext h33 h128 := extTr B125 E131
  have B145 : Ext h86 h128 := extTr B126 E131
  have B146 : Ext h119 h128 := E131
  refine Wl.astore 248 #[.val (.int i0), .val (.int i1), .val (.int (2 : Int32)), .val (.int p0), .val (.int p1), .val (.int (3 : Int32)), .val (.int n0), .val (.int n1), .val (.int n2), .val (.ref a1), .val (.ref a38), .val (.ref s121), .val (.ref a127), .unset] at_246 rfl rfl ?_
  refine Wl.iconst 249 (0 : Int32) at_248 (by decide) ?_
  refine Wl.istore 251 #[.val (.int i0), .val (.int i1), .val (.int (2 : Int32)), .val (.int p0), .val (.int p1), .val (.int (3 : Int32)), .val (.int n0), .val (.int n1), .val (.int n2), .val (.ref a1), .val (.ref a38), .val (.ref s121), .val (.ref a127), .val (.int (0 : Int32))] at_249 rfl ?_
  refine Wl.iload_n 252 at_251 rfl ?_
  refine Wl.iconst 253 (1 : Int32) at_252 (by decide) ?_
  refine Wl.icmpN 256 at_253 (flt (by decide)).1 ?_
  refine Wl.aload 258 at_256 rfl rfl ?_
  refine Wl.iload 260 at_258 rfl ?_
  refine Wl.iload_n 261 at_260 rfl ?_
  refine Wl.castore 262 0 at_261 A132 (List.mem_of_getElem? (i := 0) rfl) (by decide) (by decide) (by decide) (nle rfl) ?_
  intro h147 W148 A149
  rw [nar_ch (lp0).ch] at A149
  have A149 : Arv Z h147 a127 k129 .char (13 : Int32) [.int p0, .int (0 : Int32), .int (0 : Int32), .int (0 : Int32), .int (0 : Int32), .int (0 : Int32), .int (0 : Int32), .int (0 : Int32), .int (0 : Int32), .int (0 : Int32), .int (0 : Int32), .int (0 : Int32), .int (0 : Int32)] (.int 0) := A149
  have B150 : Ext h h147 := extWr B143 W148 z133
  have B151 : Ext h33 h147 := extWr B144 W148 z134
  have B152 : Ext h86 h147 := extWr B145 W148 z135
  have B153 : Ext h119 h147 := extWr B146 W148 z136
  refine Wl.iinc 265 #[.val (.int i0), .val (.int i1), .val (.int (2 : Int32)), .val (.int p0), .val (.int p1), .val (.int (3 : Int32)), .val (.int n0), .val (.int n1), .val (.int n2), .val (.ref a1), .val (.ref a38), .val (.ref s121), .val (.ref a127), .val (.int (1 : Int32))] (1 : Int32) at_262 (by decide) rfl rfl ?_
  refine Wl.iload_n 266 at_265 rfl ?_
  refine Wl.iconst 267 (2 : Int32) at_266 (by decide) ?_
  refine Wl.icmpN 270 at_267 (flt (by decide)).1 ?_
  refine Wl.aload 272 at_270 rfl rfl ?_
  refine Wl.iload 274 at_272 rfl ?_
  refine Wl.iload 276 at_274 rfl ?_
  refine Wl.castore 277 1 at_276 A149 (List.mem_of_getElem? (i := 0) rfl) (by decide) (by decide) (by decide) (nle rfl) ?_
  intro h154 W155 A156
  rw [nar_ch (lp1).ch] at A156
  have A156 : Arv Z h154 a127 k129 .char (13 : Int32) [.int p0, .int p1, .int (0 : Int32), .int (0 : Int32), .int (0 : Int32), .int (0 : Int32), .int (0 : Int32), .int (0 : Int32), .int (0 : Int32), .int (0 : Int32), .int (0 : Int32), .int (0 : Int32), .int (0 : Int32)] (.int 0) := A156
  have B157 : Ext h h154 := extWr B150 W155 z133
  have B158 : Ext h33 h154 := extWr B151 W155 z134
  have B159 : Ext h86 h154 := extWr B152 W155 z135
  have B160 : Ext h119 h154 := extWr B153 W155 z136
  refine Wl.iinc 280 #[.val (.int i0), .val (.int i1), .val (.int (2 : Int32)), .val (.int p0), .val (.int p1), .val (.int (3 : Int32)), .val (.int n0), .val (.int n1), .val (.int n2), .val (.ref a1), .val (.ref a38), .val (.ref s121), .val (.ref a127), .val (.int (2 : Int32))] (1 : Int32) at_277 (by decide) rfl rfl ?_
  refine Wl.aload 282 at_280 rfl rfl ?_
  refine Wl.iload 284 at_282 rfl ?_
  refine Wl.bipush 286 (102 : Int32) at_284 (by decide) ?_
  refine Wl.castore 287 2 at_286 A156 (List.mem_of_getElem? (i := 0) rfl) (by decide) (by decide) (by decide) (nle rfl) ?_
  intro h161 W162 A163
  rw [nar_ch (by decide)] at A163
  have A163 : Arv Z h161 a127 k129 .char (13 : Int32) [.int p0, .int p1, .int (102 : Int32), .int (0 : Int32), .int (0 : Int32), .int (0 : Int32), .int (0 : Int32), .int (0 : Int32), .int (0 : Int32), .int (0 : Int32), .int (0 : Int32), .int (0 : Int32), .int (0 : Int32)] (.int 0) := A163
  have B164 : Ext h h161 := extWr B157 W162 z133
  have B165 : Ext h33 h161 := extWr B158 W162 z134
  have B166 : Ext h86 h161 := extWr B159 W162 z135
  have B167 : Ext h119 h161 := extWr B160 W162 z136
  refine Wl.iinc 290 #[.val (.int i0), .val (.int i1), .val (.int (2 : Int32)), .val (.int p0), .val (.int p1), .val (.int (3 : Int32)), .val (.int n0), .val (.int n1), .val (.int n2), .val (.ref a1), .val (.ref a38), .val (.ref s121), .val (.ref a127), .val (.int (3 : Int32))] (1 : Int32) at_287 (by decide) rfl rfl ?_
  refine Wl.aload 292 at_290 rfl rfl ?_
  refine Wl.iload 294 at_292 rfl ?_
  refine Wl.bipush 296 (101 : Int32) at_294 (by decide) ?_
  refine Wl.castore 297 3 at_296 A163 (List.mem_of_getElem? (i := 0) rfl) (by decide) (by decide) (by decide) (nle rfl) ?_
  intro h168 W169 A170
  rw [nar_ch (by decide)] at A170
  have A170 : Arv Z h168 a127 k129 .char (13 : Int32) [.int p0, .int p1, .int (102 : Int32), .int (101 : Int32), .int (0 : Int32), .int (0 : Int32), .int (0 : Int32), .int (0 : Int32), .int (0 : Int32), .int (0 : Int32), .int (0 : Int32), .int (0 : Int32), .int (0 : Int32)] (.int 0) := A170
  have B171 : Ext h h168 := extWr B164 W169 z133
  have B172 : Ext h33 h168 := extWr B165 W169 z134
  have B173 : Ext h86 h168 := extWr B166 W169 z135
  have B174 : Ext h119 h168 := extWr B167 W169 z136
  refine Wl.iinc 300 #[.val (.int i0), .val (.int i1), .val (.int (2 : Int32)), .val (.int p0), .val (.int p1), .val (.int (3 : Int32)), .val (.int n0), .val (.int n1), .val (.int n2), .val (.ref a1), .val (.ref a38), .val (.ref s121), .val (.ref a127), .val (.int (4 : Int32))] (1 : Int32) at_297 (by decide) rfl rfl ?_
  refine Wl.aload 302 at_300 rfl rfl ?_
  refine Wl.iload 304 at_302 rfl ?_
  refine Wl.bipush 306 (110 : Int32) at_304 (by decide) ?_
  refine Wl.castore 307 4 at_306 A170 (List.mem_of_getElem? (i := 0) rfl) (by decide) (by decide) (by decide) (nle rfl) ?_
  intro h175 W176 A177
  rw [nar_ch (by decide)] at A177
  have A177 : Arv Z h175 a127 k129 .char (13 : Int32) [.int p0, .int p1, .int (102 : Int32), .int (101 : Int32), .int (110 : Int32), .int (0 : Int32), .int (0 : Int32), .int (0 : Int32), .int (0 : Int32), .int (0 : Int32), .int (0 : Int32), .int (0 : Int32), .int (0 : Int32)] (.int 0) := A177
  have B178 : Ext h h175 := extWr B171 W176 z133
  have B179 : Ext h33 h175 := extWr B172 W176 z134
  have B180 : Ext h86 h175 := extWr B173 W176 z135
  have B181 : Ext h119 h175 := extWr B174 W176 z136
  refine Wl.iinc 310 #[.val (.int i0), .val (.int i1), .val (.int (2 : Int32)), .val (.int p0), .val (.int p1), .val (.int (3 : Int32)), .val (.int n0), .val (.int n1), .val (.int n2), .val (.ref a1), .val (.ref a38), .val (.ref s121), .val (.ref a127), .val (.int (5 : Int32))] (1 : Int32) at_307 (by decide) rfl rfl ?_
  refine Wl.aload 312 at_310 rfl rfl ?_
  refine Wl.iload 314 at_312 rfl ?_
  refine Wl.bipush 316 (99 : Int32) at_314 (by decide) ?_
  refine Wl.castore 317 5 at_316 A177 (List.mem_of_getElem? (i := 0) rfl) (by decide) (by decide) (by decide) (nle rfl) ?_
  intro h182 W183 A184
  rw [nar_ch (by decide)] at A184
  have A184 : Arv Z h182 a127 k129 .char (13 : Int32) [.int p0, .int p1, .int (102 : Int32), .int (101 : Int32), .int (110 : Int32), .int (99 : Int32), .int (0 : Int32), .int (0 : Int32), .int (0 : Int32), .int (0 : Int32), .int (0 : Int32), .int (0 : Int32), .int (0 : Int32)] (.int 0) := A184
  have B185 : Ext h h182 := extWr B178 W183 z133
  have B186 : Ext h33 h182 := extWr B179 W183 z134
  have B187 : Ext h86 h182 := extWr B180 W183 z135
  have B188 : Ext h119 h182 := extWr B181 W183 z136
  refine Wl.iinc 320 #[.val (.int i0), .val (.int i1), .val (.int (2 : Int32)), .val (.int p0), .val (.int p1), .val (.int (3 : Int32)), .val (.int n0), .val (.int n1), .val (.int n2), .val (.ref a1), .val (.ref a38), .val (.ref s121), .val (.ref a127), .val (.int (6 : Int32))] (1 : Int32) at_317 (by decide) rfl rfl ?_
  refine Wl.aload 322 at_320 rfl rfl ?_
  refine Wl.iload 324 at_322 rfl ?_
  refine Wl.bipush 326 (101 : Int32) at_324 (by decide) ?_
  refine Wl.castore 327 6 at_326 A184 (List.mem_of_getElem? (i := 0) rfl) (by decide) (by decide) (by decide) (nle rfl) ?_
  intro h189 W190 A191
  rw [nar_ch (by decide)] at A191
  have A191 : Arv Z h189 a127 k129 .char (13 : Int32) [.int p0, .int p1, .int (102 : Int32), .int (101 : Int32), .int (110 : Int32), .int (99 : Int32), .int (101 : Int32), .int (0 : Int32), .int (0 : Int32), .int (0 : Int32), .int (0 : Int32), .int (0 : Int32), .int (0 : Int32)] (.int 0) := A191
  have B192 : Ext h h189 := extWr B185 W190 z133
  have B193 : Ext h33 h189 := extWr B186 W190 z134
  have B194 : Ext h86 h189 := extWr B187 W190 z135
  have B195 : Ext h119 h189 := extWr B188 W190 z136
  refine Wl.iinc 330 #[.val (.int i0), .val (.int i1), .val (.int (2 : Int32)), .val (.int p0), .val (.int p1), .val (.int (3 : Int32)), .val (.int n0), .val (.int n1), .val (.int n2), .val (.ref a1), .val (.ref a38), .val (.ref s121), .val (.ref a127), .val (.int (7 : Int32))] (1 : Int32) at_327 (by decide) rfl rfl ?_
  refine Wl.aload 332 at_330 rfl rfl ?_
  refine Wl.iload 334 at_332 rfl ?_
  refine Wl.bipush 336 (58 : Int32) at_334 (by decide) ?_
  refine Wl.castore 337 7 at_336 A191 (List.mem_of_getElem? (i := 0) rfl) (by decide) (by decide) (by decide) (nle rfl) ?_
  intro h196 W197 A198
  rw [nar_ch (by decide)] at A198
  have A198 : Arv Z h196 a127 k129 .char (13 : Int32) [.int p0, .int p1, .int (102 : Int32), .int (101 : Int32), .int (110 : Int32), .int (99 : Int32), .int (101 : Int32), .int (58 : Int32), .int (0 : Int32), .int (0 : Int32), .int (0 : Int32), .int (0 : Int32), .int (0 : Int32)] (.int 0) := A198
  have B199 : Ext h h196 := extWr B192 W197 z133
  have B200 : Ext h33 h196 := extWr B193 W197 z134
  have B201 : Ext h86 h196 := extWr B194 W197 z135
  have B202 : Ext h119 h196 := extWr B195 W197 z136
  refine Wl.iinc 340 #[.val (.int i0), .val (.int i1), .val (.int (2 : Int32)), .val (.int p0), .val (.int p1), .val (.int (3 : Int32)), .val (.int n0), .val (.int n1), .val (.int n2), .val (.ref a1), .val (.ref a38), .val (.ref s121), .val (.ref a127), .val (.int (8 : Int32))] (1 : Int32) at_337 (by decide) rfl rfl ?_
  refine Wl.aload 342 at_340 rfl rfl ?_
  refine Wl.iload 344 at_342 rfl ?_
  refine Wl.bipush 346 (123 : Int32) at_344 (by decide) ?_
  refine Wl.castore 347 8 at_346 A198 (List.mem_of_getElem? (i := 0) rfl) (by decide) (by decide) (by decide) (nle rfl) ?_
  intro h203 W204 A205
  rw [nar_ch (by decide)] at A205
  have A205 : Arv Z h203 a127 k129 .char (13 : Int32) [.int p0, .int p1, .int (102 : Int32), .int (101 : Int32), .int (110 : Int32), .int (99 : Int32), .int (101 : Int32), .int (58 : Int32), .int (123 : Int32), .int (0 : Int32), .int (0 : Int32), .int (0 : Int32), .int (0 : Int32)] (.int 0) := A205
  have B206 : Ext h h203 := extWr B199 W204 z133
  have B207 : Ext h33 h203 := extWr B200 W204 z134
  have B208 : Ext h86 h203 := extWr B201 W204 z135
  have B209 : Ext h119 h203 := extWr B202 W204 z136
  refine Wl.iinc 350 #[.val (.int i0), .val (.int i1), .val (.int (2 : Int32)), .val (.int p0), .val (.int p1), .val (.int (3 : Int32)), .val (.int n0), .val (.int n1), .val (.int n2), .val (.ref a1), .val (.ref a38), .val (.ref s121), .val (.ref a127), .val (.int (9 : Int32))] (1 : Int32) at_347 (by decide) rfl rfl ?_
  refine Wl.aload 352 at_350 rfl rfl ?_
  refine Wl.iload 354 at_352 rfl ?_
  refine Wl.iload 356 at_354 rfl ?_
  refine Wl.castore 357 9 at_356 A205 (List.mem_of_getElem? (i := 0) rfl) (by decide) (by decide) (by decide) (nle rfl) ?_
  intro h210 W211 A212
  rw [nar_ch (ln0).ch] at A212
  have A212 : Arv Z h210 a127 k129 .char (13 : Int32) [.int p0, .int p1, .int (102 : Int32), .int (101 : Int32), .int (110 : Int32), .int (99 : Int32), .int (101 : Int32), .int (58 : Int32), .int (123 : Int32), .int n0, .int (0 : Int32), .int (0 : Int32), .int (0 : Int32)] (.int 0) := A212
  have B213 : Ext h h210 := extWr B206 W211 z133
  have B214 : Ext h33 h210 := extWr B207 W211 z134
  have B215 : Ext h86 h210 := extWr B208 W211 z135
  have B216 : Ext h119 h210 := extWr B209 W211 z136
  refine Wl.iinc 360 #[.val (.int i0), .val (.int i1), .val (.int (2 : Int32)), .val (.int p0), .val (.int p1), .val (.int (3 : Int32)), .val (.int n0), .val (.int n1), .val (.int n2), .val (.ref a1), .val (.ref a38), .val (.ref s121), .val (.ref a127), .val (.int (10 : Int32))] (1 : Int32) at_357 (by decide) rfl rfl ?_
  refine Wl.iload 362 at_360 rfl ?_
  refine Wl.iconst 363 (2 : Int32) at_362 (by decide) ?_
  refine Wl.icmpN 366 at_363 (flt (by decide)).1 ?_
  refine Wl.aload 368 at_366 rfl rfl ?_
  refine Wl.iload 370 at_368 rfl ?_
  refine Wl.iload 372 at_370 rfl ?_
  refine Wl.castore 373 10 at_372 A212 (List.mem_of_getElem? (i := 0) rfl) (by decide) (by decide) (by decide) (nle rfl) ?_
  intro h217 W218 A219
  rw [nar_ch (ln1).ch] at A219
  have A219 : Arv Z h217 a127 k129 .char (13 : Int32) [.int p0, .int p1, .int (102 : Int32), .int (101 : Int32), .int (110 : Int32), .int (99 : Int32), .int (101 : Int32), .int (58 : Int32), .int (123 : Int32), .int n0, .int n1, .int (0 : Int32), .int (0 : Int32)] (.int 0) := A219
  have B220 : Ext h h217 := extWr B213 W218 z133
  have B221 : Ext h33 h217 := extWr B214 W218 z134
  have B222 : Ext h86 h217 := extWr B215 W218 z135
  have B223 : Ext h119 h217 := extWr B216 W218 z136
  refine Wl.iinc 376 #[.val (.int i0), .val (.int i1), .val (.int (2 : Int32)), .val (.int p0), .val (.int p1), .val (.int (3 : Int32)), .val (.int n0), .val (.int n1), .val (.int n2), .val (.ref a1), .val (.ref a38), .val (.ref s121), .val (.ref a127), .val (.int (11 : Int32))] (1 : Int32) at_373 (by decide) rfl rfl ?_
  refine Wl.iload 378 at_376 rfl ?_
  refine Wl.iconst 379 (3 : Int32) at_378 (by decide) ?_
  refine Wl.icmpN 382 at_379 (flt (by decide)).1 ?_
  refine Wl.aload 384 at_382 rfl rfl ?_
  refine Wl.iload 386 at_384 rfl ?_
  refine Wl.iload 388 at_386 rfl ?_
  refine Wl.castore 389 11 at_388 A219 (List.mem_of_getElem? (i := 0) rfl) (by decide) (by decide) (by decide) (nle rfl) ?_
  intro h224 W225 A226
  rw [nar_ch (ln2).ch] at A226
  have A226 : Arv Z h224 a127 k129 .char (13 : Int32) [.int p0, .int p1, .int (102 : Int32), .int (101 : Int32), .int (110 : Int32), .int (99 : Int32), .int (101 : Int32), .int (58 : Int32), .int (123 : Int32), .int n0, .int n1, .int n2, .int (0 : Int32)] (.int 0) := A226
  have B227 : Ext h h224 := extWr B220 W225 z133
  have B228 : Ext h33 h224 := extWr B221 W225 z134
  have B229 : Ext h86 h224 := extWr B222 W225 z135
  have B230 : Ext h119 h224 := extWr B223 W225 z136
  refine Wl.iinc 392 #[.val (.int i0), .val (.int i1), .val (.int (2 : Int32)), .val (.int p0), .val (.int p1), .val (.int (3 : Int32)), .val (.int n0), .val (.int n1), .val (.int n2), .val (.ref a1), .val (.ref a38), .val (.ref s121), .val (.ref a127), .val (.int (12 : Int32))] (1 : Int32) at_389 (by decide) rfl rfl ?_
  refine Wl.aload 394 at_392 rfl rfl ?_
  refine Wl.iload 396 at_394 rfl ?_
  refine Wl.bipush 398 (125 : Int32) at_396 (by decide) ?_
  refine Wl.castore 399 12 at_398 A226 (List.mem_of_getElem? (i := 0) rfl) (by decide) (by decide) (by decide) (nle rfl) ?_
  intro h231 W232 A233
  rw [nar_ch (by decide)] at A233
  have A233 : Arv Z h231 a127 k129 .char (13 : Int32) [.int p0, .int p1, .int (102 : Int32), .int (101 : Int32), .int (110 : Int32), .int (99 : Int32), .int (101 : Int32), .int (58 : Int32), .int (123 : Int32), .int n0, .int n1, .int n2, .int (125 : Int32)] (.int 0) := A233
  have B234 : Ext h h231 := extWr B227 W232 z133
  have B235 : Ext h33 h231 := extWr B228 W232 z134
  have B236 : Ext h86 h231 := extWr B229 W232 z135
  have B237 : Ext h119 h231 := extWr B230 W232 z136
  refine Wl.iinc 402 #[.val (.int i0), .val (.int i1), .val (.int (2 : Int32)), .val (.int p0), .val (.int p1), .val (.int (3 : Int32)), .val (.int n0), .val (.int n1), .val (.int n2), .val (.ref a1), .val (.ref a38), .val (.ref s121), .val (.ref a127), .val (.int (13 : Int32))] (1 : Int32) at_399 (by decide) rfl rfl ?_
  refine Wl.aload 404 at_402 rfl rfl ?_
  refine Wl.ifnullN 407 at_404 ?_
  refine Wl.aload 409 at_407 rfl rfl ?_
  refine Wl.virtual 412 (argsL := []) at_409 (w221 hw) (w65 hw) (w67 hw) (w66 hw) (w6 hw) (w68 hw) (nf_sel (w67 hw) rfl) ((S123).exa.ext B237) (show parseMethodDescriptor "()I" = some ⟨[], some .int⟩ by decide +kernel) rfl (len_met hw hcs (S123.ext B237)) (fun _ q => nomatch q) rfl rfl rfl (by decide) ⟨⟨nle rfl, nle rfl⟩, nle rfl, nle rfl⟩ ?_
  intro v238 h239 hq240 _
  obtain ⟨rfl, rfl⟩ := hq240
  show WlO _ _ _ _ _ _ _ _ _ _ _ _ _ _ _ _ _ _ [.int (13 : Int32)]
  refine Wl.iload 414 at_412 rfl ?_
  refine Wl.icmpY 419 at_414 (teq (by decide)).1 ?_
  refine Wl.aload 421 at_419 rfl rfl ?_
  refine Wl.aload 423 at_421 rfl rfl ?_
  refine Wl.iload 425 at_423 rfl ?_
  refine Wl.iconst 426 (0 : Int32) at_425 (by decide) ?_
  refine Wl.static 429 (argsL := [.ref s121, .ref a127, .int (13 : Int32), .int (0 : Int32)]) at_426 (w222 hw) (w223 hw) (w2 hw) (w224 hw) (show parseMethodDescriptor "(Ljava/lang/String;[CII)Z" = some ⟨[(.object "java/lang/String"), (.array .char), .int, .int], some .boolean⟩ by decide +kernel) rfl (at_met hw hcs hfm (rs := [p0, p1, (102 : Int32), (101 : Int32), (110 : Int32), (99 : Int32), (101 : Int32), (58 : Int32), (123 : Int32), n0, n1, n2, (125 : Int32)]) (es := [p0, p1, (102 : Int32), (101 : Int32), (110 : Int32), (99 : Int32), (101 : Int32), (58 : Int32), (123 : Int32), n0, n1, n2, (125 : Int32)]) (k := 13) (i := 0) (S123.ext B237) A233 (nle rfl) (nle rfl) rfl (nle rfl)) (fun _ q => nomatch q) rfl rfl rfl (by decide) ⟨⟨nle rfl, nle rfl⟩, nle rfl, nle rfl⟩ ?_
  intro v241 h242 hq243 _
  obtain ⟨rfl, rfl⟩ := hq243
  show WlO _ _ _ _ _ _ _ _ _ _ _ _ _ _ _ _ _ _ [.int (1 : Int32)]
  refine Wl.ifN 432 at_429 (feq (by decide)).1 ?_
  refine Wl.aload 434 at_432 rfl rfl ?_
  refine Wl.aload 436 at_434 rfl rfl ?_
  refine Wl.iload 438 at_436 rfl ?_
  refine Wl.iconst 439 (1 : Int32) at_438 (by decide) ?_
  refine Wl.static 442 (argsL := [.ref s121, .ref a127, .int (13 : Int32), .int (1 : Int32)]) at_439 (w222 hw) (w223 hw) (w2 hw) (w224 hw) (show parseMethodDescriptor "(Ljava/lang/String;[CII)Z" = some ⟨[(.object "java/lang/String"), (.array .char), .int, .int], some .boolean⟩ by decide +kernel) rfl (at_met hw hcs hfm (rs := [p0, p1, (102 : Int32), (101 : Int32), (110 : Int32), (99 : Int32), (101 : Int32), (58 : Int32), (123 : Int32), n0, n1, n2, (125 : Int32)]) (es := [p0, p1, (102 : Int32), (101 : Int32), (110 : Int32), (99 : Int32), (101 : Int32), (58 : Int32), (123 : Int32), n0, n1, n2, (125 : Int32)]) (k := 13) (i := 1) (S123.ext B237) A233 (nle rfl) (nle rfl) rfl (nle rfl)) (fun _ q => nomatch q) rfl rfl rfl (by decide) ⟨⟨nle rfl, nle rfl⟩, nle rfl, nle rfl⟩ ?_
  intro v244 h245 hq246 _
  obtain ⟨rfl, rfl⟩ := hq246
  show WlO _ _ _ _ _ _ _ _ _ _ _ _ _ _ _ _ _ _ [.int (1 : Int32)]
  refine Wl.ifN 445 at_442 (feq (by decide)).1 ?_
  refine Wl.aload 447 at_445 rfl rfl ?_
  refine Wl.aload 449 at_447 rfl rfl ?_
  refine Wl.iload 451 at_449 rfl ?_
  refine Wl.iconst 452 (2 : Int32) at_451 (by decide) ?_
  refine Wl.static 455 (argsL := [.ref s121, .ref a127, .int (13 : Int32), .int (2 : Int32)]) at_452 (w222 hw) (w223 hw) (w2 hw) (w224 hw) (show parseMethodDescriptor "(Ljava/lang/String;[CII)Z" = some ⟨[(.object "java/lang/String"), (.array .char), .int, .int], some .boolean⟩ by decide +kernel) rfl (at_met hw hcs hfm (rs := [p0, p1, (102 : Int32), (101 : Int32), (110 : Int32), (99 : Int32), (101 : Int32), (58 : Int32), (123 : Int32), n0, n1, n2, (125 : Int32)]) (es := [p0, p1, (102 : Int32), (101 : Int32), (110 : Int32), (99 : Int32), (101 : Int32), (58 : Int32), (123 : Int32), n0, n1, n2, (125 : Int32)]) (k := 13) (i := 2) (S123.ext B237) A233 (nle rfl) (nle rfl) rfl (nle rfl)) (fun _ q => nomatch q) rfl rfl rfl (by decide) ⟨⟨nle rfl, nle rfl⟩, nle rfl, nle rfl⟩ ?_
  intro v247 h248 hq249 _
  obtain ⟨rfl, rfl⟩ := hq249
  show WlO _ _ _ _ _ _ _ _ _ _ _ _ _ _ _ _ _ _ [.int (1 : Int32)]
  refine Wl.ifN 458 at_455 (feq (by decide)).1 ?_
  refine Wl.aload 460 at_458 rfl rfl ?_
  refine Wl.aload 462 at_460 rfl rfl ?_
  refine Wl.iload 464 at_462 rfl ?_
  refine Wl.iconst 465 (3 : Int32) at_464 (by decide) ?_
  refine Wl.static 468 (argsL := [.ref s121, .ref a127, .int (13 : Int32), .int (3 : Int32)]) at_465 (w222 hw) (w223 hw) (w2 hw) (w224 hw) (show parseMethodDescriptor "(Ljava/lang/String;[CII)Z" = some ⟨[(.object "java/lang/String"), (.array .char), .int, .int], some .boolean⟩ by decide +kernel) rfl (at_met hw hcs hfm (rs := [p0, p1, (102 : Int32), (101 : Int32), (110 : Int32), (99 : Int32), (101 : Int32), (58 : Int32), (123 : Int32), n0, n1, n2, (125 : Int32)]) (es := [p0, p1, (102 : Int32), (101 : Int32), (110 : Int32), (99 : Int32), (101 : Int32), (58 : Int32), (123 : Int32), n0, n1, n2, (125 : Int32)]) (k := 13) (i := 3) (S123.ext B237) A233 (nle rfl) (nle rfl) rfl (nle rfl)) (fun _ q => nomatch q) rfl rfl rfl (by decide) ⟨⟨nle rfl, nle rfl⟩, nle rfl, nle rfl⟩ ?_
  intro v250 h251 hq252 _
  obtain ⟨rfl, rfl⟩ := hq252
  show WlO _ _ _ _ _ _ _ _ _ _ _ _ _ _ _ _ _ _ [.int (1 : Int32)]
  refine Wl.ifN 471 at_468 (feq (by decide)).1 ?_
  refine Wl.aload 473 at_471 rfl rfl ?_
  refine Wl.aload 475 at_473 rfl rfl ?_
  refine Wl.iload 477 at_475 rfl ?_
  refine Wl.iconst 478 (4 : Int32) at_477 (by decide) ?_
  refine Wl.static 481 (argsL := [.ref s121, .ref a127, .int (13 : Int32), .int (4 : Int32)]) at_478 (w222 hw) (w223 hw) (w2 hw) (w224 hw) (show parseMethodDescriptor "(Ljava/lang/String;[CII)Z" = some ⟨[(.object "java/lang/String"), (.array .char), .int, .int], some .boolean⟩ by decide +kernel) rfl (at_met hw hcs hfm (rs := [p0, p1, (102 : Int32), (101 : Int32), (110 : Int32), (99 : Int32), (101 : Int32), (58 : Int32), (123 : Int32), n0, n1, n2, (125 : Int32)]) (es := [p0, p1, (102 : Int32), (101 : Int32), (110 : Int32), (99 : Int32), (101 : Int32), (58 : Int32), (123 : Int32), n0, n1, n2, (125 : Int32)]) (k := 13) (i := 4) (S123.ext B237) A233 (nle rfl) (nle rfl) rfl (nle rfl)) (fun _ q => nomatch q) rfl rfl rfl (by decide) ⟨⟨nle rfl, nle rfl⟩, nle rfl, nle rfl⟩ ?_
  intro v253 h254 hq255 _
  obtain ⟨rfl, rfl⟩ := hq255
  show WlO _ _ _ _ _ _ _ _ _ _ _ _ _ _ _ _ _ _ [.int (1 : Int32)]
  refine Wl.ifN 484 at_481 (feq (by decide)).1 ?_
  refine Wl.aload 486 at_484 rfl rfl ?_
  refine Wl.aload 488 at_486 rfl rfl ?_
  refine Wl.iload 490 at_488 rfl ?_
  refine Wl.iconst 491 (5 : Int32) at_490 (by decide) ?_
  refine Wl.static 494 (argsL := [.ref s121, .ref a127, .int (13 : Int32), .int (5 : Int32)]) at_491 (w222 hw) (w223 hw) (w2 hw) (w224 hw) (show parseMethodDescriptor "(Ljava/lang/String;[CII)Z" = some ⟨[(.object "java/lang/String"), (.array .char), .int, .int], some .boolean⟩ by decide +kernel) rfl (at_met hw hcs hfm (rs := [p0, p1, (102 : Int32), (101 : Int32), (110 : Int32), (99 : Int32), (101 : Int32), (58 : Int32), (123 : Int32), n0, n1, n2, (125 : Int32)]) (es := [p0, p1, (102 : Int32), (101 : Int32), (110 : Int32), (99 : Int32), (101 : Int32), (58 : Int32), (123 : Int32), n0, n1, n2, (125 : Int32)]) (k := 13) (i := 5) (S123.ext B237) A233 (nle rfl) (nle rfl) rfl (nle rfl)) (fun _ q => nomatch q) rfl rfl rfl (by decide) ⟨⟨nle rfl, nle rfl⟩, nle rfl, nle rfl⟩ ?_
  intro v256 h257 hq258 _
  obtain ⟨rfl, rfl⟩ := hq258
  show WlO _ _ _ _ _ _ _ _ _ _ _ _ _ _ _ _ _ _ [.int (1 : Int32)]
  refine Wl.ifN 497 at_494 (feq (by decide)).1 ?_
  refine Wl.aload 499 at_497 rfl rfl ?_
  refine Wl.aload 501 at_499 rfl rfl ?_
  refine Wl.iload 503 at_501 rfl ?_
  refine Wl.bipush 505 (6 : Int32) at_503 (by decide) ?_
  refine Wl.static 508 (argsL := [.ref s121, .ref a127, .int (13 : Int32), .int (6 : Int32)]) at_505 (w222 hw) (w223 hw) (w2 hw) (w224 hw) (show parseMethodDescriptor "(Ljava/lang/String;[CII)Z" = some ⟨[(.object "java/lang/String"), (.array .char), .int, .int], some .boolean⟩ by decide +kernel) rfl (at_met hw hcs hfm (rs := [p0, p1, (102 : Int32), (101 : Int32), (110 : Int32), (99 : Int32), (101 : Int32), (58 : Int32), (123 : Int32), n0, n1, n2, (125 : Int32)]) (es := [p0, p1, (102 : Int32), (101 : Int32), (110 : Int32), (99 : Int32), (101 : Int32), (58 : Int32), (123 : Int32), n0, n1, n2, (125 : Int32)]) (k := 13) (i := 6) (S123.ext B237) A233 (nle rfl) (nle rfl) rfl (nle rfl)) (fun _ q => nomatch q) rfl rfl rfl (by decide) ⟨⟨nle rfl, nle rfl⟩, nle rfl, nle rfl⟩ ?_
  intro v259 h260 hq261 _
  obtain ⟨rfl, rfl⟩ := hq261
  show WlO _ _ _ _ _ _ _ _ _ _ _ _ _ _ _ _ _ _ [.int (1 : Int32)]
  refine Wl.ifN 511 at_508 (feq (by decide)).1 ?_
  refine Wl.aload 513 at_511 rfl rfl ?_
  refine Wl.aload 515 at_513 rfl rfl ?_
  refine Wl.iload 517 at_515 rfl ?_
  refine Wl.bipush 519 (7 : Int32) at_517 (by decide) ?_
  refine Wl.static 522 (argsL := [.ref s121, .ref a127, .int (13 : Int32), .int (7 : Int32)]) at_519 (w222 hw) (w223 hw) (w2 hw) (w224 hw) (show parseMethodDescriptor "(Ljava/lang/String;[CII)Z" = some ⟨[(.object "java/lang/String"), (.array .char), .int, .int], some .boolean⟩ by decide +kernel) rfl (at_met hw hcs hfm (rs := [p0, p1, (102 : Int32), (101 : Int32), (110 : Int32), (99 : Int32), (101 : Int32), (58 : Int32), (123 : Int32), n0, n1, n2, (125 : Int32)]) (es := [p0, p1, (102 : Int32), (101 : Int32), (110 : Int32), (99 : Int32), (101 : Int32), (58 : Int32), (123 : Int32), n0, n1, n2, (125 : Int32)]) (k := 13) (i := 7) (S123.ext B237) A233 (nle rfl) (nle rfl) rfl (nle rfl)) (fun _ q => nomatch q) rfl rfl rfl (by decide) ⟨⟨nle rfl, nle rfl⟩, nle rfl, nle rfl⟩ ?_
  intro v262 h263 hq264 _
  obtain ⟨rfl, rfl⟩ := hq264
  show WlO _ _ _ _ _ _ _ _ _ _ _ _ _ _ _ _ _ _ [.int (1 : Int32)]
  refine Wl.ifN 525 at_522 (feq (by decide)).1 ?_
  refine Wl.aload 527 at_525 rfl rfl ?_
  refine Wl.aload 529 at_527 rfl rfl ?_
  refine Wl.iload 531 at_529 rfl ?_
  refine Wl.bipush 533 (8 : Int32) at_531 (by decide) ?_
  refine Wl.static 536 (argsL := [.ref s121, .ref a127, .int (13 : Int32), .int (8 : Int32)]) at_533 (w222 hw) (w223 hw) (w2 hw) (w224 hw) (show parseMethodDescriptor "(Ljava/lang/String;[CII)Z" = some ⟨[(.object "java/lang/String"), (.array .char), .int, .int], some .boolean⟩ by decide +kernel) rfl (at_met hw hcs hfm (rs := [p0, p1, (102 : Int32), (101 : Int32), (110 : Int32), (99 : Int32), (101 : Int32), (58 : Int32), (123 : Int32), n0, n1, n2, (125 : Int32)]) (es := [p0, p1, (102 : Int32), (101 : Int32), (110 : Int32), (99 : Int32), (101 : Int32), (58 : Int32), (123 : Int32), n0, n1, n2, (125 : Int32)]) (k := 13) (i := 8) (S123.ext B237) A233 (nle rfl) (nle rfl) rfl (nle rfl)) (fun _ q => nomatch q) rfl rfl rfl (by decide) ⟨⟨nle rfl, nle rfl⟩, nle rfl, nle rfl⟩ ?_
  intro v265 h266 hq267 _
  obtain ⟨rfl, rfl⟩ := hq267
  show WlO _ _ _ _ _ _ _ _ _ _ _ _ _ _ _ _ _ _ [.int (1 : Int32)]
  refine Wl.ifN 539 at_536 (feq (by decide)).1 ?_
  refine Wl.aload 541 at_539 rfl rfl ?_
  refine Wl.aload 543 at_541 rfl rfl ?_
  refine Wl.iload 545 at_543 rfl ?_
  refine Wl.bipush 547 (9 : Int32) at_545 (by decide) ?_
  refine Wl.static 550 (argsL := [.ref s121, .ref a127, .int (13 : Int32), .int (9 : Int32)]) at_547 (w222 hw) (w223 hw) (w2 hw) (w224 hw) (show parseMethodDescriptor "(Ljava/lang/String;[CII)Z" = some ⟨[(.object "java/lang/String"), (.array .char), .int, .int], some .boolean⟩ by decide +kernel) rfl (at_met hw hcs hfm (rs := [p0, p1, (102 : Int32), (101 : Int32), (110 : Int32), (99 : Int32), (101 : Int32), (58 : Int32), (123 : Int32), n0, n1, n2, (125 : Int32)]) (es := [p0, p1, (102 : Int32), (101 : Int32), (110 : Int32), (99 : Int32), (101 : Int32), (58 : Int32), (123 : Int32), n0, n1, n2, (125 : Int32)]) (k := 13) (i := 9) (S123.ext B237) A233 (nle rfl) (nle rfl) rfl (nle rfl)) (fun _ q => nomatch q) rfl rfl rfl (by decide) ⟨⟨nle rfl, nle rfl⟩, nle rfl, nle rfl⟩ ?_
  intro v268 h269 hq270 _
  obtain ⟨rfl, rfl⟩ := hq270
  show WlO _ _ _ _ _ _ _ _ _ _ _ _ _ _ _ _ _ _ [.int (1 : Int32)]
  refine Wl.ifN 553 at_550 (feq (by decide)).1 ?_
  refine Wl.aload 555 at_553 rfl rfl ?_
  refine Wl.aload 557 at_555 rfl rfl ?_
  refine Wl.iload 559 at_557 rfl ?_
  refine Wl.bipush 561 (10 : Int32) at_559 (by decide) ?_
  refine Wl.static 564 (argsL := [.ref s121, .ref a127, .int (13 : Int32), .int (10 : Int32)]) at_561 (w222 hw) (w223 hw) (w2 hw) (w224 hw) (show parseMethodDescriptor "(Ljava/lang/String;[CII)Z" = some ⟨[(.object "java/lang/String"), (.array .char), .int, .int], some .boolean⟩ by decide +kernel) rfl (at_met hw hcs hfm (rs := [p0, p1, (102 : Int32), (101 : Int32), (110 : Int32), (99 : Int32), (101 : Int32), (58 : Int32), (123 : Int32), n0, n1, n2, (125 : Int32)]) (es := [p0, p1, (102 : Int32), (101 : Int32), (110 : Int32), (99 : Int32), (101 : Int32), (58 : Int32), (123 : Int32), n0, n1, n2, (125 : Int32)]) (k := 13) (i := 10) (S123.ext B237) A233 (nle rfl) (nle rfl) rfl (nle rfl)) (fun _ q => nomatch q) rfl rfl rfl (by decide) ⟨⟨nle rfl, nle rfl⟩, nle rfl, nle rfl⟩ ?_
  intro v271 h272 hq273 _
  obtain ⟨rfl, rfl⟩ := hq273
  show WlO _ _ _ _ _ _ _ _ _ _ _ _ _ _ _ _ _ _ [.int (1 : Int32)]
  refine Wl.ifN 567 at_564 (feq (by decide)).1 ?_
  refine Wl.aload 569 at_567 rfl rfl ?_
  refine Wl.aload 571 at_569 rfl rfl ?_
  refine Wl.iload 573 at_571 rfl ?_
  refine Wl.bipush 575 (11 : Int32) at_573 (by decide) ?_
  refine Wl.static 578 (argsL := [.ref s121, .ref a127, .int (13 : Int32), .int (11 : Int32)]) at_575 (w222 hw) (w223 hw) (w2 hw) (w224 hw) (show parseMethodDescriptor "(Ljava/lang/String;[CII)Z" = some ⟨[(.object "java/lang/String"), (.array .char), .int, .int], some .boolean⟩ by decide +kernel) rfl (at_met hw hcs hfm (rs := [p0, p1, (102 : Int32), (101 : Int32), (110 : Int32), (99 : Int32), (101 : Int32), (58 : Int32), (123 : Int32), n0, n1, n2, (125 : Int32)]) (es := [p0, p1, (102 : Int32), (101 : Int32), (110 : Int32), (99 : Int32), (101 : Int32), (58 : Int32), (123 : Int32), n0, n1, n2, (125 : Int32)]) (k := 13) (i := 11) (S123.ext B237) A233 (nle rfl) (nle rfl) rfl (nle rfl)) (fun _ q => nomatch q) rfl rfl rfl (by decide) ⟨⟨nle rfl, nle rfl⟩, nle rfl, nle rfl⟩ ?_
  intro v274 h275 hq276 _
  obtain ⟨rfl, rfl⟩ := hq276
  show WlO _ _ _ _ _ _ _ _ _ _ _ _ _ _ _ _ _ _ [.int (1 : Int32)]
  refine Wl.ifN 581 at_578 (feq (by decide)).1 ?_
  refine Wl.aload 583 at_581 rfl rfl ?_
  refine Wl.aload 585 at_583 rfl rfl ?_
  refine Wl.iload 587 at_585 rfl ?_
  refine Wl.bipush 589 (12 : Int32) at_587 (by decide) ?_
  refine Wl.static 592 (argsL := [.ref s121, .ref a127, .int (13 : Int32), .int (12 : Int32)]) at_589 (w222 hw) (w223 hw) (w2 hw) (w224 hw) (show parseMethodDescriptor "(Ljava/lang/String;[CII)Z" = some ⟨[(.object "java/lang/String"), (.array .char), .int, .int], some .boolean⟩ by decide +kernel) rfl (at_met hw hcs hfm (rs := [p0, p1, (102 : Int32), (101 : Int32), (110 : Int32), (99 : Int32), (101 : Int32), (58 : Int32), (123 : Int32), n0, n1, n2, (125 : Int32)]) (es := [p0, p1, (102 : Int32), (101 : Int32), (110 : Int32), (99 : Int32), (101 : Int32), (58 : Int32), (123 : Int32), n0, n1, n2, (125 : Int32)]) (k := 13) (i := 12) (S123.ext B237) A233 (nle rfl) (nle rfl) rfl (nle rfl)) (fun _ q => nomatch q) rfl rfl rfl (by decide) ⟨⟨nle rfl, nle rfl⟩, nle rfl, nle rfl⟩ ?_
  intro v277 h278 hq279 _
  obtain ⟨rfl, rfl⟩ := hq279
  show WlO _ _ _ _ _ _ _ _ _ _ _ _ _ _ _ _ _ _ [.int (1 : Int32)]
  refine Wl.ifN 595 at_592 (feq (by decide)).1 ?_
  refine Wl.iconst 596 (1 : Int32) at_595 (by decide) ?_
  refine Wl.goto 600 at_596 ?_
  exact Wl.ireturn at_600 rfl rfl (by simp) (nle rfl) (nle rfl) rfl
set_option maxRecDepth 65536 in
set_option maxHeartbeats 40000000 in
theorem law_met {l : Launch} {Z : State} {a0 : Array Value} (hw : ∀ d ∈ tables_1, d.before a0 Z = true) (hcs : CSon Z) (hfm : Fmt Z) (i0 i1 : Int32) :
    Met l Z consts_1 x code maxLocals ret tables_1 room_1 #[.int i0, .int i1] Z.heap [] (fun v h' => v = some (.int 1)) := by
  generalize hh0 : Z.heap = h
  refine Met.of_walk (a0 := a0) (Ls := #[.val (.int i0), .val (.int i1), .unset, .unset, .unset, .unset, .unset, .unset, .unset, .unset, .unset, .unset, .unset, .unset]) (plainFor_of_name pn_4) (own_hEL hw) rfl ?_
  refine Wl.iload_n 1 at_0 rfl ?_
  refine Wl.bipush 3 (16 : Int32) at_1 (by decide) ?_
  refine Wl.iushr 4 at_3 ?_
  refine Wl.iconst 5 (3 : Int32) at_4 (by decide) ?_
  refine Wl.iand 6 at_5 ?_
  refine Wl.iconst 7 (3 : Int32) at_6 (by decide) ?_
  refine Wl.irem 8 at_7 (by decide) ?_
  refine Wl.istore_n 9 #[.val (.int i0), .val (.int i1), .val (.int ((((i0).toUInt32 >>> ((16 : Int32) &&& 31).toUInt32).toInt32 &&& (3 : Int32)) % (3 : Int32))), .unset, .unset, .unset, .unset, .unset, .unset, .unset, .unset, .unset, .unset, .unset] at_8 rfl ?_
  refine Wl.iload_n 10 at_9 rfl ?_
  refine Wl.sipush 13 (255 : Int32) at_10 (by decide) ?_
  refine Wl.iand 14 at_13 ?_
  refine Wl.i2c 15 at_14 ?_
  refine Wl.static 18 (argsL := [.int (((i0 &&& (255 : Int32))).toUInt32.toUInt16.toUInt32.toInt32)]) at_15 (w0 hw) (w1 hw) (w2 hw) (w3 hw) (show parseMethodDescriptor "(C)C" = some ⟨[.char], some .char⟩ by decide +kernel) rfl (nb_met hw (i2c_mask_lat _)) (fun _ q => nomatch q) rfl rfl rfl (by decide) ⟨⟨nle rfl, nle rfl⟩, nle rfl, nle rfl⟩ ?_
  intro v1 h2 hq3 _
  obtain ⟨z4, rfl, l5, a6, b7, rfl⟩ := hq3
  show WlO _ _ _ _ _ _ _ _ _ _ _ _ _ _ _ _ _ _ [.int z4]
  refine Wl.istore_n 19 #[.val (.int i0), .val (.int i1), .val (.int ((((i0).toUInt32 >>> ((16 : Int32) &&& 31).toUInt32).toInt32 &&& (3 : Int32)) % (3 : Int32))), .val (.int z4), .unset, .unset, .unset, .unset, .unset, .unset, .unset, .unset, .unset, .unset] at_18 rfl ?_
  refine Wl.iload_n 20 at_19 rfl ?_
  refine Wl.bipush 22 (8 : Int32) at_20 (by decide) ?_
  refine Wl.iushr 23 at_22 ?_
  refine Wl.sipush 26 (255 : Int32) at_23 (by decide) ?_
  refine Wl.iand 27 at_26 ?_
  refine Wl.i2c 28 at_27 ?_
  refine Wl.static 31 (argsL := [.int (((((i0).toUInt32 >>> ((8 : Int32) &&& 31).toUInt32).toInt32 &&& (255 : Int32))).toUInt32.toUInt16.toUInt32.toInt32)]) at_28 (w0 hw) (w1 hw) (w2 hw) (w3 hw) (show parseMethodDescriptor "(C)C" = some ⟨[.char], some .char⟩ by decide +kernel) rfl (nb_met hw (i2c_mask_lat _)) (fun _ q => nomatch q) rfl rfl rfl (by decide) ⟨⟨nle rfl, nle rfl⟩, nle rfl, nle rfl⟩ ?_
  intro v8 h9 hq10 _
  obtain ⟨z11, rfl, l12, a13, b14, rfl⟩ := hq10
  show WlO _ _ _ _ _ _ _ _ _ _ _ _ _ _ _ _ _ _ [.int z11]
  refine Wl.istore 33 #[.val (.int i0), .val (.int i1), .val (.int ((((i0).toUInt32 >>> ((16 : Int32) &&& 31).toUInt32).toInt32 &&& (3 : Int32)) % (3 : Int32))), .val (.int z4), .val (.int z11), .unset, .unset, .unset, .unset, .unset, .unset, .unset, .unset, .unset] at_31 rfl ?_
  refine Wl.iload_n 34 at_33 rfl ?_
  refine Wl.bipush 36 (24 : Int32) at_34 (by decide) ?_
  refine Wl.iushr 37 at_36 ?_
  refine Wl.iconst 38 (3 : Int32) at_37 (by decide) ?_
  refine Wl.iand 39 at_38 ?_
  refine Wl.iconst 40 (3 : Int32) at_39 (by decide) ?_
  refine Wl.irem 41 at_40 (by decide) ?_
  refine Wl.iconst 42 (1 : Int32) at_41 (by decide) ?_
  refine Wl.iadd 43 at_42 ?_
  refine Wl.istore 45 #[.val (.int i0), .val (.int i1), .val (.int ((((i0).toUInt32 >>> ((16 : Int32) &&& 31).toUInt32).toInt32 &&& (3 : Int32)) % (3 : Int32))), .val (.int z4), .val (.int z11), .val (.int (((((i1).toUInt32 >>> ((24 : Int32) &&& 31).toUInt32).toInt32 &&& (3 : Int32)) % (3 : Int32)) + (1 : Int32))), .unset, .unset, .unset, .unset, .unset, .unset, .unset, .unset] at_43 rfl ?_
  refine Wl.iload_n 46 at_45 rfl ?_
  refine Wl.sipush 49 (255 : Int32) at_46 (by decide) ?_
  refine Wl.iand 50 at_49 ?_
  refine Wl.i2c 51 at_50 ?_
  refine Wl.istore 53 #[.val (.int i0), .val (.int i1), .val (.int ((((i0).toUInt32 >>> ((16 : Int32) &&& 31).toUInt32).toInt32 &&& (3 : Int32)) % (3 : Int32))), .val (.int z4), .val (.int z11), .val (.int (((((i1).toUInt32 >>> ((24 : Int32) &&& 31).toUInt32).toInt32 &&& (3 : Int32)) % (3 : Int32)) + (1 : Int32))), .val (.int (((i1 &&& (255 : Int32))).toUInt32.toUInt16.toUInt32.toInt32)), .unset, .unset, .unset, .unset, .unset, .unset, .unset] at_51 rfl ?_
  refine Wl.iload 55 at_53 rfl ?_
  refine Wl.bipush 57 (125 : Int32) at_55 (by decide) ?_
  by_cases c15 : ((i1 &&& (255 : Int32))).toUInt32.toUInt16.toUInt32.toInt32 = (125 : Int32)
  · refine Wl.icmpN 60 at_57 (teq c15).2 ?_
    refine Wl.bipush 62 (123 : Int32) at_60 (by decide) ?_
    refine Wl.istore 64 #[.val (.int i0), .val (.int i1), .val (.int ((((i0).toUInt32 >>> ((16 : Int32) &&& 31).toUInt32).toInt32 &&& (3 : Int32)) % (3 : Int32))), .val (.int z4), .val (.int z11), .val (.int (((((i1).toUInt32 >>> ((24 : Int32) &&& 31).toUInt32).toInt32 &&& (3 : Int32)) % (3 : Int32)) + (1 : Int32))), .val (.int (123 : Int32)), .unset, .unset, .unset, .unset, .unset, .unset, .unset] at_62 rfl ?_
    refine Wl.iload_n 65 at_64 rfl ?_
    refine Wl.bipush 67 (8 : Int32) at_65 (by decide) ?_
    refine Wl.iushr 68 at_67 ?_
    refine Wl.sipush 71 (255 : Int32) at_68 (by decide) ?_
    refine Wl.iand 72 at_71 ?_
    refine Wl.i2c 73 at_72 ?_
    refine Wl.istore 75 #[.val (.int i0), .val (.int i1), .val (.int ((((i0).toUInt32 >>> ((16 : Int32) &&& 31).toUInt32).toInt32 &&& (3 : Int32)) % (3 : Int32))), .val (.int z4), .val (.int z11), .val (.int (((((i1).toUInt32 >>> ((24 : Int32) &&& 31).toUInt32).toInt32 &&& (3 : Int32)) % (3 : Int32)) + (1 : Int32))), .val (.int (123 : Int32)), .val (.int (((((i1).toUInt32 >>> ((8 : Int32) &&& 31).toUInt32).toInt32 &&& (255 : Int32))).toUInt32.toUInt16.toUInt32.toInt32)), .unset, .unset, .unset, .unset, .unset, .unset] at_73 rfl ?_
    refine Wl.iload_n 76 at_75 rfl ?_
    refine Wl.bipush 78 (16 : Int32) at_76 (by decide) ?_
    refine Wl.iushr 79 at_78 ?_
    refine Wl.sipush 82 (255 : Int32) at_79 (by decide) ?_
    refine Wl.iand 83 at_82 ?_
    refine Wl.i2c 84 at_83 ?_
    refine Wl.istore 86 #[.val (.int i0), .val (.int i1), .val (.int ((((i0).toUInt32 >>> ((16 : Int32) &&& 31).toUInt32).toInt32 &&& (3 : Int32)) % (3 : Int32))), .val (.int z4), .val (.int z11), .val (.int (((((i1).toUInt32 >>> ((24 : Int32) &&& 31).toUInt32).toInt32 &&& (3 : Int32)) % (3 : Int32)) + (1 : Int32))), .val (.int (123 : Int32)), .val (.int (((((i1).toUInt32 >>> ((8 : Int32) &&& 31).toUInt32).toInt32 &&& (255 : Int32))).toUInt32.toUInt16.toUInt32.toInt32)), .val (.int (((((i1).toUInt32 >>> ((16 : Int32) &&& 31).toUInt32).toInt32 &&& (255 : Int32))).toUInt32.toUInt16.toUInt32.toInt32)), .unset, .unset, .unset, .unset, .unset] at_84 rfl ?_
    rcases rem3 (((i0).toUInt32 >>> ((16 : Int32) &&& 31).toUInt32).toInt32) with e | e | e <;> rw [e]
    · rcases rem3p (((i1).toUInt32 >>> ((24 : Int32) &&& 31).toUInt32).toInt32) with f | f | f <;> rw [f]
      · exact law_t01 hw hcs hfm l5 l12 (by decide) (i2c_mask_lat _) (i2c_mask_lat _) a6 b7 a13 b14 (by decide)
      · exact law_t02 hw hcs hfm l5 l12 (by decide) (i2c_mask_lat _) (i2c_mask_lat _) a6 b7 a13 b14 (by decide)
      · exact law_t03 hw hcs hfm l5 l12 (by decide) (i2c_mask_lat _) (i2c_mask_lat _) a6 b7 a13 b14 (by decide)
    · rcases rem3p (((i1).toUInt32 >>> ((24 : Int32) &&& 31).toUInt32).toInt32) with f | f | f <;> rw [f]
      · exact law_t11 hw hcs hfm l5 l12 (by decide) (i2c_mask_lat _) (i2c_mask_lat _) a6 b7 a13 b14 (by decide)
      · exact law_t12 hw hcs hfm l5 l12 (by decide) (i2c_mask_lat _) (i2c_mask_lat _) a6 b7 a13 b14 (by decide)
      · exact law_t13 hw hcs hfm l5 l12 (by decide) (i2c_mask_lat _) (i2c_mask_lat _) a6 b7 a13 b14 (by decide)
    · rcases rem3p (((i1).toUInt32 >>> ((24 : Int32) &&& 31).toUInt32).toInt32) with f | f | f <;> rw [f]
      · exact law_t21 hw hcs hfm l5 l12 (by decide) (i2c_mask_lat _) (i2c_mask_lat _) a6 b7 a13 b14 (by decide)
      · exact law_t22 hw hcs hfm l5 l12 (by decide) (i2c_mask_lat _) (i2c_mask_lat _) a6 b7 a13 b14 (by decide)
      · exact law_t23 hw hcs hfm l5 l12 (by decide) (i2c_mask_lat _) (i2c_mask_lat _) a6 b7 a13 b14 (by decide)
  · refine Wl.icmpY 64 at_57 (feq c15).2 ?_
    refine Wl.iload_n 65 at_64 rfl ?_
    refine Wl.bipush 67 (8 : Int32) at_65 (by decide) ?_
    refine Wl.iushr 68 at_67 ?_
    refine Wl.sipush 71 (255 : Int32) at_68 (by decide) ?_
    refine Wl.iand 72 at_71 ?_
    refine Wl.i2c 73 at_72 ?_
    refine Wl.istore 75 #[.val (.int i0), .val (.int i1), .val (.int ((((i0).toUInt32 >>> ((16 : Int32) &&& 31).toUInt32).toInt32 &&& (3 : Int32)) % (3 : Int32))), .val (.int z4), .val (.int z11), .val (.int (((((i1).toUInt32 >>> ((24 : Int32) &&& 31).toUInt32).toInt32 &&& (3 : Int32)) % (3 : Int32)) + (1 : Int32))), .val (.int (((i1 &&& (255 : Int32))).toUInt32.toUInt16.toUInt32.toInt32)), .val (.int (((((i1).toUInt32 >>> ((8 : Int32) &&& 31).toUInt32).toInt32 &&& (255 : Int32))).toUInt32.toUInt16.toUInt32.toInt32)), .unset, .unset, .unset, .unset, .unset, .unset] at_73 rfl ?_
    refine Wl.iload_n 76 at_75 rfl ?_
    refine Wl.bipush 78 (16 : Int32) at_76 (by decide) ?_
    refine Wl.iushr 79 at_78 ?_
    refine Wl.sipush 82 (255 : Int32) at_79 (by decide) ?_
    refine Wl.iand 83 at_82 ?_
    refine Wl.i2c 84 at_83 ?_
    refine Wl.istore 86 #[.val (.int i0), .val (.int i1), .val (.int ((((i0).toUInt32 >>> ((16 : Int32) &&& 31).toUInt32).toInt32 &&& (3 : Int32)) % (3 : Int32))), .val (.int z4), .val (.int z11), .val (.int (((((i1).toUInt32 >>> ((24 : Int32) &&& 31).toUInt32).toInt32 &&& (3 : Int32)) % (3 : Int32)) + (1 : Int32))), .val (.int (((i1 &&& (255 : Int32))).toUInt32.toUInt16.toUInt32.toInt32)), .val (.int (((((i1).toUInt32 >>> ((8 : Int32) &&& 31).toUInt32).toInt32 &&& (255 : Int32))).toUInt32.toUInt16.toUInt32.toInt32)), .val (.int (((((i1).toUInt32 >>> ((16 : Int32) &&& 31).toUInt32).toInt32 &&& (255 : Int32))).toUInt32.toUInt16.toUInt32.toInt32)), .unset, .unset, .unset, .unset, .unset] at_84 rfl ?_
    rcases rem3 (((i0).toUInt32 >>> ((16 : Int32) &&& 31).toUInt32).toInt32) with e | e | e <;> rw [e]
    · rcases rem3p (((i1).toUInt32 >>> ((24 : Int32) &&& 31).toUInt32).toInt32) with f | f | f <;> rw [f]
      · exact law_t01 hw hcs hfm l5 l12 (i2c_mask_lat _) (i2c_mask_lat _) (i2c_mask_lat _) a6 b7 a13 b14 c15
      · exact law_t02 hw hcs hfm l5 l12 (i2c_mask_lat _) (i2c_mask_lat _) (i2c_mask_lat _) a6 b7 a13 b14 c15
      · exact law_t03 hw hcs hfm l5 l12 (i2c_mask_lat _) (i2c_mask_lat _) (i2c_mask_lat _) a6 b7 a13 b14 c15
    · rcases rem3p (((i1).toUInt32 >>> ((24 : Int32) &&& 31).toUInt32).toInt32) with f | f | f <;> rw [f]
      · exact law_t11 hw hcs hfm l5 l12 (i2c_mask_lat _) (i2c_mask_lat _) (i2c_mask_lat _) a6 b7 a13 b14 c15
      · exact law_t12 hw hcs hfm l5 l12 (i2c_mask_lat _) (i2c_mask_lat _) (i2c_mask_lat _) a6 b7 a13 b14 c15
      · exact law_t13 hw hcs hfm l5 l12 (i2c_mask_lat _) (i2c_mask_lat _) (i2c_mask_lat _) a6 b7 a13 b14 c15
    · rcases rem3p (((i1).toUInt32 >>> ((24 : Int32) &&& 31).toUInt32).toInt32) with f | f | f <;> rw [f]
      · exact law_t21 hw hcs hfm l5 l12 (i2c_mask_lat _) (i2c_mask_lat _) (i2c_mask_lat _) a6 b7 a13 b14 c15
      · exact law_t22 hw hcs hfm l5 l12 (i2c_mask_lat _) (i2c_mask_lat _) (i2c_mask_lat _) a6 b7 a13 b14 c15
      · exact law_t23 hw hcs hfm l5 l12 (i2c_mask_lat _) (i2c_mask_lat _) (i2c_mask_lat _) a6 b7 a13 b14 c15
/-! from the case's words to the law's walk, and the owed theorems -/
set_option maxRecDepth 65536 in
set_option maxHeartbeats 40000000 in
theorem comes_1 {Post : Tables → Env → Array Value → State → Outcome → State → Prop} (hpost : ∀ tb e args s v u, (limb_1_1.after args s (.returned v) u = true ∧ limb_1_2.after args s (.returned v) u = true ∧ True) → ReturnedEndW s (.returned v) u (Jvm.fieldLocs frame_1_writes args s ++ Jvm.arrayLocs frame_1_arrays args s ++ Jvm.staticLocs frame_1_statics s) 56 6464 → Post tb e args s (.returned v) u) :
    ArmFor flags0 classFile x code maxLocals ret World_1 tables_1 room_1 Calls_1 rest_1 Pre_1 Post := by
  intro l hfl _ _ p e ha hc hk s m args below hf hA hF happ hP
  obtain ⟨hcalls, hrest, hpre⟩ := hP
  obtain ⟨-, -, -, hnamed, -, -, -, hat⟩ := (Spec.applies_iff hf).mp happ
  obtain ⟨hg, hn⟩ := and_e (Cond.before_iff.mp (show (Jvm.Cond.and given_1 narrow_1).before args s = true from hpre))
  obtain ⟨g0, r0⟩ := and_e hg
  obtain ⟨g1, r1⟩ := and_e r0
  obtain ⟨w0_, w1_, rfl⟩ : ∃ w0_ w1_ : Value, args = #[w0_, w1_] := by
    have hs : args.size = 2 := by simpa [Cond.value, given_1] using g0
    obtain ⟨L⟩ := args
    match L, hs with
    | [w0_, w1_], _ => exact ⟨w0_, w1_, rfl⟩
  have hw := fun d (hd : d ∈ tables_1) => atoms_spec (ws := Jvm.Cond.code x code maxLocals ret :: tables_1) hat d (List.mem_cons_of_mem _ hd)
  obtain ⟨hsets, hown0⟩ := atoms_of _ (rest_1_c_eq ▸ (show rest_1_c.before _ s = true from hrest))
  obtain ⟨i0, ei0⟩ := is_v g1
  obtain rfl : w0_ = (.int i0) := Option.some.inj ei0
  obtain ⟨i1, ei1⟩ := is_v r1
  obtain rfl : w1_ = (.int i1) := Option.some.inj ei1
  have hcw : Jvm.Lit.compactW.before _ s = true := hsets _ (List.mem_of_getElem? (i := 2) rfl)
  have hcs : CSon s := by
    obtain ⟨cst, ev⟩ := is_v (Cond.before_iff.mp (hsets _ (List.mem_of_getElem? (i := 1) rfl)))
    refine ⟨cst, Sta.start ev (Or.inl (hsets _ (List.mem_of_getElem? (i := 0) rfl))), fun q => ?_⟩
    have h1 := not_v (Cond.before_iff.mp (hsets _ (List.mem_of_getElem? (i := 2) rfl)))
    rw [eq_i ev (Term.int_eval 0) (by rw [q])] at h1
    cases h1
  have hfm : Fmt s := by
    obtain ⟨f, ef, rf⟩ := isR_v (Cond.before_iff.mp (hsets _ (List.mem_of_getElem? (i := 8) rfl)))
    exact ⟨f, Sta.start ef (Or.inl (hsets _ (List.mem_of_getElem? (i := 7) rfl))), rf⟩
  obtain ⟨n, o, h1, h2, h3, v, L, rfl, ⟨hq, N⟩, -, hE, hH, -⟩ := law_met (l := l) (Z := s) hw hcs hfm i0 i1  p e ha hc hk s m _ below hf ((Spec.applies_iff_loose hf).mp happ).1 ⟨rfl, State.Warmed39.refl s, rfl, CHv.start (own_hEL hw) (fun q hq => hcalls.1 q hq) hcw (w19 hw) (w5 hw), ext_rfl _, Mine.nil⟩ trivial
  subst hq
  exact ⟨n, _, h1, h2, h3, hpost _ _ _ _ _ _ ⟨Cond.after_iff.mpr rfl, Cond.after_iff.mpr (eq_i res_at (Term.int_eval (1)) rfl), trivial⟩ ⟨hE.1, hE.2.1, hE.2.2.1, (hE.2.2.2.sift fun y hy => Or.inr (N y hy)).mono (by decide) (by decide)⟩⟩
theorem main_1_1 : Claimed_1_1 := comes_1 fun _ _ _ _ _ _ h hF => ⟨h.1, hF⟩
theorem main_1_2 : Claimed_1_2 := comes_1 fun _ _ _ _ _ _ h hF => ⟨h.2.1, hF⟩

end Jvm.Pilot.@@N@@
namespace Jvm.Pilot.@@N@@
open Jvm Jvm.ClassFile Sem Op Lib Jvm.Free Jvm.Stand Jvm.Pilot.@@N@@.Jvm.D
/-! MADE BY PROGRAM (witnessworld.py) out of the Statement's table words and the real class files: 27 classes; the members and pool entries that the words name. The judged class is class 1, her method 1. -/
namespace start1
open Jvm.ClassFile
def u (s : String) : CpInfo := .utf8 (stringToUtf16 s)
/-- a pool by its gaps: so many unusable entries, then the entry; so many at the end -/
def gap : Nat → List CpInfo → List CpInfo
  | 0, r => r
  | n + 1, r => .unusable :: gap n r
def poolList (es : List (Nat × CpInfo)) (last : Nat) : List CpInfo := es.foldr (fun e r => gap e.1 (e.2 :: r)) (gap last [])
def pool (es : List (Nat × CpInfo)) (last : Nat) : Array CpInfo := ⟨poolList es last⟩
def fileOf (pool : Array CpInfo) (this : Nat) (attrs : Array Attribute := #[]) (ms : Array MethodInfo := #[]) (fl : Nat := 33) (sup : Nat := 0) (ifs : Array Nat := #[]) (fds : Array FieldInfo := #[]) : ClassFile where
  minorVersion := 0
  majorVersion := 65
  constantPool := pool
  accessFlags := fl
  thisClass := this
  superClass := sup
  interfaces := ifs
  fields := fds
  methods := ms
  attributes := attrs
def plain (name : String) (sup : Option ClassId) : Class where
  name := name
  kind := .ordinary
  loader := none
  accessFlags := 33
  super := sup
  interfaces := #[]
  cf := none
  fields := #[]
  methods := #[]
  instanceTypes := #[]
  staticTypes := #[]
  resolved := #[]
  callSites := []
  init := .initialized
  statics := none
  mirror := none

def pool0 : Array CpInfo := pool [(5, u "<init>"), (0, u "()V"), (1, .class_ 10), (1, u "java/lang/Object")] 113

def k0c0 : Code := { maxStack := 0, maxLocals := 1, code := object_method_1_code, exceptionTable := #[], attributes := #[] }
def k0m0 : Method := { name := "<init>", desc := "()V", sig := { parameters := [], returnType := none }, accessFlags := 1, code := some k0c0 }
/-- java/lang/Object -/
def k0 : Class := { plain "java/lang/Object" none with
  accessFlags := 33
  interfaces := #[]
  cf := some (fileOf pool0 8 #[] #[{ accessFlags := 1, nameIndex := 5, descriptorIndex := 6, attributes := #[] }] 33 0 #[] #[])
  fields := #[]
  methods := #[k0m0]
  instanceTypes := #[]
  staticTypes := #[]
  resolved := Array.replicate 124 none
  statics := none }

def pool1 : Array CpInfo := pool [(2, .class_ 4), (1, u "java/lang/Object"), (0, u "<init>"), (0, u "()V"), (0, .methodref 8 9), (0, .class_ 10), (0, .nameAndType 11 12), (0, u "com/example/portunus/portunus/LockKeysFenceKeyPinLaw"), (0, u "noBrace"), (0, u "(C)C"), (0, .class_ 14), (0, u "java/lang/String"), (0, .methodref 13 16), (0, .nameAndType 5 17), (0, u "([C)V"), (0, .class_ 19), (0, u "com/example/portunus/portunus/LockKeys"), (0, .methodref 18 21), (0, .nameAndType 5 22), (0, u "(Ljava/lang/String;)V"), (0, .methodref 18 24), (0, .nameAndType 25 26), (0, u "fenceKey"), (0, u "(Ljava/lang/String;)Ljava/lang/String;"), (0, .methodref 13 28), (0, .nameAndType 29 30), (0, u "length"), (0, u "()I"), (0, .methodref 8 32), (0, .nameAndType 33 34), (0, u "at"), (0, u "(Ljava/lang/String;[CII)Z"), (0, .methodref 13 36), (0, .nameAndType 37 38), (0, u "charAt"), (0, u "(I)C"), (2, u "law"), (0, u "(II)Z")] 5

def k1m0 : Method := { name := "<init>", desc := "()V", sig := { parameters := [], returnType := none }, accessFlags := 1, code := none }
def k1c1 : Code := { maxStack := 6, maxLocals := 14, code := code, exceptionTable := #[], attributes := #[] }
def k1m1 : Method := { name := "law", desc := "(II)Z", sig := { parameters := [.int, .int], returnType := some .boolean }, accessFlags := 9, code := some k1c1 }
def k1c2 : Code := { maxStack := 2, maxLocals := 1, code := method_3_code, exceptionTable := #[], attributes := #[] }
def k1m2 : Method := { name := "noBrace", desc := "(C)C", sig := { parameters := [.char], returnType := some .char }, accessFlags := 10, code := some k1c2 }
def k1c3 : Code := { maxStack := 3, maxLocals := 4, code := method_4_code, exceptionTable := #[], attributes := #[] }
def k1m3 : Method := { name := "at", desc := "(Ljava/lang/String;[CII)Z", sig := { parameters := [(.object "java/lang/String"), (.array .char), .int, .int], returnType := some .boolean }, accessFlags := 10, code := some k1c3 }
/-- com/example/portunus/portunus/LockKeysFenceKeyPinLaw -/
def k1 : Class := { plain "com/example/portunus/portunus/LockKeysFenceKeyPinLaw" (some 0) with
  accessFlags := 49
  interfaces := #[]
  cf := some (fileOf pool1 8 #[] #[{ accessFlags := 1, nameIndex := 5, descriptorIndex := 6, attributes := #[] }, { accessFlags := 9, nameIndex := 41, descriptorIndex := 42, attributes := #[] }, { accessFlags := 10, nameIndex := 11, descriptorIndex := 12, attributes := #[] }, { accessFlags := 10, nameIndex := 33, descriptorIndex := 34, attributes := #[] }] 49 2 #[] #[])
  fields := #[]
  methods := #[k1m0, k1m1, k1m2, k1m3]
  instanceTypes := #[]
  staticTypes := #[]
  resolved := Array.replicate 48 none
  statics := none }

def pool2 : Array CpInfo := pool [(1, .class_ 2), (0, u "java/io/Serializable"), (0, .class_ 4), (0, u "java/lang/Object")] 2

/-- java/io/Serializable -/
def k2 : Class := { plain "java/io/Serializable" (some 0) with
  accessFlags := 1537
  interfaces := #[]
  cf := some (fileOf pool2 1 #[] #[] 1537 3 #[] #[])
  fields := #[]
  methods := #[]
  instanceTypes := #[]
  staticTypes := #[]
  resolved := Array.replicate 7 none
  statics := none }

def pool3 : Array CpInfo := pool [(1, .class_ 2), (0, u "java/lang/Comparable"), (0, .class_ 4), (0, u "java/lang/Object")] 7

/-- java/lang/Comparable -/
def k3 : Class := { plain "java/lang/Comparable" (some 0) with
  accessFlags := 1537
  interfaces := #[]
  cf := some (fileOf pool3 1 #[] #[] 1537 3 #[] #[])
  fields := #[]
  methods := #[]
  instanceTypes := #[]
  staticTypes := #[]
  resolved := Array.replicate 12 none
  statics := none }

def pool4 : Array CpInfo := pool [(2, .class_ 4), (1, u "java/lang/CharSequence"), (42, .class_ 48), (0, u "java/lang/CharSequence$1CodePointIterator"), (10, .class_ 60), (0, u "java/lang/CharSequence$1CharIterator"), (5, .class_ 67), (0, u "java/lang/Object")] 63

/-- java/lang/CharSequence -/
def k4 : Class := { plain "java/lang/CharSequence" (some 0) with
  accessFlags := 1537
  interfaces := #[]
  cf := some (fileOf pool4 2 #[.nestMembers #[47, 59]] #[] 1537 66 #[] #[])
  fields := #[]
  methods := #[]
  instanceTypes := #[]
  staticTypes := #[]
  resolved := Array.replicate 131 none
  statics := none }

def pool5 : Array CpInfo := pool [(1, .class_ 2), (0, u "java/lang/constant/Constable"), (0, .class_ 4), (0, u "java/lang/Object")] 6

/-- java/lang/constant/Constable -/
def k5 : Class := { plain "java/lang/constant/Constable" (some 0) with
  accessFlags := 1537
  interfaces := #[]
  cf := some (fileOf pool5 1 #[] #[] 1537 3 #[] #[])
  fields := #[]
  methods := #[]
  instanceTypes := #[]
  staticTypes := #[]
  resolved := Array.replicate 11 none
  statics := none }

def pool6 : Array CpInfo := pool [(1, .class_ 2), (0, u "java/lang/constant/ConstantDesc"), (0, .class_ 4), (0, u "java/lang/Object")] 32

/-- java/lang/constant/ConstantDesc -/
def k6 : Class := { plain "java/lang/constant/ConstantDesc" (some 0) with
  accessFlags := 1537
  interfaces := #[]
  cf := some (fileOf pool6 1 #[] #[] 1537 3 #[] #[])
  fields := #[]
  methods := #[]
  instanceTypes := #[]
  staticTypes := #[]
  resolved := Array.replicate 37 none
  statics := none }

def pool7 : Array CpInfo := pool [(1, .methodref 2 3), (0, .class_ 4), (0, .nameAndType 5 6), (0, u "java/lang/Object"), (0, u "<init>"), (0, u "()V"), (0, .string 8), (0, u ""), (0, .fieldref 10 11), (0, .class_ 12), (0, .nameAndType 13 14), (0, u "java/lang/String"), (0, u "value"), (0, u "[B"), (0, .fieldref 10 16), (0, .nameAndType 17 18), (0, u "coder"), (0, u "B"), (2, u "hash"), (0, u "I"), (2, u "hashIsZero"), (0, u "Z"), (0, .methodref 10 28), (0, .nameAndType 5 29), (0, u "([CIILjava/lang/Void;)V"), (8, .fieldref 10 39), (0, .nameAndType 40 26), (0, u "COMPACT_STRINGS"), (1, .class_ 44), (1, u "java/lang/StringUTF16"), (0, u "compress"), (1, .methodref 42 48), (0, .nameAndType 49 50), (0, u "coderFromArrayLen"), (0, u "([BI)B"), (3, .methodref 55 56), (0, .class_ 57), (0, .nameAndType 58 59), (0, u "java/util/Arrays"), (0, u "copyOfRange"), (0, u "([BII)[B"), (47, .class_ 109), (1, u "java/lang/StringLatin1"), (32, u "()Z"), (34, .methodref 42 178), (0, .nameAndType 45 179), (0, u "([CII)[B"), (13, .class_ 195), (1, u "java/lang/System"), (16, .methodref 193 213), (0, .nameAndType 214 215), (0, u "arraycopy"), (0, u "(Ljava/lang/Object;ILjava/lang/Object;II)V"), (118, u "()I"), (0, .methodref 10 336), (0, .nameAndType 17 337), (0, u "()B"), (2, u "()[B"), (22, u "([BI)C"), (27, u "(II)V"), (35, u "(I)C"), (61, .methodref 10 490), (0, .nameAndType 5 491), (0, u "(Ljava/lang/AbstractStringBuilder;Ljava/lang/Void;)V"), (0, .methodref 10 493), (0, .nameAndType 494 142), (0, u "isLatin1"), (0, .methodref 107 496), (0, .nameAndType 497 363), (0, u "charAt"), (3, u "checkIndex"), (3, .methodref 10 506), (0, .nameAndType 507 334), (0, u "length"), (24, u "getBytes"), (16, .methodref 550 506), (0, .class_ 551), (0, u "java/lang/AbstractStringBuilder"), (0, .methodref 550 553), (0, .nameAndType 554 340), (0, u "getValue"), (20, .class_ 576), (0, u "java/lang/CharSequence"), (22, u "CASE_INSENSITIVE_ORDER"), (0, u "Ljava/util/Comparator;"), (32, .methodref 10 634), (0, .nameAndType 635 636), (0, u "indexOf"), (0, u "(II)I"), (0, .methodref 107 638), (0, .nameAndType 635 639), (0, u "([BIII)I"), (52, u "isEmpty"), (72, u "(I)I"), (55, u "([BIB)V"), (188, u "([C)V"), (36, .methodref 550 493), (5, .fieldref 1054 1055), (0, .class_ 1056), (0, .nameAndType 1057 1058), (0, u "jdk/internal/util/Preconditions"), (0, u "SIOOBE_FORMATTER"), (0, u "Ljava/util/function/BiFunction;"), (0, .methodref 1054 1060), (0, .nameAndType 501 1061), (0, u "(IILjava/util/function/BiFunction;)I"), (39, u "serialPersistentFields"), (0, u "[Ljava/io/ObjectStreamField;"), (0, .class_ 1104), (0, u "java/lang/String$CaseInsensitiveComparator"), (1, .class_ 1107), (0, u "java/io/Serializable"), (0, .class_ 1109), (0, u "java/lang/Comparable"), (0, .class_ 1111), (0, u "java/lang/constant/Constable"), (0, .class_ 1113), (0, u "java/lang/constant/ConstantDesc"), (2, u "serialVersionUID"), (0, u "J"), (3, u "REPL"), (0, u "C"), (2, u "LATIN1"), (1, u "UTF16"), (105, u "(Ljava/lang/StringBuilder;)V")] 217

def k7m0 : Method := { name := "<init>", desc := "()V", sig := { parameters := [], returnType := none }, accessFlags := 1, code := none }
def k7c1 : Code := { maxStack := 5, maxLocals := 2, code := jdk_42_method_3_code, exceptionTable := #[], attributes := #[] }
def k7m1 : Method := { name := "<init>", desc := "([C)V", sig := { parameters := [(.array .char)], returnType := none }, accessFlags := 1, code := some k7c1 }
def k7c2 : Code := { maxStack := 3, maxLocals := 2, code := jdk_42_method_53_code, exceptionTable := #[], attributes := #[] }
def k7m2 : Method := { name := "<init>", desc := "(Ljava/lang/StringBuilder;)V", sig := { parameters := [(.object "java/lang/StringBuilder")], returnType := none }, accessFlags := 1, code := some k7c2 }
def k7c3 : Code := { maxStack := 2, maxLocals := 1, code := jdk_42_method_54_code, exceptionTable := #[], attributes := #[] }
def k7m3 : Method := { name := "length", desc := "()I", sig := { parameters := [], returnType := some .int }, accessFlags := 1, code := some k7c3 }
def k7c4 : Code := { maxStack := 1, maxLocals := 1, code := jdk_42_method_55_code, exceptionTable := #[], attributes := #[] }
def k7m4 : Method := { name := "isEmpty", desc := "()Z", sig := { parameters := [], returnType := some .boolean }, accessFlags := 1, code := some k7c4 }
def k7c5 : Code := { maxStack := 2, maxLocals := 2, code := jdk_42_method_56_code, exceptionTable := #[], attributes := #[] }
def k7m5 : Method := { name := "charAt", desc := "(I)C", sig := { parameters := [.int], returnType := some .char }, accessFlags := 1, code := some k7c5 }
def k7c6 : Code := { maxStack := 3, maxLocals := 2, code := jdk_42_method_79_code, exceptionTable := #[], attributes := #[] }
def k7m6 : Method := { name := "indexOf", desc := "(I)I", sig := { parameters := [.int], returnType := some .int }, accessFlags := 1, code := some k7c6 }
def k7c7 : Code := { maxStack := 4, maxLocals := 3, code := jdk_42_method_80_code, exceptionTable := #[], attributes := #[] }
def k7m7 : Method := { name := "indexOf", desc := "(II)I", sig := { parameters := [.int, .int], returnType := some .int }, accessFlags := 1, code := some k7c7 }
def k7c8 : Code := { maxStack := 5, maxLocals := 4, code := jdk_42_method_147_code, exceptionTable := #[], attributes := #[] }
def k7m8 : Method := { name := "getBytes", desc := "([BIB)V", sig := { parameters := [(.array .byte), .int, .byte], returnType := none }, accessFlags := 0, code := some k7c8 }
def k7c9 : Code := { maxStack := 4, maxLocals := 6, code := jdk_42_method_149_code, exceptionTable := #[], attributes := #[] }
def k7m9 : Method := { name := "<init>", desc := "([CIILjava/lang/Void;)V", sig := { parameters := [(.array .char), .int, .int, (.object "java/lang/Void")], returnType := none }, accessFlags := 2, code := some k7c9 }
def k7c10 : Code := { maxStack := 5, maxLocals := 5, code := jdk_42_method_150_code, exceptionTable := #[], attributes := #[] }
def k7m10 : Method := { name := "<init>", desc := "(Ljava/lang/AbstractStringBuilder;Ljava/lang/Void;)V", sig := { parameters := [(.object "java/lang/AbstractStringBuilder"), (.object "java/lang/Void")], returnType := none }, accessFlags := 0, code := some k7c10 }
def k7c11 : Code := { maxStack := 1, maxLocals := 1, code := jdk_42_method_152_code, exceptionTable := #[], attributes := #[] }
def k7m11 : Method := { name := "coder", desc := "()B", sig := { parameters := [], returnType := some .byte }, accessFlags := 0, code := some k7c11 }
def k7c12 : Code := { maxStack := 1, maxLocals := 1, code := jdk_42_method_154_code, exceptionTable := #[], attributes := #[] }
def k7m12 : Method := { name := "isLatin1", desc := "()Z", sig := { parameters := [], returnType := some .boolean }, accessFlags := 0, code := some k7c12 }
def k7c13 : Code := { maxStack := 3, maxLocals := 2, code := jdk_42_method_155_code, exceptionTable := #[], attributes := #[] }
def k7m13 : Method := { name := "checkIndex", desc := "(II)V", sig := { parameters := [.int, .int], returnType := none }, accessFlags := 8, code := some k7c13 }
/-- java/lang/String -/
def k7 : Class := { plain "java/lang/String" (some 0) with
  accessFlags := 49
  interfaces := #[2, 3, 4, 5, 6]
  cf := some (fileOf pool7 10 #[.nestMembers #[1103]] #[{ accessFlags := 1, nameIndex := 5, descriptorIndex := 6, attributes := #[] }, { accessFlags := 1, nameIndex := 5, descriptorIndex := 1010, attributes := #[] }, { accessFlags := 1, nameIndex := 5, descriptorIndex := 1233, attributes := #[] }, { accessFlags := 1, nameIndex := 507, descriptorIndex := 334, attributes := #[] }, { accessFlags := 1, nameIndex := 692, descriptorIndex := 142, attributes := #[] }, { accessFlags := 1, nameIndex := 497, descriptorIndex := 427, attributes := #[] }, { accessFlags := 1, nameIndex := 635, descriptorIndex := 765, attributes := #[] }, { accessFlags := 1, nameIndex := 635, descriptorIndex := 636, attributes := #[] }, { accessFlags := 0, nameIndex := 532, descriptorIndex := 821, attributes := #[] }, { accessFlags := 2, nameIndex := 5, descriptorIndex := 29, attributes := #[] }, { accessFlags := 0, nameIndex := 5, descriptorIndex := 491, attributes := #[] }, { accessFlags := 0, nameIndex := 17, descriptorIndex := 337, attributes := #[] }, { accessFlags := 0, nameIndex := 494, descriptorIndex := 142, attributes := #[] }, { accessFlags := 8, nameIndex := 501, descriptorIndex := 391, attributes := #[] }] 49 2 #[1106, 1108, 575, 1110, 1112] #[{ accessFlags := 18, nameIndex := 13, descriptorIndex := 14, attributes := #[] }, { accessFlags := 18, nameIndex := 17, descriptorIndex := 18, attributes := #[] }, { accessFlags := 2, nameIndex := 21, descriptorIndex := 22, attributes := #[] }, { accessFlags := 2, nameIndex := 25, descriptorIndex := 26, attributes := #[] }, { accessFlags := 26, nameIndex := 1116, descriptorIndex := 1117, attributes := #[] }, { accessFlags := 24, nameIndex := 40, descriptorIndex := 26, attributes := #[] }, { accessFlags := 26, nameIndex := 1101, descriptorIndex := 1102, attributes := #[] }, { accessFlags := 26, nameIndex := 1121, descriptorIndex := 1122, attributes := #[] }, { accessFlags := 25, nameIndex := 599, descriptorIndex := 600, attributes := #[] }, { accessFlags := 24, nameIndex := 1125, descriptorIndex := 18, attributes := #[] }, { accessFlags := 24, nameIndex := 1127, descriptorIndex := 18, attributes := #[] }])
  fields := #[{ name := "value", type := (.array .byte), accessFlags := 18, slot := 0, constantValue := 0 }, { name := "coder", type := .byte, accessFlags := 18, slot := 1, constantValue := 0 }, { name := "hash", type := .int, accessFlags := 2, slot := 2, constantValue := 0 }, { name := "hashIsZero", type := .boolean, accessFlags := 2, slot := 3, constantValue := 0 }, { name := "serialVersionUID", type := .long, accessFlags := 26, slot := 0, constantValue := 0 }, { name := "COMPACT_STRINGS", type := .boolean, accessFlags := 24, slot := 1, constantValue := 0 }, { name := "serialPersistentFields", type := (.array (.object "java/io/ObjectStreamField")), accessFlags := 26, slot := 2, constantValue := 0 }, { name := "REPL", type := .char, accessFlags := 26, slot := 3, constantValue := 0 }, { name := "CASE_INSENSITIVE_ORDER", type := (.object "java/util/Comparator"), accessFlags := 25, slot := 4, constantValue := 0 }, { name := "LATIN1", type := .byte, accessFlags := 24, slot := 5, constantValue := 0 }, { name := "UTF16", type := .byte, accessFlags := 24, slot := 6, constantValue := 0 }]
  methods := #[k7m0, k7m1, k7m2, k7m3, k7m4, k7m5, k7m6, k7m7, k7m8, k7m9, k7m10, k7m11, k7m12, k7m13]
  instanceTypes := #[(.array .byte), .byte, .int, .boolean]
  staticTypes := #[.long, .boolean, (.array (.object "java/io/ObjectStreamField")), .char, (.object "java/util/Comparator"), .byte, .byte]
  resolved := Array.replicate 1451 none
  statics := some 0 }

def pool8 : Array CpInfo := pool [(6, .class_ 8), (1, u "java/lang/Object"), (0, u "<init>"), (0, u "()V"), (1, .class_ 14), (1, u "java/lang/StringUTF16"), (31, u "$assertionsDisabled"), (0, u "Z"), (13, u "HI_BYTE_SHIFT"), (0, u "I"), (2, u "LO_BYTE_SHIFT"), (49, .methodref 12 116), (0, .nameAndType 117 118), (0, u "compress"), (0, u "([CI[BII)I"), (3, u "([CII)[B"), (138, u "coderFromArrayLen"), (0, u "([BI)B"), (106, .class_ 371), (1, u "java/lang/StringUTF16$LinesSpliterator"), (58, u "MAX_LENGTH"), (196, .class_ 628), (0, u "java/lang/StringUTF16$CodePointsSpliterator"), (0, .class_ 630), (0, u "java/lang/StringUTF16$CharsSpliterator")] 4

def k8m0 : Method := { name := "<init>", desc := "()V", sig := { parameters := [], returnType := none }, accessFlags := 0, code := none }
def k8c1 : Code := { maxStack := 2, maxLocals := 2, code := jdk_52_method_15_code, exceptionTable := #[], attributes := #[] }
def k8m1 : Method := { name := "coderFromArrayLen", desc := "([BI)B", sig := { parameters := [(.array .byte), .int], returnType := some .byte }, accessFlags := 8, code := some k8c1 }
def k8c2 : Code := { maxStack := 5, maxLocals := 6, code := jdk_52_method_16_code, exceptionTable := #[], attributes := #[] }
def k8m2 : Method := { name := "compress", desc := "([CII)[B", sig := { parameters := [(.array .char), .int, .int], returnType := some (.array .byte) }, accessFlags := 9, code := some k8c2 }
def k8c3 : Code := { maxStack := 3, maxLocals := 7, code := jdk_52_method_21_code, exceptionTable := #[], attributes := #[] }
def k8m3 : Method := { name := "compress", desc := "([CI[BII)I", sig := { parameters := [(.array .char), .int, (.array .byte), .int, .int], returnType := some .int }, accessFlags := 9, code := some k8c3 }
/-- java/lang/StringUTF16 -/
def k8 : Class := { plain "java/lang/StringUTF16" (some 0) with
  accessFlags := 48
  interfaces := #[]
  cf := some (fileOf pool8 12 #[.nestMembers #[627, 629, 369]] #[{ accessFlags := 0, nameIndex := 9, descriptorIndex := 10, attributes := #[] }, { accessFlags := 8, nameIndex := 261, descriptorIndex := 262, attributes := #[] }, { accessFlags := 9, nameIndex := 117, descriptorIndex := 122, attributes := #[] }, { accessFlags := 9, nameIndex := 117, descriptorIndex := 118, attributes := #[] }] 48 6 #[] #[{ accessFlags := 26, nameIndex := 61, descriptorIndex := 62, attributes := #[] }, { accessFlags := 26, nameIndex := 65, descriptorIndex := 62, attributes := #[] }, { accessFlags := 24, nameIndex := 430, descriptorIndex := 62, attributes := #[] }, { accessFlags := 4120, nameIndex := 46, descriptorIndex := 47, attributes := #[] }])
  fields := #[{ name := "HI_BYTE_SHIFT", type := .int, accessFlags := 26, slot := 0, constantValue := 0 }, { name := "LO_BYTE_SHIFT", type := .int, accessFlags := 26, slot := 1, constantValue := 0 }, { name := "MAX_LENGTH", type := .int, accessFlags := 24, slot := 2, constantValue := 0 }, { name := "$assertionsDisabled", type := .boolean, accessFlags := 4120, slot := 3, constantValue := 0 }]
  methods := #[k8m0, k8m1, k8m2, k8m3]
  instanceTypes := #[]
  staticTypes := #[.int, .int, .int, .boolean]
  resolved := Array.replicate 635 none
  statics := none }

def pool9 : Array CpInfo := pool [(1, .methodref 2 3), (0, .class_ 4), (0, .nameAndType 5 6), (0, u "java/lang/Object"), (0, u "<init>"), (0, u "()V"), (0, .string 8), (0, u "prefix"), (0, .methodref 10 11), (0, .class_ 12), (0, .nameAndType 13 14), (0, u "java/util/Objects"), (0, u "requireNonNull"), (0, u "(Ljava/lang/Object;Ljava/lang/String;)Ljava/lang/Object;"), (0, .methodref 16 17), (0, .class_ 18), (0, .nameAndType 19 20), (0, u "java/lang/String"), (0, u "indexOf"), (0, u "(I)I"), (2, .class_ 24), (0, u "java/lang/StringBuilder"), (0, .methodref 23 3), (2, .methodref 23 29), (0, .nameAndType 30 31), (0, u "append"), (0, u "(Ljava/lang/String;)Ljava/lang/StringBuilder;"), (0, .methodref 23 33), (0, .nameAndType 34 35), (0, u "toString"), (0, u "()Ljava/lang/String;"), (2, u "(Ljava/lang/String;)V"), (0, .fieldref 40 41), (0, .class_ 42), (0, .nameAndType 8 43), (0, u "com/example/portunus/portunus/LockKeys"), (0, u "Ljava/lang/String;"), (2, .methodref 40 47), (0, .nameAndType 48 49), (0, u "braced"), (0, u "(Ljava/lang/String;)Ljava/lang/String;"), (0, .string 51), (0, u "fence:"), (8, .string 61), (0, u "name"), (0, .methodref 16 63), (0, .nameAndType 64 65), (0, u "isEmpty"), (0, u "()Z"), (0, .methodref 16 67), (0, .nameAndType 68 69), (0, u "charAt"), (0, u "(I)C"), (2, .string 73), (0, u "{"), (0, .string 75), (0, u "}"), (0, u "DEFAULT_PREFIX"), (7, u "fenceKey")] 6

def k9c0 : Code := { maxStack := 4, maxLocals := 2, code := prog_6_method_1_code, exceptionTable := #[], attributes := #[] }
def k9m0 : Method := { name := "<init>", desc := "(Ljava/lang/String;)V", sig := { parameters := [(.object "java/lang/String")], returnType := none }, accessFlags := 0, code := some k9c0 }
def k9c1 : Code := { maxStack := 2, maxLocals := 2, code := prog_6_method_3_code, exceptionTable := #[], attributes := #[] }
def k9m1 : Method := { name := "fenceKey", desc := "(Ljava/lang/String;)Ljava/lang/String;", sig := { parameters := [(.object "java/lang/String")], returnType := some (.object "java/lang/String") }, accessFlags := 0, code := some k9c1 }
def k9c2 : Code := { maxStack := 4, maxLocals := 1, code := prog_6_method_8_code, exceptionTable := #[], attributes := #[] }
def k9m2 : Method := { name := "braced", desc := "(Ljava/lang/String;)Ljava/lang/String;", sig := { parameters := [(.object "java/lang/String")], returnType := some (.object "java/lang/String") }, accessFlags := 10, code := some k9c2 }
/-- com/example/portunus/portunus/LockKeys -/
def k9 : Class := { plain "com/example/portunus/portunus/LockKeys" (some 0) with
  accessFlags := 48
  interfaces := #[]
  cf := some (fileOf pool9 40 #[] #[{ accessFlags := 0, nameIndex := 5, descriptorIndex := 38, attributes := #[] }, { accessFlags := 0, nameIndex := 84, descriptorIndex := 49, attributes := #[] }, { accessFlags := 10, nameIndex := 48, descriptorIndex := 49, attributes := #[] }] 48 2 #[] #[{ accessFlags := 24, nameIndex := 76, descriptorIndex := 43, attributes := #[] }, { accessFlags := 18, nameIndex := 8, descriptorIndex := 43, attributes := #[] }])
  fields := #[{ name := "DEFAULT_PREFIX", type := (.object "java/lang/String"), accessFlags := 24, slot := 0, constantValue := 0 }, { name := "prefix", type := (.object "java/lang/String"), accessFlags := 18, slot := 0, constantValue := 0 }]
  methods := #[k9m0, k9m1, k9m2]
  instanceTypes := #[(.object "java/lang/String")]
  staticTypes := #[(.object "java/lang/String")]
  resolved := Array.replicate 91 none
  statics := none }

def pool10 : Array CpInfo := pool [(2, .class_ 4), (1, u "java/lang/Object"), (0, u "<init>"), (0, u "()V"), (35, .class_ 44), (1, u "java/util/Objects"), (0, u "requireNonNull"), (48, u "(Ljava/lang/Object;Ljava/lang/String;)Ljava/lang/Object;")] 89

def k10m0 : Method := { name := "<init>", desc := "()V", sig := { parameters := [], returnType := none }, accessFlags := 2, code := none }
def k10c1 : Code := { maxStack := 3, maxLocals := 2, code := jdk_31_method_11_code, exceptionTable := #[], attributes := #[] }
def k10m1 : Method := { name := "requireNonNull", desc := "(Ljava/lang/Object;Ljava/lang/String;)Ljava/lang/Object;", sig := { parameters := [(.object "java/lang/Object"), (.object "java/lang/String")], returnType := some (.object "java/lang/Object") }, accessFlags := 9, code := some k10c1 }
/-- java/util/Objects -/
def k10 : Class := { plain "java/util/Objects" (some 0) with
  accessFlags := 49
  interfaces := #[]
  cf := some (fileOf pool10 42 #[] #[{ accessFlags := 2, nameIndex := 5, descriptorIndex := 6, attributes := #[] }, { accessFlags := 9, nameIndex := 45, descriptorIndex := 94, attributes := #[] }] 49 2 #[] #[])
  fields := #[]
  methods := #[k10m0, k10m1]
  instanceTypes := #[]
  staticTypes := #[]
  resolved := Array.replicate 184 none
  statics := none }

def pool11 : Array CpInfo := pool [(1, .class_ 2), (0, u "java/lang/String"), (1, .class_ 6), (1, u "java/lang/Object"), (0, u "<init>"), (0, u "()V"), (0, .methodref 1 10), (0, .nameAndType 11 12), (0, u "checkIndex"), (0, u "(II)V"), (1, .class_ 16), (1, u "java/lang/StringLatin1"), (21, .methodref 39 40), (0, .class_ 41), (0, .nameAndType 42 43), (0, u "java/lang/Math"), (0, u "min"), (0, u "(II)I"), (9, u "([BI)C"), (34, .methodref 14 89), (0, .nameAndType 90 91), (0, u "canEncode"), (0, u "(I)Z"), (0, .methodref 39 93), (0, .nameAndType 94 43), (0, u "max"), (0, .methodref 14 96), (0, .nameAndType 97 98), (0, u "indexOfChar"), (0, u "([BIII)I"), (2, u "indexOf"), (19, u "$assertionsDisabled"), (0, u "Z"), (98, .class_ 223), (1, u "java/lang/StringLatin1$LinesSpliterator"), (28, u "charAt"), (137, .class_ 391), (0, u "java/lang/StringLatin1$CharsSpliterator")] 3

def k11m0 : Method := { name := "<init>", desc := "()V", sig := { parameters := [], returnType := none }, accessFlags := 0, code := none }
def k11c1 : Code := { maxStack := 2, maxLocals := 2, code := jdk_43_method_2_code, exceptionTable := #[], attributes := #[] }
def k11m1 : Method := { name := "charAt", desc := "([BI)C", sig := { parameters := [(.array .byte), .int], returnType := some .char }, accessFlags := 9, code := some k11c1 }
def k11c2 : Code := { maxStack := 2, maxLocals := 1, code := jdk_43_method_4_code, exceptionTable := #[], attributes := #[] }
def k11m2 : Method := { name := "canEncode", desc := "(I)Z", sig := { parameters := [.int], returnType := some .boolean }, accessFlags := 9, code := some k11c2 }
def k11c3 : Code := { maxStack := 4, maxLocals := 4, code := jdk_43_method_22_code, exceptionTable := #[], attributes := #[] }
def k11m3 : Method := { name := "indexOf", desc := "([BIII)I", sig := { parameters := [(.array .byte), .int, .int, .int], returnType := some .int }, accessFlags := 9, code := some k11c3 }
def k11c4 : Code := { maxStack := 2, maxLocals := 6, code := jdk_43_method_23_code, exceptionTable := #[], attributes := #[] }
def k11m4 : Method := { name := "indexOfChar", desc := "([BIII)I", sig := { parameters := [(.array .byte), .int, .int, .int], returnType := some .int }, accessFlags := 10, code := some k11c4 }
/-- java/lang/StringLatin1 -/
def k11 : Class := { plain "java/lang/StringLatin1" (some 0) with
  accessFlags := 48
  interfaces := #[]
  cf := some (fileOf pool11 14 #[.nestMembers #[390, 221]] #[{ accessFlags := 0, nameIndex := 7, descriptorIndex := 8, attributes := #[] }, { accessFlags := 9, nameIndex := 252, descriptorIndex := 53, attributes := #[] }, { accessFlags := 9, nameIndex := 90, descriptorIndex := 91, attributes := #[] }, { accessFlags := 9, nameIndex := 101, descriptorIndex := 98, attributes := #[] }, { accessFlags := 10, nameIndex := 97, descriptorIndex := 98, attributes := #[] }] 48 4 #[] #[{ accessFlags := 4120, nameIndex := 121, descriptorIndex := 122, attributes := #[] }])
  fields := #[{ name := "$assertionsDisabled", type := .boolean, accessFlags := 4120, slot := 0, constantValue := 0 }]
  methods := #[k11m0, k11m1, k11m2, k11m3, k11m4]
  instanceTypes := #[]
  staticTypes := #[.boolean]
  resolved := Array.replicate 395 none
  statics := none }

def pool12 : Array CpInfo := pool [(1, .class_ 2), (0, u "java/lang/Math"), (1, .class_ 6), (1, u "java/lang/Object"), (0, u "<init>"), (0, u "()V"), (89, .class_ 100), (1, u "java/lang/Math$RandomNumberGeneratorHolder"), (71, u "negativeZeroFloatBits"), (0, u "J"), (2, u "negativeZeroDoubleBits"), (21, u "max"), (2, u "min"), (43, u "$assertionsDisabled"), (0, u "Z"), (88, u "(II)I"), (2, u "twoToTheDoubleScaleDown"), (0, u "D"), (4, u "twoToTheDoubleScaleUp"), (9, u "E"), (3, u "PI"), (2, u "TAU"), (2, u "DEGREES_TO_RADIANS"), (0, u "RADIANS_TO_DEGREES")] 94

def k12m0 : Method := { name := "<init>", desc := "()V", sig := { parameters := [], returnType := none }, accessFlags := 2, code := none }
def k12c1 : Code := { maxStack := 2, maxLocals := 2, code := jdk_29_method_65_code, exceptionTable := #[], attributes := #[] }
def k12m1 : Method := { name := "max", desc := "(II)I", sig := { parameters := [.int, .int], returnType := some .int }, accessFlags := 9, code := some k12c1 }
def k12c2 : Code := { maxStack := 2, maxLocals := 2, code := jdk_29_method_69_code, exceptionTable := #[], attributes := #[] }
def k12m2 : Method := { name := "min", desc := "(II)I", sig := { parameters := [.int, .int], returnType := some .int }, accessFlags := 9, code := some k12c2 }
/-- java/lang/Math -/
def k12 : Class := { plain "java/lang/Math" (some 0) with
  accessFlags := 49
  interfaces := #[]
  cf := some (fileOf pool12 1 #[.nestMembers #[98]] #[{ accessFlags := 2, nameIndex := 7, descriptorIndex := 8, attributes := #[] }, { accessFlags := 9, nameIndex := 198, descriptorIndex := 335, attributes := #[] }, { accessFlags := 9, nameIndex := 201, descriptorIndex := 335, attributes := #[] }] 49 4 #[] #[{ accessFlags := 25, nameIndex := 354, descriptorIndex := 339, attributes := #[] }, { accessFlags := 25, nameIndex := 358, descriptorIndex := 339, attributes := #[] }, { accessFlags := 25, nameIndex := 361, descriptorIndex := 339, attributes := #[] }, { accessFlags := 26, nameIndex := 364, descriptorIndex := 339, attributes := #[] }, { accessFlags := 26, nameIndex := 365, descriptorIndex := 339, attributes := #[] }, { accessFlags := 26, nameIndex := 172, descriptorIndex := 173, attributes := #[] }, { accessFlags := 26, nameIndex := 176, descriptorIndex := 173, attributes := #[] }, { accessFlags := 8, nameIndex := 344, descriptorIndex := 339, attributes := #[] }, { accessFlags := 8, nameIndex := 338, descriptorIndex := 339, attributes := #[] }, { accessFlags := 4120, nameIndex := 245, descriptorIndex := 246, attributes := #[] }])
  fields := #[{ name := "E", type := .double, accessFlags := 25, slot := 0, constantValue := 0 }, { name := "PI", type := .double, accessFlags := 25, slot := 1, constantValue := 0 }, { name := "TAU", type := .double, accessFlags := 25, slot := 2, constantValue := 0 }, { name := "DEGREES_TO_RADIANS", type := .double, accessFlags := 26, slot := 3, constantValue := 0 }, { name := "RADIANS_TO_DEGREES", type := .double, accessFlags := 26, slot := 4, constantValue := 0 }, { name := "negativeZeroFloatBits", type := .long, accessFlags := 26, slot := 5, constantValue := 0 }, { name := "negativeZeroDoubleBits", type := .long, accessFlags := 26, slot := 6, constantValue := 0 }, { name := "twoToTheDoubleScaleUp", type := .double, accessFlags := 8, slot := 7, constantValue := 0 }, { name := "twoToTheDoubleScaleDown", type := .double, accessFlags := 8, slot := 8, constantValue := 0 }, { name := "$assertionsDisabled", type := .boolean, accessFlags := 4120, slot := 9, constantValue := 0 }]
  methods := #[k12m0, k12m1, k12m2]
  instanceTypes := #[]
  staticTypes := #[.double, .double, .double, .double, .double, .long, .long, .double, .double, .boolean]
  resolved := Array.replicate 460 none
  statics := none }

def pool13 : Array CpInfo := pool [(1, .class_ 2), (0, u "java/lang/Appendable"), (0, .class_ 4), (0, u "java/lang/Object")] 9

/-- java/lang/Appendable -/
def k13 : Class := { plain "java/lang/Appendable" (some 0) with
  accessFlags := 1537
  interfaces := #[]
  cf := some (fileOf pool13 1 #[] #[] 1537 3 #[] #[])
  fields := #[]
  methods := #[]
  instanceTypes := #[]
  staticTypes := #[]
  resolved := Array.replicate 14 none
  statics := none }

def pool14 : Array CpInfo := pool [(1, .class_ 2), (0, u "java/lang/String"), (0, .methodref 4 5), (0, .class_ 6), (0, .nameAndType 7 8), (0, u "java/lang/Object"), (0, u "<init>"), (0, u "()V"), (1, .class_ 12), (1, u "java/lang/AbstractStringBuilder"), (0, u "EMPTYVALUE"), (0, u "[B"), (0, .fieldref 10 16), (0, .nameAndType 17 14), (0, u "value"), (0, .fieldref 1 19), (0, .nameAndType 20 21), (0, u "COMPACT_STRINGS"), (0, u "Z"), (0, .fieldref 10 23), (0, .nameAndType 24 25), (0, u "coder"), (0, u "B"), (6, .methodref 1 33), (0, .nameAndType 34 35), (0, u "length"), (0, u "()I"), (4, .methodref 1 41), (0, .nameAndType 24 42), (0, u "()B"), (2, u "append"), (0, u "(Ljava/lang/String;)Ljava/lang/AbstractStringBuilder;"), (1, .class_ 49), (0, u "java/lang/CharSequence"), (19, u "(Ljava/lang/String;)V"), (5, u "maybeLatin1"), (3, .fieldref 10 80), (0, .nameAndType 81 82), (0, u "count"), (0, u "I"), (2, u "isLatin1"), (0, u "()Z"), (13, .methodref 10 101), (0, .nameAndType 102 103), (0, u "ensureCapacityInternal"), (0, u "(I)V"), (104, .methodref 10 209), (0, .nameAndType 210 211), (0, u "putStringAt"), (0, u "(ILjava/lang/String;)V"), (5, u "inflateIfNeededFor"), (2, .nameAndType 221 222), (0, u "getBytes"), (0, u "([BIB)V"), (174, .methodref 10 398), (0, .nameAndType 217 69), (0, .methodref 1 220), (3, u "()[B"), (40, .class_ 445), (0, u "java/lang/Appendable"), (106, u "getValue")] 56

def k14m0 : Method := { name := "<init>", desc := "()V", sig := { parameters := [], returnType := none }, accessFlags := 0, code := none }
def k14c1 : Code := { maxStack := 2, maxLocals := 2, code := jdk_68_method_2_code, exceptionTable := #[], attributes := #[] }
def k14m1 : Method := { name := "<init>", desc := "(I)V", sig := { parameters := [.int], returnType := none }, accessFlags := 0, code := some k14c1 }
def k14c2 : Code := { maxStack := 1, maxLocals := 1, code := jdk_68_method_6_code, exceptionTable := #[], attributes := #[] }
def k14m2 : Method := { name := "length", desc := "()I", sig := { parameters := [], returnType := some .int }, accessFlags := 1, code := some k14c2 }
def k14c3 : Code := { maxStack := 4, maxLocals := 3, code := jdk_68_method_9_code, exceptionTable := #[], attributes := #[] }
def k14m3 : Method := { name := "ensureCapacityInternal", desc := "(I)V", sig := { parameters := [.int], returnType := none }, accessFlags := 2, code := some k14c3 }
def k14c4 : Code := { maxStack := 3, maxLocals := 3, code := jdk_68_method_22_code, exceptionTable := #[], attributes := #[] }
def k14m4 : Method := { name := "append", desc := "(Ljava/lang/String;)Ljava/lang/AbstractStringBuilder;", sig := { parameters := [(.object "java/lang/String")], returnType := some (.object "java/lang/AbstractStringBuilder") }, accessFlags := 1, code := some k14c4 }
def k14c5 : Code := { maxStack := 1, maxLocals := 1, code := jdk_68_method_64_code, exceptionTable := #[], attributes := #[] }
def k14m5 : Method := { name := "getValue", desc := "()[B", sig := { parameters := [], returnType := some (.array .byte) }, accessFlags := 16, code := some k14c5 }
def k14c6 : Code := { maxStack := 1, maxLocals := 1, code := jdk_68_method_68_code, exceptionTable := #[], attributes := #[] }
def k14m6 : Method := { name := "isLatin1", desc := "()Z", sig := { parameters := [], returnType := some .boolean }, accessFlags := 16, code := some k14c6 }
def k14c7 : Code := { maxStack := 2, maxLocals := 2, code := jdk_68_method_71_code, exceptionTable := #[], attributes := #[] }
def k14m7 : Method := { name := "inflateIfNeededFor", desc := "(Ljava/lang/String;)V", sig := { parameters := [(.object "java/lang/String")], returnType := none }, accessFlags := 2, code := some k14c7 }
def k14c8 : Code := { maxStack := 4, maxLocals := 3, code := jdk_68_method_73_code, exceptionTable := #[], attributes := #[] }
def k14m8 : Method := { name := "putStringAt", desc := "(ILjava/lang/String;)V", sig := { parameters := [.int, (.object "java/lang/String")], returnType := none }, accessFlags := 2, code := some k14c8 }
/-- java/lang/AbstractStringBuilder -/
def k14 : Class := { plain "java/lang/AbstractStringBuilder" (some 0) with
  accessFlags := 1056
  interfaces := #[13, 4]
  cf := some (fileOf pool14 10 #[] #[{ accessFlags := 0, nameIndex := 7, descriptorIndex := 8, attributes := #[] }, { accessFlags := 0, nameIndex := 7, descriptorIndex := 103, attributes := #[] }, { accessFlags := 1, nameIndex := 34, descriptorIndex := 35, attributes := #[] }, { accessFlags := 2, nameIndex := 102, descriptorIndex := 103, attributes := #[] }, { accessFlags := 1, nameIndex := 45, descriptorIndex := 46, attributes := #[] }, { accessFlags := 16, nameIndex := 552, descriptorIndex := 403, attributes := #[] }, { accessFlags := 16, nameIndex := 85, descriptorIndex := 86, attributes := #[] }, { accessFlags := 2, nameIndex := 217, descriptorIndex := 69, attributes := #[] }, { accessFlags := 2, nameIndex := 210, descriptorIndex := 211, attributes := #[] }] 1056 4 #[444, 48] #[{ accessFlags := 0, nameIndex := 17, descriptorIndex := 14, attributes := #[] }, { accessFlags := 0, nameIndex := 24, descriptorIndex := 25, attributes := #[] }, { accessFlags := 0, nameIndex := 75, descriptorIndex := 21, attributes := #[] }, { accessFlags := 0, nameIndex := 81, descriptorIndex := 82, attributes := #[] }, { accessFlags := 26, nameIndex := 13, descriptorIndex := 14, attributes := #[] }])
  fields := #[{ name := "value", type := (.array .byte), accessFlags := 0, slot := 0, constantValue := 0 }, { name := "coder", type := .byte, accessFlags := 0, slot := 1, constantValue := 0 }, { name := "maybeLatin1", type := .boolean, accessFlags := 0, slot := 2, constantValue := 0 }, { name := "count", type := .int, accessFlags := 0, slot := 3, constantValue := 0 }, { name := "EMPTYVALUE", type := (.array .byte), accessFlags := 26, slot := 0, constantValue := 0 }]
  methods := #[k14m0, k14m1, k14m2, k14m3, k14m4, k14m5, k14m6, k14m7, k14m8]
  instanceTypes := #[(.array .byte), .byte, .boolean, .int]
  staticTypes := #[(.array .byte)]
  resolved := Array.replicate 609 none
  statics := none }

def pool15 : Array CpInfo := pool [(1, .methodref 2 3), (0, .class_ 4), (0, .nameAndType 5 6), (0, u "java/lang/AbstractStringBuilder"), (0, u "<init>"), (0, u "(I)V"), (11, .class_ 20), (1, u "java/lang/String"), (3, .class_ 26), (1, u "java/lang/StringBuilder"), (0, u "append"), (0, u "(Ljava/lang/String;)Ljava/lang/StringBuilder;"), (0, .methodref 2 30), (0, .nameAndType 27 31), (0, u "(Ljava/lang/String;)Ljava/lang/AbstractStringBuilder;"), (105, .methodref 18 138), (0, .nameAndType 5 139), (0, u "(Ljava/lang/StringBuilder;)V"), (5, u "()V"), (10, u "()I"), (186, .methodref 2 344), (0, .nameAndType 345 156), (0, u "length"), (3, .class_ 350), (0, u "java/lang/Appendable"), (0, .class_ 352), (0, u "java/io/Serializable"), (0, .class_ 354), (0, u "java/lang/Comparable"), (0, .class_ 356), (0, u "java/lang/CharSequence"), (0, u "serialVersionUID"), (0, u "J"), (40, u "toString"), (0, u "()Ljava/lang/String;")] 21

def k15c0 : Code := { maxStack := 2, maxLocals := 1, code := jdk_67_method_1_code, exceptionTable := #[], attributes := #[] }
def k15m0 : Method := { name := "<init>", desc := "()V", sig := { parameters := [], returnType := none }, accessFlags := 1, code := some k15c0 }
def k15c1 : Code := { maxStack := 2, maxLocals := 2, code := jdk_67_method_7_code, exceptionTable := #[], attributes := #[] }
def k15m1 : Method := { name := "append", desc := "(Ljava/lang/String;)Ljava/lang/StringBuilder;", sig := { parameters := [(.object "java/lang/String")], returnType := some (.object "java/lang/StringBuilder") }, accessFlags := 1, code := some k15c1 }
def k15c2 : Code := { maxStack := 3, maxLocals := 1, code := jdk_67_method_42_code, exceptionTable := #[], attributes := #[] }
def k15m2 : Method := { name := "toString", desc := "()Ljava/lang/String;", sig := { parameters := [], returnType := some (.object "java/lang/String") }, accessFlags := 1, code := some k15c2 }
def k15c3 : Code := { maxStack := 1, maxLocals := 1, code := jdk_67_method_93_code, exceptionTable := #[], attributes := #[] }
def k15m3 : Method := { name := "length", desc := "()I", sig := { parameters := [], returnType := some .int }, accessFlags := 4161, code := some k15c3 }
/-- java/lang/StringBuilder -/
def k15 : Class := { plain "java/lang/StringBuilder" (some 14) with
  accessFlags := 49
  interfaces := #[13, 2, 3, 4]
  cf := some (fileOf pool15 24 #[] #[{ accessFlags := 1, nameIndex := 5, descriptorIndex := 145, attributes := #[] }, { accessFlags := 1, nameIndex := 27, descriptorIndex := 28, attributes := #[] }, { accessFlags := 1, nameIndex := 399, descriptorIndex := 400, attributes := #[] }, { accessFlags := 4161, nameIndex := 345, descriptorIndex := 156, attributes := #[] }] 49 2 #[349, 351, 353, 355] #[{ accessFlags := 24, nameIndex := 357, descriptorIndex := 358, attributes := #[] }])
  fields := #[{ name := "serialVersionUID", type := .long, accessFlags := 24, slot := 0, constantValue := 0 }]
  methods := #[k15m0, k15m1, k15m2, k15m3]
  instanceTypes := #[(.array .byte), .byte, .boolean, .int]
  staticTypes := #[.long]
  resolved := Array.replicate 422 none
  statics := none }

def pool16 : Array CpInfo := pool [(2, .class_ 4), (1, u "java/lang/Object"), (0, u "<init>"), (0, u "()V"), (1, .class_ 10), (1, u "java/lang/System"), (0, u "allowSecurityManager"), (0, u "I"), (16, u "cons"), (0, u "Ljava/io/Console;"), (77, .class_ 110), (1, u "java/lang/System$CallersHolder"), (43, u "initialErrStream"), (0, u "Ljava/io/PrintStream;"), (19, u "security"), (0, u "Ljava/lang/SecurityManager;"), (31, .class_ 209), (0, u "java/lang/System$1"), (7, u "props"), (0, u "Ljava/util/Properties;"), (2, u "lineSeparator"), (0, u "Ljava/lang/String;"), (96, .class_ 321), (1, u "java/lang/System$LoggerFinder"), (5, .class_ 328), (0, u "java/lang/System$Logger"), (67, u "err"), (2, u "out"), (91, u "notSupportedJnuEncoding"), (15, u "in"), (17, u "initialIn"), (0, u "Ljava/io/InputStream;"), (35, u "bootLayer"), (0, u "Ljava/lang/ModuleLayer;"), (99, .class_ 664), (0, u "java/lang/System$2"), (9, u "NEVER"), (2, u "MAYBE"), (49, u "arraycopy"), (0, u "(Ljava/lang/Object;ILjava/lang/Object;II)V"), (72, .class_ 802), (0, u "java/lang/System$Logger$Level")] 31

def k16m0 : Method := { name := "<init>", desc := "()V", sig := { parameters := [], returnType := none }, accessFlags := 2, code := none }
def k16m1 : Method := { name := "arraycopy", desc := "(Ljava/lang/Object;ILjava/lang/Object;II)V", sig := { parameters := [(.object "java/lang/Object"), .int, (.object "java/lang/Object"), .int, .int], returnType := none }, accessFlags := 265, code := none }
/-- java/lang/System -/
def k16 : Class := { plain "java/lang/System" (some 0) with
  accessFlags := 49
  interfaces := #[]
  cf := some (fileOf pool16 8 #[.nestMembers #[319, 327, 801, 108, 663, 208]] #[{ accessFlags := 2, nameIndex := 5, descriptorIndex := 6, attributes := #[] }, { accessFlags := 265, nameIndex := 727, descriptorIndex := 728, attributes := #[] }] 49 2 #[] #[{ accessFlags := 25, nameIndex := 507, descriptorIndex := 526, attributes := #[] }, { accessFlags := 25, nameIndex := 399, descriptorIndex := 155, attributes := #[] }, { accessFlags := 25, nameIndex := 396, descriptorIndex := 155, attributes := #[] }, { accessFlags := 10, nameIndex := 525, descriptorIndex := 526, attributes := #[] }, { accessFlags := 26, nameIndex := 674, descriptorIndex := 12, attributes := #[] }, { accessFlags := 26, nameIndex := 677, descriptorIndex := 12, attributes := #[] }, { accessFlags := 10, nameIndex := 11, descriptorIndex := 12, attributes := #[] }, { accessFlags := 74, nameIndex := 175, descriptorIndex := 176, attributes := #[] }, { accessFlags := 10, nameIndex := 491, descriptorIndex := 222, attributes := #[] }, { accessFlags := 74, nameIndex := 29, descriptorIndex := 30, attributes := #[] }, { accessFlags := 74, nameIndex := 154, descriptorIndex := 155, attributes := #[] }, { accessFlags := 10, nameIndex := 217, descriptorIndex := 218, attributes := #[] }, { accessFlags := 10, nameIndex := 221, descriptorIndex := 222, attributes := #[] }, { accessFlags := 8, nameIndex := 562, descriptorIndex := 563, attributes := #[] }])
  fields := #[{ name := "in", type := (.object "java/io/InputStream"), accessFlags := 25, slot := 0, constantValue := 0 }, { name := "out", type := (.object "java/io/PrintStream"), accessFlags := 25, slot := 1, constantValue := 0 }, { name := "err", type := (.object "java/io/PrintStream"), accessFlags := 25, slot := 2, constantValue := 0 }, { name := "initialIn", type := (.object "java/io/InputStream"), accessFlags := 10, slot := 3, constantValue := 0 }, { name := "NEVER", type := .int, accessFlags := 26, slot := 4, constantValue := 0 }, { name := "MAYBE", type := .int, accessFlags := 26, slot := 5, constantValue := 0 }, { name := "allowSecurityManager", type := .int, accessFlags := 10, slot := 6, constantValue := 0 }, { name := "security", type := (.object "java/lang/SecurityManager"), accessFlags := 74, slot := 7, constantValue := 0 }, { name := "notSupportedJnuEncoding", type := (.object "java/lang/String"), accessFlags := 10, slot := 8, constantValue := 0 }, { name := "cons", type := (.object "java/io/Console"), accessFlags := 74, slot := 9, constantValue := 0 }, { name := "initialErrStream", type := (.object "java/io/PrintStream"), accessFlags := 74, slot := 10, constantValue := 0 }, { name := "props", type := (.object "java/util/Properties"), accessFlags := 10, slot := 11, constantValue := 0 }, { name := "lineSeparator", type := (.object "java/lang/String"), accessFlags := 10, slot := 12, constantValue := 0 }, { name := "bootLayer", type := (.object "java/lang/ModuleLayer"), accessFlags := 8, slot := 13, constantValue := 0 }]
  methods := #[k16m0, k16m1]
  instanceTypes := #[]
  staticTypes := #[(.object "java/io/InputStream"), (.object "java/io/PrintStream"), (.object "java/io/PrintStream"), (.object "java/io/InputStream"), .int, .int, .int, (.object "java/lang/SecurityManager"), (.object "java/lang/String"), (.object "java/io/Console"), (.object "java/io/PrintStream"), (.object "java/util/Properties"), (.object "java/lang/String"), (.object "java/lang/ModuleLayer")]
  resolved := Array.replicate 834 none
  statics := none }

def pool17 : Array CpInfo := pool [(2, .class_ 4), (1, u "java/lang/Object"), (0, u "<init>"), (0, u "()V"), (17, .class_ 26), (1, u "jdk/internal/util/Preconditions"), (6, u "checkIndex"), (21, .class_ 56), (0, u "jdk/internal/util/Preconditions$4"), (57, .class_ 115), (0, u "jdk/internal/util/Preconditions$1"), (7, u "SIOOBE_FORMATTER"), (0, u "Ljava/util/function/BiFunction;"), (0, .class_ 126), (0, u "jdk/internal/util/Preconditions$2"), (3, u "AIOOBE_FORMATTER"), (0, .class_ 132), (0, u "jdk/internal/util/Preconditions$3"), (3, u "IOOBE_FORMATTER"), (41, u "(IILjava/util/function/BiFunction;)I")] 15

def k17m0 : Method := { name := "<init>", desc := "()V", sig := { parameters := [], returnType := none }, accessFlags := 1, code := none }
def k17c1 : Code := { maxStack := 3, maxLocals := 3, code := jdk_41_method_11_code, exceptionTable := #[], attributes := #[] }
def k17m1 : Method := { name := "checkIndex", desc := "(IILjava/util/function/BiFunction;)I", sig := { parameters := [.int, .int, (.object "java/util/function/BiFunction")], returnType := some .int }, accessFlags := 9, code := some k17c1 }
/-- jdk/internal/util/Preconditions -/
def k17 : Class := { plain "jdk/internal/util/Preconditions" (some 0) with
  accessFlags := 33
  interfaces := #[]
  cf := some (fileOf pool17 24 #[.nestMembers #[55, 131, 125, 114]] #[{ accessFlags := 1, nameIndex := 5, descriptorIndex := 6, attributes := #[] }, { accessFlags := 9, nameIndex := 33, descriptorIndex := 178, attributes := #[] }] 33 2 #[] #[{ accessFlags := 25, nameIndex := 123, descriptorIndex := 124, attributes := #[] }, { accessFlags := 25, nameIndex := 130, descriptorIndex := 124, attributes := #[] }, { accessFlags := 25, nameIndex := 136, descriptorIndex := 124, attributes := #[] }])
  fields := #[{ name := "SIOOBE_FORMATTER", type := (.object "java/util/function/BiFunction"), accessFlags := 25, slot := 0, constantValue := 0 }, { name := "AIOOBE_FORMATTER", type := (.object "java/util/function/BiFunction"), accessFlags := 25, slot := 1, constantValue := 0 }, { name := "IOOBE_FORMATTER", type := (.object "java/util/function/BiFunction"), accessFlags := 25, slot := 2, constantValue := 0 }]
  methods := #[k17m0, k17m1]
  instanceTypes := #[]
  staticTypes := #[(.object "java/util/function/BiFunction"), (.object "java/util/function/BiFunction"), (.object "java/util/function/BiFunction")]
  resolved := Array.replicate 194 none
  statics := some 1 }

def pool18 : Array CpInfo := pool [(2, .class_ 4), (1, u "java/lang/Object"), (0, u "<init>"), (0, u "()V"), (7, .class_ 16), (1, u "java/util/Arrays"), (57, .class_ 76), (1, u "java/util/Arrays$NaturalOrder"), (36, .class_ 115), (1, u "java/util/Arrays$LegacyMergeSort"), (1, u "Z"), (21, u "copyOfRange"), (10, .methodref 151 152), (0, .class_ 153), (0, .nameAndType 154 155), (0, u "java/lang/System"), (0, u "arraycopy"), (0, u "(Ljava/lang/Object;ILjava/lang/Object;II)V"), (148, .methodref 305 306), (0, .class_ 307), (0, .nameAndType 308 309), (0, u "java/lang/Math"), (0, u "min"), (0, u "(II)I"), (29, .methodref 14 340), (0, .nameAndType 341 342), (0, u "copyOfRangeByte"), (0, u "([BII)[B"), (0, .methodref 14 344), (0, .nameAndType 345 346), (0, u "checkLength"), (0, u "(II)V"), (28, .class_ 376), (0, u "java/util/Arrays$ArrayList"), (68, u "$assertionsDisabled"), (269, u "MIN_ARRAY_SORT_GRAN"), (0, u "I"), (2, u "INSERTIONSORT_THRESHOLD"), (255, .class_ 976), (0, u "java/util/Arrays$ArrayItr")] 52

def k18m0 : Method := { name := "<init>", desc := "()V", sig := { parameters := [], returnType := none }, accessFlags := 2, code := none }
def k18c1 : Code := { maxStack := 4, maxLocals := 2, code := jdk_65_method_131_code, exceptionTable := #[], attributes := #[] }
def k18m1 : Method := { name := "checkLength", desc := "(II)V", sig := { parameters := [.int, .int], returnType := none }, accessFlags := 10, code := some k18c1 }
def k18c2 : Code := { maxStack := 3, maxLocals := 3, code := jdk_65_method_132_code, exceptionTable := #[], attributes := #[] }
def k18m2 : Method := { name := "copyOfRange", desc := "([BII)[B", sig := { parameters := [(.array .byte), .int, .int], returnType := some (.array .byte) }, accessFlags := 9, code := some k18c2 }
def k18c3 : Code := { maxStack := 6, maxLocals := 5, code := jdk_65_method_133_code, exceptionTable := #[], attributes := #[] }
def k18m3 : Method := { name := "copyOfRangeByte", desc := "([BII)[B", sig := { parameters := [(.array .byte), .int, .int], returnType := some (.array .byte) }, accessFlags := 10, code := some k18c3 }
/-- java/util/Arrays -/
def k18 : Class := { plain "java/util/Arrays" (some 0) with
  accessFlags := 49
  interfaces := #[]
  cf := some (fileOf pool18 14 #[.nestMembers #[975, 375, 113, 74]] #[{ accessFlags := 2, nameIndex := 5, descriptorIndex := 6, attributes := #[] }, { accessFlags := 10, nameIndex := 345, descriptorIndex := 346, attributes := #[] }, { accessFlags := 9, nameIndex := 139, descriptorIndex := 342, attributes := #[] }, { accessFlags := 10, nameIndex := 341, descriptorIndex := 342, attributes := #[] }] 49 2 #[] #[{ accessFlags := 26, nameIndex := 715, descriptorIndex := 716, attributes := #[] }, { accessFlags := 26, nameIndex := 719, descriptorIndex := 716, attributes := #[] }, { accessFlags := 4120, nameIndex := 445, descriptorIndex := 117, attributes := #[] }])
  fields := #[{ name := "MIN_ARRAY_SORT_GRAN", type := .int, accessFlags := 26, slot := 0, constantValue := 0 }, { name := "INSERTIONSORT_THRESHOLD", type := .int, accessFlags := 26, slot := 1, constantValue := 0 }, { name := "$assertionsDisabled", type := .boolean, accessFlags := 4120, slot := 2, constantValue := 0 }]
  methods := #[k18m0, k18m1, k18m2, k18m3]
  instanceTypes := #[]
  staticTypes := #[.int, .int, .boolean]
  resolved := Array.replicate 1029 none
  statics := none }

def pool19 : Array CpInfo := pool [(9, u "<init>"), (6, .class_ 18), (1, u "java/lang/Object"), (0, u "()V"), (1, .class_ 23), (1, u "jdk/internal/util/ArraysSupport"), (0, u "LOG2_ARRAY_LONG_INDEX_SCALE"), (0, u "I"), (2, u "U"), (0, u "Ljdk/internal/misc/Unsafe;"), (8, u "BIG_ENDIAN"), (0, u "Z"), (8, u "LOG2_BYTE_BIT_SIZE"), (4, u "LOG2_ARRAY_INT_INDEX_SCALE"), (54, u "JLA"), (0, u "Ljdk/internal/access/JavaLangAccess;"), (11, u "LOG2_ARRAY_BOOLEAN_INDEX_SCALE"), (9, u "LOG2_ARRAY_BYTE_INDEX_SCALE"), (5, u "LOG2_ARRAY_CHAR_INDEX_SCALE"), (5, u "LOG2_ARRAY_SHORT_INDEX_SCALE"), (18, u "LOG2_ARRAY_FLOAT_INDEX_SCALE"), (24, u "LOG2_ARRAY_DOUBLE_INDEX_SCALE"), (89, u "T_BOOLEAN"), (2, u "T_CHAR"), (1, u "T_FLOAT"), (1, u "T_DOUBLE"), (1, u "T_BYTE"), (1, u "T_SHORT"), (1, u "T_INT"), (1, u "T_LONG"), (1, u "SOFT_MAX_ARRAY_LENGTH")] 83

def k19m0 : Method := { name := "<init>", desc := "()V", sig := { parameters := [], returnType := none }, accessFlags := 2, code := none }
/-- jdk/internal/util/ArraysSupport -/
def k19 : Class := { plain "jdk/internal/util/ArraysSupport" (some 0) with
  accessFlags := 33
  interfaces := #[]
  cf := some (fileOf pool19 21 #[] #[{ accessFlags := 2, nameIndex := 9, descriptorIndex := 19, attributes := #[] }] 33 16 #[] #[{ accessFlags := 24, nameIndex := 28, descriptorIndex := 29, attributes := #[] }, { accessFlags := 26, nameIndex := 38, descriptorIndex := 39, attributes := #[] }, { accessFlags := 25, nameIndex := 121, descriptorIndex := 25, attributes := #[] }, { accessFlags := 25, nameIndex := 131, descriptorIndex := 25, attributes := #[] }, { accessFlags := 25, nameIndex := 137, descriptorIndex := 25, attributes := #[] }, { accessFlags := 25, nameIndex := 143, descriptorIndex := 25, attributes := #[] }, { accessFlags := 25, nameIndex := 53, descriptorIndex := 25, attributes := #[] }, { accessFlags := 25, nameIndex := 24, descriptorIndex := 25, attributes := #[] }, { accessFlags := 25, nameIndex := 162, descriptorIndex := 25, attributes := #[] }, { accessFlags := 25, nameIndex := 187, descriptorIndex := 25, attributes := #[] }, { accessFlags := 26, nameIndex := 48, descriptorIndex := 25, attributes := #[] }, { accessFlags := 25, nameIndex := 277, descriptorIndex := 25, attributes := #[] }, { accessFlags := 25, nameIndex := 280, descriptorIndex := 25, attributes := #[] }, { accessFlags := 25, nameIndex := 282, descriptorIndex := 25, attributes := #[] }, { accessFlags := 25, nameIndex := 284, descriptorIndex := 25, attributes := #[] }, { accessFlags := 25, nameIndex := 286, descriptorIndex := 25, attributes := #[] }, { accessFlags := 25, nameIndex := 288, descriptorIndex := 25, attributes := #[] }, { accessFlags := 25, nameIndex := 290, descriptorIndex := 25, attributes := #[] }, { accessFlags := 25, nameIndex := 292, descriptorIndex := 25, attributes := #[] }, { accessFlags := 26, nameIndex := 108, descriptorIndex := 109, attributes := #[] }, { accessFlags := 25, nameIndex := 294, descriptorIndex := 25, attributes := #[] }])
  fields := #[{ name := "U", type := (.object "jdk/internal/misc/Unsafe"), accessFlags := 24, slot := 0, constantValue := 0 }, { name := "BIG_ENDIAN", type := .boolean, accessFlags := 26, slot := 1, constantValue := 0 }, { name := "LOG2_ARRAY_BOOLEAN_INDEX_SCALE", type := .int, accessFlags := 25, slot := 2, constantValue := 0 }, { name := "LOG2_ARRAY_BYTE_INDEX_SCALE", type := .int, accessFlags := 25, slot := 3, constantValue := 0 }, { name := "LOG2_ARRAY_CHAR_INDEX_SCALE", type := .int, accessFlags := 25, slot := 4, constantValue := 0 }, { name := "LOG2_ARRAY_SHORT_INDEX_SCALE", type := .int, accessFlags := 25, slot := 5, constantValue := 0 }, { name := "LOG2_ARRAY_INT_INDEX_SCALE", type := .int, accessFlags := 25, slot := 6, constantValue := 0 }, { name := "LOG2_ARRAY_LONG_INDEX_SCALE", type := .int, accessFlags := 25, slot := 7, constantValue := 0 }, { name := "LOG2_ARRAY_FLOAT_INDEX_SCALE", type := .int, accessFlags := 25, slot := 8, constantValue := 0 }, { name := "LOG2_ARRAY_DOUBLE_INDEX_SCALE", type := .int, accessFlags := 25, slot := 9, constantValue := 0 }, { name := "LOG2_BYTE_BIT_SIZE", type := .int, accessFlags := 26, slot := 10, constantValue := 0 }, { name := "T_BOOLEAN", type := .int, accessFlags := 25, slot := 11, constantValue := 0 }, { name := "T_CHAR", type := .int, accessFlags := 25, slot := 12, constantValue := 0 }, { name := "T_FLOAT", type := .int, accessFlags := 25, slot := 13, constantValue := 0 }, { name := "T_DOUBLE", type := .int, accessFlags := 25, slot := 14, constantValue := 0 }, { name := "T_BYTE", type := .int, accessFlags := 25, slot := 15, constantValue := 0 }, { name := "T_SHORT", type := .int, accessFlags := 25, slot := 16, constantValue := 0 }, { name := "T_INT", type := .int, accessFlags := 25, slot := 17, constantValue := 0 }, { name := "T_LONG", type := .int, accessFlags := 25, slot := 18, constantValue := 0 }, { name := "JLA", type := (.object "jdk/internal/access/JavaLangAccess"), accessFlags := 26, slot := 19, constantValue := 0 }, { name := "SOFT_MAX_ARRAY_LENGTH", type := .int, accessFlags := 25, slot := 20, constantValue := 0 }]
  methods := #[k19m0]
  instanceTypes := #[]
  staticTypes := #[(.object "jdk/internal/misc/Unsafe"), .boolean, .int, .int, .int, .int, .int, .int, .int, .int, .int, .int, .int, .int, .int, .int, .int, .int, .int, (.object "jdk/internal/access/JavaLangAccess"), .int]
  resolved := Array.replicate 378 none
  statics := none }

def pool20 : Array CpInfo := pool [(1, u "java/lang/Cloneable"), (0, .class_ 1), (0, u "java/lang/Object"), (0, .class_ 3)] 3

/-- java/lang/Cloneable -/
def k20 : Class := { plain "java/lang/Cloneable" (some 0) with
  accessFlags := 1537
  interfaces := #[]
  cf := some (fileOf pool20 2 #[] #[] 1537 4 #[] #[])
  fields := #[]
  methods := #[]
  instanceTypes := #[]
  staticTypes := #[]
  resolved := Array.replicate 8 none
  statics := none }

/-- the primitive byte -/
def k21 : Class := { plain "byte" none with kind := .primitive 'B', accessFlags := 0x411 }
/-- [B -/
def k22 : Class := { plain "[B" (some 0) with kind := .array 21 .byte, interfaces := #[20, 2], accessFlags := 1041 }

/-- the primitive char -/
def k23 : Class := { plain "char" none with kind := .primitive 'C', accessFlags := 0x411 }
/-- [C -/
def k24 : Class := { plain "[C" (some 0) with kind := .array 23 .char, interfaces := #[20, 2], accessFlags := 1041 }

/-- the primitive int -/
def k25 : Class := { plain "int" none with kind := .primitive 'I', accessFlags := 0x411 }
/-- [I -/
def k26 : Class := { plain "[I" (some 0) with kind := .array 25 .int, interfaces := #[20, 2], accessFlags := 1041 }

def heap : Heap := #[{ cls := 7, slots := #[.long 0, .int 1, .null, .int 0, .null, .int 0, .int 0], vm := .statics 7 },
  { cls := 17, slots := #[.null, .null, .null], vm := .statics 17 }]
def classes : Array Class := #[k0, k1, k2, k3, k4, k5, k6, k7, k8, k9, k10, k11, k12, k13, k14, k15, k16, k17, k18, k19, k20, k21, k22, k23, k24, k25, k26]
def interned : List (Array UInt16 × Addr) := []
def slotsUsed : Nat := 10
def theMethod : MethodId := ⟨1, 1⟩
def args0 : Array Value := #[.int 5, .int 5]
def aboutOver (below : List Frame) : State where
  vm := { classes := classes, interned := interned.toArray }
  heap := heap
  slotsUsed := slotsUsed
  threads := #[{ frames := .invoking theMethod args0 :: below }]
def below0 : List Frame := [.native { method := ⟨0, 0⟩, args := #[] }]
def about1 : State := aboutOver below0
def p0 : Program := .bare "" "" ""
def e0 : Env := launch0.env 0 0 0
theorem w_frames : about1.frames = Frame.invoking theMethod args0 :: below0 := rfl
set_option maxRecDepth 65536 in
theorem w_args : argsFit about1.vm theMethod args0 = true := by decide +kernel
set_option maxRecDepth 65536 in
theorem w_heap : heapFits about1 = true := by decide +kernel
set_option maxRecDepth 65536 in
theorem w_runnable : about1.curStatus? = some .runnable := by decide +kernel
set_option maxRecDepth 65536 in
theorem w_alone : about1.alone = true := by decide +kernel
set_option maxRecDepth 65536 in
theorem w_named : about1.methodNamed? x = some theMethod := by decide +kernel
set_option maxRecDepth 65536 in
theorem w_hears : about1.hears theMethod below0 = true := by decide +kernel
set_option maxRecDepth 65536 in
theorem w_ripe : about1.ripe theMethod args0 below0 = true := by decide +kernel
theorem w_running : about1.status = .running := rfl
set_option maxRecDepth 65536 in
theorem w_room : about1.hasRoom e0.platform room_1 = true :=
  launch0.hasRoom_least _ room_1 (by decide +kernel) (by decide +kernel) (by decide +kernel) (by decide +kernel) (by decide +kernel) (by decide +kernel)
theorem allAtoms_all (ts : List Jvm.Cond) (a : Array Jvm.Value) (st : Jvm.State) : (allAtoms ts).before a st = ts.all (fun c => c.before a st) := by
  induction ts with
  | nil => rfl
  | cons c t ih =>
    show (Jvm.Cond.and c (allAtoms t)).before a st = _
    rw [Jvm.Cond.before_and, ih, List.all_cons]
def words1 : List Jvm.Cond := Jvm.Cond.code x code maxLocals ret :: tables_1
/-- a 'code' word, met by the world's own term for the bytes: nothing is compared byte by byte -/
theorem code_word {y : MethodName} {bytes : ByteArray} {mx : Nat} {rt : Option FieldType} {a : Array Value} {s : State} {m : MethodId} {meth : Method} {c : Code} (h1 : s.methodNamed? y = some m) (h2 : s.vm.method? m = some meth) (h3 : meth.code = some c) (h4 : c.code = bytes)
    (h5 : (c.maxLocals == mx && c.exceptionTable.isEmpty && decide (c.maxStack ≤ mostOperands) && decide (meth.sig.returnType = rt) && !meth.locks && decide (parseMethodDescriptor y.desc = some meth.sig)) = true) : (Jvm.Cond.code y bytes mx rt).before a s = true := by
  simp only [Bool.and_eq_true, beq_iff_eq, Bool.not_eq_true', decide_eq_true_eq] at h5
  obtain ⟨⟨⟨⟨⟨g1, g2⟩, g3⟩, g4⟩, g5⟩, g6⟩ := h5
  simp [Cond.before, Cond.holds, Cond.value, h1, h2, h3, h4, g1, g2, g3, g4, g5, g6]
def isCode : Jvm.Cond → Bool
  | .code _ _ _ _ => true
  | _ => false
theorem all_split {L : List Jvm.Cond} {P : Jvm.Cond → Bool} (h1 : L.all (fun c => isCode c || P c) = true) (h2 : ∀ c ∈ L.filter isCode, P c = true) : L.all P = true := by
  refine List.all_eq_true.mpr fun c hc => ?_
  have h := List.all_eq_true.mp h1 c hc
  rcases Bool.eq_false_or_eq_true (isCode c) with hi | hi
  · exact h2 c (List.mem_filter.mpr ⟨hc, hi⟩)
  · simpa [hi] using h
set_option maxRecDepth 65536 in
theorem w_c0 : (Jvm.Cond.code x code maxLocals ret).before args0 about1 = true := code_word (m := ⟨1, 1⟩) (meth := k1m1) (c := k1c1) (by decide +kernel) rfl rfl rfl (by decide +kernel)
set_option maxRecDepth 65536 in
theorem w_c1 : (Jvm.Cond.code ({ cls := "com/example/portunus/portunus/LockKeysFenceKeyPinLaw", name := "noBrace", desc := "(C)C" } : Jvm.MethodName) method_3_code (1 : Nat) (Option.some Jvm.ClassFile.FieldType.char)).before args0 about1 = true := code_word (m := ⟨1, 2⟩) (meth := k1m2) (c := k1c2) (by decide +kernel) rfl rfl rfl (by decide +kernel)
set_option maxRecDepth 65536 in
theorem w_c2 : (Jvm.Cond.code ({ cls := "java/lang/String", name := "<init>", desc := "([C)V" } : Jvm.MethodName) jdk_42_method_3_code (2 : Nat) (Option.none : Option Jvm.ClassFile.FieldType)).before args0 about1 = true := code_word (m := ⟨7, 1⟩) (meth := k7m1) (c := k7c1) (by decide +kernel) rfl rfl rfl (by decide +kernel)
set_option maxRecDepth 65536 in
theorem w_c3 : (Jvm.Cond.code ({ cls := "java/lang/String", name := "<init>", desc := "([CIILjava/lang/Void;)V" } : Jvm.MethodName) jdk_42_method_149_code (6 : Nat) (Option.none : Option Jvm.ClassFile.FieldType)).before args0 about1 = true := code_word (m := ⟨7, 9⟩) (meth := k7m9) (c := k7c9) (by decide +kernel) rfl rfl rfl (by decide +kernel)
set_option maxRecDepth 65536 in
theorem w_c4 : (Jvm.Cond.code ({ cls := "java/lang/Object", name := "<init>", desc := "()V" } : Jvm.MethodName) object_method_1_code (1 : Nat) (Option.none : Option Jvm.ClassFile.FieldType)).before args0 about1 = true := code_word (m := ⟨0, 0⟩) (meth := k0m0) (c := k0c0) (by decide +kernel) rfl rfl rfl (by decide +kernel)
set_option maxRecDepth 65536 in
theorem w_c5 : (Jvm.Cond.code ({ cls := "java/lang/StringUTF16", name := "compress", desc := "([CII)[B" } : Jvm.MethodName) jdk_52_method_16_code (6 : Nat) (Option.some (Jvm.ClassFile.FieldType.array Jvm.ClassFile.FieldType.byte))).before args0 about1 = true := code_word (m := ⟨8, 2⟩) (meth := k8m2) (c := k8c2) (by decide +kernel) rfl rfl rfl (by decide +kernel)
set_option maxRecDepth 65536 in
theorem w_c6 : (Jvm.Cond.code ({ cls := "java/lang/StringUTF16", name := "compress", desc := "([CI[BII)I" } : Jvm.MethodName) jdk_52_method_21_code (7 : Nat) (Option.some Jvm.ClassFile.FieldType.int)).before args0 about1 = true := code_word (m := ⟨8, 3⟩) (meth := k8m3) (c := k8c3) (by decide +kernel) rfl rfl rfl (by decide +kernel)
set_option maxRecDepth 65536 in
theorem w_c7 : (Jvm.Cond.code ({ cls := "java/lang/StringUTF16", name := "coderFromArrayLen", desc := "([BI)B" } : Jvm.MethodName) jdk_52_method_15_code (2 : Nat) (Option.some Jvm.ClassFile.FieldType.byte)).before args0 about1 = true := code_word (m := ⟨8, 1⟩) (meth := k8m1) (c := k8c1) (by decide +kernel) rfl rfl rfl (by decide +kernel)
set_option maxRecDepth 65536 in
theorem w_c8 : (Jvm.Cond.code ({ cls := "com/example/portunus/portunus/LockKeys", name := "<init>", desc := "(Ljava/lang/String;)V" } : Jvm.MethodName) prog_6_method_1_code (2 : Nat) (Option.none : Option Jvm.ClassFile.FieldType)).before args0 about1 = true := code_word (m := ⟨9, 0⟩) (meth := k9m0) (c := k9c0) (by decide +kernel) rfl rfl rfl (by decide +kernel)
set_option maxRecDepth 65536 in
theorem w_c9 : (Jvm.Cond.code ({ cls := "java/util/Objects", name := "requireNonNull", desc := "(Ljava/lang/Object;Ljava/lang/String;)Ljava/lang/Object;" } : Jvm.MethodName) jdk_31_method_11_code (2 : Nat) (Option.some (Jvm.ClassFile.FieldType.object "java/lang/Object"))).before args0 about1 = true := code_word (m := ⟨10, 1⟩) (meth := k10m1) (c := k10c1) (by decide +kernel) rfl rfl rfl (by decide +kernel)
set_option maxRecDepth 65536 in
theorem w_c10 : (Jvm.Cond.code ({ cls := "java/lang/String", name := "indexOf", desc := "(I)I" } : Jvm.MethodName) jdk_42_method_79_code (2 : Nat) (Option.some Jvm.ClassFile.FieldType.int)).before args0 about1 = true := code_word (m := ⟨7, 6⟩) (meth := k7m6) (c := k7c6) (by decide +kernel) rfl rfl rfl (by decide +kernel)
set_option maxRecDepth 65536 in
theorem w_c11 : (Jvm.Cond.code ({ cls := "java/lang/String", name := "indexOf", desc := "(II)I" } : Jvm.MethodName) jdk_42_method_80_code (3 : Nat) (Option.some Jvm.ClassFile.FieldType.int)).before args0 about1 = true := code_word (m := ⟨7, 7⟩) (meth := k7m7) (c := k7c7) (by decide +kernel) rfl rfl rfl (by decide +kernel)
set_option maxRecDepth 65536 in
theorem w_c12 : (Jvm.Cond.code ({ cls := "java/lang/String", name := "isLatin1", desc := "()Z" } : Jvm.MethodName) jdk_42_method_154_code (1 : Nat) (Option.some Jvm.ClassFile.FieldType.boolean)).before args0 about1 = true := code_word (m := ⟨7, 12⟩) (meth := k7m12) (c := k7c12) (by decide +kernel) rfl rfl rfl (by decide +kernel)
set_option maxRecDepth 65536 in
theorem w_c13 : (Jvm.Cond.code ({ cls := "java/lang/String", name := "length", desc := "()I" } : Jvm.MethodName) jdk_42_method_54_code (1 : Nat) (Option.some Jvm.ClassFile.FieldType.int)).before args0 about1 = true := code_word (m := ⟨7, 3⟩) (meth := k7m3) (c := k7c3) (by decide +kernel) rfl rfl rfl (by decide +kernel)
set_option maxRecDepth 65536 in
theorem w_c14 : (Jvm.Cond.code ({ cls := "java/lang/String", name := "coder", desc := "()B" } : Jvm.MethodName) jdk_42_method_152_code (1 : Nat) (Option.some Jvm.ClassFile.FieldType.byte)).before args0 about1 = true := code_word (m := ⟨7, 11⟩) (meth := k7m11) (c := k7c11) (by decide +kernel) rfl rfl rfl (by decide +kernel)
set_option maxRecDepth 65536 in
theorem w_c15 : (Jvm.Cond.code ({ cls := "java/lang/StringLatin1", name := "indexOf", desc := "([BIII)I" } : Jvm.MethodName) jdk_43_method_22_code (4 : Nat) (Option.some Jvm.ClassFile.FieldType.int)).before args0 about1 = true := code_word (m := ⟨11, 3⟩) (meth := k11m3) (c := k11c3) (by decide +kernel) rfl rfl rfl (by decide +kernel)
set_option maxRecDepth 65536 in
theorem w_c16 : (Jvm.Cond.code ({ cls := "java/lang/StringLatin1", name := "canEncode", desc := "(I)Z" } : Jvm.MethodName) jdk_43_method_4_code (1 : Nat) (Option.some Jvm.ClassFile.FieldType.boolean)).before args0 about1 = true := code_word (m := ⟨11, 2⟩) (meth := k11m2) (c := k11c2) (by decide +kernel) rfl rfl rfl (by decide +kernel)
set_option maxRecDepth 65536 in
theorem w_c17 : (Jvm.Cond.code ({ cls := "java/lang/Math", name := "max", desc := "(II)I" } : Jvm.MethodName) jdk_29_method_65_code (2 : Nat) (Option.some Jvm.ClassFile.FieldType.int)).before args0 about1 = true := code_word (m := ⟨12, 1⟩) (meth := k12m1) (c := k12c1) (by decide +kernel) rfl rfl rfl (by decide +kernel)
set_option maxRecDepth 65536 in
theorem w_c18 : (Jvm.Cond.code ({ cls := "java/lang/Math", name := "min", desc := "(II)I" } : Jvm.MethodName) jdk_29_method_69_code (2 : Nat) (Option.some Jvm.ClassFile.FieldType.int)).before args0 about1 = true := code_word (m := ⟨12, 2⟩) (meth := k12m2) (c := k12c2) (by decide +kernel) rfl rfl rfl (by decide +kernel)
set_option maxRecDepth 65536 in
theorem w_c19 : (Jvm.Cond.code ({ cls := "com/example/portunus/portunus/LockKeys", name := "fenceKey", desc := "(Ljava/lang/String;)Ljava/lang/String;" } : Jvm.MethodName) prog_6_method_3_code (2 : Nat) (Option.some (Jvm.ClassFile.FieldType.object "java/lang/String"))).before args0 about1 = true := code_word (m := ⟨9, 1⟩) (meth := k9m1) (c := k9c1) (by decide +kernel) rfl rfl rfl (by decide +kernel)
set_option maxRecDepth 65536 in
theorem w_c20 : (Jvm.Cond.code ({ cls := "java/lang/StringBuilder", name := "<init>", desc := "()V" } : Jvm.MethodName) jdk_67_method_1_code (1 : Nat) (Option.none : Option Jvm.ClassFile.FieldType)).before args0 about1 = true := code_word (m := ⟨15, 0⟩) (meth := k15m0) (c := k15c0) (by decide +kernel) rfl rfl rfl (by decide +kernel)
set_option maxRecDepth 65536 in
theorem w_c21 : (Jvm.Cond.code ({ cls := "java/lang/AbstractStringBuilder", name := "<init>", desc := "(I)V" } : Jvm.MethodName) jdk_68_method_2_code (2 : Nat) (Option.none : Option Jvm.ClassFile.FieldType)).before args0 about1 = true := code_word (m := ⟨14, 1⟩) (meth := k14m1) (c := k14c1) (by decide +kernel) rfl rfl rfl (by decide +kernel)
set_option maxRecDepth 65536 in
theorem w_c22 : (Jvm.Cond.code ({ cls := "java/lang/StringBuilder", name := "append", desc := "(Ljava/lang/String;)Ljava/lang/StringBuilder;" } : Jvm.MethodName) jdk_67_method_7_code (2 : Nat) (Option.some (Jvm.ClassFile.FieldType.object "java/lang/StringBuilder"))).before args0 about1 = true := code_word (m := ⟨15, 1⟩) (meth := k15m1) (c := k15c1) (by decide +kernel) rfl rfl rfl (by decide +kernel)
set_option maxRecDepth 65536 in
theorem w_c23 : (Jvm.Cond.code ({ cls := "java/lang/AbstractStringBuilder", name := "append", desc := "(Ljava/lang/String;)Ljava/lang/AbstractStringBuilder;" } : Jvm.MethodName) jdk_68_method_22_code (3 : Nat) (Option.some (Jvm.ClassFile.FieldType.object "java/lang/AbstractStringBuilder"))).before args0 about1 = true := code_word (m := ⟨14, 4⟩) (meth := k14m4) (c := k14c4) (by decide +kernel) rfl rfl rfl (by decide +kernel)
set_option maxRecDepth 65536 in
theorem w_c24 : (Jvm.Cond.code ({ cls := "java/lang/AbstractStringBuilder", name := "ensureCapacityInternal", desc := "(I)V" } : Jvm.MethodName) jdk_68_method_9_code (3 : Nat) (Option.none : Option Jvm.ClassFile.FieldType)).before args0 about1 = true := code_word (m := ⟨14, 3⟩) (meth := k14m3) (c := k14c3) (by decide +kernel) rfl rfl rfl (by decide +kernel)
set_option maxRecDepth 65536 in
theorem w_c25 : (Jvm.Cond.code ({ cls := "java/lang/AbstractStringBuilder", name := "putStringAt", desc := "(ILjava/lang/String;)V" } : Jvm.MethodName) jdk_68_method_73_code (3 : Nat) (Option.none : Option Jvm.ClassFile.FieldType)).before args0 about1 = true := code_word (m := ⟨14, 8⟩) (meth := k14m8) (c := k14c8) (by decide +kernel) rfl rfl rfl (by decide +kernel)
set_option maxRecDepth 65536 in
theorem w_c26 : (Jvm.Cond.code ({ cls := "java/lang/AbstractStringBuilder", name := "inflateIfNeededFor", desc := "(Ljava/lang/String;)V" } : Jvm.MethodName) jdk_68_method_71_code (2 : Nat) (Option.none : Option Jvm.ClassFile.FieldType)).before args0 about1 = true := code_word (m := ⟨14, 7⟩) (meth := k14m7) (c := k14c7) (by decide +kernel) rfl rfl rfl (by decide +kernel)
set_option maxRecDepth 65536 in
theorem w_c27 : (Jvm.Cond.code ({ cls := "java/lang/String", name := "getBytes", desc := "([BIB)V" } : Jvm.MethodName) jdk_42_method_147_code (4 : Nat) (Option.none : Option Jvm.ClassFile.FieldType)).before args0 about1 = true := code_word (m := ⟨7, 8⟩) (meth := k7m8) (c := k7c8) (by decide +kernel) rfl rfl rfl (by decide +kernel)
set_option maxRecDepth 65536 in
theorem w_c28 : (Jvm.Cond.code ({ cls := "com/example/portunus/portunus/LockKeys", name := "braced", desc := "(Ljava/lang/String;)Ljava/lang/String;" } : Jvm.MethodName) prog_6_method_8_code (1 : Nat) (Option.some (Jvm.ClassFile.FieldType.object "java/lang/String"))).before args0 about1 = true := code_word (m := ⟨9, 2⟩) (meth := k9m2) (c := k9c2) (by decide +kernel) rfl rfl rfl (by decide +kernel)
set_option maxRecDepth 65536 in
theorem w_c29 : (Jvm.Cond.code ({ cls := "java/lang/String", name := "isEmpty", desc := "()Z" } : Jvm.MethodName) jdk_42_method_55_code (1 : Nat) (Option.some Jvm.ClassFile.FieldType.boolean)).before args0 about1 = true := code_word (m := ⟨7, 4⟩) (meth := k7m4) (c := k7c4) (by decide +kernel) rfl rfl rfl (by decide +kernel)
set_option maxRecDepth 65536 in
theorem w_c30 : (Jvm.Cond.code ({ cls := "java/lang/String", name := "charAt", desc := "(I)C" } : Jvm.MethodName) jdk_42_method_56_code (2 : Nat) (Option.some Jvm.ClassFile.FieldType.char)).before args0 about1 = true := code_word (m := ⟨7, 5⟩) (meth := k7m5) (c := k7c5) (by decide +kernel) rfl rfl rfl (by decide +kernel)
set_option maxRecDepth 65536 in
theorem w_c31 : (Jvm.Cond.code ({ cls := "java/lang/StringLatin1", name := "charAt", desc := "([BI)C" } : Jvm.MethodName) jdk_43_method_2_code (2 : Nat) (Option.some Jvm.ClassFile.FieldType.char)).before args0 about1 = true := code_word (m := ⟨11, 1⟩) (meth := k11m1) (c := k11c1) (by decide +kernel) rfl rfl rfl (by decide +kernel)
set_option maxRecDepth 65536 in
theorem w_c32 : (Jvm.Cond.code ({ cls := "java/lang/String", name := "checkIndex", desc := "(II)V" } : Jvm.MethodName) jdk_42_method_155_code (2 : Nat) (Option.none : Option Jvm.ClassFile.FieldType)).before args0 about1 = true := code_word (m := ⟨7, 13⟩) (meth := k7m13) (c := k7c13) (by decide +kernel) rfl rfl rfl (by decide +kernel)
set_option maxRecDepth 65536 in
theorem w_c33 : (Jvm.Cond.code ({ cls := "jdk/internal/util/Preconditions", name := "checkIndex", desc := "(IILjava/util/function/BiFunction;)I" } : Jvm.MethodName) jdk_41_method_11_code (3 : Nat) (Option.some Jvm.ClassFile.FieldType.int)).before args0 about1 = true := code_word (m := ⟨17, 1⟩) (meth := k17m1) (c := k17c1) (by decide +kernel) rfl rfl rfl (by decide +kernel)
set_option maxRecDepth 65536 in
theorem w_c34 : (Jvm.Cond.code ({ cls := "java/lang/StringBuilder", name := "toString", desc := "()Ljava/lang/String;" } : Jvm.MethodName) jdk_67_method_42_code (1 : Nat) (Option.some (Jvm.ClassFile.FieldType.object "java/lang/String"))).before args0 about1 = true := code_word (m := ⟨15, 2⟩) (meth := k15m2) (c := k15c2) (by decide +kernel) rfl rfl rfl (by decide +kernel)
set_option maxRecDepth 65536 in
theorem w_c35 : (Jvm.Cond.code ({ cls := "java/lang/String", name := "<init>", desc := "(Ljava/lang/StringBuilder;)V" } : Jvm.MethodName) jdk_42_method_53_code (2 : Nat) (Option.none : Option Jvm.ClassFile.FieldType)).before args0 about1 = true := code_word (m := ⟨7, 2⟩) (meth := k7m2) (c := k7c2) (by decide +kernel) rfl rfl rfl (by decide +kernel)
set_option maxRecDepth 65536 in
theorem w_c36 : (Jvm.Cond.code ({ cls := "java/lang/String", name := "<init>", desc := "(Ljava/lang/AbstractStringBuilder;Ljava/lang/Void;)V" } : Jvm.MethodName) jdk_42_method_150_code (5 : Nat) (Option.none : Option Jvm.ClassFile.FieldType)).before args0 about1 = true := code_word (m := ⟨7, 10⟩) (meth := k7m10) (c := k7c10) (by decide +kernel) rfl rfl rfl (by decide +kernel)
set_option maxRecDepth 65536 in
theorem w_c37 : (Jvm.Cond.code ({ cls := "java/lang/AbstractStringBuilder", name := "getValue", desc := "()[B" } : Jvm.MethodName) jdk_68_method_64_code (1 : Nat) (Option.some (Jvm.ClassFile.FieldType.array Jvm.ClassFile.FieldType.byte))).before args0 about1 = true := code_word (m := ⟨14, 5⟩) (meth := k14m5) (c := k14c5) (by decide +kernel) rfl rfl rfl (by decide +kernel)
set_option maxRecDepth 65536 in
theorem w_c38 : (Jvm.Cond.code ({ cls := "java/lang/StringBuilder", name := "length", desc := "()I" } : Jvm.MethodName) jdk_67_method_93_code (1 : Nat) (Option.some Jvm.ClassFile.FieldType.int)).before args0 about1 = true := code_word (m := ⟨15, 3⟩) (meth := k15m3) (c := k15c3) (by decide +kernel) rfl rfl rfl (by decide +kernel)
set_option maxRecDepth 65536 in
theorem w_c39 : (Jvm.Cond.code ({ cls := "java/lang/AbstractStringBuilder", name := "length", desc := "()I" } : Jvm.MethodName) jdk_68_method_6_code (1 : Nat) (Option.some Jvm.ClassFile.FieldType.int)).before args0 about1 = true := code_word (m := ⟨14, 2⟩) (meth := k14m2) (c := k14c2) (by decide +kernel) rfl rfl rfl (by decide +kernel)
set_option maxRecDepth 65536 in
theorem w_c40 : (Jvm.Cond.code ({ cls := "java/lang/AbstractStringBuilder", name := "isLatin1", desc := "()Z" } : Jvm.MethodName) jdk_68_method_68_code (1 : Nat) (Option.some Jvm.ClassFile.FieldType.boolean)).before args0 about1 = true := code_word (m := ⟨14, 6⟩) (meth := k14m6) (c := k14c6) (by decide +kernel) rfl rfl rfl (by decide +kernel)
set_option maxRecDepth 65536 in
theorem w_c41 : (Jvm.Cond.code ({ cls := "java/util/Arrays", name := "copyOfRange", desc := "([BII)[B" } : Jvm.MethodName) jdk_65_method_132_code (3 : Nat) (Option.some (Jvm.ClassFile.FieldType.array Jvm.ClassFile.FieldType.byte))).before args0 about1 = true := code_word (m := ⟨18, 2⟩) (meth := k18m2) (c := k18c2) (by decide +kernel) rfl rfl rfl (by decide +kernel)
set_option maxRecDepth 65536 in
theorem w_c42 : (Jvm.Cond.code ({ cls := "java/util/Arrays", name := "copyOfRangeByte", desc := "([BII)[B" } : Jvm.MethodName) jdk_65_method_133_code (5 : Nat) (Option.some (Jvm.ClassFile.FieldType.array Jvm.ClassFile.FieldType.byte))).before args0 about1 = true := code_word (m := ⟨18, 3⟩) (meth := k18m3) (c := k18c3) (by decide +kernel) rfl rfl rfl (by decide +kernel)
set_option maxRecDepth 65536 in
theorem w_c43 : (Jvm.Cond.code ({ cls := "java/util/Arrays", name := "checkLength", desc := "(II)V" } : Jvm.MethodName) jdk_65_method_131_code (2 : Nat) (Option.none : Option Jvm.ClassFile.FieldType)).before args0 about1 = true := code_word (m := ⟨18, 1⟩) (meth := k18m1) (c := k18c1) (by decide +kernel) rfl rfl rfl (by decide +kernel)
set_option maxRecDepth 65536 in
theorem w_c44 : (Jvm.Cond.code ({ cls := "com/example/portunus/portunus/LockKeysFenceKeyPinLaw", name := "at", desc := "(Ljava/lang/String;[CII)Z" } : Jvm.MethodName) method_4_code (4 : Nat) (Option.some Jvm.ClassFile.FieldType.boolean)).before args0 about1 = true := code_word (m := ⟨1, 3⟩) (meth := k1m3) (c := k1c3) (by decide +kernel) rfl rfl rfl (by decide +kernel)
set_option maxRecDepth 65536 in
theorem w_c45 : (Jvm.Cond.code ({ cls := "java/lang/StringLatin1", name := "indexOfChar", desc := "([BIII)I" } : Jvm.MethodName) jdk_43_method_23_code (6 : Nat) (Option.some Jvm.ClassFile.FieldType.int)).before args0 about1 = true := code_word (m := ⟨11, 4⟩) (meth := k11m4) (c := k11c4) (by decide +kernel) rfl rfl rfl (by decide +kernel)
def codes1 : List Jvm.Cond := [Jvm.Cond.code x code maxLocals ret, Jvm.Cond.code ({ cls := "com/example/portunus/portunus/LockKeysFenceKeyPinLaw", name := "noBrace", desc := "(C)C" } : Jvm.MethodName) method_3_code (1 : Nat) (Option.some Jvm.ClassFile.FieldType.char), Jvm.Cond.code ({ cls := "java/lang/String", name := "<init>", desc := "([C)V" } : Jvm.MethodName) jdk_42_method_3_code (2 : Nat) (Option.none : Option Jvm.ClassFile.FieldType), Jvm.Cond.code ({ cls := "java/lang/String", name := "<init>", desc := "([CIILjava/lang/Void;)V" } : Jvm.MethodName) jdk_42_method_149_code (6 : Nat) (Option.none : Option Jvm.ClassFile.FieldType), Jvm.Cond.code ({ cls := "java/lang/Object", name := "<init>", desc := "()V" } : Jvm.MethodName) object_method_1_code (1 : Nat) (Option.none : Option Jvm.ClassFile.FieldType), Jvm.Cond.code ({ cls := "java/lang/StringUTF16", name := "compress", desc := "([CII)[B" } : Jvm.MethodName) jdk_52_method_16_code (6 : Nat) (Option.some (Jvm.ClassFile.FieldType.array Jvm.ClassFile.FieldType.byte)), Jvm.Cond.code ({ cls := "java/lang/StringUTF16", name := "compress", desc := "([CI[BII)I" } : Jvm.MethodName) jdk_52_method_21_code (7 : Nat) (Option.some Jvm.ClassFile.FieldType.int), Jvm.Cond.code ({ cls := "java/lang/StringUTF16", name := "coderFromArrayLen", desc := "([BI)B" } : Jvm.MethodName) jdk_52_method_15_code (2 : Nat) (Option.some Jvm.ClassFile.FieldType.byte), Jvm.Cond.code ({ cls := "com/example/portunus/portunus/LockKeys", name := "<init>", desc := "(Ljava/lang/String;)V" } : Jvm.MethodName) prog_6_method_1_code (2 : Nat) (Option.none : Option Jvm.ClassFile.FieldType), Jvm.Cond.code ({ cls := "java/util/Objects", name := "requireNonNull", desc := "(Ljava/lang/Object;Ljava/lang/String;)Ljava/lang/Object;" } : Jvm.MethodName) jdk_31_method_11_code (2 : Nat) (Option.some (Jvm.ClassFile.FieldType.object "java/lang/Object")), Jvm.Cond.code ({ cls := "java/lang/String", name := "indexOf", desc := "(I)I" } : Jvm.MethodName) jdk_42_method_79_code (2 : Nat) (Option.some Jvm.ClassFile.FieldType.int), Jvm.Cond.code ({ cls := "java/lang/String", name := "indexOf", desc := "(II)I" } : Jvm.MethodName) jdk_42_method_80_code (3 : Nat) (Option.some Jvm.ClassFile.FieldType.int), Jvm.Cond.code ({ cls := "java/lang/String", name := "isLatin1", desc := "()Z" } : Jvm.MethodName) jdk_42_method_154_code (1 : Nat) (Option.some Jvm.ClassFile.FieldType.boolean), Jvm.Cond.code ({ cls := "java/lang/String", name := "length", desc := "()I" } : Jvm.MethodName) jdk_42_method_54_code (1 : Nat) (Option.some Jvm.ClassFile.FieldType.int), Jvm.Cond.code ({ cls := "java/lang/String", name := "coder", desc := "()B" } : Jvm.MethodName) jdk_42_method_152_code (1 : Nat) (Option.some Jvm.ClassFile.FieldType.byte), Jvm.Cond.code ({ cls := "java/lang/StringLatin1", name := "indexOf", desc := "([BIII)I" } : Jvm.MethodName) jdk_43_method_22_code (4 : Nat) (Option.some Jvm.ClassFile.FieldType.int), Jvm.Cond.code ({ cls := "java/lang/StringLatin1", name := "canEncode", desc := "(I)Z" } : Jvm.MethodName) jdk_43_method_4_code (1 : Nat) (Option.some Jvm.ClassFile.FieldType.boolean), Jvm.Cond.code ({ cls := "java/lang/Math", name := "max", desc := "(II)I" } : Jvm.MethodName) jdk_29_method_65_code (2 : Nat) (Option.some Jvm.ClassFile.FieldType.int), Jvm.Cond.code ({ cls := "java/lang/Math", name := "min", desc := "(II)I" } : Jvm.MethodName) jdk_29_method_69_code (2 : Nat) (Option.some Jvm.ClassFile.FieldType.int), Jvm.Cond.code ({ cls := "com/example/portunus/portunus/LockKeys", name := "fenceKey", desc := "(Ljava/lang/String;)Ljava/lang/String;" } : Jvm.MethodName) prog_6_method_3_code (2 : Nat) (Option.some (Jvm.ClassFile.FieldType.object "java/lang/String")), Jvm.Cond.code ({ cls := "java/lang/StringBuilder", name := "<init>", desc := "()V" } : Jvm.MethodName) jdk_67_method_1_code (1 : Nat) (Option.none : Option Jvm.ClassFile.FieldType), Jvm.Cond.code ({ cls := "java/lang/AbstractStringBuilder", name := "<init>", desc := "(I)V" } : Jvm.MethodName) jdk_68_method_2_code (2 : Nat) (Option.none : Option Jvm.ClassFile.FieldType), Jvm.Cond.code ({ cls := "java/lang/StringBuilder", name := "append", desc := "(Ljava/lang/String;)Ljava/lang/StringBuilder;" } : Jvm.MethodName) jdk_67_method_7_code (2 : Nat) (Option.some (Jvm.ClassFile.FieldType.object "java/lang/StringBuilder")), Jvm.Cond.code ({ cls := "java/lang/AbstractStringBuilder", name := "append", desc := "(Ljava/lang/String;)Ljava/lang/AbstractStringBuilder;" } : Jvm.MethodName) jdk_68_method_22_code (3 : Nat) (Option.some (Jvm.ClassFile.FieldType.object "java/lang/AbstractStringBuilder")), Jvm.Cond.code ({ cls := "java/lang/AbstractStringBuilder", name := "ensureCapacityInternal", desc := "(I)V" } : Jvm.MethodName) jdk_68_method_9_code (3 : Nat) (Option.none : Option Jvm.ClassFile.FieldType), Jvm.Cond.code ({ cls := "java/lang/AbstractStringBuilder", name := "putStringAt", desc := "(ILjava/lang/String;)V" } : Jvm.MethodName) jdk_68_method_73_code (3 : Nat) (Option.none : Option Jvm.ClassFile.FieldType), Jvm.Cond.code ({ cls := "java/lang/AbstractStringBuilder", name := "inflateIfNeededFor", desc := "(Ljava/lang/String;)V" } : Jvm.MethodName) jdk_68_method_71_code (2 : Nat) (Option.none : Option Jvm.ClassFile.FieldType), Jvm.Cond.code ({ cls := "java/lang/String", name := "getBytes", desc := "([BIB)V" } : Jvm.MethodName) jdk_42_method_147_code (4 : Nat) (Option.none : Option Jvm.ClassFile.FieldType), Jvm.Cond.code ({ cls := "com/example/portunus/portunus/LockKeys", name := "braced", desc := "(Ljava/lang/String;)Ljava/lang/String;" } : Jvm.MethodName) prog_6_method_8_code (1 : Nat) (Option.some (Jvm.ClassFile.FieldType.object "java/lang/String")), Jvm.Cond.code ({ cls := "java/lang/String", name := "isEmpty", desc := "()Z" } : Jvm.MethodName) jdk_42_method_55_code (1 : Nat) (Option.some Jvm.ClassFile.FieldType.boolean), Jvm.Cond.code ({ cls := "java/lang/String", name := "charAt", desc := "(I)C" } : Jvm.MethodName) jdk_42_method_56_code (2 : Nat) (Option.some Jvm.ClassFile.FieldType.char), Jvm.Cond.code ({ cls := "java/lang/StringLatin1", name := "charAt", desc := "([BI)C" } : Jvm.MethodName) jdk_43_method_2_code (2 : Nat) (Option.some Jvm.ClassFile.FieldType.char), Jvm.Cond.code ({ cls := "java/lang/String", name := "checkIndex", desc := "(II)V" } : Jvm.MethodName) jdk_42_method_155_code (2 : Nat) (Option.none : Option Jvm.ClassFile.FieldType), Jvm.Cond.code ({ cls := "jdk/internal/util/Preconditions", name := "checkIndex", desc := "(IILjava/util/function/BiFunction;)I" } : Jvm.MethodName) jdk_41_method_11_code (3 : Nat) (Option.some Jvm.ClassFile.FieldType.int), Jvm.Cond.code ({ cls := "java/lang/StringBuilder", name := "toString", desc := "()Ljava/lang/String;" } : Jvm.MethodName) jdk_67_method_42_code (1 : Nat) (Option.some (Jvm.ClassFile.FieldType.object "java/lang/String")), Jvm.Cond.code ({ cls := "java/lang/String", name := "<init>", desc := "(Ljava/lang/StringBuilder;)V" } : Jvm.MethodName) jdk_42_method_53_code (2 : Nat) (Option.none : Option Jvm.ClassFile.FieldType), Jvm.Cond.code ({ cls := "java/lang/String", name := "<init>", desc := "(Ljava/lang/AbstractStringBuilder;Ljava/lang/Void;)V" } : Jvm.MethodName) jdk_42_method_150_code (5 : Nat) (Option.none : Option Jvm.ClassFile.FieldType), Jvm.Cond.code ({ cls := "java/lang/AbstractStringBuilder", name := "getValue", desc := "()[B" } : Jvm.MethodName) jdk_68_method_64_code (1 : Nat) (Option.some (Jvm.ClassFile.FieldType.array Jvm.ClassFile.FieldType.byte)), Jvm.Cond.code ({ cls := "java/lang/StringBuilder", name := "length", desc := "()I" } : Jvm.MethodName) jdk_67_method_93_code (1 : Nat) (Option.some Jvm.ClassFile.FieldType.int), Jvm.Cond.code ({ cls := "java/lang/AbstractStringBuilder", name := "length", desc := "()I" } : Jvm.MethodName) jdk_68_method_6_code (1 : Nat) (Option.some Jvm.ClassFile.FieldType.int), Jvm.Cond.code ({ cls := "java/lang/AbstractStringBuilder", name := "isLatin1", desc := "()Z" } : Jvm.MethodName) jdk_68_method_68_code (1 : Nat) (Option.some Jvm.ClassFile.FieldType.boolean), Jvm.Cond.code ({ cls := "java/util/Arrays", name := "copyOfRange", desc := "([BII)[B" } : Jvm.MethodName) jdk_65_method_132_code (3 : Nat) (Option.some (Jvm.ClassFile.FieldType.array Jvm.ClassFile.FieldType.byte)), Jvm.Cond.code ({ cls := "java/util/Arrays", name := "copyOfRangeByte", desc := "([BII)[B" } : Jvm.MethodName) jdk_65_method_133_code (5 : Nat) (Option.some (Jvm.ClassFile.FieldType.array Jvm.ClassFile.FieldType.byte)), Jvm.Cond.code ({ cls := "java/util/Arrays", name := "checkLength", desc := "(II)V" } : Jvm.MethodName) jdk_65_method_131_code (2 : Nat) (Option.none : Option Jvm.ClassFile.FieldType), Jvm.Cond.code ({ cls := "com/example/portunus/portunus/LockKeysFenceKeyPinLaw", name := "at", desc := "(Ljava/lang/String;[CII)Z" } : Jvm.MethodName) method_4_code (4 : Nat) (Option.some Jvm.ClassFile.FieldType.boolean), Jvm.Cond.code ({ cls := "java/lang/StringLatin1", name := "indexOfChar", desc := "([BIII)I" } : Jvm.MethodName) jdk_43_method_23_code (6 : Nat) (Option.some Jvm.ClassFile.FieldType.int)]
set_option maxRecDepth 65536 in
theorem codes_eq : words1.filter isCode = codes1 := rfl
theorem w_codes : ∀ c ∈ words1.filter isCode, c.before args0 about1 = true := by
  rw [codes_eq]
  intro c hc
  simp only [codes1, List.mem_cons, List.not_mem_nil, or_false] at hc
  rcases hc with rfl | rfl | rfl | rfl | rfl | rfl | rfl | rfl | rfl | rfl | rfl | rfl | rfl | rfl | rfl | rfl | rfl | rfl | rfl | rfl | rfl | rfl | rfl | rfl | rfl | rfl | rfl | rfl | rfl | rfl | rfl | rfl | rfl | rfl | rfl | rfl | rfl | rfl | rfl | rfl | rfl | rfl | rfl | rfl | rfl | rfl
  · exact w_c0
  · exact w_c1
  · exact w_c2
  · exact w_c3
  · exact w_c4
  · exact w_c5
  · exact w_c6
  · exact w_c7
  · exact w_c8
  · exact w_c9
  · exact w_c10
  · exact w_c11
  · exact w_c12
  · exact w_c13
  · exact w_c14
  · exact w_c15
  · exact w_c16
  · exact w_c17
  · exact w_c18
  · exact w_c19
  · exact w_c20
  · exact w_c21
  · exact w_c22
  · exact w_c23
  · exact w_c24
  · exact w_c25
  · exact w_c26
  · exact w_c27
  · exact w_c28
  · exact w_c29
  · exact w_c30
  · exact w_c31
  · exact w_c32
  · exact w_c33
  · exact w_c34
  · exact w_c35
  · exact w_c36
  · exact w_c37
  · exact w_c38
  · exact w_c39
  · exact w_c40
  · exact w_c41
  · exact w_c42
  · exact w_c43
  · exact w_c44
  · exact w_c45
set_option maxRecDepth 65536 in
theorem w_t1 : (words1.take 24).all (fun c => isCode c || c.before args0 about1) = true := by decide +kernel
set_option maxRecDepth 65536 in
theorem w_t2 : ((words1.drop 24).take 24).all (fun c => isCode c || c.before args0 about1) = true := by decide +kernel
set_option maxRecDepth 65536 in
theorem w_t3 : (((words1.drop 24).drop 24).take 24).all (fun c => isCode c || c.before args0 about1) = true := by decide +kernel
set_option maxRecDepth 65536 in
theorem w_t4 : ((((words1.drop 24).drop 24).drop 24).take 24).all (fun c => isCode c || c.before args0 about1) = true := by decide +kernel
set_option maxRecDepth 65536 in
theorem w_t5 : (((((words1.drop 24).drop 24).drop 24).drop 24).take 24).all (fun c => isCode c || c.before args0 about1) = true := by decide +kernel
set_option maxRecDepth 65536 in
theorem w_t6 : ((((((words1.drop 24).drop 24).drop 24).drop 24).drop 24).take 24).all (fun c => isCode c || c.before args0 about1) = true := by decide +kernel
set_option maxRecDepth 65536 in
theorem w_t7 : (((((((words1.drop 24).drop 24).drop 24).drop 24).drop 24).drop 24).take 24).all (fun c => isCode c || c.before args0 about1) = true := by decide +kernel
set_option maxRecDepth 65536 in
theorem w_t8 : ((((((((words1.drop 24).drop 24).drop 24).drop 24).drop 24).drop 24).drop 24).take 24).all (fun c => isCode c || c.before args0 about1) = true := by decide +kernel
set_option maxRecDepth 65536 in
theorem w_t9 : (((((((((words1.drop 24).drop 24).drop 24).drop 24).drop 24).drop 24).drop 24).drop 24).take 24).all (fun c => isCode c || c.before args0 about1) = true := by decide +kernel
set_option maxRecDepth 65536 in
theorem w_t10 : (((((((((words1.drop 24).drop 24).drop 24).drop 24).drop 24).drop 24).drop 24).drop 24).drop 24).all (fun c => isCode c || c.before args0 about1) = true := by decide +kernel
theorem w_tables : (allAtoms (Jvm.Cond.code x code maxLocals ret :: tables_1)).before args0 about1 = true := by
  rw [allAtoms_all]
  show words1.all (fun c => c.before args0 about1) = true
  refine all_split ?_ w_codes
  rw [← List.take_append_drop 24 words1, List.all_append, w_t1, ← List.take_append_drop 24 (words1.drop 24), List.all_append, w_t2, ← List.take_append_drop 24 ((words1.drop 24).drop 24), List.all_append, w_t3, ← List.take_append_drop 24 (((words1.drop 24).drop 24).drop 24), List.all_append, w_t4, ← List.take_append_drop 24 ((((words1.drop 24).drop 24).drop 24).drop 24), List.all_append, w_t5, ← List.take_append_drop 24 (((((words1.drop 24).drop 24).drop 24).drop 24).drop 24), List.all_append, w_t6, ← List.take_append_drop 24 ((((((words1.drop 24).drop 24).drop 24).drop 24).drop 24).drop 24), List.all_append, w_t7, ← List.take_append_drop 24 (((((((words1.drop 24).drop 24).drop 24).drop 24).drop 24).drop 24).drop 24), List.all_append, w_t8, ← List.take_append_drop 24 ((((((((words1.drop 24).drop 24).drop 24).drop 24).drop 24).drop 24).drop 24).drop 24), List.all_append, w_t9, w_t10]
  rfl
set_option maxRecDepth 65536 in
theorem w_rest : rest_1_c.before args0 about1 = true := by decide +kernel
set_option maxRecDepth 65536 in
theorem w_case : (Jvm.Cond.and given_1 narrow_1).before args0 about1 = true := by decide +kernel
set_option maxRecDepth 65536 in
theorem w_consts : constsHeld consts_1 about1 := Jvm.Lit.constsHeldB_iff.mp (by decide +kernel)
theorem w_applies : (headSpec (Jvm.Cond.code x code maxLocals ret :: tables_1) room_1).applies x e0.platform about1 = true :=
  (Spec.applies_iff w_frames).mpr ⟨w_running, w_runnable, w_alone, w_named, w_hears, w_ripe, w_room, w_tables⟩
theorem atStart : AtStart classFile x code maxLocals ret World_1 tables_1 room_1 Calls_1 rest_1 Pre_1 launch0 p0 e0 about1 theMethod args0 below0 :=
  ⟨lists_1, trivial, launch0.admits_env _ _ _, launch0.least_env, fairChoices_fair.cas, fairChoices_fair.clock, w_frames, w_args, w_heap, w_applies, ⟨w_consts, trivial⟩, w_rest, w_case⟩
end start1
theorem witness_1 : WitnessClaimed_1 := ⟨start1.p0, start1.e0, start1.about1, start1.theMethod, start1.args0, start1.below0, start1.atStart⟩
end Jvm.Pilot.@@N@@
