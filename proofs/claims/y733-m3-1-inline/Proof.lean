import JvmDerived
import JvmDerived.Pilot.@@N@@Statement
import JvmDerived.Pilot.@@N@@Code
set_option linter.unusedVariables false
set_option linter.unusedSimpArgs false
namespace Jvm.Pilot.@@N@@
open Jvm Jvm.ClassFile Sem Op Lib Jvm.Free Jvm.Stand Jvm.LawKit Jvm.RoadKit Bundle Jvm.Pilot.@@N@@.Jvm.D
/-! OWN KIT: a walk as a judgement on (heap, frame) alone. Wl says: from every state that stands at this pc, with these locals and this stack over the heap h, the body runs to its return and Q holds there. -/
/-- own objects: no literal's cells, made since the law began, and there -/
def Mine (Z : State) (EL : List (String × Nat)) (vm : Vm) (h : Heap) (sf : List Addr) : Prop := ∀ x ∈ sf, Safe Z EL vm h x ∧ Z.heap.size ≤ x ∧ x < h.size
def Wk (l : Launch) (Z : State) (a0 : Array Value) (EL : List (String × Nat)) (y : MethodName) (bs : ByteArray) (ml : Nat) (rt : Option FieldType) (R : Room) (as : Array Value)
    (p : Program) (e : Env) (s : State) (m : MethodId) (below : List Frame) (meth : Method) (c : Code) (sf : List Addr) (T : State) (h : Heap) (k n : Nat) : Prop :=
  (p.tables.exec = Jvm.exec ∧ c.code = bs ∧ c.maxLocals = ml ∧ meth.sig.returnType = rt ∧ meth.locks = false ∧ meth.name = y.name ∧ s.vm.findClass y.cls = some m.cls ∧ EW Z a0 EL ∧ Ext Z.heap s.heap) ∧
  ∃ (vm0 : Vm) (locs : List Loc) (k0 : Nat), Stand p l e R (s.setVm vm0) m as below meth c T locs k n ∧ T.heap = h ∧ s.Since vm0 k0 ∧ k0 ≤ h.size ∧ Fr Z.heap.size locs ∧ Z.Warmed39 vm0 ∧ CHr Z EL s.vm s.heap vm0 h ∧ Mine Z EL vm0 h sf ∧ (EL = [] → s.WarmedH vm0)
def Go (Z : State) (EL : List (String × Nat)) (out : List Addr) (p : Program) (e : Env) (s : State) (below : List Frame) (C S : Nat) (Q : Option Value → Heap → Prop) (U : State) : Prop :=
  ∃ s₂ o, Steps p.tables e below U s₂ ∧ s₂.status = .running ∧ Ended s₂ below o ∧ ∃ v L, o = .returned v ∧ (Q v s₂.heap ∧ Fr Z.heap.size L) ∧ CHr Z EL s.vm s.heap s₂.vm s₂.heap ∧ ReturnedEndW s o s₂ L C S ∧ (EL = [] → s.WarmedH s₂.vm) ∧ Mine Z EL s₂.vm s₂.heap out
def WlO (l : Launch) (Z : State) (a0 : Array Value) (EL : List (String × Nat)) (y : MethodName) (bs : ByteArray) (ml : Nat) (rt : Option FieldType) (R : Room) (as : Array Value) (out : List Addr) (Q : Option Value → Heap → Prop)
    (sf : List Addr) (h : Heap) (k n : Nat) (pc : Nat) (Ls : Array Slot) (st : List Value) : Prop :=
  ∀ (p : Program) (e : Env) (s : State) (m : MethodId) (below : List Frame) (meth : Method) (c : Code) (T : State), Wk l Z a0 EL y bs ml rt R as p e s m below meth c sf T h k n → Go Z EL out p e s below R.cells R.slots Q (T.setTop (mkF m pc Ls st))
abbrev Wl (l : Launch) (Z : State) (a0 : Array Value) (EL : List (String × Nat)) (y : MethodName) (bs : ByteArray) (ml : Nat) (rt : Option FieldType) (R : Room) (as : Array Value) (Q : Option Value → Heap → Prop)
    (sf : List Addr) (h : Heap) (k n : Nat) (pc : Nat) (Ls : Array Slot) (st : List Value) : Prop := WlO l Z a0 EL y bs ml rt R as [] Q sf h k n pc Ls st
/-- the contract of a body at given arguments and a given heap -/
def MetO (l : Launch) (Z : State) (EL : List (String × Nat)) (y : MethodName) (bs : ByteArray) (ml : Nat) (rt : Option FieldType) (ws : List Jvm.Cond) (rm : Room) (as : Array Value) (h : Heap) (sf out : List Addr) (Q : Option Value → Heap → Prop) : Prop :=
  MetFree l y (head1 (Jvm.Cond.code y bs ml rt :: ws) rm) (fun a U => a = as ∧ Z.Warmed39 U.vm ∧ U.heap = h ∧ CHv Z EL U.vm h ∧ Ext Z.heap h ∧ Mine Z EL U.vm h sf) (fun _ _ _ _ _ => True)
    (fun _ U o U' => ∃ v L, o = .returned v ∧ (Q v U'.heap ∧ Fr Z.heap.size L) ∧ CHr Z EL U.vm U.heap U'.vm U'.heap ∧ ReturnedEndW U o U' L rm.cells rm.slots ∧ (EL = [] → U.WarmedH U'.vm) ∧ Mine Z EL U'.vm U'.heap out)
abbrev Met (l : Launch) (Z : State) (EL : List (String × Nat)) (y : MethodName) (bs : ByteArray) (ml : Nat) (rt : Option FieldType) (ws : List Jvm.Cond) (rm : Room) (as : Array Value) (h : Heap) (sf : List Addr) (Q : Option Value → Heap → Prop) : Prop := MetO l Z EL y bs ml rt ws rm as h sf [] Q
section OwnKit
variable {l : Launch} {Z : State} {a0 : Array Value} {EL : List (String × Nat)} {y : MethodName} {bs : ByteArray} {ml : Nat} {rt : Option FieldType} {R : Room} {as : Array Value} {Q : Option Value → Heap → Prop}
variable {p : Program} {e : Env} {s : State} {m : MethodId} {below : List Frame} {meth : Method} {c : Code} {T : State} {sf out : List Addr} {h h' : Heap} {k n pc : Nat} {Ls : Array Slot} {st : List Value} {C S : Nat}
theorem Go.of {U U' : State} (f : ∀ t, Steps p.tables e below U' t → Steps p.tables e below U t) (g : Go Z EL out p e s below C S Q U') : Go Z EL out p e s below C S Q U := by
  obtain ⟨s₂, o, h1, r⟩ := g
  exact ⟨s₂, o, f _ h1, r⟩
theorem Mine.nil {vm : Vm} : Mine Z EL vm h [] := fun _ q => nomatch q
theorem Mine.sub {vm : Vm} {sf' : List Addr} (M : Mine Z EL vm h sf) (q : ∀ x ∈ sf', x ∈ sf) : Mine Z EL vm h sf' := fun x hx => M x (q x hx)
theorem Mine.chr {vm vm1 : Vm} (M : Mine Z EL vm h sf) (A : CHr Z EL vm h vm1 h') : Mine Z EL vm1 h' sf := fun x hx => ⟨A.safe (M x hx).2.2 (M x hx).1, (M x hx).2.1, Nat.lt_of_lt_of_le (M x hx).2.2 A.2.1⟩
theorem Mine.cons {vm : Vm} {x : Addr} (M : Mine Z EL vm h sf) (q : Safe Z EL vm h x ∧ Z.heap.size ≤ x ∧ x < h.size) : Mine Z EL vm h (x :: sf) := fun z hz => (List.mem_cons.mp hz).elim (fun u => u ▸ q) (M z)
/-- the cells that stood when the law began stand -/
theorem Wk.old (W : Wk l Z a0 EL y bs ml rt R as p e s m below meth c sf T h k n) : Ext Z.heap h := by
  obtain ⟨⟨-, -, -, -, -, -, -, -, hO⟩, vm0, locs, k0, X, eT, -, -, hF, -, hC, -, -⟩ := W
  refine ⟨Nat.le_trans hO.1 hC.2.1, fun b cl hb => ?_⟩
  have hs := hO.2 b cl hb
  obtain ⟨c', h1, h2, -, h4⟩ := X.same.2.2.2.2.2 b cl hs
  have hlt := (Array.getElem?_eq_some_iff.mp hb).1
  have hsl : c'.slots = cl.slots := Array.ext_getElem? fun i => h4 i fun hm => absurd (hF _ hm) (Nat.not_le.mpr hlt)
  have hcc : c' = cl := by rw [h2, hsl]
  rw [← hcc, ← eT]; exact h1
theorem Wl.old (f : Ext Z.heap h → WlO l Z a0 EL y bs ml rt R as out Q sf h k n pc Ls st) : WlO l Z a0 EL y bs ml rt R as out Q sf h k n pc Ls st :=
  fun p e s m below meth c T W => f W.old p e s m below meth c T W
theorem Wl.mine {x : Addr} (hx : x ∈ sf) (f : Z.heap.size ≤ x → x < h.size → WlO l Z a0 EL y bs ml rt R as out Q sf h k n pc Ls st) : WlO l Z a0 EL y bs ml rt R as out Q sf h k n pc Ls st :=
  fun p e s m below meth c T W => by
    have W' := W
    obtain ⟨-, vm0, locs, k0, -, -, -, -, -, -, -, M, -⟩ := W'
    exact f (M x hx).2.1 (M x hx).2.2 p e s m below meth c T W
/-- fewer own objects, more room used -/
theorem Wl.weak {sf' : List Addr} {k' n' : Nat} (q : ∀ x ∈ sf', x ∈ sf) (hk : k ≤ k') (hn : n ≤ n') (hr : WlO l Z a0 EL y bs ml rt R as out Q sf' h k' n' pc Ls st) : WlO l Z a0 EL y bs ml rt R as out Q sf h k n pc Ls st :=
  fun p e s m below meth c T W => by
    obtain ⟨A, vm0, locs, k0, X, eT, hS, hk0, hF, hZ, hC, hM, hH⟩ := W
    exact hr p e s m below meth c T ⟨A, vm0, locs, k0, X.mono hk hn, eT, hS, hk0, hF, hZ, hC, hM.sub q, hH⟩
/-- a step that leaves the heap and writes nothing -/
theorem Wl.same {pc' : Nat} {Ls' : Array Slot} {st' : List Value}
    (f : ∀ (p : Program) (e : Env) (s : State) (m : MethodId) (below : List Frame) (meth : Method) (c : Code) (T : State) (vm0 : Vm) (locs : List Loc),
      p.tables.exec = Jvm.exec → c.code = bs → c.maxLocals = ml → vm0.findClass y.cls = some m.cls → Z.Warmed39 vm0 → Stand p l e R (s.setVm vm0) m as below meth c T locs k n → T.heap = h → Ext Z.heap h →
      ∃ T', Stand p l e R (s.setVm vm0) m as below meth c T' locs k n ∧ T'.heap = h ∧ ∀ t, Steps p.tables e below (T'.setTop (mkF m pc' Ls' st')) t → Steps p.tables e below (T.setTop (mkF m pc Ls st)) t)
    (hr : WlO l Z a0 EL y bs ml rt R as out Q sf h k n pc' Ls' st') : WlO l Z a0 EL y bs ml rt R as out Q sf h k n pc Ls st := by
  intro p e s m below meth c T W
  have hO := W.old
  obtain ⟨A, vm0, locs, k0, X, eT, hS, hk, hF, hZ, hC, hM, hH⟩ := W
  obtain ⟨T', X', e', stp⟩ := f p e s m below meth c T vm0 locs A.1 A.2.1 A.2.2.1 (by rw [hS.1.alike.findClass]; exact A.2.2.2.2.2.2.1) hZ X eT hO
  exact Go.of stp (hr p e s m below meth c T' ⟨A, vm0, locs, k0, X', e', hS, hk, hF, hZ, hC, hM, hH⟩)
theorem Wl.plain {pc' : Nat} {Ls' : Array Slot} {st' : List Value}
    (f : ∀ (p : Program) (e : Env) (m : MethodId) (below : List Frame) (c : Code) (T : State), p.tables.exec = Jvm.exec → c.code = bs → At T m c below → ∀ t, Steps p.tables e below (T.setTop (mkF m pc' Ls' st')) t → Steps p.tables e below (T.setTop (mkF m pc Ls st)) t)
    (hr : WlO l Z a0 EL y bs ml rt R as out Q sf h k n pc' Ls' st') : WlO l Z a0 EL y bs ml rt R as out Q sf h k n pc Ls st :=
  Wl.same (fun p e s m below meth c T vm0 locs hx hby _ _ _ X eT _ => ⟨T, X, eT, f p e m below c T hx hby X.here⟩) hr
/-- a step that makes one cell -/
theorem Wl.grow {pc' : Nat} {Ls' : Array Slot} {st' : Addr → List Value} {dk dn : Nat} {F : Heap → Addr → Prop}
    (f : ∀ (p : Program) (e : Env) (s : State) (m : MethodId) (below : List Frame) (meth : Method) (c : Code) (T : State) (vm0 : Vm) (locs : List Loc),
      p.tables.exec = Jvm.exec → c.code = bs → c.maxLocals = ml → vm0.findClass y.cls = some m.cls → Z.Warmed39 vm0 → Stand p l e R (s.setVm vm0) m as below meth c T locs k n → T.heap = h → Ext Z.heap h →
      ∃ T' h', Stand p l e R (s.setVm vm0) m as below meth c T' locs (k + dk) (n + dn) ∧ T'.heap = h' ∧ Ext h h' ∧ h.size < h'.size ∧ F h' h.size ∧ ∀ t, Steps p.tables e below (T'.setTop (mkF m pc' Ls' (st' h.size))) t → Steps p.tables e below (T.setTop (mkF m pc Ls st)) t)
    (hr : ∀ (a : Addr) (h' : Heap), a = h.size → Ext h h' → F h' a → WlO l Z a0 EL y bs ml rt R as out Q (a :: sf) h' (k + dk) (n + dn) pc' Ls' (st' a)) : WlO l Z a0 EL y bs ml rt R as out Q sf h k n pc Ls st := by
  intro p e s m below meth c T W
  have hO := W.old
  obtain ⟨A, vm0, locs, k0, X, eT, hS, hk, hF, hZ, hC, hM, hH⟩ := W
  obtain ⟨T', h', X', e', E, hlt, G, stp⟩ := f p e s m below meth c T vm0 locs A.1 A.2.1 A.2.2.1 (by rw [hS.1.alike.findClass]; exact A.2.2.2.2.2.2.1) hZ X eT hO
  have B := CHr.ext (Z := Z) (EL := EL) (vm := vm0) E hC.1
  exact Go.of stp (hr h.size h' rfl E G p e s m below meth c T' ⟨A, vm0, locs, k0, X', e', hS, Nat.le_trans hk E.1, hF, hZ, hC.trans B, (hM.chr B).cons ⟨Safe.ext E hC.1 (Safe.new (Nat.le_refl _)), hO.1, hlt⟩, hH⟩)
/-- a step that writes one place of an own object -/
theorem Wl.write {pc' : Nat} {Ls' : Array Slot} {st' : List Value} {a : Addr} {sl : Nat} {v : Value} (ha : a ∈ sf)
    (f : ∀ (p : Program) (e : Env) (s : State) (m : MethodId) (below : List Frame) (meth : Method) (c : Code) (T : State) (vm0 : Vm) (locs : List Loc),
      p.tables.exec = Jvm.exec → c.code = bs → meth.name = y.name → vm0.findClass y.cls = some m.cls → Z.Warmed39 vm0 → Stand p l e R (s.setVm vm0) m as below meth c T locs k n → T.heap = h →
      ∃ T' h', Stand p l e R (s.setVm vm0) m as below meth c T' (locs ++ [⟨a, sl⟩]) k n ∧ T'.heap = h' ∧ Wr h h' a sl v ∧ ∀ t, Steps p.tables e below (T'.setTop (mkF m pc' Ls' st')) t → Steps p.tables e below (T.setTop (mkF m pc Ls st)) t)
    (hr : ∀ h', Wr h h' a sl v → WlO l Z a0 EL y bs ml rt R as out Q sf h' k n pc' Ls' st') : WlO l Z a0 EL y bs ml rt R as out Q sf h k n pc Ls st := by
  intro p e s m below meth c T W
  obtain ⟨A, vm0, locs, k0, X, eT, hS, hk, hF, hZ, hC, hM, hH⟩ := W
  obtain ⟨T', h', X', e', Wv, stp⟩ := f p e s m below meth c T vm0 locs A.1 A.2.1 A.2.2.2.2.2.1 (by rw [hS.1.alike.findClass]; exact A.2.2.2.2.2.2.1) hZ X eT
  have B := CHr.wr (Z := Z) (EL := EL) (vm := vm0) Wv (hM a ha).1 hC.1
  exact Go.of stp (hr h' Wv p e s m below meth c T' ⟨A, vm0, locs ++ [⟨a, sl⟩], k0, X', e', hS, by rw [Wv.size]; exact hk, Fr.snoc X' hF (hM a ha).2.1, hZ, hC.trans B, hM.chr B, hH⟩)
/-! plain steps -/
theorem Wl.aload_n (pc' : Nat) {i : Fin 4} {v : Value} (hd : decode bs pc = .ok (.aload_n i, 1)) (hl : Ls[i.val]? = some (.val v)) (hv : v.isRef = true) (hr : WlO l Z a0 EL y bs ml rt R as out Q sf h k n pc' Ls (v :: st)) (hp : pc + 1 = pc' := by rfl) : WlO l Z a0 EL y bs ml rt R as out Q sf h k n pc Ls st := by
  subst hp; exact Wl.plain (fun p e m below c T hx hby A t kk => XS.aloadN A hx rfl (hb hby hd) hl hv kk) hr
theorem Wl.aload (pc' : Nat) {i : Nat} {v : Value} (hd : decode bs pc = .ok (.aload i, 2)) (hl : Ls[i]? = some (.val v)) (hv : v.isRef = true) (hr : WlO l Z a0 EL y bs ml rt R as out Q sf h k n pc' Ls (v :: st)) (hp : pc + 2 = pc' := by rfl) : WlO l Z a0 EL y bs ml rt R as out Q sf h k n pc Ls st := by
  subst hp; exact Wl.plain (fun p e m below c T hx hby A t kk => XS.aload A hx rfl (hb hby hd) hl hv kk) hr
theorem Wl.iload_n (pc' : Nat) {i : Fin 4} {v : Int32} (hd : decode bs pc = .ok (.iload_n i, 1)) (hl : Ls[i.val]? = some (.val (.int v))) (hr : WlO l Z a0 EL y bs ml rt R as out Q sf h k n pc' Ls (.int v :: st)) (hp : pc + 1 = pc' := by rfl) : WlO l Z a0 EL y bs ml rt R as out Q sf h k n pc Ls st := by
  subst hp; exact Wl.plain (fun p e m below c T hx hby A t kk => XS.iloadN A hx rfl (hb hby hd) hl kk) hr
theorem Wl.iload (pc' : Nat) {i : Nat} {v : Int32} (hd : decode bs pc = .ok (.iload i, 2)) (hl : Ls[i]? = some (.val (.int v))) (hr : WlO l Z a0 EL y bs ml rt R as out Q sf h k n pc' Ls (.int v :: st)) (hp : pc + 2 = pc' := by rfl) : WlO l Z a0 EL y bs ml rt R as out Q sf h k n pc Ls st := by
  subst hp; exact Wl.plain (fun p e m below c T hx hby A t kk => XS.iload A hx rfl (hb hby hd) hl kk) hr
theorem Wl.lload_n (pc' : Nat) {i : Fin 4} {v : Int64} (hd : decode bs pc = .ok (.lload_n i, 1)) (hl : Ls[i.val]? = some (.val (.long v))) (hr : WlO l Z a0 EL y bs ml rt R as out Q sf h k n pc' Ls (.long v :: st)) (hp : pc + 1 = pc' := by rfl) : WlO l Z a0 EL y bs ml rt R as out Q sf h k n pc Ls st := by
  subst hp; exact Wl.plain (fun p e m below c T hx hby A t kk => XS.lloadN A hx rfl (hb hby hd) hl kk) hr
theorem Wl.lload (pc' : Nat) {i : Nat} {v : Int64} (hd : decode bs pc = .ok (.lload i, 2)) (hl : Ls[i]? = some (.val (.long v))) (hr : WlO l Z a0 EL y bs ml rt R as out Q sf h k n pc' Ls (.long v :: st)) (hp : pc + 2 = pc' := by rfl) : WlO l Z a0 EL y bs ml rt R as out Q sf h k n pc Ls st := by
  subst hp; exact Wl.plain (fun p e m below c T hx hby A t kk => XS.lload A hx rfl (hb hby hd) hl kk) hr
theorem Wl.istore_n (pc' : Nat) (Ls' : Array Slot) {i : Fin 4} {v : Int32} (hd : decode bs pc = .ok (.istore_n i, 1)) (hl : storeLocals Ls i.val (.int v) = some Ls') (hr : WlO l Z a0 EL y bs ml rt R as out Q sf h k n pc' Ls' st) (hp : pc + 1 = pc' := by rfl) : WlO l Z a0 EL y bs ml rt R as out Q sf h k n pc Ls (.int v :: st) := by
  subst hp; exact Wl.plain (fun p e m below c T hx hby A t kk => XS.istoreN A hx rfl (hb hby hd) rfl hl kk) hr
theorem Wl.istore (pc' : Nat) (Ls' : Array Slot) {i : Nat} {v : Int32} (hd : decode bs pc = .ok (.istore i, 2)) (hl : storeLocals Ls i (.int v) = some Ls') (hr : WlO l Z a0 EL y bs ml rt R as out Q sf h k n pc' Ls' st) (hp : pc + 2 = pc' := by rfl) : WlO l Z a0 EL y bs ml rt R as out Q sf h k n pc Ls (.int v :: st) := by
  subst hp; exact Wl.plain (fun p e m below c T hx hby A t kk => XS.istore A hx rfl (hb hby hd) rfl hl kk) hr
theorem Wl.lstore (pc' : Nat) (Ls' : Array Slot) {i : Nat} {v : Int64} (hd : decode bs pc = .ok (.lstore i, 2)) (hl : storeLocals Ls i (.long v) = some Ls') (hr : WlO l Z a0 EL y bs ml rt R as out Q sf h k n pc' Ls' st) (hp : pc + 2 = pc' := by rfl) : WlO l Z a0 EL y bs ml rt R as out Q sf h k n pc Ls (.long v :: st) := by
  subst hp; exact Wl.plain (fun p e m below c T hx hby A t kk => XS.lstore A hx rfl (hb hby hd) rfl hl kk) hr
theorem Wl.astore_n (pc' : Nat) (Ls' : Array Slot) {i : Fin 4} {v : Value} (hd : decode bs pc = .ok (.astore_n i, 1)) (hv : v.isRef = true) (hl : storeLocals Ls i.val v = some Ls') (hr : WlO l Z a0 EL y bs ml rt R as out Q sf h k n pc' Ls' st) (hp : pc + 1 = pc' := by rfl) : WlO l Z a0 EL y bs ml rt R as out Q sf h k n pc Ls (v :: st) := by
  subst hp; exact Wl.plain (fun p e m below c T hx hby A t kk => XS.astoreN A hx rfl (hb hby hd) rfl hv hl kk) hr
theorem Wl.astore (pc' : Nat) (Ls' : Array Slot) {i : Nat} {v : Value} (hd : decode bs pc = .ok (.astore i, 2)) (hv : v.isRef = true) (hl : storeLocals Ls i v = some Ls') (hr : WlO l Z a0 EL y bs ml rt R as out Q sf h k n pc' Ls' st) (hp : pc + 2 = pc' := by rfl) : WlO l Z a0 EL y bs ml rt R as out Q sf h k n pc Ls (v :: st) := by
  subst hp; exact Wl.plain (fun p e m below c T hx hby A t kk => XS.astore A hx rfl (hb hby hd) rfl hv hl kk) hr
theorem Wl.iinc (pc' : Nat) (Ls' : Array Slot) {i : Nat} {cst : Int} {x : Int32} (v : Int32) (hd : decode bs pc = .ok (.iinc i cst, 3)) (hv : Int32.ofInt cst = v) (hl : Ls[i]? = some (.val (.int x))) (hl' : storeLocals Ls i (.int (x + v)) = some Ls') (hr : WlO l Z a0 EL y bs ml rt R as out Q sf h k n pc' Ls' st) (hp : pc + 3 = pc' := by rfl) : WlO l Z a0 EL y bs ml rt R as out Q sf h k n pc Ls st := by
  subst hp hv; exact Wl.plain (fun p e m below c T hx hby A t kk => XS.iinc A hx rfl (hb hby hd) hl hl' kk) hr
theorem Wl.iconst (pc' : Nat) (v : Int32) {i : Int} (hd : decode bs pc = .ok (.iconst i, 1)) (hv : Int32.ofInt i = v) (hr : WlO l Z a0 EL y bs ml rt R as out Q sf h k n pc' Ls (.int v :: st)) (hp : pc + 1 = pc' := by rfl) : WlO l Z a0 EL y bs ml rt R as out Q sf h k n pc Ls st := by
  subst hp hv; exact Wl.plain (fun p e m below c T hx hby A t kk => XS.iconst A hx rfl (hb hby hd) kk) hr
theorem Wl.bipush (pc' : Nat) (v : Int32) {i : Int} (hd : decode bs pc = .ok (.bipush i, 2)) (hv : (Int8.ofInt i).toInt32 = v) (hr : WlO l Z a0 EL y bs ml rt R as out Q sf h k n pc' Ls (.int v :: st)) (hp : pc + 2 = pc' := by rfl) : WlO l Z a0 EL y bs ml rt R as out Q sf h k n pc Ls st := by
  subst hp hv; exact Wl.plain (fun p e m below c T hx hby A t kk => XS.bipush A hx rfl (hb hby hd) kk) hr
theorem Wl.sipush (pc' : Nat) (v : Int32) {i : Int} (hd : decode bs pc = .ok (.sipush i, 3)) (hv : (Int16.ofInt i).toInt32 = v) (hr : WlO l Z a0 EL y bs ml rt R as out Q sf h k n pc' Ls (.int v :: st)) (hp : pc + 3 = pc' := by rfl) : WlO l Z a0 EL y bs ml rt R as out Q sf h k n pc Ls st := by
  subst hp hv; exact Wl.plain (fun p e m below c T hx hby A t kk => XS.sipush A hx rfl (hb hby hd) kk) hr
theorem Wl.aconst_null (pc' : Nat) (hd : decode bs pc = .ok (.aconst_null, 1)) (hr : WlO l Z a0 EL y bs ml rt R as out Q sf h k n pc' Ls (.null :: st)) (hp : pc + 1 = pc' := by rfl) : WlO l Z a0 EL y bs ml rt R as out Q sf h k n pc Ls st := by
  subst hp; exact Wl.plain (fun p e m below c T hx hby A t kk => XS.aconstNull A hx rfl (hb hby hd) kk) hr
theorem Wl.iadd (pc' : Nat) {x z : Int32} (hd : decode bs pc = .ok (.iadd, 1)) (hr : WlO l Z a0 EL y bs ml rt R as out Q sf h k n pc' Ls (.int (x + z) :: st)) (hp : pc + 1 = pc' := by rfl) : WlO l Z a0 EL y bs ml rt R as out Q sf h k n pc Ls (.int z :: .int x :: st) := by
  subst hp; exact Wl.plain (fun p e m below c T hx hby A t kk => XS.iadd A hx rfl (hb hby hd) rfl kk) hr
theorem Wl.isub (pc' : Nat) {x z : Int32} (hd : decode bs pc = .ok (.isub, 1)) (hr : WlO l Z a0 EL y bs ml rt R as out Q sf h k n pc' Ls (.int (x - z) :: st)) (hp : pc + 1 = pc' := by rfl) : WlO l Z a0 EL y bs ml rt R as out Q sf h k n pc Ls (.int z :: .int x :: st) := by
  subst hp; exact Wl.plain (fun p e m below c T hx hby A t kk => XS.isub A hx rfl (hb hby hd) rfl kk) hr
theorem Wl.imul (pc' : Nat) {x z : Int32} (hd : decode bs pc = .ok (.imul, 1)) (hr : WlO l Z a0 EL y bs ml rt R as out Q sf h k n pc' Ls (.int (x * z) :: st)) (hp : pc + 1 = pc' := by rfl) : WlO l Z a0 EL y bs ml rt R as out Q sf h k n pc Ls (.int z :: .int x :: st) := by
  subst hp; exact Wl.plain (fun p e m below c T hx hby A t kk => XS.imul A hx rfl (hb hby hd) rfl kk) hr
theorem Wl.irem (pc' : Nat) {x z : Int32} (hd : decode bs pc = .ok (.irem, 1)) (hz : z ≠ 0) (hr : WlO l Z a0 EL y bs ml rt R as out Q sf h k n pc' Ls (.int (x % z) :: st)) (hp : pc + 1 = pc' := by rfl) : WlO l Z a0 EL y bs ml rt R as out Q sf h k n pc Ls (.int z :: .int x :: st) := by
  subst hp; exact Wl.same (fun p e s m below meth c T vm0 locs hx hby _ _ _ X eT _ => ⟨T, X, eT, fun t kk => iremM X hx rfl (hb hby hd) rfl hz kk⟩) hr
theorem Wl.iand (pc' : Nat) {x z : Int32} (hd : decode bs pc = .ok (.iand, 1)) (hr : WlO l Z a0 EL y bs ml rt R as out Q sf h k n pc' Ls (.int (x &&& z) :: st)) (hp : pc + 1 = pc' := by rfl) : WlO l Z a0 EL y bs ml rt R as out Q sf h k n pc Ls (.int z :: .int x :: st) := by
  subst hp; exact Wl.plain (fun p e m below c T hx hby A t kk => XS.iand A hx rfl (hb hby hd) rfl kk) hr
theorem Wl.ior (pc' : Nat) {x z : Int32} (hd : decode bs pc = .ok (.ior, 1)) (hr : WlO l Z a0 EL y bs ml rt R as out Q sf h k n pc' Ls (.int (x ||| z) :: st)) (hp : pc + 1 = pc' := by rfl) : WlO l Z a0 EL y bs ml rt R as out Q sf h k n pc Ls (.int z :: .int x :: st) := by
  subst hp; exact Wl.plain (fun p e m below c T hx hby A t kk => XT.ior A hx rfl (hb hby hd) rfl kk) hr
theorem Wl.ixor (pc' : Nat) {x z : Int32} (hd : decode bs pc = .ok (.ixor, 1)) (hr : WlO l Z a0 EL y bs ml rt R as out Q sf h k n pc' Ls (.int (x ^^^ z) :: st)) (hp : pc + 1 = pc' := by rfl) : WlO l Z a0 EL y bs ml rt R as out Q sf h k n pc Ls (.int z :: .int x :: st) := by
  subst hp; exact Wl.plain (fun p e m below c T hx hby A t kk => XT.ixor A hx rfl (hb hby hd) rfl kk) hr
theorem Wl.ishl (pc' : Nat) {x z : Int32} (hd : decode bs pc = .ok (.ishl, 1)) (hr : WlO l Z a0 EL y bs ml rt R as out Q sf h k n pc' Ls (.int (x <<< (z &&& 31)) :: st)) (hp : pc + 1 = pc' := by rfl) : WlO l Z a0 EL y bs ml rt R as out Q sf h k n pc Ls (.int z :: .int x :: st) := by
  subst hp; exact Wl.plain (fun p e m below c T hx hby A t kk => XT.ishl A hx rfl (hb hby hd) rfl kk) hr
theorem Wl.ishr (pc' : Nat) {x z : Int32} (hd : decode bs pc = .ok (.ishr, 1)) (hr : WlO l Z a0 EL y bs ml rt R as out Q sf h k n pc' Ls (.int (x >>> (z &&& 31)) :: st)) (hp : pc + 1 = pc' := by rfl) : WlO l Z a0 EL y bs ml rt R as out Q sf h k n pc Ls (.int z :: .int x :: st) := by
  subst hp; exact Wl.plain (fun p e m below c T hx hby A t kk => XT.ishr A hx rfl (hb hby hd) rfl kk) hr
theorem Wl.iushr (pc' : Nat) {x z : Int32} (hd : decode bs pc = .ok (.iushr, 1)) (hr : WlO l Z a0 EL y bs ml rt R as out Q sf h k n pc' Ls (.int ((x.toUInt32 >>> (z &&& 31).toUInt32).toInt32) :: st)) (hp : pc + 1 = pc' := by rfl) : WlO l Z a0 EL y bs ml rt R as out Q sf h k n pc Ls (.int z :: .int x :: st) := by
  subst hp; exact Wl.plain (fun p e m below c T hx hby A t kk => XT.iushr A hx rfl (hb hby hd) rfl kk) hr
theorem Wl.ladd (pc' : Nat) {x z : Int64} (hd : decode bs pc = .ok (.ladd, 1)) (hr : WlO l Z a0 EL y bs ml rt R as out Q sf h k n pc' Ls (.long (x + z) :: st)) (hp : pc + 1 = pc' := by rfl) : WlO l Z a0 EL y bs ml rt R as out Q sf h k n pc Ls (.long z :: .long x :: st) := by
  subst hp; exact Wl.plain (fun p e m below c T hx hby A t kk => XT.ladd A hx rfl (hb hby hd) rfl kk) hr
theorem Wl.land (pc' : Nat) {x z : Int64} (hd : decode bs pc = .ok (.land, 1)) (hr : WlO l Z a0 EL y bs ml rt R as out Q sf h k n pc' Ls (.long (x &&& z) :: st)) (hp : pc + 1 = pc' := by rfl) : WlO l Z a0 EL y bs ml rt R as out Q sf h k n pc Ls (.long z :: .long x :: st) := by
  subst hp; exact Wl.plain (fun p e m below c T hx hby A t kk => XT.land A hx rfl (hb hby hd) rfl kk) hr
theorem Wl.lushr (pc' : Nat) {x : Int64} {z : Int32} (hd : decode bs pc = .ok (.lushr, 1)) (hr : WlO l Z a0 EL y bs ml rt R as out Q sf h k n pc' Ls (.long (Jvm.Free.XT.ushrL x z) :: st)) (hp : pc + 1 = pc' := by rfl) : WlO l Z a0 EL y bs ml rt R as out Q sf h k n pc Ls (.int z :: .long x :: st) := by
  subst hp; exact Wl.plain (fun p e m below c T hx hby A t kk => XT.lushr A hx rfl (hb hby hd) rfl kk) hr
theorem Wl.lcmp (pc' : Nat) {x z : Int64} (hd : decode bs pc = .ok (.lcmp, 1)) (hr : WlO l Z a0 EL y bs ml rt R as out Q sf h k n pc' Ls (.int (lcmpW x z) :: st)) (hp : pc + 1 = pc' := by rfl) : WlO l Z a0 EL y bs ml rt R as out Q sf h k n pc Ls (.long z :: .long x :: st) := by
  subst hp; exact Wl.plain (fun p e m below c T hx hby A t kk => XT.lcmp A hx rfl (hb hby hd) rfl kk) hr
theorem Wl.i2l (pc' : Nat) {x : Int32} (hd : decode bs pc = .ok (.i2l, 1)) (hr : WlO l Z a0 EL y bs ml rt R as out Q sf h k n pc' Ls (.long x.toInt64 :: st)) (hp : pc + 1 = pc' := by rfl) : WlO l Z a0 EL y bs ml rt R as out Q sf h k n pc Ls (.int x :: st) := by
  subst hp; exact Wl.plain (fun p e m below c T hx hby A t kk => XT.i2l A hx rfl (hb hby hd) rfl kk) hr
theorem Wl.l2i (pc' : Nat) {x : Int64} (hd : decode bs pc = .ok (.l2i, 1)) (hr : WlO l Z a0 EL y bs ml rt R as out Q sf h k n pc' Ls (.int x.toInt32 :: st)) (hp : pc + 1 = pc' := by rfl) : WlO l Z a0 EL y bs ml rt R as out Q sf h k n pc Ls (.long x :: st) := by
  subst hp; exact Wl.plain (fun p e m below c T hx hby A t kk => XT.l2i A hx rfl (hb hby hd) rfl kk) hr
theorem Wl.i2b (pc' : Nat) {x : Int32} (hd : decode bs pc = .ok (.i2b, 1)) (hr : WlO l Z a0 EL y bs ml rt R as out Q sf h k n pc' Ls (.int x.toInt8.toInt32 :: st)) (hp : pc + 1 = pc' := by rfl) : WlO l Z a0 EL y bs ml rt R as out Q sf h k n pc Ls (.int x :: st) := by
  subst hp; exact Wl.plain (fun p e m below c T hx hby A t kk => XT.i2b A hx rfl (hb hby hd) rfl kk) hr
theorem Wl.i2c (pc' : Nat) {x : Int32} (hd : decode bs pc = .ok (.i2c, 1)) (hr : WlO l Z a0 EL y bs ml rt R as out Q sf h k n pc' Ls (.int x.toUInt32.toUInt16.toUInt32.toInt32 :: st)) (hp : pc + 1 = pc' := by rfl) : WlO l Z a0 EL y bs ml rt R as out Q sf h k n pc Ls (.int x :: st) := by
  subst hp; exact Wl.plain (fun p e m below c T hx hby A t kk => XT.i2c A hx rfl (hb hby hd) rfl kk) hr
theorem Wl.dup (pc' : Nat) {v : Value} (hd : decode bs pc = .ok (.dup, 1)) (hc : v.category = 1) (hr : WlO l Z a0 EL y bs ml rt R as out Q sf h k n pc' Ls (v :: v :: st)) (hp : pc + 1 = pc' := by rfl) : WlO l Z a0 EL y bs ml rt R as out Q sf h k n pc Ls (v :: st) := by
  subst hp; exact Wl.plain (fun p e m below c T hx hby A t kk => XS.dup A hx rfl (hb hby hd) rfl hc kk) hr
theorem Wl.pop (pc' : Nat) {v : Value} (hd : decode bs pc = .ok (.pop, 1)) (hc : v.category = 1) (hr : WlO l Z a0 EL y bs ml rt R as out Q sf h k n pc' Ls st) (hp : pc + 1 = pc' := by rfl) : WlO l Z a0 EL y bs ml rt R as out Q sf h k n pc Ls (v :: st) := by
  subst hp; exact Wl.plain (fun p e m below c T hx hby A t kk => XT.pop A hx rfl (hb hby hd) rfl hc kk) hr
theorem Wl.goto (pc' : Nat) {o : Int} (hd : decode bs pc = .ok (.goto o, 3)) (hr : WlO l Z a0 EL y bs ml rt R as out Q sf h k n pc' Ls st) (ho : 0 ≤ (pc : Int) + o := by decide) (hp : ((pc : Int) + o).toNat = pc' := by decide) : WlO l Z a0 EL y bs ml rt R as out Q sf h k n pc Ls st :=
  Wl.plain (fun p e m below c T hx hby A t kk => XS.goto A hx rfl rfl (hb hby hd) ho hp kk) hr
theorem Wl.ifY (pc' : Nat) {cd : ClassFile.Cond} {o : Int} {x : Int32} (hd : decode bs pc = .ok (.ifCond cd o, 3)) (hc : if_icmp.holds cd x 0 = true) (hr : WlO l Z a0 EL y bs ml rt R as out Q sf h k n pc' Ls st) (ho : 0 ≤ (pc : Int) + o := by decide) (hp : ((pc : Int) + o).toNat = pc' := by decide) : WlO l Z a0 EL y bs ml rt R as out Q sf h k n pc Ls (.int x :: st) :=
  Wl.plain (fun p e m below c T hx hby A t kk => XS.ifYes A hx rfl rfl (hb hby hd) rfl ((if0 _ _).trans hc) ho hp kk) hr
theorem Wl.ifN (pc' : Nat) {cd : ClassFile.Cond} {o : Int} {x : Int32} (hd : decode bs pc = .ok (.ifCond cd o, 3)) (hc : if_icmp.holds cd x 0 = false) (hr : WlO l Z a0 EL y bs ml rt R as out Q sf h k n pc' Ls st) (hp : pc + 3 = pc' := by rfl) : WlO l Z a0 EL y bs ml rt R as out Q sf h k n pc Ls (.int x :: st) := by
  subst hp; exact Wl.plain (fun p e m below c T hx hby A t kk => XS.ifNo A hx rfl (hb hby hd) rfl ((if0 _ _).trans hc) kk) hr
theorem Wl.icmpY (pc' : Nat) {cd : ClassFile.Cond} {o : Int} {x z : Int32} (hd : decode bs pc = .ok (.if_icmp cd o, 3)) (hc : if_icmp.holds cd x z = true) (hr : WlO l Z a0 EL y bs ml rt R as out Q sf h k n pc' Ls st) (ho : 0 ≤ (pc : Int) + o := by decide) (hp : ((pc : Int) + o).toNat = pc' := by decide) : WlO l Z a0 EL y bs ml rt R as out Q sf h k n pc Ls (.int z :: .int x :: st) :=
  Wl.plain (fun p e m below c T hx hby A t kk => XS.icmpYes A hx rfl rfl (hb hby hd) rfl hc ho hp kk) hr
theorem Wl.icmpN (pc' : Nat) {cd : ClassFile.Cond} {o : Int} {x z : Int32} (hd : decode bs pc = .ok (.if_icmp cd o, 3)) (hc : if_icmp.holds cd x z = false) (hr : WlO l Z a0 EL y bs ml rt R as out Q sf h k n pc' Ls st) (hp : pc + 3 = pc' := by rfl) : WlO l Z a0 EL y bs ml rt R as out Q sf h k n pc Ls (.int z :: .int x :: st) := by
  subst hp; exact Wl.plain (fun p e m below c T hx hby A t kk => XS.icmpNo A hx rfl (hb hby hd) rfl hc kk) hr
theorem Wl.ifnullY (pc' : Nat) {o : Int} (hd : decode bs pc = .ok (.ifnull o, 3)) (hr : WlO l Z a0 EL y bs ml rt R as out Q sf h k n pc' Ls st) (ho : 0 ≤ (pc : Int) + o := by decide) (hp : ((pc : Int) + o).toNat = pc' := by decide) : WlO l Z a0 EL y bs ml rt R as out Q sf h k n pc Ls (.null :: st) :=
  Wl.plain (fun p e m below c T hx hby A t kk => XS.ifnullYes A hx rfl rfl (hb hby hd) rfl ho hp kk) hr
theorem Wl.ifnullN (pc' : Nat) {o : Int} {b : Addr} (hd : decode bs pc = .ok (.ifnull o, 3)) (hr : WlO l Z a0 EL y bs ml rt R as out Q sf h k n pc' Ls st) (hp : pc + 3 = pc' := by rfl) : WlO l Z a0 EL y bs ml rt R as out Q sf h k n pc Ls (.ref b :: st) := by
  subst hp; exact Wl.plain (fun p e m below c T hx hby A t kk => XS.ifnullNo A hx rfl (hb hby hd) rfl kk) hr
theorem Wl.ifnonnullY (pc' : Nat) {o : Int} {b : Addr} (hd : decode bs pc = .ok (.ifnonnull o, 3)) (hr : WlO l Z a0 EL y bs ml rt R as out Q sf h k n pc' Ls st) (ho : 0 ≤ (pc : Int) + o := by decide) (hp : ((pc : Int) + o).toNat = pc' := by decide) : WlO l Z a0 EL y bs ml rt R as out Q sf h k n pc Ls (.ref b :: st) :=
  Wl.plain (fun p e m below c T hx hby A t kk => XT.ifnonnullYes A hx rfl rfl (hb hby hd) rfl ho hp kk) hr
theorem Wl.ifnonnullN (pc' : Nat) {o : Int} (hd : decode bs pc = .ok (.ifnonnull o, 3)) (hr : WlO l Z a0 EL y bs ml rt R as out Q sf h k n pc' Ls st) (hp : pc + 3 = pc' := by rfl) : WlO l Z a0 EL y bs ml rt R as out Q sf h k n pc Ls (.null :: st) := by
  subst hp; exact Wl.plain (fun p e m below c T hx hby A t kk => XT.ifnonnullNo A hx rfl (hb hby hd) rfl kk) hr
theorem Wl.acmp (pc' : Nat) {cd : ACond} {o : Int} {v w : Value} (same : Bool) (hd : decode bs pc = .ok (.if_acmp cd o, 3)) (h1 : v.isRef = true) (h2 : w.isRef = true) (hq : decide (v = w) = same) (hr : WlO l Z a0 EL y bs ml rt R as out Q sf h k n pc' Ls st) (ho : 0 ≤ (pc : Int) + o := by decide) (hp : pc' = if acV cd same = true then ((pc : Int) + o).toNat else pc + 3 := by decide) : WlO l Z a0 EL y bs ml rt R as out Q sf h k n pc Ls (w :: v :: st) :=
  Wl.same (fun p e s m below meth c T vm0 locs hx hby _ _ _ X eT _ => ⟨T, X, eT, fun t kk => Jvm.RoadKit.acmp (g := mkF m pc Ls (w :: v :: st)) X hx rfl h1 h2 rfl (hb hby hd) rfl hq ho hp kk⟩) hr
/-! constants of the pool -/
theorem Wl.ldcI (pc' : Nat) {i : Nat} {v : Int32} (hd : decode bs pc = .ok (.ldc i, 2)) (w : (Jvm.Cond.constant y.cls i v).before a0 Z = true) (hr : WlO l Z a0 EL y bs ml rt R as out Q sf h k n pc' Ls (.int v :: st)) (hp : pc + 2 = pc' := by rfl) : WlO l Z a0 EL y bs ml rt R as out Q sf h k n pc Ls st := by
  subst hp; exact Wl.same (fun p e s m below meth c T vm0 locs hx hby _ hown hZ X eT _ => ⟨T, X, eT, fun t kk => Jvm.Stand.ldcI X hx (s := s.setVm vm0) hown (mv hZ w) rfl (hb hby hd) kk⟩) hr
theorem Wl.ldc_wI (pc' : Nat) {i : Nat} {v : Int32} (hd : decode bs pc = .ok (.ldc_w i, 3)) (w : (Jvm.Cond.constant y.cls i v).before a0 Z = true) (hr : WlO l Z a0 EL y bs ml rt R as out Q sf h k n pc' Ls (.int v :: st)) (hp : pc + 3 = pc' := by rfl) : WlO l Z a0 EL y bs ml rt R as out Q sf h k n pc Ls st := by
  subst hp; exact Wl.same (fun p e s m below meth c T vm0 locs hx hby _ hown hZ X eT _ => ⟨T, X, eT, fun t kk => Jvm.Stand.ldcWI X hx (s := s.setVm vm0) hown (mv hZ w) rfl (hb hby hd) kk⟩) hr
theorem Wl.ldc2J (pc' : Nat) {i : Nat} {v : Int64} (hd : decode bs pc = .ok (.ldc2_w i, 3)) (w : (Jvm.Cond.constantLong y.cls i v).before a0 Z = true) (hr : WlO l Z a0 EL y bs ml rt R as out Q sf h k n pc' Ls (.long v :: st)) (hp : pc + 3 = pc' := by rfl) : WlO l Z a0 EL y bs ml rt R as out Q sf h k n pc Ls st := by
  subst hp; exact Wl.same (fun p e s m below meth c T vm0 locs hx hby _ hown hZ X eT _ => ⟨T, X, eT, fun t kk => Jvm.Stand.ldc2J X hx (s := s.setVm vm0) hown (mv hZ w) rfl (hb hby hd) kk⟩) hr
/-! fields -/
theorem Wl.getfield (pc' : Nat) {i : Nat} {O fn d : String} {a : Addr} {v : Value} (hd : decode bs pc = .ok (.getfield i, 3)) (w : (Jvm.Cond.fieldLink y.cls i O fn d).before a0 Z = true) (F : Fld Z h a O fn d v) (hr : WlO l Z a0 EL y bs ml rt R as out Q sf h k n pc' Ls (v :: st)) (hp : pc + 3 = pc' := by rfl) : WlO l Z a0 EL y bs ml rt R as out Q sf h k n pc Ls (.ref a :: st) := by
  subst hp; exact Wl.same (fun p e s m below meth c T vm0 locs hx hby _ hown hZ X eT _ => getF X hx (s := s.setVm vm0) hZ hown (host := "") (Or.inl w) Via.refl eT F (g := mkF m pc Ls (.ref a :: st)) rfl rfl (hb hby hd)) hr
theorem Wl.getstatic (pc' : Nat) {i : Nat} {O fn d : String} {v : Value} (hd : decode bs pc = .ok (.getstatic i, 3)) (w : (Jvm.Cond.fieldLink y.cls i O fn d).before a0 Z = true) (F : Sta Z Z.heap O fn d v) (hr : WlO l Z a0 EL y bs ml rt R as out Q sf h k n pc' Ls (v :: st)) (hp : pc + 3 = pc' := by rfl) : WlO l Z a0 EL y bs ml rt R as out Q sf h k n pc Ls st := by
  subst hp; exact Wl.same (fun p e s m below meth c T vm0 locs hx hby _ hown hZ X eT hO => getS (host := "") X hx (s := s.setVm vm0) hZ hown w Via.refl eT (F.ext hO) (g := mkF m pc Ls st) rfl (hb hby hd)) hr
theorem Wl.getstaticN (pc' : Nat) {i : Nat} {O fn d host : String} {v : Value} (hd : decode bs pc = .ok (.getstatic i, 3)) (w : (Jvm.Cond.fieldLinkNest y.cls i O fn d host).before a0 Z = true) (F : Sta Z Z.heap O fn d v) (hr : WlO l Z a0 EL y bs ml rt R as out Q sf h k n pc' Ls (v :: st)) (hp : pc + 3 = pc' := by rfl) : WlO l Z a0 EL y bs ml rt R as out Q sf h k n pc Ls st := by
  subst hp; exact Wl.same (fun p e s m below meth c T vm0 locs hx hby _ hown hZ X eT hO => getS2 X hx (s := s.setVm vm0) hZ hown (Or.inr w) Via.refl eT (F.ext hO) (g := mkF m pc Ls st) rfl (hb hby hd)) hr
theorem Wl.putfield (pc' : Nat) {i kk : Nat} {O fn d K : String} {ty : FieldType} {a : Addr} {v old : Value} (hd : decode bs pc = .ok (.putfield i, 3)) (w : (Jvm.Cond.fieldLink y.cls i O fn d).before a0 Z = true) (F : Fld Z h a O fn d old) (E : Exa Z h a K)
    (L : (Jvm.Cond.lays K O fn d).before a0 Z = true ∨ ((Jvm.Cond.laysFinal K O fn d).before a0 Z = true ∧ y.cls = O ∧ y.name = "<init>")) (wi : (Jvm.Cond.instantiable K kk).before a0 Z = true) (hty : parseFieldDescriptor d = some ty) (hn : narrow ty v = v) (hf : fits ty v = true) (ha : a ∈ sf)
    (hr : ∀ h', Wr h h' a (Jvm.RoadKit.slotOf Z O fn d) v → WlO l Z a0 EL y bs ml rt R as out Q sf h' k n pc' Ls st) (hp : pc + 3 = pc' := by rfl) : WlO l Z a0 EL y bs ml rt R as out Q sf h k n pc Ls (v :: .ref a :: st) := by
  subst hp; exact Wl.write ha (fun p e s m below meth c T vm0 locs hx hby hnm hown hZ X eT => putF X hx (s := s.setVm vm0) hZ hown (host := "") (Or.inl w) Via.refl eT F E (L.imp id fun q => ⟨q.1, q.2.1, hnm.trans q.2.2⟩) wi hty hn hf (g := mkF m pc Ls (v :: .ref a :: st)) rfl rfl (hb hby hd)) hr
/-! new things -/
theorem Wl.new (pc' : Nat) {i cnt : Nat} {K : String} (hd : decode bs pc = .ok (.new i, 3)) (w : (Jvm.Cond.classLink y.cls i K).before a0 Z = true) (wi : (Jvm.Cond.instantiable K cnt).before a0 Z = true) (wz : (Jvm.Cond.initialized K).before a0 Z = true) (hc : k + 1 ≤ R.cells) (hl : n + cnt ≤ R.slots)
    (hr : ∀ (a : Addr) (h' : Heap), a = h.size → Ext h h' → Exa Z h' a K → (∀ {O nm d : String} {ty : FieldType}, Laid Z a0 K O nm d → parseFieldDescriptor d = some ty → Fld Z h' a O nm d (defaultValue ty)) → WlO l Z a0 EL y bs ml rt R as out Q (a :: sf) h' (k + 1) (n + cnt) pc' Ls (.ref a :: st)) (hp : pc + 3 = pc' := by rfl) : WlO l Z a0 EL y bs ml rt R as out Q sf h k n pc Ls st := by
  subst hp
  refine Wl.grow (st' := fun a => .ref a :: st) (F := fun h' a => Exa Z h' a K ∧ ∀ {O nm d : String} {ty : FieldType}, Laid Z a0 K O nm d → parseFieldDescriptor d = some ty → Fld Z h' a O nm d (defaultValue ty)) (fun p e s m below meth c T vm0 locs hx hby _ hown hZ X eT _ => ?_) (fun a h' ea E G => hr a h' ea E G.1 G.2)
  obtain ⟨T', h', X', e', E, G, D, -, stp⟩ := newO X hx (s := s.setVm vm0) hZ hown w wi wz eT (g := mkF m pc Ls st) rfl (hb hby hd) hc hl
  exact ⟨T', h', X', e', E, G.lt, ⟨G, D⟩, stp⟩
theorem Wl.newarray (pc' : Nat) {aty : ArrayType} {z : Int32} (cap : Nat) (hd : decode bs pc = .ok (.newarray aty, 2)) (w : (Jvm.Cond.arrayClass (newarray.typeOf aty)).before a0 Z = true) (hz : ¬ z < 0) (hcap : z.toNatClampNeg ≤ cap) (hb8 : cap * 8 ≤ 536870912) (hc : k + 1 ≤ R.cells) (hl : n + cap ≤ R.slots)
    (hr : ∀ (a : Addr) (h' : Heap) (cA : ClassId), a = h.size → Ext h h' → Arv Z h' a cA (newarray.typeOf aty) z (List.replicate z.toNatClampNeg (defaultValue (newarray.typeOf aty))) (defaultValue (newarray.typeOf aty)) → WlO l Z a0 EL y bs ml rt R as out Q (a :: sf) h' (k + 1) (n + cap) pc' Ls (.ref a :: st)) (hp : pc + 2 = pc' := by rfl) : WlO l Z a0 EL y bs ml rt R as out Q sf h k n pc Ls (.int z :: st) := by
  subst hp
  refine Wl.grow (st' := fun a => .ref a :: st) (F := fun h' a => ∃ cA, Arv Z h' a cA (newarray.typeOf aty) z (List.replicate z.toNatClampNeg (defaultValue (newarray.typeOf aty))) (defaultValue (newarray.typeOf aty))) (fun p e s m below meth c T vm0 locs hx hby _ hown hZ X eT _ => ?_) (fun a h' ea E G => by obtain ⟨cA, G⟩ := G; exact hr a h' cA ea E G)
  obtain ⟨T', h', cA, X', e', E, G, stp⟩ := newP X hx (s := s.setVm vm0) hZ w eT (g := mkF m pc Ls (.int z :: st)) rfl (hb hby hd) rfl hz hcap hb8 hc hl
  exact ⟨T', h', X', e', E, G.lt, ⟨cA, (Arv.new G hz).pad fun i => by simpa using pad_rep [] (defaultValue (newarray.typeOf aty)) z.toNatClampNeg i⟩, stp⟩
/-! arrays -/
theorem Wl.arraylength (pc' : Nat) {a : Addr} {kc : ClassId} {ty : FieldType} {z : Int32} {vs : List Value} {dv : Value} (hd : decode bs pc = .ok (.arraylength, 1)) (F : Arv Z h a kc ty z vs dv) (hr : WlO l Z a0 EL y bs ml rt R as out Q sf h k n pc' Ls (.int z :: st)) (hp : pc + 1 = pc' := by rfl) : WlO l Z a0 EL y bs ml rt R as out Q sf h k n pc Ls (.ref a :: st) := by
  subst hp
  refine Wl.same (fun p e s m below meth c T vm0 locs hx hby _ hown hZ X eT _ => ⟨T, X, eT, fun t kk => ?_⟩) hr
  obtain ⟨cl, A, q1, q2, q3, -⟩ := F
  refine X.arraylength hx (by rw [eT]; exact A.1) (State.isArrayOf_alike (T := s.setVm vm0) hZ.alike A.2.1) (g := mkF m pc Ls (.ref a :: st)) rfl rfl (hb hby hd) t ?_
  rw [len_of q2 q3]; exact kk
theorem inb {cl : Cell} {z j : Int32} {i : Nat} (S : cl.slots.size = z.toNatClampNeg) (hj : ¬ j < 0) (e : j.toNatClampNeg = i) (hi : i < z.toNatClampNeg) : ¬ (j < 0 ∨ cl.slots.size ≤ j.toNatClampNeg) := fun q => by
  rcases q with q | q
  · exact hj q
  · rw [S, e] at q; omega
theorem Wl.caload (pc' : Nat) {a : Addr} {kc : ClassId} {z j : Int32} {vs : List Value} {dv v : Value} (i : Nat) (hd : decode bs pc = .ok (.caload, 1)) (F : Arv Z h a kc .char z vs dv) (hj : ¬ j < 0) (ej : j.toNatClampNeg = i) (hi : i < z.toNatClampNeg) (hv : vs.getD i dv = v) (hr : WlO l Z a0 EL y bs ml rt R as out Q sf h k n pc' Ls (v :: st)) (hp : pc + 1 = pc' := by rfl) : WlO l Z a0 EL y bs ml rt R as out Q sf h k n pc Ls (.int j :: .ref a :: st) := by
  subst hp
  refine Wl.same (fun p e s m below meth c T vm0 locs hx hby _ hown hZ X eT _ => ⟨T, X, eT, fun t kk => ?_⟩) hr
  obtain ⟨cl, A, q1, q2, q3, H, -⟩ := F
  exact X.caload hx (by rw [eT]; exact A.1) (State.isArrayOf_alike (T := s.setVm vm0) hZ.alike A.2.1) A.2.2 (inb q2 hj ej hi) (H.at (inb q2 hj ej hi) (by rw [ej]; exact hv)) (g := mkF m pc Ls (.int j :: .ref a :: st)) rfl rfl (hb hby hd) t kk
theorem Wl.baload (pc' : Nat) {a : Addr} {kc : ClassId} {z j : Int32} {vs : List Value} {dv v : Value} (i : Nat) (hd : decode bs pc = .ok (.baload, 1)) (F : Arv Z h a kc .byte z vs dv) (hj : ¬ j < 0) (ej : j.toNatClampNeg = i) (hi : i < z.toNatClampNeg) (hv : vs.getD i dv = v) (hr : WlO l Z a0 EL y bs ml rt R as out Q sf h k n pc' Ls (v :: st)) (hp : pc + 1 = pc' := by rfl) : WlO l Z a0 EL y bs ml rt R as out Q sf h k n pc Ls (.int j :: .ref a :: st) := by
  subst hp
  refine Wl.same (fun p e s m below meth c T vm0 locs hx hby _ hown hZ X eT _ => ⟨T, X, eT, fun t kk => ?_⟩) hr
  obtain ⟨cl, A, q1, q2, q3, H, -⟩ := F
  exact X.baloadBytes hx (by rw [eT]; exact A.1) (State.isArrayOf_alike (T := s.setVm vm0) hZ.alike A.2.1) A.2.2 (inb q2 hj ej hi) (H.at (inb q2 hj ej hi) (by rw [ej]; exact hv)) (g := mkF m pc Ls (.int j :: .ref a :: st)) rfl rfl (hb hby hd) t kk
theorem Wl.castore (pc' : Nat) {a : Addr} {kc : ClassId} {z j x : Int32} {vs : List Value} {dv : Value} (i : Nat) (hd : decode bs pc = .ok (.castore, 1)) (F : Arv Z h a kc .char z vs dv) (ha : a ∈ sf) (hj : ¬ j < 0) (ej : j.toNatClampNeg = i) (hi : i < z.toNatClampNeg) (hi' : i < vs.length)
    (hr : ∀ h', Wr h h' a i (.int (nar .char x)) → Arv Z h' a kc .char z (vs.set i (.int (nar .char x))) dv → WlO l Z a0 EL y bs ml rt R as out Q sf h' k n pc' Ls st) (hp : pc + 1 = pc' := by rfl) : WlO l Z a0 EL y bs ml rt R as out Q sf h k n pc Ls (.int x :: .int j :: .ref a :: st) := by
  subst hp
  obtain ⟨cl, A, q1, q2, q3, H, G⟩ := F
  refine Wl.write (sl := i) (v := .int (nar .char x)) ha (fun p e s m below meth c T vm0 locs hx hby _ hown hZ X eT => ?_) (fun h' Wv => hr h' Wv (Arv.set A q1 q2 q3 H G (fits_nar_char x) (ej ▸ Wv) i ej hi'))
  subst ej
  exact stC X hx (s := s.setVm vm0) hZ eT A (inb q2 hj rfl hi) (g := mkF m pc Ls (.int x :: .int j :: .ref a :: st)) rfl rfl (hb hby hd)
theorem Wl.bastore (pc' : Nat) {a : Addr} {kc : ClassId} {z j x : Int32} {vs : List Value} {dv : Value} (i : Nat) (hd : decode bs pc = .ok (.bastore, 1)) (F : Arv Z h a kc .byte z vs dv) (ha : a ∈ sf) (hj : ¬ j < 0) (ej : j.toNatClampNeg = i) (hi : i < z.toNatClampNeg) (hi' : i < vs.length)
    (hr : ∀ h', Wr h h' a i (.int (nar .byte x)) → Arv Z h' a kc .byte z (vs.set i (.int (nar .byte x))) dv → WlO l Z a0 EL y bs ml rt R as out Q sf h' k n pc' Ls st) (hp : pc + 1 = pc' := by rfl) : WlO l Z a0 EL y bs ml rt R as out Q sf h k n pc Ls (.int x :: .int j :: .ref a :: st) := by
  subst hp
  obtain ⟨cl, A, q1, q2, q3, H, G⟩ := F
  refine Wl.write (sl := i) (v := .int (nar .byte x)) ha (fun p e s m below meth c T vm0 locs hx hby _ hown hZ X eT => ?_) (fun h' Wv => hr h' Wv (Arv.set A q1 q2 q3 H G (fits_nar_byte x) (ej ▸ Wv) i ej hi'))
  subst ej
  exact stB X hx (s := s.setVm vm0) hZ eT A (inb q2 hj rfl hi) (g := mkF m pc Ls (.int x :: .int j :: .ref a :: st)) rfl rfl (hb hby hd)
/-- System.arraycopy between arrays of one primitive kind, into an own array -/
theorem Wl.arraycopy (pc' : Nat) {i : Nat} {a b : Addr} {kc kc' : ClassId} {ty : FieldType} {z z' sp dp nn : Int32} {vs vd : List Value} {dv dd : Value} (hd : decode bs pc = .ok (.invokestatic i, 3))
    (w1 : (Jvm.Cond.methodLink y.cls i Jvm.Stand.acN).before a0 Z = true) (w2 : (Jvm.Cond.native Jvm.Stand.acN).before a0 Z = true) (w3 : (Jvm.Cond.static Jvm.Stand.acN).before a0 Z = true) (w4 : (Jvm.Cond.initialized "java/lang/System").before a0 Z = true)
    (A : Arv Z h a kc ty z vs dv) (B : Arv Z h b kc' ty z' vd dd) (hty : refKind ty = false) (h1 : ¬ sp < 0) (h2 : ¬ dp < 0) (h3 : ¬ nn < 0) (h4 : sp.toNatClampNeg + nn.toNatClampNeg ≤ z.toNatClampNeg) (h5 : dp.toNatClampNeg + nn.toNatClampNeg ≤ z'.toNatClampNeg) (hl : dp.toNatClampNeg + nn.toNatClampNeg ≤ vd.length) (hbs : b ∈ sf) (hsz : Ls.size = ml) (hf : 1 ≤ R.frames) (hlo : (st.map fun v => v.category).sum + (nativeFrameWords "java/lang/System" "arraycopy" 5 + 11) ≤ R.locals)
    (hr : ∀ h', Keep h h' [b] → Arv Z h' b kc' ty z' (vd.take dp.toNatClampNeg ++ ((List.range nn.toNatClampNeg).map fun i => vs.getD (sp.toNatClampNeg + i) dv) ++ vd.drop (dp.toNatClampNeg + nn.toNatClampNeg)) dd → WlO l Z a0 EL y bs ml rt R as out Q sf h' k n pc' Ls st) (hp : pc + 3 = pc' := by rfl) : WlO l Z a0 EL y bs ml rt R as out Q sf h k n pc Ls (.int nn :: .int dp :: .ref b :: .int sp :: .ref a :: st) := by
  subst hp
  intro p e s m below meth c T W
  obtain ⟨A0, vm0, locs, k0, X, eT, hS, hk, hF, hZ, hC, hM, hH⟩ := W
  obtain ⟨T', h', L', X', e', hF', K, G, stp⟩ := cpA X A0.1 (s := s.setVm vm0) hZ (by show vm0.findClass y.cls = _; rw [hS.1.alike.findClass]; exact A0.2.2.2.2.2.2.1) w1 w2 w3 w4 eT A B (Or.inl ⟨rfl, hty⟩) h1 h2 h3 h4 h5 rfl hl hF (hM b hbs).2.1 (g := mkF m pc Ls (.int nn :: .int dp :: .ref b :: .int sp :: .ref a :: st)) rfl (by rw [A0.2.2.1]; exact hsz) rfl (hb A0.2.1 hd) hf (W := (st.map fun v => v.category).sum) (by show 2 * 0 + _ ≤ _; omega) hlo
  have Bc := CHr.keep (Z := Z) (EL := EL) (vm := vm0) K (fun x hx => by cases List.mem_singleton.mp hx; exact (hM b hbs).1) hC.1
  exact Go.of stp (hr h' K G p e s m below meth c T' ⟨A0, vm0, L', k0, X', e', hS, Nat.le_trans hk K.1, hF', hZ, hC.trans Bc, hM.chr Bc, hH⟩)
/-! Object.<init>, classes -/
theorem Wl.initO (pc' : Nat) {i : Nat} {a : Addr} (hd : decode bs pc = .ok (.invokespecial i, 3)) (w1 : (Jvm.Cond.methodLink y.cls i Lib.objectInit).before a0 Z = true) (w2 : (Jvm.Cond.instanceMethod Lib.objectInit).before a0 Z = true) (w3 : (Jvm.Cond.code Lib.objectInit ⟨#[0xb1]⟩ 1 none).before a0 Z = true) (hsz : Ls.size = ml) (hf : 1 ≤ R.frames) (hl : (st.map fun v => v.category).sum + 12 ≤ R.locals)
    (hr : WlO l Z a0 EL y bs ml rt R as out Q sf h k n pc' Ls st) (hp : pc + 3 = pc' := by rfl) : WlO l Z a0 EL y bs ml rt R as out Q sf h k n pc Ls (.ref a :: st) := by
  subst hp; exact Wl.same (fun p e s m below meth c T vm0 locs hx hby hml hown hZ X eT _ => Jvm.RoadKit.initO X hx (s := s.setVm vm0) hZ hown w1 w2 w3 eT (g := mkF m pc Ls (.ref a :: st)) rfl (by rw [hml]; exact hsz) rfl (hb hby hd) hf (W := (st.map fun v => v.category).sum) (by show 2 * 0 + _ ≤ _; omega) hl) hr
theorem Wl.checkcast (pc' : Nat) {i : Nat} {K : String} {a : Addr} (hd : decode bs pc = .ok (.checkcast i, 3)) (w : (Jvm.Cond.classLink y.cls i K).before a0 Z = true) (F : Ins Z h a K true) (hr : WlO l Z a0 EL y bs ml rt R as out Q sf h k n pc' Ls (.ref a :: st)) (hp : pc + 3 = pc' := by rfl) : WlO l Z a0 EL y bs ml rt R as out Q sf h k n pc Ls (.ref a :: st) := by
  subst hp; exact Wl.same (fun p e s m below meth c T vm0 locs hx hby hml hown hZ X eT _ => castY X hx (s := s.setVm vm0) hZ hown w eT F (g := mkF m pc Ls (.ref a :: st)) rfl rfl (hb hby hd)) hr
theorem Wl.instY (pc' : Nat) {i : Nat} {K : String} {a : Addr} (hd : decode bs pc = .ok (.instanceof i, 3)) (w : (Jvm.Cond.classLink y.cls i K).before a0 Z = true) (F : Ins Z h a K true) (hr : WlO l Z a0 EL y bs ml rt R as out Q sf h k n pc' Ls (.int 1 :: st)) (hp : pc + 3 = pc' := by rfl) : WlO l Z a0 EL y bs ml rt R as out Q sf h k n pc Ls (.ref a :: st) := by
  subst hp; exact Wl.same (fun p e s m below meth c T vm0 locs hx hby hml hown hZ X eT _ => Jvm.RoadKit.instY X hx (s := s.setVm vm0) hZ hown w eT F (g := mkF m pc Ls (.ref a :: st)) rfl rfl (hb hby hd)) hr
theorem Wl.instN (pc' : Nat) {i : Nat} {K K' : String} {a : Addr} (hd : decode bs pc = .ok (.instanceof i, 3)) (w : (Jvm.Cond.classLink y.cls i K).before a0 Z = true) (E : Exa Z h a K') (F : ∃ c t, Z.vm.findClass K' = some c ∧ Z.vm.findClass K = some t ∧ Z.vm.assignable c t = false) (hr : WlO l Z a0 EL y bs ml rt R as out Q sf h k n pc' Ls (.int 0 :: st)) (hp : pc + 3 = pc' := by rfl) : WlO l Z a0 EL y bs ml rt R as out Q sf h k n pc Ls (.ref a :: st) := by
  subst hp; exact Wl.same (fun p e s m below meth c T vm0 locs hx hby hml hown hZ X eT _ => instNo X hx (s := s.setVm vm0) hZ hown w eT E F (g := mkF m pc Ls (.ref a :: st)) rfl rfl (hb hby hd)) hr
theorem Wl.instNull (pc' : Nat) {i : Nat} (hd : decode bs pc = .ok (.instanceof i, 3)) (hr : WlO l Z a0 EL y bs ml rt R as out Q sf h k n pc' Ls (.int 0 :: st)) (hp : pc + 3 = pc' := by rfl) : WlO l Z a0 EL y bs ml rt R as out Q sf h k n pc Ls (.null :: st) := by
  subst hp; exact Wl.same (fun p e s m below meth c T vm0 locs hx hby hml hown hZ X eT _ => ⟨T, X, eT, X.instanceofNull hx (g := mkF m pc Ls (.null :: st)) rfl rfl (hb hby hd)⟩) hr
/-- C's only superclass is S, who has none; K is another plain class -/
theorem notInst {K' S K : String} {cnt : Nat} (w : (Jvm.Cond.superclass K' S).before a0 Z = true) (wo : (Jvm.Cond.noSuperclass S).before a0 Z = true) (wi : (Jvm.Cond.instantiable K cnt).before a0 Z = true) (h1 : S ≠ K) (h2 : K' ≠ K) : ∃ c t, Z.vm.findClass K' = some c ∧ Z.vm.findClass K = some t ∧ Z.vm.assignable c t = false := by
  obtain ⟨t, kt, g0, g2, g5, g7, -⟩ := Cond.instantiable_spec wi
  obtain ⟨c', k', s1, s2, s3, -, -⟩ := Cond.noSuperclass_spec wo
  obtain ⟨c, h0⟩ := found_sup w
  obtain ⟨p, k, kp, q1, q2, q3, q4, q5, -, q7⟩ := Cond.superclass_spec h0 w
  cases s1.symm.trans q1
  have ne := ids_ne h0 g0 h2
  have ne' := ids_ne s1 g0 h1
  have hi : kt.isInterface = false := by
    cases hq : kt.isInterface with
    | false => rfl
    | true => rw [hq] at g7; simp at g7
  have n3 : ∀ fuel, Z.vm.isSubclassAux fuel c t = false := fun fuel => by
    cases fuel with
    | zero => rfl
    | succ f =>
      have m3 : Z.vm.isSubclassAux f c' t = false := by
        cases f with
        | zero => rfl
        | succ f => simp [Vm.isSubclassAux, ne', s2, s3]
      simp [Vm.isSubclassAux, ne, q2, q4, m3]
  refine ⟨c, t, h0, g0, ?_⟩
  show Z.vm.assignableAux (255 + 1) c t = false
  simp [Vm.assignableAux, ne, q2, g2, q5, g5, hi, Vm.isSubclass, n3]
/-! returns -/
theorem Wl.ret {v : Option Value} (hv : rt = none → v = none) (hk : k ≤ R.cells) (hn : n ≤ R.slots)
    (f : ∀ (p : Program) (e : Env) (s : State) (m : MethodId) (below : List Frame) (meth : Method) (c : Code) (T : State) (vm0 : Vm) (locs : List Loc) (fs : List Frame), p.tables.exec = Jvm.exec → c.code = bs → meth.sig.returnType = rt → Stand p l e R (s.setVm vm0) m as below meth c T locs k n →
      (∀ (f : JFrame) (acts : List Action), f.method = m → f.locked = none → f.entered = [] → (doReturn e (T.setTop f) acts v).1 = T.setFrames fs) → Steps p.tables e below (T.setTop (mkF m pc Ls st)) (T.setFrames fs))
    (hq : Q v h) (ho : ∀ x ∈ out, x ∈ sf) : WlO l Z a0 EL y bs ml rt R as out Q sf h k n pc Ls st := by
  intro p e s m below meth c T W
  obtain ⟨⟨hx, hby, hml, hrt, hlk, hnm, hown, hEL, hO⟩, vm0, locs, k0, X, eT, hS, hk0, hF, hZ, hC, hM, hH⟩ := W
  obtain ⟨fs, hr, hrun, hend, hE⟩ := X.leaveW hS (by rw [eT]; exact hk0) (v := v) (fun q => hv (hrt ▸ q)) hlk
  refine ⟨_, _, f p e s m below meth c T vm0 locs fs hx hby hrt X hr, hrun, hend, v, locs, rfl, ⟨by show Q v T.heap; rw [eT]; exact hq, hF⟩, ?_, ⟨hE.1, hE.2.1, hE.2.2.1, hE.2.2.2.mono hk hn⟩, fun q => State.WarmedH.trans (t := s.setVm vm0) (hH q) X.warmed, ?_⟩
  · show CHr Z EL s.vm s.heap T.vm T.heap
    rw [eT]
    exact hC.trans (CHv.at X hZ hEL hC.1)
  · show Mine Z EL T.vm T.heap out
    rw [eT]
    exact (hM.chr (CHv.at X hZ hEL hC.1)).sub ho
theorem Wl.return_ (hd : decode bs pc = .ok (.return_, 1)) (hrt : rt = none) (hk : k ≤ R.cells) (hn : n ≤ R.slots) (hq : Q none h) (ho : ∀ x ∈ out, x ∈ sf := by exact fun _ q => nomatch q) : WlO l Z a0 EL y bs ml rt R as out Q sf h k n pc Ls [] :=
  Wl.ret (fun _ => rfl) hk hn (fun p e s m below meth c T vm0 locs fs hx hby hr X hl => X.returnOut hx (hr.trans hrt) (hb hby hd) hl) hq ho
theorem Wl.areturn {v : Value} {t : FieldType} (hd : decode bs pc = .ok (.areturn, 1)) (hrt : rt = some t) (ht : t.isReference = true) (hv : v.isRef = true) (hk : k ≤ R.cells) (hn : n ≤ R.slots) (hq : Q (some v) h) (ho : ∀ x ∈ out, x ∈ sf := by exact fun _ q => nomatch q) : WlO l Z a0 EL y bs ml rt R as out Q sf h k n pc Ls [v] :=
  Wl.ret (fun q => by rw [hrt] at q; cases q) hk hn (fun p e s m below meth c T vm0 locs fs hx hby hr X hl => X.areturnOut hx hv (hr.trans hrt) ht (hb hby hd) hl) hq ho
theorem Wl.ireturn {x : Int32} {t : FieldType} (hd : decode bs pc = .ok (.ireturn, 1)) (hrt : rt = some t) (hn1 : narrow t (.int x) = .int x) (ht : t = .int ∨ t = .boolean ∨ t = .byte ∨ t = .char ∨ t = .short) (hk : k ≤ R.cells) (hn : n ≤ R.slots) (hq : Q (some (.int x)) h) (ho : ∀ x ∈ out, x ∈ sf := by exact fun _ q => nomatch q) : WlO l Z a0 EL y bs ml rt R as out Q sf h k n pc Ls [.int x] :=
  Wl.ret (fun q => by rw [hrt] at q; cases q) hk hn (fun p e s m below meth c T vm0 locs fs hx hby hr X hl => X.ireturnOut hx (hr.trans hrt) hn1 ht (hb hby hd) hl) hq ho
/-! a body's walk is its contract; a contract pays a call -/
theorem Met.of_walk {ws : List Jvm.Cond} (hpn : plainFor y = true) (hEL : EW Z a0 EL) (hE : argsToLocals as ml = Ls) (hw : WlO l Z a0 EL y bs ml rt R as out Q sf h 0 0 0 Ls []) : MetO l Z EL y bs ml rt ws R as h sf out Q := by
  refine MetFree.of_bodySF hpn hisR ?_
  intro p e s m args below meth c s₁ Bd hml0 hP hK
  obtain ⟨rfl, hZ, hh, hC, hO, hM⟩ := hP
  have X0 : Stand p l e R s m args below meth c s₁ [] 0 0 := Stand.of_body Bd
  have e0 : s₁.heap = h := by rw [← hh, Bd.state]; rfl
  have hown : s.vm.findClass y.cls = some m.cls := findClass_of_methodNamed Bd.named
  have g := hw p e s m below meth c s₁ ⟨⟨Bd.exec, Bd.bytes, hml0, Bd.returns, Bd.notSynchronized, (name_of_methodNamed Bd.named Bd.method).1, hown, hEL, by rw [hh]; exact hO⟩, s.vm, [], h.size, X0, e0, (State.WarmedH.refl s).since _, Nat.le_refl _, Fr.nil _, hZ, by rw [hh]; exact CHr.refl hC, hM, fun _ => State.WarmedH.refl s⟩
  obtain ⟨s₂, o, g1, g2, g3, g4⟩ := g
  refine ⟨s₂, o, ?_, g2, g3, g4⟩
  have q : entryFrame m args ml = mkF m 0 Ls [] := by rw [← hE]; rfl
  exact castTop q g1
theorem Met.back {y2 : MethodName} {bs2 : ByteArray} {ml2 : Nat} {rt2 : Option FieldType} {rm : Room} {as2 : Array Value} {sf2 out2 : List Addr} {Q2 : Option Value → Heap → Prop} {len W : Nat} {vm0 : Vm} {args : Array Value}
    (hM : MetO l Z EL y2 bs2 ml2 rt2 [] rm as2 h sf2 out2 Q2) (hZ : Z.Warmed39 vm0) (wc : (Jvm.Cond.code y2 bs2 ml2 rt2).before a0 Z = true) (wz : (Jvm.Cond.initialized y2.cls).before a0 Z = true) (hf : rm.frames + 1 ≤ R.frames) (hl : W + (ml2 + 11) + rm.locals ≤ R.locals) (hEL : EW Z a0 EL) (H : CHv Z EL vm0 h) (hO : Ext Z.heap h) (hS : Mine Z EL vm0 h sf2) :
    BackS l R p e below (s.setVm vm0) args y2 len W (fun A a => a = as2 ∧ A.U.heap = h ∧ A.cells + rm.cells ≤ R.cells ∧ A.slots + rm.slots ≤ R.slots)
      (fun A _ v B => ∃ L, (Q2 v B.U.heap ∧ Fr Z.heap.size L) ∧ B.locs = A.locs ++ L ∧ B.cells = A.cells + rm.cells ∧ B.slots = A.slots + rm.slots ∧ CHr Z EL vm0 h B.U.vm B.U.heap ∧ (EL = [] → (s.setVm vm0).WarmedH B.U.vm) ∧ Mine Z EL B.U.vm B.U.heap out2) :=
  BackS.of_freeW (bytes := bs2) (maxL := ml2) (ret := rt2) (E := fun _ first o t L k n => k = rm.cells ∧ n = rm.slots ∧ (∃ v, o = .returned v ∧ (Q2 v t.heap ∧ Fr Z.heap.size L)) ∧ CHr Z EL first.vm first.heap t.vm t.heap ∧ (EL = [] → first.WarmedH t.vm) ∧ Mine Z EL t.vm t.heap out2) hM hf hl
    (fun m meth c A a Y hp => have hU : Z.Warmed39 A.U.vm := wtrans (s := s.setVm vm0) hZ Y.warmed
      ⟨by show (Jvm.Cond.and _ .tt).before a A.U = true; rw [Cond.before_and, mv hU wc]; rfl, mv hU wc, mv hU wz, hp.2.2.1, hp.2.2.2⟩)
    (fun m meth c A a g mk Y hp => ⟨hp.1, wtrans (s := s.setVm vm0) hZ Y.warmed, hp.2.1, (show CHv Z EL A.U.vm h from (CHv.at Y hZ hEL H).1), hO, (show Mine Z EL A.U.vm h sf2 from hS.chr (CHv.at Y hZ hEL H))⟩) (fun _ _ _ _ _ _ _ _ _ => trivial)
    (fun _ _ _ _ ⟨v, L, h1, h2, h3, h4, h5⟩ => ⟨L, _, _, h4, rfl, rfl, ⟨v, h1, h2⟩, h3, h5⟩)
    (fun m meth c A a g mk v t L k n Y hp _ _ ⟨e1, e2, ⟨v', e3, e4⟩, e5, e6, e7⟩ => by
      cases e3; subst e1 e2
      refine ⟨L, e4, rfl, rfl, rfl, (CHv.at Y hZ hEL H).trans ?_, fun q => State.WarmedH.trans (t := A.U.calling g mk a) Y.warmed (e6 q), e7⟩
      rw [← hp.2.1]; exact e5)
/-- a call: what the three kinds share -/
theorem Wl.call {st0 : List Value} {y2 : MethodName} {bs2 : ByteArray} {ml2 : Nat} {rt2 : Option FieldType} {rm : Room} {as2 : Array Value} {sf2 out2 sf' : List Addr} {Q2 : Option Value → Heap → Prop} {len pc' : Nat}
    (hM : MetO l Z EL y2 bs2 ml2 rt2 [] rm as2 h sf2 out2 Q2) (wc : (Jvm.Cond.code y2 bs2 ml2 rt2).before a0 Z = true) (wz : (Jvm.Cond.initialized y2.cls).before a0 Z = true) (hsub : ∀ x ∈ sf2, x ∈ sf) (hf : rm.frames + 1 ≤ R.frames) (hl : (st.map fun v => v.category).sum + (ml2 + 11) + rm.locals ≤ R.locals) (hc : k + rm.cells ≤ R.cells) (hs : n + rm.slots ≤ R.slots)
    (f : ∀ (p : Program) (e : Env) (s : State) (m : MethodId) (below : List Frame) (meth : Method) (c : Code) (T : State) (vm0 : Vm) (locs : List Loc),
      p.tables.exec = Jvm.exec → c.code = bs → c.maxLocals = ml → vm0.findClass y.cls = some m.cls → Z.Warmed39 vm0 → Stand p l e R (s.setVm vm0) m as below meth c T locs k n → T.heap = h →
      ∀ {Post : Pt → Array Value → Option Value → Pt → Prop}, BackS l R p e below (s.setVm vm0) as y2 len (st.map fun v => v.category).sum (fun A a => a = as2 ∧ A.U.heap = h ∧ A.cells + rm.cells ≤ R.cells ∧ A.slots + rm.slots ≤ R.slots) Post →
      ∃ (v : Option Value) (vm₁ : Vm) (B : Pt), (s.setVm vm0).WarmedH vm₁ ∧ Stand p l e R ((s.setVm vm0).setVm B.U.vm) m as below meth c B.U B.locs B.cells B.slots ∧ (s.setVm vm0).Since B.U.vm B.U.heap.size ∧ T.heap.size ≤ B.U.heap.size ∧ Post ⟨T.setVm vm₁, locs, k, n⟩ as2 v B ∧
        Steps p.tables e below (T.setTop (mkF m pc Ls st0)) (B.U.setTop (mkF m pc' Ls (v.toList ++ st))))
    (hsf' : ∀ x ∈ sf', x ∈ out2 ∨ x ∈ sf) (hr : ∀ v h', Q2 v h' → h.size ≤ h'.size → WlO l Z a0 EL y bs ml rt R as out Q sf' h' (k + rm.cells) (n + rm.slots) pc' Ls (v.toList ++ st)) : WlO l Z a0 EL y bs ml rt R as out Q sf h k n pc Ls st0 := by
  intro p e s m below meth c T W
  have hO := W.old
  obtain ⟨A, vm0, locs, k0, X, eT, hS, hk, hF, hZ, hC, hMi, hH⟩ := W
  obtain ⟨v, vm₁, ⟨T', L', k', n'⟩, -, X', hS', hg, ⟨Lc, ⟨hq, hFc⟩, l1, l2, l3, hC', hH', hMo⟩, stp⟩ := f p e s m below meth c T vm0 locs A.1 A.2.1 A.2.2.1 (by rw [hS.1.alike.findClass]; exact A.2.2.2.2.2.2.1) hZ X eT (Met.back (W := (st.map fun v => v.category).sum) (R := R) (a0 := a0) hM hZ wc wz hf hl A.2.2.2.2.2.2.2.1 hC.1 hO (hMi.sub hsub))
  dsimp only [Pt.U, Pt.locs, Pt.cells, Pt.slots] at X' hS' hg hq l1 l2 l3 hC' hH' hMo stp
  subst l1 l2 l3
  have hS2 := hS.trans hS' (Nat.le_trans hk (by rw [← eT]; exact hg))
  refine Go.of (fun t kk => stp.trans kk) (hr v T'.heap hq hC'.2.1 p e s m below meth c T' ⟨A, T'.vm, locs ++ Lc, T'.heap.size, X', rfl, hS2, Nat.le_refl _, Fr.app hF hFc, State.Warmed39.trans (t := s.setVm vm0) hZ hS'.1, hC.trans hC', fun x hx => (hsf' x hx).elim (hMo x) ((hMi.chr hC') x), fun q => State.WarmedH.trans (s := s) (t := s.setVm vm0) (hH q) (hH' q)⟩)
theorem Wl.static (pc' : Nat) {st0 : List Value} {i : Nat} {y2 : MethodName} {bs2 : ByteArray} {ml2 : Nat} {rt2 : Option FieldType} {rm : Room} {argsL : List Value} {sf2 out2 : List Addr} {Q2 : Option Value → Heap → Prop} {ps : List FieldType} {r : Option FieldType}
    (hd : decode bs pc = .ok (.invokestatic i, 3)) (w1 : (Jvm.Cond.methodLink y.cls i y2).before a0 Z = true) (w2 : (Jvm.Cond.static y2).before a0 Z = true) (wz : (Jvm.Cond.initialized y2.cls).before a0 Z = true) (wc : (Jvm.Cond.code y2 bs2 ml2 rt2).before a0 Z = true)
    (hsig : parseMethodDescriptor y2.desc = some ⟨ps, r⟩) (hlen : argsL.length = ps.length) (hM : MetO l Z EL y2 bs2 ml2 rt2 [] rm argsL.toArray h sf2 out2 Q2) (hsub : ∀ x ∈ sf2, x ∈ sf) (hst : st0 = argsL.reverse ++ st) (hsz : Ls.size = ml) (hp : pc + 3 = pc') (hy : y2.cls ≠ "java/lang/invoke/MethodHandle" ∧ y2.cls ≠ "java/lang/invoke/VarHandle")
    (hroom : (rm.frames + 1 ≤ R.frames ∧ (st.map fun v => v.category).sum + (ml2 + 11) + rm.locals ≤ R.locals) ∧ k + rm.cells ≤ R.cells ∧ n + rm.slots ≤ R.slots)
    (hr : ∀ v h', Q2 v h' → h.size ≤ h'.size → WlO l Z a0 EL y bs ml rt R as out Q sf h' (k + rm.cells) (n + rm.slots) pc' Ls (v.toList ++ st)) : WlO l Z a0 EL y bs ml rt R as out Q sf h k n pc Ls st0 := by
  subst hp
  exact Wl.call (len := 3) hM wc wz hsub hroom.1.1 hroom.1.2 hroom.2.1 hroom.2.2 (fun p e s m below meth c T vm0 locs hx hby hml hown hZ X eT {Post} hK =>
    callSS X hx (s := s.setVm vm0) hown (mvT hZ w1) (mvT hZ w2) (mvT hZ wz) (mvT hZ wc) hy hK (g := mkF m pc Ls st0) rfl (by rw [hml]; exact hsz) (argsL := argsL) (rest := st) (lenOf hsig hlen) hst (by show 2 * 0 + _ ≤ _; omega) (hb hby hd) (fun _ _ => ⟨rfl, eT, hroom.2.1, hroom.2.2⟩)) (fun _ q => Or.inr q) hr
theorem Wl.staticO (pc' : Nat) {st0 : List Value} {i : Nat} {y2 : MethodName} {bs2 : ByteArray} {ml2 : Nat} {rt2 : Option FieldType} {rm : Room} {argsL : List Value} {sf2 : List Addr} {d : Addr} {Q2 : Option Value → Heap → Prop} {ps : List FieldType} {r : Option FieldType}
    (hd : decode bs pc = .ok (.invokestatic i, 3)) (w1 : (Jvm.Cond.methodLink y.cls i y2).before a0 Z = true) (w2 : (Jvm.Cond.static y2).before a0 Z = true) (wz : (Jvm.Cond.initialized y2.cls).before a0 Z = true) (wc : (Jvm.Cond.code y2 bs2 ml2 rt2).before a0 Z = true)
    (hsig : parseMethodDescriptor y2.desc = some ⟨ps, r⟩) (hlen : argsL.length = ps.length) (hM : MetO l Z EL y2 bs2 ml2 rt2 [] rm argsL.toArray h sf2 [d] Q2) (hsub : ∀ x ∈ sf2, x ∈ sf) (hst : st0 = argsL.reverse ++ st) (hsz : Ls.size = ml) (hp : pc + 3 = pc') (hy : y2.cls ≠ "java/lang/invoke/MethodHandle" ∧ y2.cls ≠ "java/lang/invoke/VarHandle")
    (hroom : (rm.frames + 1 ≤ R.frames ∧ (st.map fun v => v.category).sum + (ml2 + 11) + rm.locals ≤ R.locals) ∧ k + rm.cells ≤ R.cells ∧ n + rm.slots ≤ R.slots)
    (hr : ∀ v h', Q2 v h' → h.size ≤ h'.size → WlO l Z a0 EL y bs ml rt R as out Q (d :: sf) h' (k + rm.cells) (n + rm.slots) pc' Ls (v.toList ++ st)) : WlO l Z a0 EL y bs ml rt R as out Q sf h k n pc Ls st0 := by
  subst hp
  exact Wl.call (len := 3) hM wc wz hsub hroom.1.1 hroom.1.2 hroom.2.1 hroom.2.2 (fun p e s m below meth c T vm0 locs hx hby hml hown hZ X eT {Post} hK =>
    callSS X hx (s := s.setVm vm0) hown (mvT hZ w1) (mvT hZ w2) (mvT hZ wz) (mvT hZ wc) hy hK (g := mkF m pc Ls st0) rfl (by rw [hml]; exact hsz) (argsL := argsL) (rest := st) (lenOf hsig hlen) hst (by show 2 * 0 + _ ≤ _; omega) (hb hby hd) (fun _ _ => ⟨rfl, eT, hroom.2.1, hroom.2.2⟩)) (fun x q => (List.mem_cons.mp q).elim (fun e => Or.inl (e ▸ List.mem_singleton.mpr rfl)) Or.inr) hr
theorem Wl.special (pc' : Nat) {st0 : List Value} {i : Nat} {y2 : MethodName} {bs2 : ByteArray} {ml2 : Nat} {rm : Room} {a : Addr} {argsL : List Value} {sf2 out2 : List Addr} {Q2 : Option Value → Heap → Prop} {ps : List FieldType} {r : Option FieldType}
    (hd : decode bs pc = .ok (.invokespecial i, 3)) (w1 : (Jvm.Cond.methodLink y.cls i y2).before a0 Z = true) (w2 : (Jvm.Cond.instanceMethod y2).before a0 Z = true) (wz : (Jvm.Cond.initialized y2.cls).before a0 Z = true) (wc : (Jvm.Cond.code y2 bs2 ml2 none).before a0 Z = true)
    (hsig : parseMethodDescriptor y2.desc = some ⟨ps, r⟩) (hlen : argsL.length = ps.length) (hM : MetO l Z EL y2 bs2 ml2 none [] rm (.ref a :: argsL).toArray h sf2 out2 Q2) (hsub : ∀ x ∈ sf2, x ∈ sf) (hst : st0 = argsL.reverse ++ .ref a :: st) (hsz : Ls.size = ml) (hp : pc + 3 = pc') (hni : y2.name = "<init>") (hy : y2.cls ≠ "java/lang/invoke/MethodHandle" ∧ y2.cls ≠ "java/lang/invoke/VarHandle")
    (hroom : (rm.frames + 1 ≤ R.frames ∧ (st.map fun v => v.category).sum + (ml2 + 11) + rm.locals ≤ R.locals) ∧ k + rm.cells ≤ R.cells ∧ n + rm.slots ≤ R.slots)
    (hr : ∀ v h', Q2 v h' → h.size ≤ h'.size → WlO l Z a0 EL y bs ml rt R as out Q sf h' (k + rm.cells) (n + rm.slots) pc' Ls (v.toList ++ st)) : WlO l Z a0 EL y bs ml rt R as out Q sf h k n pc Ls st0 := by
  subst hp
  exact Wl.call (len := 3) hM wc wz hsub hroom.1.1 hroom.1.2 hroom.2.1 hroom.2.2 (fun p e s m below meth c T vm0 locs hx hby hml hown hZ X eT {Post} hK =>
    X.specialBackS hx (s := s.setVm vm0) hni hown (mvT hZ w1) (mvT hZ w2) (mvT hZ wc) hy hK (g := mkF m pc Ls st0) rfl (by rw [hml]; exact hsz) (Steps.refl _) (a := a) (argsL := argsL) (rest := st) (lenOf hsig hlen) hst (by show 2 * 0 + _ ≤ _; omega) (hb hby hd) (fun _ _ => ⟨rfl, eT, hroom.2.1, hroom.2.2⟩)) (fun _ q => Or.inr q) hr
theorem Wl.specialO (pc' : Nat) {st0 : List Value} {i : Nat} {y2 : MethodName} {bs2 : ByteArray} {ml2 : Nat} {rm : Room} {a : Addr} {argsL : List Value} {sf2 : List Addr} {d : Addr} {Q2 : Option Value → Heap → Prop} {ps : List FieldType} {r : Option FieldType}
    (hd : decode bs pc = .ok (.invokespecial i, 3)) (w1 : (Jvm.Cond.methodLink y.cls i y2).before a0 Z = true) (w2 : (Jvm.Cond.instanceMethod y2).before a0 Z = true) (wz : (Jvm.Cond.initialized y2.cls).before a0 Z = true) (wc : (Jvm.Cond.code y2 bs2 ml2 none).before a0 Z = true)
    (hsig : parseMethodDescriptor y2.desc = some ⟨ps, r⟩) (hlen : argsL.length = ps.length) (hM : MetO l Z EL y2 bs2 ml2 none [] rm (.ref a :: argsL).toArray h sf2 [d] Q2) (hsub : ∀ x ∈ sf2, x ∈ sf) (hst : st0 = argsL.reverse ++ .ref a :: st) (hsz : Ls.size = ml) (hp : pc + 3 = pc') (hni : y2.name = "<init>") (hy : y2.cls ≠ "java/lang/invoke/MethodHandle" ∧ y2.cls ≠ "java/lang/invoke/VarHandle")
    (hroom : (rm.frames + 1 ≤ R.frames ∧ (st.map fun v => v.category).sum + (ml2 + 11) + rm.locals ≤ R.locals) ∧ k + rm.cells ≤ R.cells ∧ n + rm.slots ≤ R.slots)
    (hr : ∀ v h', Q2 v h' → h.size ≤ h'.size → WlO l Z a0 EL y bs ml rt R as out Q (d :: sf) h' (k + rm.cells) (n + rm.slots) pc' Ls (v.toList ++ st)) : WlO l Z a0 EL y bs ml rt R as out Q sf h k n pc Ls st0 := by
  subst hp
  exact Wl.call (len := 3) hM wc wz hsub hroom.1.1 hroom.1.2 hroom.2.1 hroom.2.2 (fun p e s m below meth c T vm0 locs hx hby hml hown hZ X eT {Post} hK =>
    X.specialBackS hx (s := s.setVm vm0) hni hown (mvT hZ w1) (mvT hZ w2) (mvT hZ wc) hy hK (g := mkF m pc Ls st0) rfl (by rw [hml]; exact hsz) (Steps.refl _) (a := a) (argsL := argsL) (rest := st) (lenOf hsig hlen) hst (by show 2 * 0 + _ ≤ _; omega) (hb hby hd) (fun _ _ => ⟨rfl, eT, hroom.2.1, hroom.2.2⟩)) (fun x q => (List.mem_cons.mp q).elim (fun e => Or.inl (e ▸ List.mem_singleton.mpr rfl)) Or.inr) hr
theorem Wl.virtual (pc' : Nat) {st0 : List Value} {i : Nat} {y1 y2 : MethodName} {K : String} {bs2 : ByteArray} {ml2 : Nat} {rt2 : Option FieldType} {rm : Room} {a : Addr} {argsL : List Value} {sf2 out2 : List Addr} {Q2 : Option Value → Heap → Prop} {ps : List FieldType} {r : Option FieldType}
    (hd : decode bs pc = .ok (.invokevirtual i, 3)) (w1 : (Jvm.Cond.methodLink y.cls i y1).before a0 Z = true) (w2 : (Jvm.Cond.declares y1).before a0 Z = true) (w3 : (Jvm.Cond.selects K y1 y2).before a0 Z = true) (w4 : (Jvm.Cond.instanceMethod y2).before a0 Z = true) (wz : (Jvm.Cond.initialized y2.cls).before a0 Z = true) (wc : (Jvm.Cond.code y2 bs2 ml2 rt2).before a0 Z = true) (hnf : ∀ {vm0 : Vm} {s : State}, Z.Warmed39 vm0 → NotFace (s.setVm vm0) y1)
    (hE : Exa Z h a K) (hsig : parseMethodDescriptor y1.desc = some ⟨ps, r⟩) (hlen : argsL.length = ps.length) (hM : MetO l Z EL y2 bs2 ml2 rt2 [] rm (.ref a :: argsL).toArray h sf2 out2 Q2) (hsub : ∀ x ∈ sf2, x ∈ sf) (hst : st0 = argsL.reverse ++ .ref a :: st) (hsz : Ls.size = ml) (hp : pc + 3 = pc') (hy : y1.cls ≠ "java/lang/invoke/MethodHandle" ∧ y1.cls ≠ "java/lang/invoke/VarHandle")
    (hroom : (rm.frames + 1 ≤ R.frames ∧ (st.map fun v => v.category).sum + (ml2 + 11) + rm.locals ≤ R.locals) ∧ k + rm.cells ≤ R.cells ∧ n + rm.slots ≤ R.slots)
    (hr : ∀ v h', Q2 v h' → h.size ≤ h'.size → WlO l Z a0 EL y bs ml rt R as out Q sf h' (k + rm.cells) (n + rm.slots) pc' Ls (v.toList ++ st)) : WlO l Z a0 EL y bs ml rt R as out Q sf h k n pc Ls st0 := by
  subst hp
  refine Wl.call (len := 3) hM wc wz hsub hroom.1.1 hroom.1.2 hroom.2.1 hroom.2.2 (fun p e s m below meth c T vm0 locs hx hby hml hown hZ X eT {Post} hK => ?_) (fun _ q => Or.inr q) hr
  obtain ⟨cB, kB, i1, i2, i3⟩ := isOf (s := s.setVm vm0) hZ eT hE
  exact X.virtualBackS hx (s := s.setVm vm0) hown (mvT hZ w1) (mvT hZ w2) (hnf hZ) (mvT hZ w3) (mvT hZ w4) hy hK i1 i3 (g := mkF m pc Ls st0) rfl (by rw [hml]; exact hsz) (Steps.refl _) (argsL := argsL) (rest := st) (lenOf hsig hlen) hst (by show 2 * 0 + _ ≤ _; omega) (hb hby hd) (fun _ _ => ⟨rfl, eT, hroom.2.1, hroom.2.2⟩)
theorem Wl.virtualO (pc' : Nat) {st0 : List Value} {i : Nat} {y1 y2 : MethodName} {K : String} {bs2 : ByteArray} {ml2 : Nat} {rt2 : Option FieldType} {rm : Room} {a : Addr} {argsL : List Value} {sf2 : List Addr} {d : Addr} {Q2 : Option Value → Heap → Prop} {ps : List FieldType} {r : Option FieldType}
    (hd : decode bs pc = .ok (.invokevirtual i, 3)) (w1 : (Jvm.Cond.methodLink y.cls i y1).before a0 Z = true) (w2 : (Jvm.Cond.declares y1).before a0 Z = true) (w3 : (Jvm.Cond.selects K y1 y2).before a0 Z = true) (w4 : (Jvm.Cond.instanceMethod y2).before a0 Z = true) (wz : (Jvm.Cond.initialized y2.cls).before a0 Z = true) (wc : (Jvm.Cond.code y2 bs2 ml2 rt2).before a0 Z = true) (hnf : ∀ {vm0 : Vm} {s : State}, Z.Warmed39 vm0 → NotFace (s.setVm vm0) y1)
    (hE : Exa Z h a K) (hsig : parseMethodDescriptor y1.desc = some ⟨ps, r⟩) (hlen : argsL.length = ps.length) (hM : MetO l Z EL y2 bs2 ml2 rt2 [] rm (.ref a :: argsL).toArray h sf2 [d] Q2) (hsub : ∀ x ∈ sf2, x ∈ sf) (hst : st0 = argsL.reverse ++ .ref a :: st) (hsz : Ls.size = ml) (hp : pc + 3 = pc') (hy : y1.cls ≠ "java/lang/invoke/MethodHandle" ∧ y1.cls ≠ "java/lang/invoke/VarHandle")
    (hroom : (rm.frames + 1 ≤ R.frames ∧ (st.map fun v => v.category).sum + (ml2 + 11) + rm.locals ≤ R.locals) ∧ k + rm.cells ≤ R.cells ∧ n + rm.slots ≤ R.slots)
    (hr : ∀ v h', Q2 v h' → h.size ≤ h'.size → WlO l Z a0 EL y bs ml rt R as out Q (d :: sf) h' (k + rm.cells) (n + rm.slots) pc' Ls (v.toList ++ st)) : WlO l Z a0 EL y bs ml rt R as out Q sf h k n pc Ls st0 := by
  subst hp
  refine Wl.call (len := 3) hM wc wz hsub hroom.1.1 hroom.1.2 hroom.2.1 hroom.2.2 (fun p e s m below meth c T vm0 locs hx hby hml hown hZ X eT {Post} hK => ?_) (fun x q => (List.mem_cons.mp q).elim (fun e => Or.inl (e ▸ List.mem_singleton.mpr rfl)) Or.inr) hr
  obtain ⟨cB, kB, i1, i2, i3⟩ := isOf (s := s.setVm vm0) hZ eT hE
  exact X.virtualBackS hx (s := s.setVm vm0) hown (mvT hZ w1) (mvT hZ w2) (hnf hZ) (mvT hZ w3) (mvT hZ w4) hy hK i1 i3 (g := mkF m pc Ls st0) rfl (by rw [hml]; exact hsz) (Steps.refl _) (argsL := argsL) (rest := st) (lenOf hsig hlen) hst (by show 2 * 0 + _ ≤ _; omega) (hb hby hd) (fun _ _ => ⟨rfl, eT, hroom.2.1, hroom.2.2⟩)
theorem nf_sel {K : String} {y1 y2 : MethodName} (w : (Jvm.Cond.selects K y1 y2).before a0 Z = true) (e : y1 = y2) : ∀ {vm0 : Vm} {s : State}, Z.Warmed39 vm0 → NotFace (s.setVm vm0) y1 := fun {vm0 s} hZ => by
  subst e; exact notFace_of_selects (args := #[]) (mvT (s := s.setVm vm0) hZ w)
theorem Wl.interface (pc' : Nat) {st0 : List Value} {i cnt : Nat} {y1 y2 : MethodName} {K : String} {bs2 : ByteArray} {ml2 : Nat} {rt2 : Option FieldType} {rm : Room} {a : Addr} {argsL : List Value} {sf2 out2 : List Addr} {Q2 : Option Value → Heap → Prop} {ps : List FieldType} {r : Option FieldType}
    (hd : decode bs pc = .ok (.invokeinterface i cnt, 5)) (w1 : (Jvm.Cond.methodLink y.cls i y1).before a0 Z = true) (w2 : (Jvm.Cond.declares y1).before a0 Z = true) (w3 : ∀ {vm0 : Vm} {s : State}, Z.Warmed39 vm0 → (Jvm.Cond.interfaceMethod y1.cls y1.cls y1.name y1.desc).before as (s.setVm vm0) = true) (w4 : (Jvm.Cond.selects K y1 y2).before a0 Z = true) (w5 : (Jvm.Cond.instanceMethod y2).before a0 Z = true) (w6 : (Jvm.Cond.publicMethod y2).before a0 Z = true) (w7 : (Jvm.Cond.unhidden K y1.name y1.desc).before a0 Z = true) (w8 : (Jvm.Cond.castable K y1.cls).before a0 Z = true) (wz : (Jvm.Cond.initialized y2.cls).before a0 Z = true) (wc : (Jvm.Cond.code y2 bs2 ml2 rt2).before a0 Z = true)
    (hE : Exa Z h a K) (hsig : parseMethodDescriptor y1.desc = some ⟨ps, r⟩) (hlen : argsL.length = ps.length) (hM : MetO l Z EL y2 bs2 ml2 rt2 [] rm (.ref a :: argsL).toArray h sf2 out2 Q2) (hsub : ∀ x ∈ sf2, x ∈ sf) (hst : st0 = argsL.reverse ++ .ref a :: st) (hsz : Ls.size = ml) (hp : pc + 5 = pc') (hy : y1.cls ≠ "java/lang/invoke/MethodHandle" ∧ y1.cls ≠ "java/lang/invoke/VarHandle")
    (hroom : (rm.frames + 1 ≤ R.frames ∧ (st.map fun v => v.category).sum + (ml2 + 11) + rm.locals ≤ R.locals) ∧ k + rm.cells ≤ R.cells ∧ n + rm.slots ≤ R.slots)
    (hr : ∀ v h', Q2 v h' → h.size ≤ h'.size → WlO l Z a0 EL y bs ml rt R as out Q sf h' (k + rm.cells) (n + rm.slots) pc' Ls (v.toList ++ st)) : WlO l Z a0 EL y bs ml rt R as out Q sf h k n pc Ls st0 := by
  subst hp
  refine Wl.call (len := 5) hM wc wz hsub hroom.1.1 hroom.1.2 hroom.2.1 hroom.2.2 (fun p e s m below meth c T vm0 locs hx hby hml hown hZ X eT {Post} hK => ?_) (fun _ q => Or.inr q) hr
  obtain ⟨cB, kB, i1, i2, i3⟩ := isOf (s := s.setVm vm0) hZ eT hE
  exact X.interfaceBackS hx (s := s.setVm vm0) hown (mvT hZ w1) (mvT hZ w2) (w3 hZ) (mvT hZ w4) (mvT hZ w5) (mvT hZ w6) (mvT hZ w7) (mvT hZ w8) hy hK i1 i2 i3 (g := mkF m pc Ls st0) rfl (by rw [hml]; exact hsz) (Steps.refl _) (argsL := argsL) (rest := st) (lenOf hsig hlen) hst (by show 2 * 0 + _ ≤ _; omega) (hb hby hd) (fun _ _ => ⟨rfl, eT, hroom.2.1, hroom.2.2⟩)
theorem Wl.interfaceO (pc' : Nat) {st0 : List Value} {i cnt : Nat} {y1 y2 : MethodName} {K : String} {bs2 : ByteArray} {ml2 : Nat} {rt2 : Option FieldType} {rm : Room} {a : Addr} {argsL : List Value} {sf2 : List Addr} {d : Addr} {Q2 : Option Value → Heap → Prop} {ps : List FieldType} {r : Option FieldType}
    (hd : decode bs pc = .ok (.invokeinterface i cnt, 5)) (w1 : (Jvm.Cond.methodLink y.cls i y1).before a0 Z = true) (w2 : (Jvm.Cond.declares y1).before a0 Z = true) (w3 : ∀ {vm0 : Vm} {s : State}, Z.Warmed39 vm0 → (Jvm.Cond.interfaceMethod y1.cls y1.cls y1.name y1.desc).before as (s.setVm vm0) = true) (w4 : (Jvm.Cond.selects K y1 y2).before a0 Z = true) (w5 : (Jvm.Cond.instanceMethod y2).before a0 Z = true) (w6 : (Jvm.Cond.publicMethod y2).before a0 Z = true) (w7 : (Jvm.Cond.unhidden K y1.name y1.desc).before a0 Z = true) (w8 : (Jvm.Cond.castable K y1.cls).before a0 Z = true) (wz : (Jvm.Cond.initialized y2.cls).before a0 Z = true) (wc : (Jvm.Cond.code y2 bs2 ml2 rt2).before a0 Z = true)
    (hE : Exa Z h a K) (hsig : parseMethodDescriptor y1.desc = some ⟨ps, r⟩) (hlen : argsL.length = ps.length) (hM : MetO l Z EL y2 bs2 ml2 rt2 [] rm (.ref a :: argsL).toArray h sf2 [d] Q2) (hsub : ∀ x ∈ sf2, x ∈ sf) (hst : st0 = argsL.reverse ++ .ref a :: st) (hsz : Ls.size = ml) (hp : pc + 5 = pc') (hy : y1.cls ≠ "java/lang/invoke/MethodHandle" ∧ y1.cls ≠ "java/lang/invoke/VarHandle")
    (hroom : (rm.frames + 1 ≤ R.frames ∧ (st.map fun v => v.category).sum + (ml2 + 11) + rm.locals ≤ R.locals) ∧ k + rm.cells ≤ R.cells ∧ n + rm.slots ≤ R.slots)
    (hr : ∀ v h', Q2 v h' → h.size ≤ h'.size → WlO l Z a0 EL y bs ml rt R as out Q (d :: sf) h' (k + rm.cells) (n + rm.slots) pc' Ls (v.toList ++ st)) : WlO l Z a0 EL y bs ml rt R as out Q sf h k n pc Ls st0 := by
  subst hp
  refine Wl.call (len := 5) hM wc wz hsub hroom.1.1 hroom.1.2 hroom.2.1 hroom.2.2 (fun p e s m below meth c T vm0 locs hx hby hml hown hZ X eT {Post} hK => ?_) (fun x q => (List.mem_cons.mp q).elim (fun e => Or.inl (e ▸ List.mem_singleton.mpr rfl)) Or.inr) hr
  obtain ⟨cB, kB, i1, i2, i3⟩ := isOf (s := s.setVm vm0) hZ eT hE
  exact X.interfaceBackS hx (s := s.setVm vm0) hown (mvT hZ w1) (mvT hZ w2) (w3 hZ) (mvT hZ w4) (mvT hZ w5) (mvT hZ w6) (mvT hZ w7) (mvT hZ w8) hy hK i1 i2 i3 (g := mkF m pc Ls st0) rfl (by rw [hml]; exact hsz) (Steps.refl _) (argsL := argsL) (rest := st) (lenOf hsig hlen) hst (by show 2 * 0 + _ ≤ _; omega) (hb hby hd) (fun _ _ => ⟨rfl, eT, hroom.2.1, hroom.2.2⟩)
/-- invokevirtual of a private method -/
theorem Wl.priv (pc' : Nat) {st0 : List Value} {i : Nat} {y2 : MethodName} {K : String} {bs2 : ByteArray} {ml2 : Nat} {rt2 : Option FieldType} {rm : Room} {a : Addr} {argsL : List Value} {sf2 out2 : List Addr} {Q2 : Option Value → Heap → Prop} {ps : List FieldType} {r : Option FieldType}
    (hd : decode bs pc = .ok (.invokevirtual i, 3)) (w1 : (Jvm.Cond.methodLink y.cls i y2).before a0 Z = true) (w2 : (Jvm.Cond.privateMethod y2).before a0 Z = true) (w3 : (Jvm.Cond.selects K y2 y2).before a0 Z = true) (w4 : (Jvm.Cond.instanceMethod y2).before a0 Z = true) (wz : (Jvm.Cond.initialized y2.cls).before a0 Z = true) (wc : (Jvm.Cond.code y2 bs2 ml2 rt2).before a0 Z = true)
    (hE : Exa Z h a K) (hsig : parseMethodDescriptor y2.desc = some ⟨ps, r⟩) (hlen : argsL.length = ps.length) (hM : MetO l Z EL y2 bs2 ml2 rt2 [] rm (.ref a :: argsL).toArray h sf2 out2 Q2) (hsub : ∀ x ∈ sf2, x ∈ sf) (hst : st0 = argsL.reverse ++ .ref a :: st) (hsz : Ls.size = ml) (hp : pc + 3 = pc') (hy : y2.cls ≠ "java/lang/invoke/MethodHandle" ∧ y2.cls ≠ "java/lang/invoke/VarHandle")
    (hroom : (rm.frames + 1 ≤ R.frames ∧ (st.map fun v => v.category).sum + (ml2 + 11) + rm.locals ≤ R.locals) ∧ k + rm.cells ≤ R.cells ∧ n + rm.slots ≤ R.slots)
    (hr : ∀ v h', Q2 v h' → h.size ≤ h'.size → WlO l Z a0 EL y bs ml rt R as out Q sf h' (k + rm.cells) (n + rm.slots) pc' Ls (v.toList ++ st)) : WlO l Z a0 EL y bs ml rt R as out Q sf h k n pc Ls st0 := by
  subst hp
  refine Wl.call (len := 3) hM wc wz hsub hroom.1.1 hroom.1.2 hroom.2.1 hroom.2.2 (fun p e s m below meth c T vm0 locs hx hby hml hown hZ X eT {Post} hK => ?_) (fun _ q => Or.inr q) hr
  obtain ⟨cB, kB, i1, i2, cell, i3, i4, i5⟩ := isOf (s := s.setVm vm0) hZ eT hE
  obtain ⟨mk, methM, hnamed, hmethM, hstM, habM⟩ := Cond.instanceMethod_spec (mvT (s := s.setVm vm0) (args := as) hZ w4)
  obtain ⟨methM', cM, hmethM', -, -, -, -, -, -, hsigM⟩ := Cond.code_spec hnamed (mvT (s := s.setVm vm0) (args := as) hZ wc)
  cases hmethM.symm.trans hmethM'
  obtain ⟨c2, r2, m2, -, -, q3, -, kP, hkP, hkPi⟩ := Cond.selects_spec (mvT (s := s.setVm vm0) (args := as) hZ w3)
  cases hnamed.symm.trans q3
  have hselP : selectMethod e.platform (s.setVm vm0).vm cell.cls mk = .method mk := selectMethod_private hmethM (Cond.privateMethod_at (mvP (s := s.setVm vm0) (args := as) hZ w2) mk methM hnamed hmethM)
  obtain ⟨vm₁, X₁, hstep₁⟩ := X.invokevirtual hx hown (mvT hZ w1) hnamed hmethM hstM hkP hkPi hy (a := a) (cell := cell) i3 (fun z h => by rw [h] at i5; cases i5) hselP hmethM habM hkP hkPi (g := mkF m pc Ls st0) rfl (argsL := argsL) (rest := st) (lenOf hsig hlen _ hsigM) hst (hb hby hd)
  obtain ⟨v, B, X', hS, hgr, hpost, hsteps⟩ := hK m meth c ⟨T.setVm vm₁, locs, k, n⟩ { mkF m pc Ls st0 with stack := st } (.invokevirtual i) mk (.ref a :: argsL).toArray X₁ rfl (by show Ls.size = c.maxLocals; rw [hml]; exact hsz) (hb hby hd) (by show 2 * 0 + (st.map fun v => v.category).sum ≤ (st.map fun v => v.category).sum; omega) (X₁.named hnamed) ⟨rfl, eT, hroom.2.1, hroom.2.2⟩
  exact ⟨v, vm₁, B, X₁.warmed, X', hS, hgr, hpost, (hstep₁ _ fun acts => by rw [doInvoke_state]; exact Steps.refl _).trans hsteps⟩
/-- invokespecial of the superclass's method -/
theorem Wl.up (pc' : Nat) {st0 : List Value} {i : Nat} {y2 : MethodName} {K : String} {bs2 : ByteArray} {ml2 : Nat} {rt2 : Option FieldType} {rm : Room} {a : Addr} {argsL : List Value} {sf2 out2 : List Addr} {Q2 : Option Value → Heap → Prop} {ps : List FieldType} {r : Option FieldType}
    (hd : decode bs pc = .ok (.invokespecial i, 3)) (w1 : (Jvm.Cond.methodLink y.cls i y2).before a0 Z = true) (w2 : (Jvm.Cond.sameMethod y2.cls y2.cls y2.name y2.desc).before a0 Z = true) (w3 : (Jvm.Cond.instanceMethod y2).before a0 Z = true) (w4 : (Jvm.Cond.superclass y.cls y2.cls).before a0 Z = true) (wz : (Jvm.Cond.initialized y2.cls).before a0 Z = true) (wc : (Jvm.Cond.code y2 bs2 ml2 rt2).before a0 Z = true)
    (hE : Exa Z h a K) (hsig : parseMethodDescriptor y2.desc = some ⟨ps, r⟩) (hlen : argsL.length = ps.length) (hM : MetO l Z EL y2 bs2 ml2 rt2 [] rm (.ref a :: argsL).toArray h sf2 out2 Q2) (hsub : ∀ x ∈ sf2, x ∈ sf) (hst : st0 = argsL.reverse ++ .ref a :: st) (hsz : Ls.size = ml) (hp : pc + 3 = pc') (hni : y2.name ≠ "<init>")
    (hroom : (rm.frames + 1 ≤ R.frames ∧ (st.map fun v => v.category).sum + (ml2 + 11) + rm.locals ≤ R.locals) ∧ k + rm.cells ≤ R.cells ∧ n + rm.slots ≤ R.slots)
    (hr : ∀ v h', Q2 v h' → h.size ≤ h'.size → WlO l Z a0 EL y bs ml rt R as out Q sf h' (k + rm.cells) (n + rm.slots) pc' Ls (v.toList ++ st)) : WlO l Z a0 EL y bs ml rt R as out Q sf h k n pc Ls st0 := by
  subst hp
  refine Wl.call (len := 3) hM wc wz hsub hroom.1.1 hroom.1.2 hroom.2.1 hroom.2.2 (fun p e s m below meth c T vm0 locs hx hby hml hown hZ X eT {Post} hK => ?_) (fun _ q => Or.inr q) hr
  exact superBackS X hx (s := s.setVm vm0) hZ hown w1 w2 w3 w4 hni hK eT (Ins.self hE) (g := mkF m pc Ls st0) rfl (by rw [hml]; exact hsz) wc (argsL := argsL) (rest := st) (lenOf hsig hlen) hst (by show 2 * 0 + _ ≤ _; omega) (hb hby hd) (fun _ _ => ⟨rfl, eT, hroom.2.1, hroom.2.2⟩)
/-- a class that declares y and is seen as no interface elsewhere -/
theorem nf_cls {K : String} {y1 y2 : MethodName} (wd : (Jvm.Cond.declares y1).before a0 Z = true) (w : (Jvm.Cond.selects K y2 y2).before a0 Z = true) (e : y2.cls = y1.cls) : ∀ {vm0 : Vm} {s : State}, Z.Warmed39 vm0 → NotFace (s.setVm vm0) y1 := fun {vm0 s} hZ r0 h0 => by
  obtain ⟨c2, r2, m2, q1, q2, q3, q4, kP, hkP, hkPi⟩ := Cond.selects_spec (mvT (s := s.setVm vm0) (args := #[]) hZ w)
  have hc0 := findClass_of_methodNamed h0
  have hc1 := findClass_of_methodNamed q3
  rw [e] at hc1
  have q := Option.some.inj (hc0.symm.trans hc1)
  exact ⟨kP, by rw [q]; exact hkP, hkPi⟩
/-- a String constant of the pool, read -/
theorem Wl.ldcS (pc' : Nat) {i : Nat} {text : String} {vs : List Value} {z : Int32} (cap : Nat) (hd : decode bs pc = .ok (.ldc i, 2)) (w : (Jvm.Cond.stringLink y.cls i text).before a0 Z = true) (wS : ∀ a ∈ Bundle.stringAtoms, a.before a0 Z = true) (hmem : (y.cls, i) ∈ EL)
    (ht : (∀ c ∈ text.toList, c.toNat < 256) ∧ text.toList.map (fun c => Value.int (Jvm.Lit.byteI c.toNat.toUInt16)) = vs) (hz : ¬ z < 0) (hl : z.toNatClampNeg = vs.length) (hn : 4 * text.toList.length ≤ cap) (hbig : cap ≤ 536870912) (hc : k + 2 ≤ R.cells) (hl' : n + (cap + 4) ≤ R.slots)
    (hr : ∀ (a : Addr) (h' : Heap) (b : Addr) (kc : ClassId), Ext h h' → Exa Z h' a "java/lang/String" → Fld Z h' a "java/lang/String" "coder" "B" (.int 0) → Fld Z h' a "java/lang/String" "value" "[B" (.ref b) → Arv Z h' b kc .byte z vs (.int 0) → (∀ x ∈ sf, x ≠ a ∧ x ≠ b) → WlO l Z a0 EL y bs ml rt R as out Q sf h' (k + 2) (n + (cap + 4)) pc' Ls (.ref a :: st)) (hp : pc + 2 = pc' := by rfl) : WlO l Z a0 EL y bs ml rt R as out Q sf h k n pc Ls st := by
  subst hp
  intro p e s m below meth c T W
  obtain ⟨A, vm0, locs, k0, X, eT, hS, hk, hF, hZ, hC, hM, hH⟩ := W
  obtain ⟨a, T', h', k1, b, kc, X', e', E, hS', hk', hZ', hown', r1, r2, r3, r4, r5, r6, hC', r7, r8, stp⟩ := ldcCH X A.1 hZ (by rw [hS.1.alike.findClass]; exact A.2.2.2.2.2.2.1) w wS eT hS hk A.2.2.2.2.2.2.2.1 hmem hC.1 ht hz hl (g := mkF m pc Ls st) rfl (hb A.2.1 hd) hn hbig hc hl'
  exact Go.of stp (hr a h' b kc E r1 r2 r3 r4 (fun x hx => r8 x ((hM.chr hC') x hx).1) p e s m below meth c T' ⟨A, T'.vm, locs, k1, X', e', hS', hk', hF, hZ', hC.trans hC', hM.chr hC', fun q => by rw [q] at hmem; cases hmem⟩)
end OwnKit

/-! own small facts on ints, chars, lists and heaps -/
section OwnNums
theorem extTr {h h1 h2 : Heap} (A : Ext h h1) (B : Ext h1 h2) : Ext h h2 := ⟨Nat.le_trans A.1 B.1, fun a c q => B.2 a c (A.2 a c q)⟩
theorem ext_rfl (h : Heap) : Ext h h := ⟨Nat.le_refl _, fun _ _ q => q⟩
theorem extKeep {h h1 h2 : Heap} {ws : List Addr} (A : Ext h h1) (K : Keep h1 h2 ws) (q : ∀ x ∈ ws, h.size ≤ x) : Ext h h2 :=
  ⟨Nat.le_trans A.1 K.1, fun a c r => K.2.1 a c (A.2 a c r) fun z => absurd (Array.getElem?_eq_some_iff.mp r).1 (Nat.not_lt.mpr (q a z))⟩
theorem extWr {h h1 h2 : Heap} {a : Addr} {sl : Nat} {v : Value} (A : Ext h h1) (W : Wr h1 h2 a sl v) (q : h.size ≤ a) : Ext h h2 := extKeep A (Keep.of_wr W) (allS q all0)
/-- a char; a char below 256 -/
abbrev Ch (x : Int32) : Prop := 0 ≤ x.toInt ∧ x.toInt < 65536
abbrev Lat (x : Int32) : Prop := 0 ≤ x.toInt ∧ x.toInt < 256
theorem Lat.ch {x : Int32} (q : Lat x) : Ch x := ⟨q.1, by have := q.2; omega⟩
theorem i2c_ch (x : Int32) : Ch x.toUInt32.toUInt16.toUInt32.toInt32 := (c_i2c x).2
theorem i2c_id {x : Int32} (q : Ch x) : x.toUInt32.toUInt16.toUInt32.toInt32 = x := by
  have h := c_i2c x
  apply Int32.toInt_inj.mp
  have := q.1; have := q.2
  omega
theorem nar_ch {x : Int32} (q : Ch x) : nar .char x = x := i2c_id q
theorem mask_lat (x : Int32) : Lat (x &&& 255) := by
  have h := c_and x 255 (by decide)
  have e : (255 : Int32).toInt = 255 := by decide
  exact ⟨h.1, by have := h.2; omega⟩
theorem i2c_mask_lat (x : Int32) : Lat ((x &&& 255).toUInt32.toUInt16.toUInt32.toInt32) := by rw [i2c_id (mask_lat x).ch]; exact mask_lat x
theorem i2b_id (x : Int32) : x.toInt8.toInt32.toInt8.toInt32 = x.toInt8.toInt32 := by simp
/-- small nats as ints -/
theorem nI {i : Nat} (hi : i < 2147483648) : (Int32.ofNat i).toInt = i := Int32.toInt_ofNat_small hi
theorem nCl {i : Nat} (hi : i < 2147483648) : (Int32.ofNat i).toNatClampNeg = i := by rw [Int32.toNatClampNeg, nI hi]; simp
theorem nNn {i : Nat} (hi : i < 2147483648) : ¬ Int32.ofNat i < 0 := by rw [Int32.lt_iff_toInt_lt, nI hi]; simp
theorem nLt {i j : Nat} (hi : i < 2147483648) (hj : j < 2147483648) : Int32.ofNat i < Int32.ofNat j ↔ i < j := by rw [Int32.lt_iff_toInt_lt, nI hi, nI hj]; omega
theorem nEq {i j : Nat} (hi : i < 2147483648) (hj : j < 2147483648) : Int32.ofNat i = Int32.ofNat j ↔ i = j := by rw [← Int32.toInt_inj, nI hi, nI hj]; omega
theorem nS (i : Nat) : Int32.ofNat i + 1 = Int32.ofNat (i + 1) := by simp [Int32.ofNat_add]
theorem nAdd (i j : Nat) : Int32.ofNat i + Int32.ofNat j = Int32.ofNat (i + j) := by simp [Int32.ofNat_add]
theorem nSub {i j : Nat} (hj : j ≤ i) (hi : i < 2147483648) : Int32.ofNat i - Int32.ofNat j = Int32.ofNat (i - j) := by
  apply Int32.toInt_inj.mp
  have h := c_isub (Int32.ofNat i) (Int32.ofNat j)
  have r := rng32 (Int32.ofNat i - Int32.ofNat j)
  rw [nI hi, nI (by omega)] at h
  rw [nI (by omega)]
  omega
/-- a byte read back -/
theorem lo8 {c : Int32} (q : Lat c) : c.toInt8.toInt32 &&& 255 = c := by
  apply Int32.toInt_inj.mp
  have h1 := c_mask c.toInt8.toInt32 255 8 (by decide) (by decide)
  have h2 := c_i2b c
  have := q.1; have := q.2
  omega
theorem lat_le {c : Int32} (q : Lat c) : ¬ (255 : Int32) < c := by
  rw [Int32.lt_iff_toInt_lt]
  have e : (255 : Int32).toInt = 255 := by decide
  have := q.2; omega
def byV (c : Int32) : Value := .int c.toInt8.toInt32
/-- a list filled from the left -/
def fil {α : Type} (xs : List α) (z : α) (i : Nat) : List α := xs.take i ++ List.replicate (xs.length - i) z
theorem fil_len {α : Type} (xs : List α) (z : α) (i : Nat) (hi : i ≤ xs.length) : (fil xs z i).length = xs.length := by simp [fil]; omega
theorem fil_zero {α : Type} (xs : List α) (z : α) : fil xs z 0 = List.replicate xs.length z := by simp [fil]
theorem fil_all {α : Type} (xs : List α) (z : α) : fil xs z xs.length = xs := by simp [fil]
theorem fil_set {α : Type} (xs : List α) (z v : α) (i : Nat) (hi : i < xs.length) (hv : xs[i] = v) : (fil xs z i).set i v = fil xs z (i + 1) := by
  subst hv
  apply List.ext_getElem?
  intro j
  simp only [fil, List.getElem?_set, List.getElem?_append, List.length_take, List.getElem?_take, List.getElem?_replicate, List.length_append, List.length_replicate]
  rw [show min i xs.length = i by omega, show min (i + 1) xs.length = i + 1 by omega]
  by_cases h1 : i = j
  · subst h1
    rw [if_pos rfl, if_pos (by omega), if_pos (by omega), if_pos (by omega)]
    exact (List.getElem?_eq_getElem hi).symm
  · rw [if_neg h1]
    by_cases h2 : j < i
    · rw [if_pos h2, if_pos h2, if_pos (by omega), if_pos (by omega)]
    · rw [if_neg h2, if_neg (show ¬ j < i + 1 by omega)]
      by_cases h3 : j - i < xs.length - i
      · rw [if_pos h3, if_pos (by omega)]
      · rw [if_neg h3, if_neg (by omega)]
theorem narC {x : Int32} (q : Ch x) : narrow .char (.int x) = .int x := by have := Jvm.Free.XT.narrow_c x; rwa [i2c_id q] at this
theorem ref_cat {v : Value} (r : v.isRef = true) : v.category = 1 := by cases v <;> first | rfl | (simp [Value.isRef] at r)
theorem latNn {c : Int32} (q : Lat c) : ¬ c < 0 := by
  rw [Int32.lt_iff_toInt_lt, show (0 : Int32).toInt = 0 by decide]
  have := q.1
  omega
theorem small30 {n : Nat} (h : n < 1048576) : Int32.ofNat n < 1073741823 := by
  rw [Int32.lt_iff_toInt_lt, nI (by omega), show (1073741823 : Int32).toInt = 1073741823 by decide]
  omega
end OwnNums
/-! a Latin-1 String: its chars -/
def Stl (Z : State) (h : Heap) (a : Addr) (cs : List Int32) : Prop :=
  ∃ (b : Addr) (kb : ClassId), Exa Z h a "java/lang/String" ∧ Fld Z h a "java/lang/String" "coder" "B" (.int 0) ∧ Fld Z h a "java/lang/String" "value" "[B" (.ref b) ∧ Arv Z h b kb .byte (Int32.ofNat cs.length) (cs.map byV) (.int 0) ∧ (∀ c ∈ cs, Lat c) ∧ cs.length < 65536
theorem Stl.ext {Z : State} {h h' : Heap} {a : Addr} {cs : List Int32} (S : Stl Z h a cs) (E : Ext h h') : Stl Z h' a cs := by
  obtain ⟨b, kb, h1, h2, h3, h4, r⟩ := S
  exact ⟨b, kb, h1.ext E, h2.ext E, h3.ext E, h4.ext E, r⟩
theorem Stl.exa {Z : State} {h : Heap} {a : Addr} {cs : List Int32} (S : Stl Z h a cs) : Exa Z h a "java/lang/String" := by obtain ⟨b, kb, h1, -⟩ := S; exact h1
/-- a char[] that holds cs -/
def Cha (Z : State) (h : Heap) (b : Addr) (cs : List Int32) : Prop := ∃ kb, Arv Z h b kb .char (Int32.ofNat cs.length) (cs.map Value.int) (.int 0)
theorem Cha.ext {Z : State} {h h' : Heap} {a : Addr} {cs : List Int32} (S : Cha Z h a cs) (E : Ext h h') : Cha Z h' a cs := by obtain ⟨k, A⟩ := S; exact ⟨k, A.ext E⟩
/-- compact strings are on -/
def CSon (Z : State) : Prop := ∃ c : Int32, Sta Z Z.heap "java/lang/String" "COMPACT_STRINGS" "Z" (.int c) ∧ c ≠ 0
theorem nle {n m : Nat} (h : Nat.ble n m = true) : n ≤ m := Nat.le_of_ble_eq_true h
theorem narO {v : Value} {s : String} (r : v.isRef = true) : narrow (.object s) v = v := by cases v <;> first | rfl | (simp [Value.isRef] at r)
theorem fitO {v : Value} {s : String} (r : v.isRef = true) : fits (.object s) v = true := by cases v <;> first | rfl | (simp [Value.isRef] at r)
theorem latN : ∀ c ∈ ([] : List Int32), Lat c := fun _ q => nomatch q
theorem latC {x : Int32} {xs : List Int32} (p : Lat x) (r : ∀ c ∈ xs, Lat c) : ∀ c ∈ x :: xs, Lat c := fun c q => (List.mem_cons.mp q).elim (fun e => e ▸ p) (r c)

theorem pn_str : plainName "java/lang/String" = true := by first | (simp [plainName, overriddenIn]; done) | decide +kernel
section Words
variable {Z : State} {a0 : Array Value}
theorem w0 (hw : ∀ d ∈ tables_1, d.before a0 Z = true) : (Jvm.Cond.arrayClass Jvm.ClassFile.FieldType.char).before a0 Z = true := hw _ (List.mem_of_getElem? (i := 0) rfl)
theorem w1 (hw : ∀ d ∈ tables_1, d.before a0 Z = true) : (Jvm.Cond.methodLink "com/example/portunus/portunus/LockKeysQueueKeyPinLaw" (7 : Nat) ({ cls := "com/example/portunus/portunus/LockKeysQueueKeyPinLaw", name := "pch", desc := "(II)C" } : Jvm.MethodName)).before a0 Z = true := hw _ (List.mem_of_getElem? (i := 1) rfl)
theorem w2 (hw : ∀ d ∈ tables_1, d.before a0 Z = true) : (Jvm.Cond.static ({ cls := "com/example/portunus/portunus/LockKeysQueueKeyPinLaw", name := "pch", desc := "(II)C" } : Jvm.MethodName)).before a0 Z = true := hw _ (List.mem_of_getElem? (i := 2) rfl)
theorem w3 (hw : ∀ d ∈ tables_1, d.before a0 Z = true) : (Jvm.Cond.initialized "com/example/portunus/portunus/LockKeysQueueKeyPinLaw").before a0 Z = true := hw _ (List.mem_of_getElem? (i := 3) rfl)
theorem w4 (hw : ∀ d ∈ tables_1, d.before a0 Z = true) : (Jvm.Cond.code ({ cls := "com/example/portunus/portunus/LockKeysQueueKeyPinLaw", name := "pch", desc := "(II)C" } : Jvm.MethodName) method_3_code (3 : Nat) (Option.some Jvm.ClassFile.FieldType.char)).before a0 Z = true := hw _ (List.mem_of_getElem? (i := 4) rfl)
theorem w5 (hw : ∀ d ∈ tables_1, d.before a0 Z = true) : (Jvm.Cond.methodLink "com/example/portunus/portunus/LockKeysQueueKeyPinLaw" (13 : Nat) ({ cls := "com/example/portunus/portunus/LockKeysQueueKeyPinLaw", name := "mk", desc := "([CI)Ljava/lang/String;" } : Jvm.MethodName)).before a0 Z = true := hw _ (List.mem_of_getElem? (i := 5) rfl)
theorem w6 (hw : ∀ d ∈ tables_1, d.before a0 Z = true) : (Jvm.Cond.static ({ cls := "com/example/portunus/portunus/LockKeysQueueKeyPinLaw", name := "mk", desc := "([CI)Ljava/lang/String;" } : Jvm.MethodName)).before a0 Z = true := hw _ (List.mem_of_getElem? (i := 6) rfl)
theorem w7 (hw : ∀ d ∈ tables_1, d.before a0 Z = true) : (Jvm.Cond.code ({ cls := "com/example/portunus/portunus/LockKeysQueueKeyPinLaw", name := "mk", desc := "([CI)Ljava/lang/String;" } : Jvm.MethodName) method_4_code (2 : Nat) (Option.some (Jvm.ClassFile.FieldType.object "java/lang/String"))).before a0 Z = true := hw _ (List.mem_of_getElem? (i := 7) rfl)
theorem w8 (hw : ∀ d ∈ tables_1, d.before a0 Z = true) : (Jvm.Cond.classLink "com/example/portunus/portunus/LockKeysQueueKeyPinLaw" (27 : Nat) "java/lang/String").before a0 Z = true := hw _ (List.mem_of_getElem? (i := 8) rfl)
theorem w9 (hw : ∀ d ∈ tables_1, d.before a0 Z = true) : (Jvm.Cond.instantiable "java/lang/String" (4 : Nat)).before a0 Z = true := hw _ (List.mem_of_getElem? (i := 9) rfl)
theorem w10 (hw : ∀ d ∈ tables_1, d.before a0 Z = true) : (Jvm.Cond.initialized "java/lang/String").before a0 Z = true := hw _ (List.mem_of_getElem? (i := 10) rfl)
theorem w11 (hw : ∀ d ∈ tables_1, d.before a0 Z = true) : (Jvm.Cond.methodLink "com/example/portunus/portunus/LockKeysQueueKeyPinLaw" (36 : Nat) ({ cls := "java/lang/String", name := "<init>", desc := "([C)V" } : Jvm.MethodName)).before a0 Z = true := hw _ (List.mem_of_getElem? (i := 11) rfl)
theorem w12 (hw : ∀ d ∈ tables_1, d.before a0 Z = true) : (Jvm.Cond.instanceMethod ({ cls := "java/lang/String", name := "<init>", desc := "([C)V" } : Jvm.MethodName)).before a0 Z = true := hw _ (List.mem_of_getElem? (i := 12) rfl)
theorem w13 (hw : ∀ d ∈ tables_1, d.before a0 Z = true) : (Jvm.Cond.code ({ cls := "java/lang/String", name := "<init>", desc := "([C)V" } : Jvm.MethodName) jdk_42_method_3_code (2 : Nat) (Option.none : Option Jvm.ClassFile.FieldType)).before a0 Z = true := hw _ (List.mem_of_getElem? (i := 13) rfl)
theorem w14 (hw : ∀ d ∈ tables_1, d.before a0 Z = true) : (Jvm.Cond.methodLink "java/lang/String" (27 : Nat) ({ cls := "java/lang/String", name := "<init>", desc := "([CIILjava/lang/Void;)V" } : Jvm.MethodName)).before a0 Z = true := hw _ (List.mem_of_getElem? (i := 14) rfl)
theorem w15 (hw : ∀ d ∈ tables_1, d.before a0 Z = true) : (Jvm.Cond.instanceMethod ({ cls := "java/lang/String", name := "<init>", desc := "([CIILjava/lang/Void;)V" } : Jvm.MethodName)).before a0 Z = true := hw _ (List.mem_of_getElem? (i := 15) rfl)
theorem w17 (hw : ∀ d ∈ tables_1, d.before a0 Z = true) : (Jvm.Cond.code ({ cls := "java/lang/String", name := "<init>", desc := "([CIILjava/lang/Void;)V" } : Jvm.MethodName) jdk_42_method_149_code (6 : Nat) (Option.none : Option Jvm.ClassFile.FieldType)).before a0 Z = true := hw _ (List.mem_of_getElem? (i := 17) rfl)
theorem w18 (hw : ∀ d ∈ tables_1, d.before a0 Z = true) : (Jvm.Cond.methodLink "java/lang/String" (1 : Nat) ({ cls := "java/lang/Object", name := "<init>", desc := "()V" } : Jvm.MethodName)).before a0 Z = true := hw _ (List.mem_of_getElem? (i := 18) rfl)
theorem w19 (hw : ∀ d ∈ tables_1, d.before a0 Z = true) : (Jvm.Cond.instanceMethod ({ cls := "java/lang/Object", name := "<init>", desc := "()V" } : Jvm.MethodName)).before a0 Z = true := hw _ (List.mem_of_getElem? (i := 19) rfl)
theorem w20 (hw : ∀ d ∈ tables_1, d.before a0 Z = true) : (Jvm.Cond.code ({ cls := "java/lang/Object", name := "<init>", desc := "()V" } : Jvm.MethodName) object_method_1_code (1 : Nat) (Option.none : Option Jvm.ClassFile.FieldType)).before a0 Z = true := hw _ (List.mem_of_getElem? (i := 20) rfl)
theorem w21 (hw : ∀ d ∈ tables_1, d.before a0 Z = true) : (Jvm.Cond.fieldLink "java/lang/String" (38 : Nat) "java/lang/String" "COMPACT_STRINGS" "Z").before a0 Z = true := hw _ (List.mem_of_getElem? (i := 21) rfl)
theorem w22 (hw : ∀ d ∈ tables_1, d.before a0 Z = true) : (Jvm.Cond.methodLink "java/lang/String" (177 : Nat) ({ cls := "java/lang/StringUTF16", name := "compress", desc := "([CII)[B" } : Jvm.MethodName)).before a0 Z = true := hw _ (List.mem_of_getElem? (i := 22) rfl)
theorem w23 (hw : ∀ d ∈ tables_1, d.before a0 Z = true) : (Jvm.Cond.static ({ cls := "java/lang/StringUTF16", name := "compress", desc := "([CII)[B" } : Jvm.MethodName)).before a0 Z = true := hw _ (List.mem_of_getElem? (i := 23) rfl)
theorem w24 (hw : ∀ d ∈ tables_1, d.before a0 Z = true) : (Jvm.Cond.initialized "java/lang/StringUTF16").before a0 Z = true := hw _ (List.mem_of_getElem? (i := 24) rfl)
theorem w25 (hw : ∀ d ∈ tables_1, d.before a0 Z = true) : (Jvm.Cond.code ({ cls := "java/lang/StringUTF16", name := "compress", desc := "([CII)[B" } : Jvm.MethodName) jdk_52_method_16_code (6 : Nat) (Option.some (Jvm.ClassFile.FieldType.array Jvm.ClassFile.FieldType.byte))).before a0 Z = true := hw _ (List.mem_of_getElem? (i := 25) rfl)
theorem w26 (hw : ∀ d ∈ tables_1, d.before a0 Z = true) : (Jvm.Cond.arrayClass Jvm.ClassFile.FieldType.byte).before a0 Z = true := hw _ (List.mem_of_getElem? (i := 26) rfl)
theorem w27 (hw : ∀ d ∈ tables_1, d.before a0 Z = true) : (Jvm.Cond.methodLink "java/lang/StringUTF16" (115 : Nat) ({ cls := "java/lang/StringUTF16", name := "compress", desc := "([CI[BII)I" } : Jvm.MethodName)).before a0 Z = true := hw _ (List.mem_of_getElem? (i := 27) rfl)
theorem w28 (hw : ∀ d ∈ tables_1, d.before a0 Z = true) : (Jvm.Cond.static ({ cls := "java/lang/StringUTF16", name := "compress", desc := "([CI[BII)I" } : Jvm.MethodName)).before a0 Z = true := hw _ (List.mem_of_getElem? (i := 28) rfl)
theorem w29 (hw : ∀ d ∈ tables_1, d.before a0 Z = true) : (Jvm.Cond.code ({ cls := "java/lang/StringUTF16", name := "compress", desc := "([CI[BII)I" } : Jvm.MethodName) jdk_52_method_21_code (7 : Nat) (Option.some Jvm.ClassFile.FieldType.int)).before a0 Z = true := hw _ (List.mem_of_getElem? (i := 29) rfl)
theorem w30 (hw : ∀ d ∈ tables_1, d.before a0 Z = true) : (Jvm.Cond.methodLink "java/lang/String" (47 : Nat) ({ cls := "java/lang/StringUTF16", name := "coderFromArrayLen", desc := "([BI)B" } : Jvm.MethodName)).before a0 Z = true := hw _ (List.mem_of_getElem? (i := 30) rfl)
theorem w31 (hw : ∀ d ∈ tables_1, d.before a0 Z = true) : (Jvm.Cond.static ({ cls := "java/lang/StringUTF16", name := "coderFromArrayLen", desc := "([BI)B" } : Jvm.MethodName)).before a0 Z = true := hw _ (List.mem_of_getElem? (i := 31) rfl)
theorem w32 (hw : ∀ d ∈ tables_1, d.before a0 Z = true) : (Jvm.Cond.code ({ cls := "java/lang/StringUTF16", name := "coderFromArrayLen", desc := "([BI)B" } : Jvm.MethodName) jdk_52_method_15_code (2 : Nat) (Option.some Jvm.ClassFile.FieldType.byte)).before a0 Z = true := hw _ (List.mem_of_getElem? (i := 32) rfl)
theorem w33 (hw : ∀ d ∈ tables_1, d.before a0 Z = true) : (Jvm.Cond.fieldLink "java/lang/String" (15 : Nat) "java/lang/String" "coder" "B").before a0 Z = true := hw _ (List.mem_of_getElem? (i := 33) rfl)
theorem w34 (hw : ∀ d ∈ tables_1, d.before a0 Z = true) : (Jvm.Cond.laysFinal "java/lang/String" "java/lang/String" "coder" "B").before a0 Z = true := hw _ (List.mem_of_getElem? (i := 34) rfl)
theorem w35 (hw : ∀ d ∈ tables_1, d.before a0 Z = true) : (Jvm.Cond.fieldLink "java/lang/String" (9 : Nat) "java/lang/String" "value" "[B").before a0 Z = true := hw _ (List.mem_of_getElem? (i := 35) rfl)
theorem w36 (hw : ∀ d ∈ tables_1, d.before a0 Z = true) : (Jvm.Cond.laysFinal "java/lang/String" "java/lang/String" "value" "[B").before a0 Z = true := hw _ (List.mem_of_getElem? (i := 36) rfl)
theorem w37 (hw : ∀ d ∈ tables_1, d.before a0 Z = true) : (Jvm.Cond.classLink "com/example/portunus/portunus/LockKeysQueueKeyPinLaw" (17 : Nat) "com/example/portunus/portunus/LockKeys").before a0 Z = true := hw _ (List.mem_of_getElem? (i := 37) rfl)
theorem w38 (hw : ∀ d ∈ tables_1, d.before a0 Z = true) : (Jvm.Cond.instantiable "com/example/portunus/portunus/LockKeys" (1 : Nat)).before a0 Z = true := hw _ (List.mem_of_getElem? (i := 38) rfl)
theorem w39 (hw : ∀ d ∈ tables_1, d.before a0 Z = true) : (Jvm.Cond.initialized "com/example/portunus/portunus/LockKeys").before a0 Z = true := hw _ (List.mem_of_getElem? (i := 39) rfl)
theorem w40 (hw : ∀ d ∈ tables_1, d.before a0 Z = true) : (Jvm.Cond.methodLink "com/example/portunus/portunus/LockKeysQueueKeyPinLaw" (19 : Nat) ({ cls := "com/example/portunus/portunus/LockKeys", name := "<init>", desc := "(Ljava/lang/String;)V" } : Jvm.MethodName)).before a0 Z = true := hw _ (List.mem_of_getElem? (i := 40) rfl)
theorem w41 (hw : ∀ d ∈ tables_1, d.before a0 Z = true) : (Jvm.Cond.instanceMethod ({ cls := "com/example/portunus/portunus/LockKeys", name := "<init>", desc := "(Ljava/lang/String;)V" } : Jvm.MethodName)).before a0 Z = true := hw _ (List.mem_of_getElem? (i := 41) rfl)
theorem w42 (hw : ∀ d ∈ tables_1, d.before a0 Z = true) : (Jvm.Cond.code ({ cls := "com/example/portunus/portunus/LockKeys", name := "<init>", desc := "(Ljava/lang/String;)V" } : Jvm.MethodName) prog_6_method_1_code (2 : Nat) (Option.none : Option Jvm.ClassFile.FieldType)).before a0 Z = true := hw _ (List.mem_of_getElem? (i := 42) rfl)
theorem w43 (hw : ∀ d ∈ tables_1, d.before a0 Z = true) : (Jvm.Cond.methodLink "com/example/portunus/portunus/LockKeys" (1 : Nat) ({ cls := "java/lang/Object", name := "<init>", desc := "()V" } : Jvm.MethodName)).before a0 Z = true := hw _ (List.mem_of_getElem? (i := 43) rfl)
theorem w44 (hw : ∀ d ∈ tables_1, d.before a0 Z = true) : (Jvm.Cond.stringLink "com/example/portunus/portunus/LockKeys" (7 : Nat) "prefix").before a0 Z = true := hw _ (List.mem_of_getElem? (i := 44) rfl)
theorem w45 (hw : ∀ d ∈ tables_1, d.before a0 Z = true) : (Jvm.Cond.soleField "java/lang/String" "value").before a0 Z = true := hw _ (List.mem_of_getElem? (i := 45) rfl)
theorem w46 (hw : ∀ d ∈ tables_1, d.before a0 Z = true) : (Jvm.Cond.soleField "java/lang/String" "coder").before a0 Z = true := hw _ (List.mem_of_getElem? (i := 46) rfl)
theorem w47 (hw : ∀ d ∈ tables_1, d.before a0 Z = true) : (Jvm.Cond.methodLink "com/example/portunus/portunus/LockKeys" (9 : Nat) ({ cls := "java/util/Objects", name := "requireNonNull", desc := "(Ljava/lang/Object;Ljava/lang/String;)Ljava/lang/Object;" } : Jvm.MethodName)).before a0 Z = true := hw _ (List.mem_of_getElem? (i := 47) rfl)
theorem w48 (hw : ∀ d ∈ tables_1, d.before a0 Z = true) : (Jvm.Cond.static ({ cls := "java/util/Objects", name := "requireNonNull", desc := "(Ljava/lang/Object;Ljava/lang/String;)Ljava/lang/Object;" } : Jvm.MethodName)).before a0 Z = true := hw _ (List.mem_of_getElem? (i := 48) rfl)
theorem w49 (hw : ∀ d ∈ tables_1, d.before a0 Z = true) : (Jvm.Cond.initialized "java/util/Objects").before a0 Z = true := hw _ (List.mem_of_getElem? (i := 49) rfl)
theorem w50 (hw : ∀ d ∈ tables_1, d.before a0 Z = true) : (Jvm.Cond.code ({ cls := "java/util/Objects", name := "requireNonNull", desc := "(Ljava/lang/Object;Ljava/lang/String;)Ljava/lang/Object;" } : Jvm.MethodName) jdk_31_method_11_code (2 : Nat) (Option.some (Jvm.ClassFile.FieldType.object "java/lang/Object"))).before a0 Z = true := hw _ (List.mem_of_getElem? (i := 50) rfl)
theorem w51 (hw : ∀ d ∈ tables_1, d.before a0 Z = true) : (Jvm.Cond.methodLink "com/example/portunus/portunus/LockKeys" (15 : Nat) ({ cls := "java/lang/String", name := "indexOf", desc := "(I)I" } : Jvm.MethodName)).before a0 Z = true := hw _ (List.mem_of_getElem? (i := 51) rfl)
theorem w52 (hw : ∀ d ∈ tables_1, d.before a0 Z = true) : (Jvm.Cond.declares ({ cls := "java/lang/String", name := "indexOf", desc := "(I)I" } : Jvm.MethodName)).before a0 Z = true := hw _ (List.mem_of_getElem? (i := 52) rfl)
theorem w53 (hw : ∀ d ∈ tables_1, d.before a0 Z = true) : (Jvm.Cond.instanceMethod ({ cls := "java/lang/String", name := "indexOf", desc := "(I)I" } : Jvm.MethodName)).before a0 Z = true := hw _ (List.mem_of_getElem? (i := 53) rfl)
theorem w54 (hw : ∀ d ∈ tables_1, d.before a0 Z = true) : (Jvm.Cond.selects "java/lang/String" ({ cls := "java/lang/String", name := "indexOf", desc := "(I)I" } : Jvm.MethodName) ({ cls := "java/lang/String", name := "indexOf", desc := "(I)I" } : Jvm.MethodName)).before a0 Z = true := hw _ (List.mem_of_getElem? (i := 54) rfl)
theorem w55 (hw : ∀ d ∈ tables_1, d.before a0 Z = true) : (Jvm.Cond.code ({ cls := "java/lang/String", name := "indexOf", desc := "(I)I" } : Jvm.MethodName) jdk_42_method_79_code (2 : Nat) (Option.some Jvm.ClassFile.FieldType.int)).before a0 Z = true := hw _ (List.mem_of_getElem? (i := 55) rfl)
theorem w56 (hw : ∀ d ∈ tables_1, d.before a0 Z = true) : (Jvm.Cond.methodLink "java/lang/String" (633 : Nat) ({ cls := "java/lang/String", name := "indexOf", desc := "(II)I" } : Jvm.MethodName)).before a0 Z = true := hw _ (List.mem_of_getElem? (i := 56) rfl)
theorem w57 (hw : ∀ d ∈ tables_1, d.before a0 Z = true) : (Jvm.Cond.declares ({ cls := "java/lang/String", name := "indexOf", desc := "(II)I" } : Jvm.MethodName)).before a0 Z = true := hw _ (List.mem_of_getElem? (i := 57) rfl)
theorem w58 (hw : ∀ d ∈ tables_1, d.before a0 Z = true) : (Jvm.Cond.instanceMethod ({ cls := "java/lang/String", name := "indexOf", desc := "(II)I" } : Jvm.MethodName)).before a0 Z = true := hw _ (List.mem_of_getElem? (i := 58) rfl)
theorem w59 (hw : ∀ d ∈ tables_1, d.before a0 Z = true) : (Jvm.Cond.selects "java/lang/String" ({ cls := "java/lang/String", name := "indexOf", desc := "(II)I" } : Jvm.MethodName) ({ cls := "java/lang/String", name := "indexOf", desc := "(II)I" } : Jvm.MethodName)).before a0 Z = true := hw _ (List.mem_of_getElem? (i := 59) rfl)
theorem w60 (hw : ∀ d ∈ tables_1, d.before a0 Z = true) : (Jvm.Cond.code ({ cls := "java/lang/String", name := "indexOf", desc := "(II)I" } : Jvm.MethodName) jdk_42_method_80_code (3 : Nat) (Option.some Jvm.ClassFile.FieldType.int)).before a0 Z = true := hw _ (List.mem_of_getElem? (i := 60) rfl)
theorem w61 (hw : ∀ d ∈ tables_1, d.before a0 Z = true) : (Jvm.Cond.methodLink "java/lang/String" (492 : Nat) ({ cls := "java/lang/String", name := "isLatin1", desc := "()Z" } : Jvm.MethodName)).before a0 Z = true := hw _ (List.mem_of_getElem? (i := 61) rfl)
theorem w62 (hw : ∀ d ∈ tables_1, d.before a0 Z = true) : (Jvm.Cond.declares ({ cls := "java/lang/String", name := "isLatin1", desc := "()Z" } : Jvm.MethodName)).before a0 Z = true := hw _ (List.mem_of_getElem? (i := 62) rfl)
theorem w63 (hw : ∀ d ∈ tables_1, d.before a0 Z = true) : (Jvm.Cond.instanceMethod ({ cls := "java/lang/String", name := "isLatin1", desc := "()Z" } : Jvm.MethodName)).before a0 Z = true := hw _ (List.mem_of_getElem? (i := 63) rfl)
theorem w64 (hw : ∀ d ∈ tables_1, d.before a0 Z = true) : (Jvm.Cond.selects "java/lang/String" ({ cls := "java/lang/String", name := "isLatin1", desc := "()Z" } : Jvm.MethodName) ({ cls := "java/lang/String", name := "isLatin1", desc := "()Z" } : Jvm.MethodName)).before a0 Z = true := hw _ (List.mem_of_getElem? (i := 64) rfl)
theorem w65 (hw : ∀ d ∈ tables_1, d.before a0 Z = true) : (Jvm.Cond.code ({ cls := "java/lang/String", name := "isLatin1", desc := "()Z" } : Jvm.MethodName) jdk_42_method_154_code (1 : Nat) (Option.some Jvm.ClassFile.FieldType.boolean)).before a0 Z = true := hw _ (List.mem_of_getElem? (i := 65) rfl)
theorem w66 (hw : ∀ d ∈ tables_1, d.before a0 Z = true) : (Jvm.Cond.methodLink "java/lang/String" (505 : Nat) ({ cls := "java/lang/String", name := "length", desc := "()I" } : Jvm.MethodName)).before a0 Z = true := hw _ (List.mem_of_getElem? (i := 66) rfl)
theorem w67 (hw : ∀ d ∈ tables_1, d.before a0 Z = true) : (Jvm.Cond.declares ({ cls := "java/lang/String", name := "length", desc := "()I" } : Jvm.MethodName)).before a0 Z = true := hw _ (List.mem_of_getElem? (i := 67) rfl)
theorem w68 (hw : ∀ d ∈ tables_1, d.before a0 Z = true) : (Jvm.Cond.instanceMethod ({ cls := "java/lang/String", name := "length", desc := "()I" } : Jvm.MethodName)).before a0 Z = true := hw _ (List.mem_of_getElem? (i := 68) rfl)
theorem w69 (hw : ∀ d ∈ tables_1, d.before a0 Z = true) : (Jvm.Cond.selects "java/lang/String" ({ cls := "java/lang/String", name := "length", desc := "()I" } : Jvm.MethodName) ({ cls := "java/lang/String", name := "length", desc := "()I" } : Jvm.MethodName)).before a0 Z = true := hw _ (List.mem_of_getElem? (i := 69) rfl)
theorem w70 (hw : ∀ d ∈ tables_1, d.before a0 Z = true) : (Jvm.Cond.code ({ cls := "java/lang/String", name := "length", desc := "()I" } : Jvm.MethodName) jdk_42_method_54_code (1 : Nat) (Option.some Jvm.ClassFile.FieldType.int)).before a0 Z = true := hw _ (List.mem_of_getElem? (i := 70) rfl)
theorem w71 (hw : ∀ d ∈ tables_1, d.before a0 Z = true) : (Jvm.Cond.methodLink "java/lang/String" (335 : Nat) ({ cls := "java/lang/String", name := "coder", desc := "()B" } : Jvm.MethodName)).before a0 Z = true := hw _ (List.mem_of_getElem? (i := 71) rfl)
theorem w72 (hw : ∀ d ∈ tables_1, d.before a0 Z = true) : (Jvm.Cond.declares ({ cls := "java/lang/String", name := "coder", desc := "()B" } : Jvm.MethodName)).before a0 Z = true := hw _ (List.mem_of_getElem? (i := 72) rfl)
theorem w73 (hw : ∀ d ∈ tables_1, d.before a0 Z = true) : (Jvm.Cond.instanceMethod ({ cls := "java/lang/String", name := "coder", desc := "()B" } : Jvm.MethodName)).before a0 Z = true := hw _ (List.mem_of_getElem? (i := 73) rfl)
theorem w74 (hw : ∀ d ∈ tables_1, d.before a0 Z = true) : (Jvm.Cond.selects "java/lang/String" ({ cls := "java/lang/String", name := "coder", desc := "()B" } : Jvm.MethodName) ({ cls := "java/lang/String", name := "coder", desc := "()B" } : Jvm.MethodName)).before a0 Z = true := hw _ (List.mem_of_getElem? (i := 74) rfl)
theorem w75 (hw : ∀ d ∈ tables_1, d.before a0 Z = true) : (Jvm.Cond.code ({ cls := "java/lang/String", name := "coder", desc := "()B" } : Jvm.MethodName) jdk_42_method_152_code (1 : Nat) (Option.some Jvm.ClassFile.FieldType.byte)).before a0 Z = true := hw _ (List.mem_of_getElem? (i := 75) rfl)
theorem w76 (hw : ∀ d ∈ tables_1, d.before a0 Z = true) : (Jvm.Cond.methodLink "java/lang/String" (637 : Nat) ({ cls := "java/lang/StringLatin1", name := "indexOf", desc := "([BIII)I" } : Jvm.MethodName)).before a0 Z = true := hw _ (List.mem_of_getElem? (i := 76) rfl)
theorem w77 (hw : ∀ d ∈ tables_1, d.before a0 Z = true) : (Jvm.Cond.static ({ cls := "java/lang/StringLatin1", name := "indexOf", desc := "([BIII)I" } : Jvm.MethodName)).before a0 Z = true := hw _ (List.mem_of_getElem? (i := 77) rfl)
theorem w78 (hw : ∀ d ∈ tables_1, d.before a0 Z = true) : (Jvm.Cond.initialized "java/lang/StringLatin1").before a0 Z = true := hw _ (List.mem_of_getElem? (i := 78) rfl)
theorem w79 (hw : ∀ d ∈ tables_1, d.before a0 Z = true) : (Jvm.Cond.code ({ cls := "java/lang/StringLatin1", name := "indexOf", desc := "([BIII)I" } : Jvm.MethodName) jdk_43_method_22_code (4 : Nat) (Option.some Jvm.ClassFile.FieldType.int)).before a0 Z = true := hw _ (List.mem_of_getElem? (i := 79) rfl)
theorem w80 (hw : ∀ d ∈ tables_1, d.before a0 Z = true) : (Jvm.Cond.methodLink "java/lang/StringLatin1" (88 : Nat) ({ cls := "java/lang/StringLatin1", name := "canEncode", desc := "(I)Z" } : Jvm.MethodName)).before a0 Z = true := hw _ (List.mem_of_getElem? (i := 80) rfl)
theorem w81 (hw : ∀ d ∈ tables_1, d.before a0 Z = true) : (Jvm.Cond.static ({ cls := "java/lang/StringLatin1", name := "canEncode", desc := "(I)Z" } : Jvm.MethodName)).before a0 Z = true := hw _ (List.mem_of_getElem? (i := 81) rfl)
theorem w82 (hw : ∀ d ∈ tables_1, d.before a0 Z = true) : (Jvm.Cond.code ({ cls := "java/lang/StringLatin1", name := "canEncode", desc := "(I)Z" } : Jvm.MethodName) jdk_43_method_4_code (1 : Nat) (Option.some Jvm.ClassFile.FieldType.boolean)).before a0 Z = true := hw _ (List.mem_of_getElem? (i := 82) rfl)
theorem w83 (hw : ∀ d ∈ tables_1, d.before a0 Z = true) : (Jvm.Cond.methodLink "java/lang/StringLatin1" (92 : Nat) ({ cls := "java/lang/Math", name := "max", desc := "(II)I" } : Jvm.MethodName)).before a0 Z = true := hw _ (List.mem_of_getElem? (i := 83) rfl)
theorem w84 (hw : ∀ d ∈ tables_1, d.before a0 Z = true) : (Jvm.Cond.static ({ cls := "java/lang/Math", name := "max", desc := "(II)I" } : Jvm.MethodName)).before a0 Z = true := hw _ (List.mem_of_getElem? (i := 84) rfl)
theorem w85 (hw : ∀ d ∈ tables_1, d.before a0 Z = true) : (Jvm.Cond.initialized "java/lang/Math").before a0 Z = true := hw _ (List.mem_of_getElem? (i := 85) rfl)
theorem w86 (hw : ∀ d ∈ tables_1, d.before a0 Z = true) : (Jvm.Cond.code ({ cls := "java/lang/Math", name := "max", desc := "(II)I" } : Jvm.MethodName) jdk_29_method_65_code (2 : Nat) (Option.some Jvm.ClassFile.FieldType.int)).before a0 Z = true := hw _ (List.mem_of_getElem? (i := 86) rfl)
theorem w87 (hw : ∀ d ∈ tables_1, d.before a0 Z = true) : (Jvm.Cond.methodLink "java/lang/StringLatin1" (38 : Nat) ({ cls := "java/lang/Math", name := "min", desc := "(II)I" } : Jvm.MethodName)).before a0 Z = true := hw _ (List.mem_of_getElem? (i := 87) rfl)
theorem w88 (hw : ∀ d ∈ tables_1, d.before a0 Z = true) : (Jvm.Cond.static ({ cls := "java/lang/Math", name := "min", desc := "(II)I" } : Jvm.MethodName)).before a0 Z = true := hw _ (List.mem_of_getElem? (i := 88) rfl)
theorem w89 (hw : ∀ d ∈ tables_1, d.before a0 Z = true) : (Jvm.Cond.code ({ cls := "java/lang/Math", name := "min", desc := "(II)I" } : Jvm.MethodName) jdk_29_method_69_code (2 : Nat) (Option.some Jvm.ClassFile.FieldType.int)).before a0 Z = true := hw _ (List.mem_of_getElem? (i := 89) rfl)
theorem w90 (hw : ∀ d ∈ tables_1, d.before a0 Z = true) : (Jvm.Cond.methodLink "java/lang/StringLatin1" (95 : Nat) ({ cls := "java/lang/StringLatin1", name := "indexOfChar", desc := "([BIII)I" } : Jvm.MethodName)).before a0 Z = true := hw _ (List.mem_of_getElem? (i := 90) rfl)
theorem w91 (hw : ∀ d ∈ tables_1, d.before a0 Z = true) : (Jvm.Cond.static ({ cls := "java/lang/StringLatin1", name := "indexOfChar", desc := "([BIII)I" } : Jvm.MethodName)).before a0 Z = true := hw _ (List.mem_of_getElem? (i := 91) rfl)
theorem w92 (hw : ∀ d ∈ tables_1, d.before a0 Z = true) : (Jvm.Cond.code ({ cls := "java/lang/StringLatin1", name := "indexOfChar", desc := "([BIII)I" } : Jvm.MethodName) jdk_43_method_23_code (6 : Nat) (Option.some Jvm.ClassFile.FieldType.int)).before a0 Z = true := hw _ (List.mem_of_getElem? (i := 92) rfl)
theorem w93 (hw : ∀ d ∈ tables_1, d.before a0 Z = true) : (Jvm.Cond.fieldLink "com/example/portunus/portunus/LockKeys" (39 : Nat) "com/example/portunus/portunus/LockKeys" "prefix" "Ljava/lang/String;").before a0 Z = true := hw _ (List.mem_of_getElem? (i := 93) rfl)
theorem w94 (hw : ∀ d ∈ tables_1, d.before a0 Z = true) : (Jvm.Cond.laysFinal "com/example/portunus/portunus/LockKeys" "com/example/portunus/portunus/LockKeys" "prefix" "Ljava/lang/String;").before a0 Z = true := hw _ (List.mem_of_getElem? (i := 94) rfl)
theorem w95 (hw : ∀ d ∈ tables_1, d.before a0 Z = true) : (Jvm.Cond.methodLink "com/example/portunus/portunus/LockKeysQueueKeyPinLaw" (22 : Nat) ({ cls := "com/example/portunus/portunus/LockKeys", name := "queueKey", desc := "(Ljava/lang/String;)Ljava/lang/String;" } : Jvm.MethodName)).before a0 Z = true := hw _ (List.mem_of_getElem? (i := 95) rfl)
theorem w96 (hw : ∀ d ∈ tables_1, d.before a0 Z = true) : (Jvm.Cond.declares ({ cls := "com/example/portunus/portunus/LockKeys", name := "queueKey", desc := "(Ljava/lang/String;)Ljava/lang/String;" } : Jvm.MethodName)).before a0 Z = true := hw _ (List.mem_of_getElem? (i := 96) rfl)
theorem w97 (hw : ∀ d ∈ tables_1, d.before a0 Z = true) : (Jvm.Cond.instanceMethod ({ cls := "com/example/portunus/portunus/LockKeys", name := "queueKey", desc := "(Ljava/lang/String;)Ljava/lang/String;" } : Jvm.MethodName)).before a0 Z = true := hw _ (List.mem_of_getElem? (i := 97) rfl)
theorem w98 (hw : ∀ d ∈ tables_1, d.before a0 Z = true) : (Jvm.Cond.selects "com/example/portunus/portunus/LockKeys" ({ cls := "com/example/portunus/portunus/LockKeys", name := "queueKey", desc := "(Ljava/lang/String;)Ljava/lang/String;" } : Jvm.MethodName) ({ cls := "com/example/portunus/portunus/LockKeys", name := "queueKey", desc := "(Ljava/lang/String;)Ljava/lang/String;" } : Jvm.MethodName)).before a0 Z = true := hw _ (List.mem_of_getElem? (i := 98) rfl)
theorem w99 (hw : ∀ d ∈ tables_1, d.before a0 Z = true) : (Jvm.Cond.code ({ cls := "com/example/portunus/portunus/LockKeys", name := "queueKey", desc := "(Ljava/lang/String;)Ljava/lang/String;" } : Jvm.MethodName) prog_6_method_4_code (2 : Nat) (Option.some (Jvm.ClassFile.FieldType.object "java/lang/String"))).before a0 Z = true := hw _ (List.mem_of_getElem? (i := 99) rfl)
theorem w100 (hw : ∀ d ∈ tables_1, d.before a0 Z = true) : (Jvm.Cond.classLink "com/example/portunus/portunus/LockKeys" (23 : Nat) "java/lang/StringBuilder").before a0 Z = true := hw _ (List.mem_of_getElem? (i := 100) rfl)
theorem w101 (hw : ∀ d ∈ tables_1, d.before a0 Z = true) : (Jvm.Cond.instantiable "java/lang/StringBuilder" (4 : Nat)).before a0 Z = true := hw _ (List.mem_of_getElem? (i := 101) rfl)
theorem w102 (hw : ∀ d ∈ tables_1, d.before a0 Z = true) : (Jvm.Cond.initialized "java/lang/StringBuilder").before a0 Z = true := hw _ (List.mem_of_getElem? (i := 102) rfl)
theorem w103 (hw : ∀ d ∈ tables_1, d.before a0 Z = true) : (Jvm.Cond.methodLink "com/example/portunus/portunus/LockKeys" (25 : Nat) ({ cls := "java/lang/StringBuilder", name := "<init>", desc := "()V" } : Jvm.MethodName)).before a0 Z = true := hw _ (List.mem_of_getElem? (i := 103) rfl)
theorem w104 (hw : ∀ d ∈ tables_1, d.before a0 Z = true) : (Jvm.Cond.instanceMethod ({ cls := "java/lang/StringBuilder", name := "<init>", desc := "()V" } : Jvm.MethodName)).before a0 Z = true := hw _ (List.mem_of_getElem? (i := 104) rfl)
theorem w105 (hw : ∀ d ∈ tables_1, d.before a0 Z = true) : (Jvm.Cond.code ({ cls := "java/lang/StringBuilder", name := "<init>", desc := "()V" } : Jvm.MethodName) jdk_67_method_1_code (1 : Nat) (Option.none : Option Jvm.ClassFile.FieldType)).before a0 Z = true := hw _ (List.mem_of_getElem? (i := 105) rfl)
theorem w106 (hw : ∀ d ∈ tables_1, d.before a0 Z = true) : (Jvm.Cond.methodLink "java/lang/StringBuilder" (1 : Nat) ({ cls := "java/lang/AbstractStringBuilder", name := "<init>", desc := "(I)V" } : Jvm.MethodName)).before a0 Z = true := hw _ (List.mem_of_getElem? (i := 106) rfl)
theorem w107 (hw : ∀ d ∈ tables_1, d.before a0 Z = true) : (Jvm.Cond.instanceMethod ({ cls := "java/lang/AbstractStringBuilder", name := "<init>", desc := "(I)V" } : Jvm.MethodName)).before a0 Z = true := hw _ (List.mem_of_getElem? (i := 107) rfl)
theorem w110 (hw : ∀ d ∈ tables_1, d.before a0 Z = true) : (Jvm.Cond.initialized "java/lang/AbstractStringBuilder").before a0 Z = true := hw _ (List.mem_of_getElem? (i := 110) rfl)
theorem w111 (hw : ∀ d ∈ tables_1, d.before a0 Z = true) : (Jvm.Cond.code ({ cls := "java/lang/AbstractStringBuilder", name := "<init>", desc := "(I)V" } : Jvm.MethodName) jdk_68_method_2_code (2 : Nat) (Option.none : Option Jvm.ClassFile.FieldType)).before a0 Z = true := hw _ (List.mem_of_getElem? (i := 111) rfl)
theorem w112 (hw : ∀ d ∈ tables_1, d.before a0 Z = true) : (Jvm.Cond.methodLink "java/lang/AbstractStringBuilder" (3 : Nat) ({ cls := "java/lang/Object", name := "<init>", desc := "()V" } : Jvm.MethodName)).before a0 Z = true := hw _ (List.mem_of_getElem? (i := 112) rfl)
theorem w113 (hw : ∀ d ∈ tables_1, d.before a0 Z = true) : (Jvm.Cond.fieldLink "java/lang/AbstractStringBuilder" (18 : Nat) "java/lang/String" "COMPACT_STRINGS" "Z").before a0 Z = true := hw _ (List.mem_of_getElem? (i := 113) rfl)
theorem w114 (hw : ∀ d ∈ tables_1, d.before a0 Z = true) : (Jvm.Cond.fieldLink "java/lang/AbstractStringBuilder" (15 : Nat) "java/lang/AbstractStringBuilder" "value" "[B").before a0 Z = true := hw _ (List.mem_of_getElem? (i := 114) rfl)
theorem w115 (hw : ∀ d ∈ tables_1, d.before a0 Z = true) : (Jvm.Cond.lays "java/lang/StringBuilder" "java/lang/AbstractStringBuilder" "value" "[B").before a0 Z = true := hw _ (List.mem_of_getElem? (i := 115) rfl)
theorem w116 (hw : ∀ d ∈ tables_1, d.before a0 Z = true) : (Jvm.Cond.fieldLink "java/lang/AbstractStringBuilder" (22 : Nat) "java/lang/AbstractStringBuilder" "coder" "B").before a0 Z = true := hw _ (List.mem_of_getElem? (i := 116) rfl)
theorem w117 (hw : ∀ d ∈ tables_1, d.before a0 Z = true) : (Jvm.Cond.lays "java/lang/StringBuilder" "java/lang/AbstractStringBuilder" "coder" "B").before a0 Z = true := hw _ (List.mem_of_getElem? (i := 117) rfl)
theorem w118 (hw : ∀ d ∈ tables_1, d.before a0 Z = true) : (Jvm.Cond.methodLink "com/example/portunus/portunus/LockKeys" (28 : Nat) ({ cls := "java/lang/StringBuilder", name := "append", desc := "(Ljava/lang/String;)Ljava/lang/StringBuilder;" } : Jvm.MethodName)).before a0 Z = true := hw _ (List.mem_of_getElem? (i := 118) rfl)
theorem w119 (hw : ∀ d ∈ tables_1, d.before a0 Z = true) : (Jvm.Cond.declares ({ cls := "java/lang/StringBuilder", name := "append", desc := "(Ljava/lang/String;)Ljava/lang/StringBuilder;" } : Jvm.MethodName)).before a0 Z = true := hw _ (List.mem_of_getElem? (i := 119) rfl)
theorem w120 (hw : ∀ d ∈ tables_1, d.before a0 Z = true) : (Jvm.Cond.instanceMethod ({ cls := "java/lang/StringBuilder", name := "append", desc := "(Ljava/lang/String;)Ljava/lang/StringBuilder;" } : Jvm.MethodName)).before a0 Z = true := hw _ (List.mem_of_getElem? (i := 120) rfl)
theorem w121 (hw : ∀ d ∈ tables_1, d.before a0 Z = true) : (Jvm.Cond.selects "java/lang/StringBuilder" ({ cls := "java/lang/StringBuilder", name := "append", desc := "(Ljava/lang/String;)Ljava/lang/StringBuilder;" } : Jvm.MethodName) ({ cls := "java/lang/StringBuilder", name := "append", desc := "(Ljava/lang/String;)Ljava/lang/StringBuilder;" } : Jvm.MethodName)).before a0 Z = true := hw _ (List.mem_of_getElem? (i := 121) rfl)
theorem w122 (hw : ∀ d ∈ tables_1, d.before a0 Z = true) : (Jvm.Cond.code ({ cls := "java/lang/StringBuilder", name := "append", desc := "(Ljava/lang/String;)Ljava/lang/StringBuilder;" } : Jvm.MethodName) jdk_67_method_7_code (2 : Nat) (Option.some (Jvm.ClassFile.FieldType.object "java/lang/StringBuilder"))).before a0 Z = true := hw _ (List.mem_of_getElem? (i := 122) rfl)
theorem w123 (hw : ∀ d ∈ tables_1, d.before a0 Z = true) : (Jvm.Cond.methodLink "java/lang/StringBuilder" (29 : Nat) ({ cls := "java/lang/AbstractStringBuilder", name := "append", desc := "(Ljava/lang/String;)Ljava/lang/AbstractStringBuilder;" } : Jvm.MethodName)).before a0 Z = true := hw _ (List.mem_of_getElem? (i := 123) rfl)
theorem w124 (hw : ∀ d ∈ tables_1, d.before a0 Z = true) : (Jvm.Cond.instanceMethod ({ cls := "java/lang/AbstractStringBuilder", name := "append", desc := "(Ljava/lang/String;)Ljava/lang/AbstractStringBuilder;" } : Jvm.MethodName)).before a0 Z = true := hw _ (List.mem_of_getElem? (i := 124) rfl)
theorem w125 (hw : ∀ d ∈ tables_1, d.before a0 Z = true) : (Jvm.Cond.superclass "java/lang/StringBuilder" "java/lang/AbstractStringBuilder").before a0 Z = true := hw _ (List.mem_of_getElem? (i := 125) rfl)
theorem w126 (hw : ∀ d ∈ tables_1, d.before a0 Z = true) : (Jvm.Cond.declares ({ cls := "java/lang/AbstractStringBuilder", name := "append", desc := "(Ljava/lang/String;)Ljava/lang/AbstractStringBuilder;" } : Jvm.MethodName)).before a0 Z = true := hw _ (List.mem_of_getElem? (i := 126) rfl)
theorem w127 (hw : ∀ d ∈ tables_1, d.before a0 Z = true) : (Jvm.Cond.code ({ cls := "java/lang/AbstractStringBuilder", name := "append", desc := "(Ljava/lang/String;)Ljava/lang/AbstractStringBuilder;" } : Jvm.MethodName) jdk_68_method_22_code (3 : Nat) (Option.some (Jvm.ClassFile.FieldType.object "java/lang/AbstractStringBuilder"))).before a0 Z = true := hw _ (List.mem_of_getElem? (i := 127) rfl)
theorem w128 (hw : ∀ d ∈ tables_1, d.before a0 Z = true) : (Jvm.Cond.methodLink "java/lang/AbstractStringBuilder" (32 : Nat) ({ cls := "java/lang/String", name := "length", desc := "()I" } : Jvm.MethodName)).before a0 Z = true := hw _ (List.mem_of_getElem? (i := 128) rfl)
theorem w129 (hw : ∀ d ∈ tables_1, d.before a0 Z = true) : (Jvm.Cond.fieldLink "java/lang/AbstractStringBuilder" (79 : Nat) "java/lang/AbstractStringBuilder" "count" "I").before a0 Z = true := hw _ (List.mem_of_getElem? (i := 129) rfl)
theorem w130 (hw : ∀ d ∈ tables_1, d.before a0 Z = true) : (Jvm.Cond.lays "java/lang/StringBuilder" "java/lang/AbstractStringBuilder" "count" "I").before a0 Z = true := hw _ (List.mem_of_getElem? (i := 130) rfl)
theorem w131 (hw : ∀ d ∈ tables_1, d.before a0 Z = true) : (Jvm.Cond.methodLink "java/lang/AbstractStringBuilder" (100 : Nat) ({ cls := "java/lang/AbstractStringBuilder", name := "ensureCapacityInternal", desc := "(I)V" } : Jvm.MethodName)).before a0 Z = true := hw _ (List.mem_of_getElem? (i := 131) rfl)
theorem w132 (hw : ∀ d ∈ tables_1, d.before a0 Z = true) : (Jvm.Cond.instanceMethod ({ cls := "java/lang/AbstractStringBuilder", name := "ensureCapacityInternal", desc := "(I)V" } : Jvm.MethodName)).before a0 Z = true := hw _ (List.mem_of_getElem? (i := 132) rfl)
theorem w133 (hw : ∀ d ∈ tables_1, d.before a0 Z = true) : (Jvm.Cond.privateMethod ({ cls := "java/lang/AbstractStringBuilder", name := "ensureCapacityInternal", desc := "(I)V" } : Jvm.MethodName)).before a0 Z = true := hw _ (List.mem_of_getElem? (i := 133) rfl)
theorem w134 (hw : ∀ d ∈ tables_1, d.before a0 Z = true) : (Jvm.Cond.selects "java/lang/StringBuilder" ({ cls := "java/lang/AbstractStringBuilder", name := "ensureCapacityInternal", desc := "(I)V" } : Jvm.MethodName) ({ cls := "java/lang/AbstractStringBuilder", name := "ensureCapacityInternal", desc := "(I)V" } : Jvm.MethodName)).before a0 Z = true := hw _ (List.mem_of_getElem? (i := 134) rfl)
theorem w135 (hw : ∀ d ∈ tables_1, d.before a0 Z = true) : (Jvm.Cond.code ({ cls := "java/lang/AbstractStringBuilder", name := "ensureCapacityInternal", desc := "(I)V" } : Jvm.MethodName) jdk_68_method_9_code (3 : Nat) (Option.none : Option Jvm.ClassFile.FieldType)).before a0 Z = true := hw _ (List.mem_of_getElem? (i := 135) rfl)
theorem w136 (hw : ∀ d ∈ tables_1, d.before a0 Z = true) : (Jvm.Cond.methodLink "java/lang/AbstractStringBuilder" (208 : Nat) ({ cls := "java/lang/AbstractStringBuilder", name := "putStringAt", desc := "(ILjava/lang/String;)V" } : Jvm.MethodName)).before a0 Z = true := hw _ (List.mem_of_getElem? (i := 136) rfl)
theorem w137 (hw : ∀ d ∈ tables_1, d.before a0 Z = true) : (Jvm.Cond.instanceMethod ({ cls := "java/lang/AbstractStringBuilder", name := "putStringAt", desc := "(ILjava/lang/String;)V" } : Jvm.MethodName)).before a0 Z = true := hw _ (List.mem_of_getElem? (i := 137) rfl)
theorem w138 (hw : ∀ d ∈ tables_1, d.before a0 Z = true) : (Jvm.Cond.privateMethod ({ cls := "java/lang/AbstractStringBuilder", name := "putStringAt", desc := "(ILjava/lang/String;)V" } : Jvm.MethodName)).before a0 Z = true := hw _ (List.mem_of_getElem? (i := 138) rfl)
theorem w139 (hw : ∀ d ∈ tables_1, d.before a0 Z = true) : (Jvm.Cond.selects "java/lang/StringBuilder" ({ cls := "java/lang/AbstractStringBuilder", name := "putStringAt", desc := "(ILjava/lang/String;)V" } : Jvm.MethodName) ({ cls := "java/lang/AbstractStringBuilder", name := "putStringAt", desc := "(ILjava/lang/String;)V" } : Jvm.MethodName)).before a0 Z = true := hw _ (List.mem_of_getElem? (i := 139) rfl)
theorem w140 (hw : ∀ d ∈ tables_1, d.before a0 Z = true) : (Jvm.Cond.code ({ cls := "java/lang/AbstractStringBuilder", name := "putStringAt", desc := "(ILjava/lang/String;)V" } : Jvm.MethodName) jdk_68_method_73_code (3 : Nat) (Option.none : Option Jvm.ClassFile.FieldType)).before a0 Z = true := hw _ (List.mem_of_getElem? (i := 140) rfl)
theorem w141 (hw : ∀ d ∈ tables_1, d.before a0 Z = true) : (Jvm.Cond.methodLink "java/lang/AbstractStringBuilder" (397 : Nat) ({ cls := "java/lang/AbstractStringBuilder", name := "inflateIfNeededFor", desc := "(Ljava/lang/String;)V" } : Jvm.MethodName)).before a0 Z = true := hw _ (List.mem_of_getElem? (i := 141) rfl)
theorem w142 (hw : ∀ d ∈ tables_1, d.before a0 Z = true) : (Jvm.Cond.instanceMethod ({ cls := "java/lang/AbstractStringBuilder", name := "inflateIfNeededFor", desc := "(Ljava/lang/String;)V" } : Jvm.MethodName)).before a0 Z = true := hw _ (List.mem_of_getElem? (i := 142) rfl)
theorem w143 (hw : ∀ d ∈ tables_1, d.before a0 Z = true) : (Jvm.Cond.privateMethod ({ cls := "java/lang/AbstractStringBuilder", name := "inflateIfNeededFor", desc := "(Ljava/lang/String;)V" } : Jvm.MethodName)).before a0 Z = true := hw _ (List.mem_of_getElem? (i := 143) rfl)
theorem w144 (hw : ∀ d ∈ tables_1, d.before a0 Z = true) : (Jvm.Cond.selects "java/lang/StringBuilder" ({ cls := "java/lang/AbstractStringBuilder", name := "inflateIfNeededFor", desc := "(Ljava/lang/String;)V" } : Jvm.MethodName) ({ cls := "java/lang/AbstractStringBuilder", name := "inflateIfNeededFor", desc := "(Ljava/lang/String;)V" } : Jvm.MethodName)).before a0 Z = true := hw _ (List.mem_of_getElem? (i := 144) rfl)
theorem w145 (hw : ∀ d ∈ tables_1, d.before a0 Z = true) : (Jvm.Cond.code ({ cls := "java/lang/AbstractStringBuilder", name := "inflateIfNeededFor", desc := "(Ljava/lang/String;)V" } : Jvm.MethodName) jdk_68_method_71_code (2 : Nat) (Option.none : Option Jvm.ClassFile.FieldType)).before a0 Z = true := hw _ (List.mem_of_getElem? (i := 145) rfl)
theorem w146 (hw : ∀ d ∈ tables_1, d.before a0 Z = true) : (Jvm.Cond.methodLink "java/lang/AbstractStringBuilder" (40 : Nat) ({ cls := "java/lang/String", name := "coder", desc := "()B" } : Jvm.MethodName)).before a0 Z = true := hw _ (List.mem_of_getElem? (i := 146) rfl)
theorem w147 (hw : ∀ d ∈ tables_1, d.before a0 Z = true) : (Jvm.Cond.methodLink "java/lang/AbstractStringBuilder" (399 : Nat) ({ cls := "java/lang/String", name := "getBytes", desc := "([BIB)V" } : Jvm.MethodName)).before a0 Z = true := hw _ (List.mem_of_getElem? (i := 147) rfl)
theorem w148 (hw : ∀ d ∈ tables_1, d.before a0 Z = true) : (Jvm.Cond.declares ({ cls := "java/lang/String", name := "getBytes", desc := "([BIB)V" } : Jvm.MethodName)).before a0 Z = true := hw _ (List.mem_of_getElem? (i := 148) rfl)
theorem w149 (hw : ∀ d ∈ tables_1, d.before a0 Z = true) : (Jvm.Cond.instanceMethod ({ cls := "java/lang/String", name := "getBytes", desc := "([BIB)V" } : Jvm.MethodName)).before a0 Z = true := hw _ (List.mem_of_getElem? (i := 149) rfl)
theorem w150 (hw : ∀ d ∈ tables_1, d.before a0 Z = true) : (Jvm.Cond.selects "java/lang/String" ({ cls := "java/lang/String", name := "getBytes", desc := "([BIB)V" } : Jvm.MethodName) ({ cls := "java/lang/String", name := "getBytes", desc := "([BIB)V" } : Jvm.MethodName)).before a0 Z = true := hw _ (List.mem_of_getElem? (i := 150) rfl)
theorem w151 (hw : ∀ d ∈ tables_1, d.before a0 Z = true) : (Jvm.Cond.code ({ cls := "java/lang/String", name := "getBytes", desc := "([BIB)V" } : Jvm.MethodName) jdk_42_method_147_code (4 : Nat) (Option.none : Option Jvm.ClassFile.FieldType)).before a0 Z = true := hw _ (List.mem_of_getElem? (i := 151) rfl)
theorem w152 (hw : ∀ d ∈ tables_1, d.before a0 Z = true) : (Jvm.Cond.methodLink "java/lang/String" (212 : Nat) ({ cls := "java/lang/System", name := "arraycopy", desc := "(Ljava/lang/Object;ILjava/lang/Object;II)V" } : Jvm.MethodName)).before a0 Z = true := hw _ (List.mem_of_getElem? (i := 152) rfl)
theorem w153 (hw : ∀ d ∈ tables_1, d.before a0 Z = true) : (Jvm.Cond.static ({ cls := "java/lang/System", name := "arraycopy", desc := "(Ljava/lang/Object;ILjava/lang/Object;II)V" } : Jvm.MethodName)).before a0 Z = true := hw _ (List.mem_of_getElem? (i := 153) rfl)
theorem w154 (hw : ∀ d ∈ tables_1, d.before a0 Z = true) : (Jvm.Cond.initialized "java/lang/System").before a0 Z = true := hw _ (List.mem_of_getElem? (i := 154) rfl)
theorem w155 (hw : ∀ d ∈ tables_1, d.before a0 Z = true) : (Jvm.Cond.native ({ cls := "java/lang/System", name := "arraycopy", desc := "(Ljava/lang/Object;ILjava/lang/Object;II)V" } : Jvm.MethodName)).before a0 Z = true := hw _ (List.mem_of_getElem? (i := 155) rfl)
theorem w156 (hw : ∀ d ∈ tables_1, d.before a0 Z = true) : (Jvm.Cond.stringLink "com/example/portunus/portunus/LockKeys" (52 : Nat) "queue:").before a0 Z = true := hw _ (List.mem_of_getElem? (i := 156) rfl)
theorem w157 (hw : ∀ d ∈ tables_1, d.before a0 Z = true) : (Jvm.Cond.methodLink "com/example/portunus/portunus/LockKeys" (46 : Nat) ({ cls := "com/example/portunus/portunus/LockKeys", name := "braced", desc := "(Ljava/lang/String;)Ljava/lang/String;" } : Jvm.MethodName)).before a0 Z = true := hw _ (List.mem_of_getElem? (i := 157) rfl)
theorem w158 (hw : ∀ d ∈ tables_1, d.before a0 Z = true) : (Jvm.Cond.static ({ cls := "com/example/portunus/portunus/LockKeys", name := "braced", desc := "(Ljava/lang/String;)Ljava/lang/String;" } : Jvm.MethodName)).before a0 Z = true := hw _ (List.mem_of_getElem? (i := 158) rfl)
theorem w159 (hw : ∀ d ∈ tables_1, d.before a0 Z = true) : (Jvm.Cond.code ({ cls := "com/example/portunus/portunus/LockKeys", name := "braced", desc := "(Ljava/lang/String;)Ljava/lang/String;" } : Jvm.MethodName) prog_6_method_8_code (1 : Nat) (Option.some (Jvm.ClassFile.FieldType.object "java/lang/String"))).before a0 Z = true := hw _ (List.mem_of_getElem? (i := 159) rfl)
theorem w160 (hw : ∀ d ∈ tables_1, d.before a0 Z = true) : (Jvm.Cond.stringLink "com/example/portunus/portunus/LockKeys" (60 : Nat) "name").before a0 Z = true := hw _ (List.mem_of_getElem? (i := 160) rfl)
theorem w161 (hw : ∀ d ∈ tables_1, d.before a0 Z = true) : (Jvm.Cond.methodLink "com/example/portunus/portunus/LockKeys" (62 : Nat) ({ cls := "java/lang/String", name := "isEmpty", desc := "()Z" } : Jvm.MethodName)).before a0 Z = true := hw _ (List.mem_of_getElem? (i := 161) rfl)
theorem w162 (hw : ∀ d ∈ tables_1, d.before a0 Z = true) : (Jvm.Cond.declares ({ cls := "java/lang/String", name := "isEmpty", desc := "()Z" } : Jvm.MethodName)).before a0 Z = true := hw _ (List.mem_of_getElem? (i := 162) rfl)
theorem w163 (hw : ∀ d ∈ tables_1, d.before a0 Z = true) : (Jvm.Cond.instanceMethod ({ cls := "java/lang/String", name := "isEmpty", desc := "()Z" } : Jvm.MethodName)).before a0 Z = true := hw _ (List.mem_of_getElem? (i := 163) rfl)
theorem w164 (hw : ∀ d ∈ tables_1, d.before a0 Z = true) : (Jvm.Cond.selects "java/lang/String" ({ cls := "java/lang/String", name := "isEmpty", desc := "()Z" } : Jvm.MethodName) ({ cls := "java/lang/String", name := "isEmpty", desc := "()Z" } : Jvm.MethodName)).before a0 Z = true := hw _ (List.mem_of_getElem? (i := 164) rfl)
theorem w165 (hw : ∀ d ∈ tables_1, d.before a0 Z = true) : (Jvm.Cond.code ({ cls := "java/lang/String", name := "isEmpty", desc := "()Z" } : Jvm.MethodName) jdk_42_method_55_code (1 : Nat) (Option.some Jvm.ClassFile.FieldType.boolean)).before a0 Z = true := hw _ (List.mem_of_getElem? (i := 165) rfl)
theorem w166 (hw : ∀ d ∈ tables_1, d.before a0 Z = true) : (Jvm.Cond.methodLink "com/example/portunus/portunus/LockKeys" (66 : Nat) ({ cls := "java/lang/String", name := "charAt", desc := "(I)C" } : Jvm.MethodName)).before a0 Z = true := hw _ (List.mem_of_getElem? (i := 166) rfl)
theorem w167 (hw : ∀ d ∈ tables_1, d.before a0 Z = true) : (Jvm.Cond.declares ({ cls := "java/lang/String", name := "charAt", desc := "(I)C" } : Jvm.MethodName)).before a0 Z = true := hw _ (List.mem_of_getElem? (i := 167) rfl)
theorem w168 (hw : ∀ d ∈ tables_1, d.before a0 Z = true) : (Jvm.Cond.instanceMethod ({ cls := "java/lang/String", name := "charAt", desc := "(I)C" } : Jvm.MethodName)).before a0 Z = true := hw _ (List.mem_of_getElem? (i := 168) rfl)
theorem w169 (hw : ∀ d ∈ tables_1, d.before a0 Z = true) : (Jvm.Cond.selects "java/lang/String" ({ cls := "java/lang/String", name := "charAt", desc := "(I)C" } : Jvm.MethodName) ({ cls := "java/lang/String", name := "charAt", desc := "(I)C" } : Jvm.MethodName)).before a0 Z = true := hw _ (List.mem_of_getElem? (i := 169) rfl)
theorem w170 (hw : ∀ d ∈ tables_1, d.before a0 Z = true) : (Jvm.Cond.code ({ cls := "java/lang/String", name := "charAt", desc := "(I)C" } : Jvm.MethodName) jdk_42_method_56_code (2 : Nat) (Option.some Jvm.ClassFile.FieldType.char)).before a0 Z = true := hw _ (List.mem_of_getElem? (i := 170) rfl)
theorem w171 (hw : ∀ d ∈ tables_1, d.before a0 Z = true) : (Jvm.Cond.methodLink "java/lang/String" (495 : Nat) ({ cls := "java/lang/StringLatin1", name := "charAt", desc := "([BI)C" } : Jvm.MethodName)).before a0 Z = true := hw _ (List.mem_of_getElem? (i := 171) rfl)
theorem w172 (hw : ∀ d ∈ tables_1, d.before a0 Z = true) : (Jvm.Cond.static ({ cls := "java/lang/StringLatin1", name := "charAt", desc := "([BI)C" } : Jvm.MethodName)).before a0 Z = true := hw _ (List.mem_of_getElem? (i := 172) rfl)
theorem w173 (hw : ∀ d ∈ tables_1, d.before a0 Z = true) : (Jvm.Cond.code ({ cls := "java/lang/StringLatin1", name := "charAt", desc := "([BI)C" } : Jvm.MethodName) jdk_43_method_2_code (2 : Nat) (Option.some Jvm.ClassFile.FieldType.char)).before a0 Z = true := hw _ (List.mem_of_getElem? (i := 173) rfl)
theorem w174 (hw : ∀ d ∈ tables_1, d.before a0 Z = true) : (Jvm.Cond.methodLink "java/lang/StringLatin1" (9 : Nat) ({ cls := "java/lang/String", name := "checkIndex", desc := "(II)V" } : Jvm.MethodName)).before a0 Z = true := hw _ (List.mem_of_getElem? (i := 174) rfl)
theorem w175 (hw : ∀ d ∈ tables_1, d.before a0 Z = true) : (Jvm.Cond.static ({ cls := "java/lang/String", name := "checkIndex", desc := "(II)V" } : Jvm.MethodName)).before a0 Z = true := hw _ (List.mem_of_getElem? (i := 175) rfl)
theorem w176 (hw : ∀ d ∈ tables_1, d.before a0 Z = true) : (Jvm.Cond.code ({ cls := "java/lang/String", name := "checkIndex", desc := "(II)V" } : Jvm.MethodName) jdk_42_method_155_code (2 : Nat) (Option.none : Option Jvm.ClassFile.FieldType)).before a0 Z = true := hw _ (List.mem_of_getElem? (i := 176) rfl)
theorem w177 (hw : ∀ d ∈ tables_1, d.before a0 Z = true) : (Jvm.Cond.fieldLink "java/lang/String" (1053 : Nat) "jdk/internal/util/Preconditions" "SIOOBE_FORMATTER" "Ljava/util/function/BiFunction;").before a0 Z = true := hw _ (List.mem_of_getElem? (i := 177) rfl)
theorem w178 (hw : ∀ d ∈ tables_1, d.before a0 Z = true) : (Jvm.Cond.initialized "jdk/internal/util/Preconditions").before a0 Z = true := hw _ (List.mem_of_getElem? (i := 178) rfl)
theorem w179 (hw : ∀ d ∈ tables_1, d.before a0 Z = true) : (Jvm.Cond.methodLink "java/lang/String" (1059 : Nat) ({ cls := "jdk/internal/util/Preconditions", name := "checkIndex", desc := "(IILjava/util/function/BiFunction;)I" } : Jvm.MethodName)).before a0 Z = true := hw _ (List.mem_of_getElem? (i := 179) rfl)
theorem w180 (hw : ∀ d ∈ tables_1, d.before a0 Z = true) : (Jvm.Cond.static ({ cls := "jdk/internal/util/Preconditions", name := "checkIndex", desc := "(IILjava/util/function/BiFunction;)I" } : Jvm.MethodName)).before a0 Z = true := hw _ (List.mem_of_getElem? (i := 180) rfl)
theorem w181 (hw : ∀ d ∈ tables_1, d.before a0 Z = true) : (Jvm.Cond.code ({ cls := "jdk/internal/util/Preconditions", name := "checkIndex", desc := "(IILjava/util/function/BiFunction;)I" } : Jvm.MethodName) jdk_41_method_11_code (3 : Nat) (Option.some Jvm.ClassFile.FieldType.int)).before a0 Z = true := hw _ (List.mem_of_getElem? (i := 181) rfl)
theorem w182 (hw : ∀ d ∈ tables_1, d.before a0 Z = true) : (Jvm.Cond.stringLink "com/example/portunus/portunus/LockKeys" (72 : Nat) "{").before a0 Z = true := hw _ (List.mem_of_getElem? (i := 182) rfl)
theorem w183 (hw : ∀ d ∈ tables_1, d.before a0 Z = true) : (Jvm.Cond.stringLink "com/example/portunus/portunus/LockKeys" (74 : Nat) "}").before a0 Z = true := hw _ (List.mem_of_getElem? (i := 183) rfl)
theorem w184 (hw : ∀ d ∈ tables_1, d.before a0 Z = true) : (Jvm.Cond.methodLink "com/example/portunus/portunus/LockKeys" (32 : Nat) ({ cls := "java/lang/StringBuilder", name := "toString", desc := "()Ljava/lang/String;" } : Jvm.MethodName)).before a0 Z = true := hw _ (List.mem_of_getElem? (i := 184) rfl)
theorem w185 (hw : ∀ d ∈ tables_1, d.before a0 Z = true) : (Jvm.Cond.declares ({ cls := "java/lang/StringBuilder", name := "toString", desc := "()Ljava/lang/String;" } : Jvm.MethodName)).before a0 Z = true := hw _ (List.mem_of_getElem? (i := 185) rfl)
theorem w186 (hw : ∀ d ∈ tables_1, d.before a0 Z = true) : (Jvm.Cond.instanceMethod ({ cls := "java/lang/StringBuilder", name := "toString", desc := "()Ljava/lang/String;" } : Jvm.MethodName)).before a0 Z = true := hw _ (List.mem_of_getElem? (i := 186) rfl)
theorem w187 (hw : ∀ d ∈ tables_1, d.before a0 Z = true) : (Jvm.Cond.selects "java/lang/StringBuilder" ({ cls := "java/lang/StringBuilder", name := "toString", desc := "()Ljava/lang/String;" } : Jvm.MethodName) ({ cls := "java/lang/StringBuilder", name := "toString", desc := "()Ljava/lang/String;" } : Jvm.MethodName)).before a0 Z = true := hw _ (List.mem_of_getElem? (i := 187) rfl)
theorem w188 (hw : ∀ d ∈ tables_1, d.before a0 Z = true) : (Jvm.Cond.code ({ cls := "java/lang/StringBuilder", name := "toString", desc := "()Ljava/lang/String;" } : Jvm.MethodName) jdk_67_method_42_code (1 : Nat) (Option.some (Jvm.ClassFile.FieldType.object "java/lang/String"))).before a0 Z = true := hw _ (List.mem_of_getElem? (i := 188) rfl)
theorem w189 (hw : ∀ d ∈ tables_1, d.before a0 Z = true) : (Jvm.Cond.classLink "java/lang/StringBuilder" (18 : Nat) "java/lang/String").before a0 Z = true := hw _ (List.mem_of_getElem? (i := 189) rfl)
theorem w190 (hw : ∀ d ∈ tables_1, d.before a0 Z = true) : (Jvm.Cond.methodLink "java/lang/StringBuilder" (137 : Nat) ({ cls := "java/lang/String", name := "<init>", desc := "(Ljava/lang/StringBuilder;)V" } : Jvm.MethodName)).before a0 Z = true := hw _ (List.mem_of_getElem? (i := 190) rfl)
theorem w191 (hw : ∀ d ∈ tables_1, d.before a0 Z = true) : (Jvm.Cond.instanceMethod ({ cls := "java/lang/String", name := "<init>", desc := "(Ljava/lang/StringBuilder;)V" } : Jvm.MethodName)).before a0 Z = true := hw _ (List.mem_of_getElem? (i := 191) rfl)
theorem w192 (hw : ∀ d ∈ tables_1, d.before a0 Z = true) : (Jvm.Cond.code ({ cls := "java/lang/String", name := "<init>", desc := "(Ljava/lang/StringBuilder;)V" } : Jvm.MethodName) jdk_42_method_53_code (2 : Nat) (Option.none : Option Jvm.ClassFile.FieldType)).before a0 Z = true := hw _ (List.mem_of_getElem? (i := 192) rfl)
theorem w193 (hw : ∀ d ∈ tables_1, d.before a0 Z = true) : (Jvm.Cond.methodLink "java/lang/String" (489 : Nat) ({ cls := "java/lang/String", name := "<init>", desc := "(Ljava/lang/AbstractStringBuilder;Ljava/lang/Void;)V" } : Jvm.MethodName)).before a0 Z = true := hw _ (List.mem_of_getElem? (i := 193) rfl)
theorem w194 (hw : ∀ d ∈ tables_1, d.before a0 Z = true) : (Jvm.Cond.instanceMethod ({ cls := "java/lang/String", name := "<init>", desc := "(Ljava/lang/AbstractStringBuilder;Ljava/lang/Void;)V" } : Jvm.MethodName)).before a0 Z = true := hw _ (List.mem_of_getElem? (i := 194) rfl)
theorem w195 (hw : ∀ d ∈ tables_1, d.before a0 Z = true) : (Jvm.Cond.code ({ cls := "java/lang/String", name := "<init>", desc := "(Ljava/lang/AbstractStringBuilder;Ljava/lang/Void;)V" } : Jvm.MethodName) jdk_42_method_150_code (5 : Nat) (Option.none : Option Jvm.ClassFile.FieldType)).before a0 Z = true := hw _ (List.mem_of_getElem? (i := 195) rfl)
theorem w196 (hw : ∀ d ∈ tables_1, d.before a0 Z = true) : (Jvm.Cond.methodLink "java/lang/String" (552 : Nat) ({ cls := "java/lang/AbstractStringBuilder", name := "getValue", desc := "()[B" } : Jvm.MethodName)).before a0 Z = true := hw _ (List.mem_of_getElem? (i := 196) rfl)
theorem w197 (hw : ∀ d ∈ tables_1, d.before a0 Z = true) : (Jvm.Cond.declares ({ cls := "java/lang/AbstractStringBuilder", name := "getValue", desc := "()[B" } : Jvm.MethodName)).before a0 Z = true := hw _ (List.mem_of_getElem? (i := 197) rfl)
theorem w198 (hw : ∀ d ∈ tables_1, d.before a0 Z = true) : (Jvm.Cond.instanceMethod ({ cls := "java/lang/AbstractStringBuilder", name := "getValue", desc := "()[B" } : Jvm.MethodName)).before a0 Z = true := hw _ (List.mem_of_getElem? (i := 198) rfl)
theorem w199 (hw : ∀ d ∈ tables_1, d.before a0 Z = true) : (Jvm.Cond.selects "java/lang/StringBuilder" ({ cls := "java/lang/AbstractStringBuilder", name := "getValue", desc := "()[B" } : Jvm.MethodName) ({ cls := "java/lang/AbstractStringBuilder", name := "getValue", desc := "()[B" } : Jvm.MethodName)).before a0 Z = true := hw _ (List.mem_of_getElem? (i := 199) rfl)
theorem w200 (hw : ∀ d ∈ tables_1, d.before a0 Z = true) : (Jvm.Cond.code ({ cls := "java/lang/AbstractStringBuilder", name := "getValue", desc := "()[B" } : Jvm.MethodName) jdk_68_method_64_code (1 : Nat) (Option.some (Jvm.ClassFile.FieldType.array Jvm.ClassFile.FieldType.byte))).before a0 Z = true := hw _ (List.mem_of_getElem? (i := 200) rfl)
theorem w201 (hw : ∀ d ∈ tables_1, d.before a0 Z = true) : (Jvm.Cond.methodLink "java/lang/String" (549 : Nat) ({ cls := "java/lang/AbstractStringBuilder", name := "length", desc := "()I" } : Jvm.MethodName)).before a0 Z = true := hw _ (List.mem_of_getElem? (i := 201) rfl)
theorem w202 (hw : ∀ d ∈ tables_1, d.before a0 Z = true) : (Jvm.Cond.declares ({ cls := "java/lang/AbstractStringBuilder", name := "length", desc := "()I" } : Jvm.MethodName)).before a0 Z = true := hw _ (List.mem_of_getElem? (i := 202) rfl)
theorem w203 (hw : ∀ d ∈ tables_1, d.before a0 Z = true) : (Jvm.Cond.instanceMethod ({ cls := "java/lang/AbstractStringBuilder", name := "length", desc := "()I" } : Jvm.MethodName)).before a0 Z = true := hw _ (List.mem_of_getElem? (i := 203) rfl)
theorem w204 (hw : ∀ d ∈ tables_1, d.before a0 Z = true) : (Jvm.Cond.selects "java/lang/StringBuilder" ({ cls := "java/lang/AbstractStringBuilder", name := "length", desc := "()I" } : Jvm.MethodName) ({ cls := "java/lang/StringBuilder", name := "length", desc := "()I" } : Jvm.MethodName)).before a0 Z = true := hw _ (List.mem_of_getElem? (i := 204) rfl)
theorem w205 (hw : ∀ d ∈ tables_1, d.before a0 Z = true) : (Jvm.Cond.instanceMethod ({ cls := "java/lang/StringBuilder", name := "length", desc := "()I" } : Jvm.MethodName)).before a0 Z = true := hw _ (List.mem_of_getElem? (i := 205) rfl)
theorem w206 (hw : ∀ d ∈ tables_1, d.before a0 Z = true) : (Jvm.Cond.code ({ cls := "java/lang/StringBuilder", name := "length", desc := "()I" } : Jvm.MethodName) jdk_67_method_93_code (1 : Nat) (Option.some Jvm.ClassFile.FieldType.int)).before a0 Z = true := hw _ (List.mem_of_getElem? (i := 206) rfl)
theorem w207 (hw : ∀ d ∈ tables_1, d.before a0 Z = true) : (Jvm.Cond.methodLink "java/lang/StringBuilder" (343 : Nat) ({ cls := "java/lang/AbstractStringBuilder", name := "length", desc := "()I" } : Jvm.MethodName)).before a0 Z = true := hw _ (List.mem_of_getElem? (i := 207) rfl)
theorem w208 (hw : ∀ d ∈ tables_1, d.before a0 Z = true) : (Jvm.Cond.code ({ cls := "java/lang/AbstractStringBuilder", name := "length", desc := "()I" } : Jvm.MethodName) jdk_68_method_6_code (1 : Nat) (Option.some Jvm.ClassFile.FieldType.int)).before a0 Z = true := hw _ (List.mem_of_getElem? (i := 208) rfl)
theorem w209 (hw : ∀ d ∈ tables_1, d.before a0 Z = true) : (Jvm.Cond.methodLink "java/lang/String" (1047 : Nat) ({ cls := "java/lang/AbstractStringBuilder", name := "isLatin1", desc := "()Z" } : Jvm.MethodName)).before a0 Z = true := hw _ (List.mem_of_getElem? (i := 209) rfl)
theorem w210 (hw : ∀ d ∈ tables_1, d.before a0 Z = true) : (Jvm.Cond.declares ({ cls := "java/lang/AbstractStringBuilder", name := "isLatin1", desc := "()Z" } : Jvm.MethodName)).before a0 Z = true := hw _ (List.mem_of_getElem? (i := 210) rfl)
theorem w211 (hw : ∀ d ∈ tables_1, d.before a0 Z = true) : (Jvm.Cond.instanceMethod ({ cls := "java/lang/AbstractStringBuilder", name := "isLatin1", desc := "()Z" } : Jvm.MethodName)).before a0 Z = true := hw _ (List.mem_of_getElem? (i := 211) rfl)
theorem w212 (hw : ∀ d ∈ tables_1, d.before a0 Z = true) : (Jvm.Cond.selects "java/lang/StringBuilder" ({ cls := "java/lang/AbstractStringBuilder", name := "isLatin1", desc := "()Z" } : Jvm.MethodName) ({ cls := "java/lang/AbstractStringBuilder", name := "isLatin1", desc := "()Z" } : Jvm.MethodName)).before a0 Z = true := hw _ (List.mem_of_getElem? (i := 212) rfl)
theorem w213 (hw : ∀ d ∈ tables_1, d.before a0 Z = true) : (Jvm.Cond.code ({ cls := "java/lang/AbstractStringBuilder", name := "isLatin1", desc := "()Z" } : Jvm.MethodName) jdk_68_method_68_code (1 : Nat) (Option.some Jvm.ClassFile.FieldType.boolean)).before a0 Z = true := hw _ (List.mem_of_getElem? (i := 213) rfl)
theorem w214 (hw : ∀ d ∈ tables_1, d.before a0 Z = true) : (Jvm.Cond.methodLink "java/lang/String" (54 : Nat) ({ cls := "java/util/Arrays", name := "copyOfRange", desc := "([BII)[B" } : Jvm.MethodName)).before a0 Z = true := hw _ (List.mem_of_getElem? (i := 214) rfl)
theorem w215 (hw : ∀ d ∈ tables_1, d.before a0 Z = true) : (Jvm.Cond.static ({ cls := "java/util/Arrays", name := "copyOfRange", desc := "([BII)[B" } : Jvm.MethodName)).before a0 Z = true := hw _ (List.mem_of_getElem? (i := 215) rfl)
theorem w216 (hw : ∀ d ∈ tables_1, d.before a0 Z = true) : (Jvm.Cond.initialized "java/util/Arrays").before a0 Z = true := hw _ (List.mem_of_getElem? (i := 216) rfl)
theorem w217 (hw : ∀ d ∈ tables_1, d.before a0 Z = true) : (Jvm.Cond.code ({ cls := "java/util/Arrays", name := "copyOfRange", desc := "([BII)[B" } : Jvm.MethodName) jdk_65_method_132_code (3 : Nat) (Option.some (Jvm.ClassFile.FieldType.array Jvm.ClassFile.FieldType.byte))).before a0 Z = true := hw _ (List.mem_of_getElem? (i := 217) rfl)
theorem w218 (hw : ∀ d ∈ tables_1, d.before a0 Z = true) : (Jvm.Cond.methodLink "java/util/Arrays" (339 : Nat) ({ cls := "java/util/Arrays", name := "copyOfRangeByte", desc := "([BII)[B" } : Jvm.MethodName)).before a0 Z = true := hw _ (List.mem_of_getElem? (i := 218) rfl)
theorem w219 (hw : ∀ d ∈ tables_1, d.before a0 Z = true) : (Jvm.Cond.static ({ cls := "java/util/Arrays", name := "copyOfRangeByte", desc := "([BII)[B" } : Jvm.MethodName)).before a0 Z = true := hw _ (List.mem_of_getElem? (i := 219) rfl)
theorem w220 (hw : ∀ d ∈ tables_1, d.before a0 Z = true) : (Jvm.Cond.code ({ cls := "java/util/Arrays", name := "copyOfRangeByte", desc := "([BII)[B" } : Jvm.MethodName) jdk_65_method_133_code (5 : Nat) (Option.some (Jvm.ClassFile.FieldType.array Jvm.ClassFile.FieldType.byte))).before a0 Z = true := hw _ (List.mem_of_getElem? (i := 220) rfl)
theorem w221 (hw : ∀ d ∈ tables_1, d.before a0 Z = true) : (Jvm.Cond.methodLink "java/util/Arrays" (343 : Nat) ({ cls := "java/util/Arrays", name := "checkLength", desc := "(II)V" } : Jvm.MethodName)).before a0 Z = true := hw _ (List.mem_of_getElem? (i := 221) rfl)
theorem w222 (hw : ∀ d ∈ tables_1, d.before a0 Z = true) : (Jvm.Cond.static ({ cls := "java/util/Arrays", name := "checkLength", desc := "(II)V" } : Jvm.MethodName)).before a0 Z = true := hw _ (List.mem_of_getElem? (i := 222) rfl)
theorem w223 (hw : ∀ d ∈ tables_1, d.before a0 Z = true) : (Jvm.Cond.code ({ cls := "java/util/Arrays", name := "checkLength", desc := "(II)V" } : Jvm.MethodName) jdk_65_method_131_code (2 : Nat) (Option.none : Option Jvm.ClassFile.FieldType)).before a0 Z = true := hw _ (List.mem_of_getElem? (i := 223) rfl)
theorem w224 (hw : ∀ d ∈ tables_1, d.before a0 Z = true) : (Jvm.Cond.methodLink "java/util/Arrays" (304 : Nat) ({ cls := "java/lang/Math", name := "min", desc := "(II)I" } : Jvm.MethodName)).before a0 Z = true := hw _ (List.mem_of_getElem? (i := 224) rfl)
theorem w225 (hw : ∀ d ∈ tables_1, d.before a0 Z = true) : (Jvm.Cond.methodLink "java/util/Arrays" (150 : Nat) ({ cls := "java/lang/System", name := "arraycopy", desc := "(Ljava/lang/Object;ILjava/lang/Object;II)V" } : Jvm.MethodName)).before a0 Z = true := hw _ (List.mem_of_getElem? (i := 225) rfl)
theorem w226 (hw : ∀ d ∈ tables_1, d.before a0 Z = true) : (Jvm.Cond.methodLink "com/example/portunus/portunus/LockKeysQueueKeyPinLaw" (26 : Nat) ({ cls := "java/lang/String", name := "length", desc := "()I" } : Jvm.MethodName)).before a0 Z = true := hw _ (List.mem_of_getElem? (i := 226) rfl)
theorem w227 (hw : ∀ d ∈ tables_1, d.before a0 Z = true) : (Jvm.Cond.methodLink "com/example/portunus/portunus/LockKeysQueueKeyPinLaw" (32 : Nat) ({ cls := "com/example/portunus/portunus/LockKeysQueueKeyPinLaw", name := "at", desc := "(Ljava/lang/String;II[CI[CI)Z" } : Jvm.MethodName)).before a0 Z = true := hw _ (List.mem_of_getElem? (i := 227) rfl)
theorem w228 (hw : ∀ d ∈ tables_1, d.before a0 Z = true) : (Jvm.Cond.static ({ cls := "com/example/portunus/portunus/LockKeysQueueKeyPinLaw", name := "at", desc := "(Ljava/lang/String;II[CI[CI)Z" } : Jvm.MethodName)).before a0 Z = true := hw _ (List.mem_of_getElem? (i := 228) rfl)
theorem w229 (hw : ∀ d ∈ tables_1, d.before a0 Z = true) : (Jvm.Cond.code ({ cls := "com/example/portunus/portunus/LockKeysQueueKeyPinLaw", name := "at", desc := "(Ljava/lang/String;II[CI[CI)Z" } : Jvm.MethodName) method_6_code (7 : Nat) (Option.some Jvm.ClassFile.FieldType.boolean)).before a0 Z = true := hw _ (List.mem_of_getElem? (i := 229) rfl)
theorem w230 (hw : ∀ d ∈ tables_1, d.before a0 Z = true) : (Jvm.Cond.methodLink "com/example/portunus/portunus/LockKeysQueueKeyPinLaw" (41 : Nat) ({ cls := "java/lang/String", name := "charAt", desc := "(I)C" } : Jvm.MethodName)).before a0 Z = true := hw _ (List.mem_of_getElem? (i := 230) rfl)
theorem w231 (hw : ∀ d ∈ tables_1, d.before a0 Z = true) : (Jvm.Cond.methodLink "com/example/portunus/portunus/LockKeysQueueKeyPinLaw" (45 : Nat) ({ cls := "com/example/portunus/portunus/LockKeysQueueKeyPinLaw", name := "exp", desc := "(I[CI[CI)C" } : Jvm.MethodName)).before a0 Z = true := hw _ (List.mem_of_getElem? (i := 231) rfl)
theorem w232 (hw : ∀ d ∈ tables_1, d.before a0 Z = true) : (Jvm.Cond.static ({ cls := "com/example/portunus/portunus/LockKeysQueueKeyPinLaw", name := "exp", desc := "(I[CI[CI)C" } : Jvm.MethodName)).before a0 Z = true := hw _ (List.mem_of_getElem? (i := 232) rfl)
theorem w233 (hw : ∀ d ∈ tables_1, d.before a0 Z = true) : (Jvm.Cond.code ({ cls := "com/example/portunus/portunus/LockKeysQueueKeyPinLaw", name := "exp", desc := "(I[CI[CI)C" } : Jvm.MethodName) method_5_code (7 : Nat) (Option.some Jvm.ClassFile.FieldType.char)).before a0 Z = true := hw _ (List.mem_of_getElem? (i := 233) rfl)
theorem w234 (hw : ∀ d ∈ tables_1, d.before a0 Z = true) : (Jvm.Cond.stringLink "com/example/portunus/portunus/LockKeysQueueKeyPinLaw" (39 : Nat) "queue:").before a0 Z = true := hw _ (List.mem_of_getElem? (i := 234) rfl)
theorem w235 (hw : ∀ d ∈ tables_1, d.before a0 Z = true) : (Jvm.Cond.stringLink "java/lang/String" (7 : Nat) "").before a0 Z = true := hw _ (List.mem_of_getElem? (i := 235) rfl)
end Words
theorem d1_0 : decode method_3_code 0 = .ok (.iload_n 0, 1) := by decide +kernel
theorem d1_1 : decode method_3_code 1 = .ok (.iload_n 1, 1) := by decide +kernel
theorem d1_2 : decode method_3_code 2 = .ok (.iushr, 1) := by decide +kernel
theorem d1_3 : decode method_3_code 3 = .ok (.sipush 255, 3) := by decide +kernel
theorem d1_6 : decode method_3_code 6 = .ok (.iand, 1) := by decide +kernel
theorem d1_7 : decode method_3_code 7 = .ok (.i2c, 1) := by decide +kernel
theorem d1_8 : decode method_3_code 8 = .ok (.istore_n 2, 1) := by decide +kernel
theorem d1_9 : decode method_3_code 9 = .ok (.iload_n 2, 1) := by decide +kernel
theorem d1_10 : decode method_3_code 10 = .ok (.bipush 123, 2) := by decide +kernel
theorem d1_12 : decode method_3_code 12 = .ok (.if_icmp .eq 9, 3) := by decide +kernel
theorem d1_15 : decode method_3_code 15 = .ok (.iload_n 2, 1) := by decide +kernel
theorem d1_16 : decode method_3_code 16 = .ok (.bipush 125, 2) := by decide +kernel
theorem d1_18 : decode method_3_code 18 = .ok (.if_icmp .ne 6, 3) := by decide +kernel
theorem d1_21 : decode method_3_code 21 = .ok (.bipush 95, 2) := by decide +kernel
theorem d1_23 : decode method_3_code 23 = .ok (.istore_n 2, 1) := by decide +kernel
theorem d1_24 : decode method_3_code 24 = .ok (.iload_n 2, 1) := by decide +kernel
theorem d1_25 : decode method_3_code 25 = .ok (.ireturn, 1) := by decide +kernel
theorem d2_0 : decode method_4_code 0 = .ok (.iload_n 1, 1) := by decide +kernel
theorem d2_1 : decode method_4_code 1 = .ok (.ifCond .ne 14, 3) := by decide +kernel
theorem d2_4 : decode method_4_code 4 = .ok (.new 27, 3) := by decide +kernel
theorem d2_7 : decode method_4_code 7 = .ok (.dup, 1) := by decide +kernel
theorem d2_8 : decode method_4_code 8 = .ok (.iconst 0, 1) := by decide +kernel
theorem d2_9 : decode method_4_code 9 = .ok (.newarray .char, 2) := by decide +kernel
theorem d2_11 : decode method_4_code 11 = .ok (.invokespecial 36, 3) := by decide +kernel
theorem d2_14 : decode method_4_code 14 = .ok (.areturn, 1) := by decide +kernel
theorem d2_15 : decode method_4_code 15 = .ok (.iload_n 1, 1) := by decide +kernel
theorem d2_16 : decode method_4_code 16 = .ok (.iconst 1, 1) := by decide +kernel
theorem d2_17 : decode method_4_code 17 = .ok (.if_icmp .ne 20, 3) := by decide +kernel
theorem d2_20 : decode method_4_code 20 = .ok (.new 27, 3) := by decide +kernel
theorem d2_23 : decode method_4_code 23 = .ok (.dup, 1) := by decide +kernel
theorem d2_24 : decode method_4_code 24 = .ok (.iconst 1, 1) := by decide +kernel
theorem d2_25 : decode method_4_code 25 = .ok (.newarray .char, 2) := by decide +kernel
theorem d2_27 : decode method_4_code 27 = .ok (.dup, 1) := by decide +kernel
theorem d2_28 : decode method_4_code 28 = .ok (.iconst 0, 1) := by decide +kernel
theorem d2_29 : decode method_4_code 29 = .ok (.aload_n 0, 1) := by decide +kernel
theorem d2_30 : decode method_4_code 30 = .ok (.iconst 0, 1) := by decide +kernel
theorem d2_31 : decode method_4_code 31 = .ok (.caload, 1) := by decide +kernel
theorem d2_32 : decode method_4_code 32 = .ok (.castore, 1) := by decide +kernel
theorem d2_33 : decode method_4_code 33 = .ok (.invokespecial 36, 3) := by decide +kernel
theorem d2_36 : decode method_4_code 36 = .ok (.areturn, 1) := by decide +kernel
theorem d2_37 : decode method_4_code 37 = .ok (.iload_n 1, 1) := by decide +kernel
theorem d2_38 : decode method_4_code 38 = .ok (.iconst 2, 1) := by decide +kernel
theorem d2_39 : decode method_4_code 39 = .ok (.if_icmp .ne 26, 3) := by decide +kernel
theorem d2_42 : decode method_4_code 42 = .ok (.new 27, 3) := by decide +kernel
theorem d2_45 : decode method_4_code 45 = .ok (.dup, 1) := by decide +kernel
theorem d2_46 : decode method_4_code 46 = .ok (.iconst 2, 1) := by decide +kernel
theorem d2_47 : decode method_4_code 47 = .ok (.newarray .char, 2) := by decide +kernel
theorem d2_49 : decode method_4_code 49 = .ok (.dup, 1) := by decide +kernel
theorem d2_50 : decode method_4_code 50 = .ok (.iconst 0, 1) := by decide +kernel
theorem d2_51 : decode method_4_code 51 = .ok (.aload_n 0, 1) := by decide +kernel
theorem d2_52 : decode method_4_code 52 = .ok (.iconst 0, 1) := by decide +kernel
theorem d2_53 : decode method_4_code 53 = .ok (.caload, 1) := by decide +kernel
theorem d2_54 : decode method_4_code 54 = .ok (.castore, 1) := by decide +kernel
theorem d2_55 : decode method_4_code 55 = .ok (.dup, 1) := by decide +kernel
theorem d2_56 : decode method_4_code 56 = .ok (.iconst 1, 1) := by decide +kernel
theorem d2_57 : decode method_4_code 57 = .ok (.aload_n 0, 1) := by decide +kernel
theorem d2_58 : decode method_4_code 58 = .ok (.iconst 1, 1) := by decide +kernel
theorem d2_59 : decode method_4_code 59 = .ok (.caload, 1) := by decide +kernel
theorem d2_60 : decode method_4_code 60 = .ok (.castore, 1) := by decide +kernel
theorem d2_61 : decode method_4_code 61 = .ok (.invokespecial 36, 3) := by decide +kernel
theorem d2_64 : decode method_4_code 64 = .ok (.areturn, 1) := by decide +kernel
theorem d2_65 : decode method_4_code 65 = .ok (.iload_n 1, 1) := by decide +kernel
theorem d2_66 : decode method_4_code 66 = .ok (.iconst 3, 1) := by decide +kernel
theorem d2_67 : decode method_4_code 67 = .ok (.if_icmp .ne 32, 3) := by decide +kernel
theorem d2_70 : decode method_4_code 70 = .ok (.new 27, 3) := by decide +kernel
theorem d2_73 : decode method_4_code 73 = .ok (.dup, 1) := by decide +kernel
theorem d2_74 : decode method_4_code 74 = .ok (.iconst 3, 1) := by decide +kernel
theorem d2_75 : decode method_4_code 75 = .ok (.newarray .char, 2) := by decide +kernel
theorem d2_77 : decode method_4_code 77 = .ok (.dup, 1) := by decide +kernel
theorem d2_78 : decode method_4_code 78 = .ok (.iconst 0, 1) := by decide +kernel
theorem d2_79 : decode method_4_code 79 = .ok (.aload_n 0, 1) := by decide +kernel
theorem d2_80 : decode method_4_code 80 = .ok (.iconst 0, 1) := by decide +kernel
theorem d2_81 : decode method_4_code 81 = .ok (.caload, 1) := by decide +kernel
theorem d2_82 : decode method_4_code 82 = .ok (.castore, 1) := by decide +kernel
theorem d2_83 : decode method_4_code 83 = .ok (.dup, 1) := by decide +kernel
theorem d2_84 : decode method_4_code 84 = .ok (.iconst 1, 1) := by decide +kernel
theorem d2_85 : decode method_4_code 85 = .ok (.aload_n 0, 1) := by decide +kernel
theorem d2_86 : decode method_4_code 86 = .ok (.iconst 1, 1) := by decide +kernel
theorem d2_87 : decode method_4_code 87 = .ok (.caload, 1) := by decide +kernel
theorem d2_88 : decode method_4_code 88 = .ok (.castore, 1) := by decide +kernel
theorem d2_89 : decode method_4_code 89 = .ok (.dup, 1) := by decide +kernel
theorem d2_90 : decode method_4_code 90 = .ok (.iconst 2, 1) := by decide +kernel
theorem d2_91 : decode method_4_code 91 = .ok (.aload_n 0, 1) := by decide +kernel
theorem d2_92 : decode method_4_code 92 = .ok (.iconst 2, 1) := by decide +kernel
theorem d2_93 : decode method_4_code 93 = .ok (.caload, 1) := by decide +kernel
theorem d2_94 : decode method_4_code 94 = .ok (.castore, 1) := by decide +kernel
theorem d2_95 : decode method_4_code 95 = .ok (.invokespecial 36, 3) := by decide +kernel
theorem d2_98 : decode method_4_code 98 = .ok (.areturn, 1) := by decide +kernel
theorem d2_99 : decode method_4_code 99 = .ok (.new 27, 3) := by decide +kernel
theorem d2_102 : decode method_4_code 102 = .ok (.dup, 1) := by decide +kernel
theorem d2_103 : decode method_4_code 103 = .ok (.iconst 4, 1) := by decide +kernel
theorem d2_104 : decode method_4_code 104 = .ok (.newarray .char, 2) := by decide +kernel
theorem d2_106 : decode method_4_code 106 = .ok (.dup, 1) := by decide +kernel
theorem d2_107 : decode method_4_code 107 = .ok (.iconst 0, 1) := by decide +kernel
theorem d2_108 : decode method_4_code 108 = .ok (.aload_n 0, 1) := by decide +kernel
theorem d2_109 : decode method_4_code 109 = .ok (.iconst 0, 1) := by decide +kernel
theorem d2_110 : decode method_4_code 110 = .ok (.caload, 1) := by decide +kernel
theorem d2_111 : decode method_4_code 111 = .ok (.castore, 1) := by decide +kernel
theorem d2_112 : decode method_4_code 112 = .ok (.dup, 1) := by decide +kernel
theorem d2_113 : decode method_4_code 113 = .ok (.iconst 1, 1) := by decide +kernel
theorem d2_114 : decode method_4_code 114 = .ok (.aload_n 0, 1) := by decide +kernel
theorem d2_115 : decode method_4_code 115 = .ok (.iconst 1, 1) := by decide +kernel
theorem d2_116 : decode method_4_code 116 = .ok (.caload, 1) := by decide +kernel
theorem d2_117 : decode method_4_code 117 = .ok (.castore, 1) := by decide +kernel
theorem d2_118 : decode method_4_code 118 = .ok (.dup, 1) := by decide +kernel
theorem d2_119 : decode method_4_code 119 = .ok (.iconst 2, 1) := by decide +kernel
theorem d2_120 : decode method_4_code 120 = .ok (.aload_n 0, 1) := by decide +kernel
theorem d2_121 : decode method_4_code 121 = .ok (.iconst 2, 1) := by decide +kernel
theorem d2_122 : decode method_4_code 122 = .ok (.caload, 1) := by decide +kernel
theorem d2_123 : decode method_4_code 123 = .ok (.castore, 1) := by decide +kernel
theorem d2_124 : decode method_4_code 124 = .ok (.dup, 1) := by decide +kernel
theorem d2_125 : decode method_4_code 125 = .ok (.iconst 3, 1) := by decide +kernel
theorem d2_126 : decode method_4_code 126 = .ok (.aload_n 0, 1) := by decide +kernel
theorem d2_127 : decode method_4_code 127 = .ok (.iconst 3, 1) := by decide +kernel
theorem d2_128 : decode method_4_code 128 = .ok (.caload, 1) := by decide +kernel
theorem d2_129 : decode method_4_code 129 = .ok (.castore, 1) := by decide +kernel
theorem d2_130 : decode method_4_code 130 = .ok (.invokespecial 36, 3) := by decide +kernel
theorem d2_133 : decode method_4_code 133 = .ok (.areturn, 1) := by decide +kernel
theorem d3_0 : decode jdk_42_method_3_code 0 = .ok (.aload_n 0, 1) := by decide +kernel
theorem d3_1 : decode jdk_42_method_3_code 1 = .ok (.aload_n 1, 1) := by decide +kernel
theorem d3_2 : decode jdk_42_method_3_code 2 = .ok (.iconst 0, 1) := by decide +kernel
theorem d3_3 : decode jdk_42_method_3_code 3 = .ok (.aload_n 1, 1) := by decide +kernel
theorem d3_4 : decode jdk_42_method_3_code 4 = .ok (.arraylength, 1) := by decide +kernel
theorem d3_5 : decode jdk_42_method_3_code 5 = .ok (.aconst_null, 1) := by decide +kernel
theorem d3_6 : decode jdk_42_method_3_code 6 = .ok (.invokespecial 27, 3) := by decide +kernel
theorem d3_9 : decode jdk_42_method_3_code 9 = .ok (.return_, 1) := by decide +kernel
theorem d4_0 : decode jdk_42_method_149_code 0 = .ok (.aload_n 0, 1) := by decide +kernel
theorem d4_1 : decode jdk_42_method_149_code 1 = .ok (.invokespecial 1, 3) := by decide +kernel
theorem d4_4 : decode jdk_42_method_149_code 4 = .ok (.iload_n 3, 1) := by decide +kernel
theorem d4_5 : decode jdk_42_method_149_code 5 = .ok (.ifCond .ne 22, 3) := by decide +kernel
theorem d4_8 : decode jdk_42_method_149_code 8 = .ok (.aload_n 0, 1) := by decide +kernel
theorem d4_9 : decode jdk_42_method_149_code 9 = .ok (.ldc 7, 2) := by decide +kernel
theorem d4_11 : decode jdk_42_method_149_code 11 = .ok (.getfield 9, 3) := by decide +kernel
theorem d4_14 : decode jdk_42_method_149_code 14 = .ok (.putfield 9, 3) := by decide +kernel
theorem d4_17 : decode jdk_42_method_149_code 17 = .ok (.aload_n 0, 1) := by decide +kernel
theorem d4_18 : decode jdk_42_method_149_code 18 = .ok (.ldc 7, 2) := by decide +kernel
theorem d4_20 : decode jdk_42_method_149_code 20 = .ok (.getfield 15, 3) := by decide +kernel
theorem d4_23 : decode jdk_42_method_149_code 23 = .ok (.putfield 15, 3) := by decide +kernel
theorem d4_26 : decode jdk_42_method_149_code 26 = .ok (.return_, 1) := by decide +kernel
theorem d4_27 : decode jdk_42_method_149_code 27 = .ok (.getstatic 38, 3) := by decide +kernel
theorem d4_30 : decode jdk_42_method_149_code 30 = .ok (.ifCond .eq 28, 3) := by decide +kernel
theorem d4_33 : decode jdk_42_method_149_code 33 = .ok (.aload_n 1, 1) := by decide +kernel
theorem d4_34 : decode jdk_42_method_149_code 34 = .ok (.iload_n 2, 1) := by decide +kernel
theorem d4_35 : decode jdk_42_method_149_code 35 = .ok (.iload_n 3, 1) := by decide +kernel
theorem d4_36 : decode jdk_42_method_149_code 36 = .ok (.invokestatic 177, 3) := by decide +kernel
theorem d4_39 : decode jdk_42_method_149_code 39 = .ok (.astore 5, 2) := by decide +kernel
theorem d4_41 : decode jdk_42_method_149_code 41 = .ok (.aload_n 0, 1) := by decide +kernel
theorem d4_42 : decode jdk_42_method_149_code 42 = .ok (.aload 5, 2) := by decide +kernel
theorem d4_44 : decode jdk_42_method_149_code 44 = .ok (.iload_n 3, 1) := by decide +kernel
theorem d4_45 : decode jdk_42_method_149_code 45 = .ok (.invokestatic 47, 3) := by decide +kernel
theorem d4_48 : decode jdk_42_method_149_code 48 = .ok (.putfield 15, 3) := by decide +kernel
theorem d4_51 : decode jdk_42_method_149_code 51 = .ok (.aload_n 0, 1) := by decide +kernel
theorem d4_52 : decode jdk_42_method_149_code 52 = .ok (.aload 5, 2) := by decide +kernel
theorem d4_54 : decode jdk_42_method_149_code 54 = .ok (.putfield 9, 3) := by decide +kernel
theorem d4_57 : decode jdk_42_method_149_code 57 = .ok (.return_, 1) := by decide +kernel
theorem d6_0 : decode jdk_52_method_16_code 0 = .ok (.iload_n 2, 1) := by decide +kernel
theorem d6_1 : decode jdk_52_method_16_code 1 = .ok (.newarray .byte, 2) := by decide +kernel
theorem d6_3 : decode jdk_52_method_16_code 3 = .ok (.astore_n 3, 1) := by decide +kernel
theorem d6_4 : decode jdk_52_method_16_code 4 = .ok (.aload_n 0, 1) := by decide +kernel
theorem d6_5 : decode jdk_52_method_16_code 5 = .ok (.iload_n 1, 1) := by decide +kernel
theorem d6_6 : decode jdk_52_method_16_code 6 = .ok (.aload_n 3, 1) := by decide +kernel
theorem d6_7 : decode jdk_52_method_16_code 7 = .ok (.iconst 0, 1) := by decide +kernel
theorem d6_8 : decode jdk_52_method_16_code 8 = .ok (.iload_n 2, 1) := by decide +kernel
theorem d6_9 : decode jdk_52_method_16_code 9 = .ok (.invokestatic 115, 3) := by decide +kernel
theorem d6_12 : decode jdk_52_method_16_code 12 = .ok (.istore 4, 2) := by decide +kernel
theorem d6_14 : decode jdk_52_method_16_code 14 = .ok (.iload 4, 2) := by decide +kernel
theorem d6_16 : decode jdk_52_method_16_code 16 = .ok (.iload_n 2, 1) := by decide +kernel
theorem d6_17 : decode jdk_52_method_16_code 17 = .ok (.if_icmp .eq 40, 3) := by decide +kernel
theorem d6_57 : decode jdk_52_method_16_code 57 = .ok (.aload_n 3, 1) := by decide +kernel
theorem d6_58 : decode jdk_52_method_16_code 58 = .ok (.areturn, 1) := by decide +kernel
theorem d7_0 : decode jdk_52_method_21_code 0 = .ok (.iconst 0, 1) := by decide +kernel
theorem d7_1 : decode jdk_52_method_21_code 1 = .ok (.istore 5, 2) := by decide +kernel
theorem d7_3 : decode jdk_52_method_21_code 3 = .ok (.iload 5, 2) := by decide +kernel
theorem d7_5 : decode jdk_52_method_21_code 5 = .ok (.iload 4, 2) := by decide +kernel
theorem d7_7 : decode jdk_52_method_21_code 7 = .ok (.if_icmp .ge 37, 3) := by decide +kernel
theorem d7_10 : decode jdk_52_method_21_code 10 = .ok (.aload_n 0, 1) := by decide +kernel
theorem d7_11 : decode jdk_52_method_21_code 11 = .ok (.iload_n 1, 1) := by decide +kernel
theorem d7_12 : decode jdk_52_method_21_code 12 = .ok (.caload, 1) := by decide +kernel
theorem d7_13 : decode jdk_52_method_21_code 13 = .ok (.istore 6, 2) := by decide +kernel
theorem d7_15 : decode jdk_52_method_21_code 15 = .ok (.iload 6, 2) := by decide +kernel
theorem d7_17 : decode jdk_52_method_21_code 17 = .ok (.sipush 255, 3) := by decide +kernel
theorem d7_20 : decode jdk_52_method_21_code 20 = .ok (.if_icmp .le 6, 3) := by decide +kernel
theorem d7_26 : decode jdk_52_method_21_code 26 = .ok (.aload_n 2, 1) := by decide +kernel
theorem d7_27 : decode jdk_52_method_21_code 27 = .ok (.iload_n 3, 1) := by decide +kernel
theorem d7_28 : decode jdk_52_method_21_code 28 = .ok (.iload 6, 2) := by decide +kernel
theorem d7_30 : decode jdk_52_method_21_code 30 = .ok (.i2b, 1) := by decide +kernel
theorem d7_31 : decode jdk_52_method_21_code 31 = .ok (.bastore, 1) := by decide +kernel
theorem d7_32 : decode jdk_52_method_21_code 32 = .ok (.iinc 1 1, 3) := by decide +kernel
theorem d7_35 : decode jdk_52_method_21_code 35 = .ok (.iinc 3 1, 3) := by decide +kernel
theorem d7_38 : decode jdk_52_method_21_code 38 = .ok (.iinc 5 1, 3) := by decide +kernel
theorem d7_41 : decode jdk_52_method_21_code 41 = .ok (.goto (-38), 3) := by decide +kernel
theorem d7_44 : decode jdk_52_method_21_code 44 = .ok (.iload 4, 2) := by decide +kernel
theorem d7_46 : decode jdk_52_method_21_code 46 = .ok (.ireturn, 1) := by decide +kernel
theorem d8_0 : decode jdk_52_method_15_code 0 = .ok (.iload_n 1, 1) := by decide +kernel
theorem d8_1 : decode jdk_52_method_15_code 1 = .ok (.aload_n 0, 1) := by decide +kernel
theorem d8_2 : decode jdk_52_method_15_code 2 = .ok (.arraylength, 1) := by decide +kernel
theorem d8_3 : decode jdk_52_method_15_code 3 = .ok (.isub, 1) := by decide +kernel
theorem d8_4 : decode jdk_52_method_15_code 4 = .ok (.bipush 31, 2) := by decide +kernel
theorem d8_6 : decode jdk_52_method_15_code 6 = .ok (.iushr, 1) := by decide +kernel
theorem d8_7 : decode jdk_52_method_15_code 7 = .ok (.i2b, 1) := by decide +kernel
theorem d8_8 : decode jdk_52_method_15_code 8 = .ok (.ireturn, 1) := by decide +kernel
theorem d9_0 : decode prog_6_method_1_code 0 = .ok (.aload_n 0, 1) := by decide +kernel
theorem d9_1 : decode prog_6_method_1_code 1 = .ok (.invokespecial 1, 3) := by decide +kernel
theorem d9_4 : decode prog_6_method_1_code 4 = .ok (.aload_n 1, 1) := by decide +kernel
theorem d9_5 : decode prog_6_method_1_code 5 = .ok (.ldc 7, 2) := by decide +kernel
theorem d9_7 : decode prog_6_method_1_code 7 = .ok (.invokestatic 9, 3) := by decide +kernel
theorem d9_10 : decode prog_6_method_1_code 10 = .ok (.pop, 1) := by decide +kernel
theorem d9_11 : decode prog_6_method_1_code 11 = .ok (.aload_n 1, 1) := by decide +kernel
theorem d9_12 : decode prog_6_method_1_code 12 = .ok (.bipush 123, 2) := by decide +kernel
theorem d9_14 : decode prog_6_method_1_code 14 = .ok (.invokevirtual 15, 3) := by decide +kernel
theorem d9_17 : decode prog_6_method_1_code 17 = .ok (.ifCond .ge 12, 3) := by decide +kernel
theorem d9_20 : decode prog_6_method_1_code 20 = .ok (.aload_n 1, 1) := by decide +kernel
theorem d9_21 : decode prog_6_method_1_code 21 = .ok (.bipush 125, 2) := by decide +kernel
theorem d9_23 : decode prog_6_method_1_code 23 = .ok (.invokevirtual 15, 3) := by decide +kernel
theorem d9_26 : decode prog_6_method_1_code 26 = .ok (.ifCond .lt 30, 3) := by decide +kernel
theorem d9_56 : decode prog_6_method_1_code 56 = .ok (.aload_n 0, 1) := by decide +kernel
theorem d9_57 : decode prog_6_method_1_code 57 = .ok (.aload_n 1, 1) := by decide +kernel
theorem d9_58 : decode prog_6_method_1_code 58 = .ok (.putfield 39, 3) := by decide +kernel
theorem d9_61 : decode prog_6_method_1_code 61 = .ok (.return_, 1) := by decide +kernel
theorem d10_0 : decode jdk_31_method_11_code 0 = .ok (.aload_n 0, 1) := by decide +kernel
theorem d10_1 : decode jdk_31_method_11_code 1 = .ok (.ifnonnull 12, 3) := by decide +kernel
theorem d10_13 : decode jdk_31_method_11_code 13 = .ok (.aload_n 0, 1) := by decide +kernel
theorem d10_14 : decode jdk_31_method_11_code 14 = .ok (.areturn, 1) := by decide +kernel
theorem d11_0 : decode jdk_42_method_79_code 0 = .ok (.aload_n 0, 1) := by decide +kernel
theorem d11_1 : decode jdk_42_method_79_code 1 = .ok (.iload_n 1, 1) := by decide +kernel
theorem d11_2 : decode jdk_42_method_79_code 2 = .ok (.iconst 0, 1) := by decide +kernel
theorem d11_3 : decode jdk_42_method_79_code 3 = .ok (.invokevirtual 633, 3) := by decide +kernel
theorem d11_6 : decode jdk_42_method_79_code 6 = .ok (.ireturn, 1) := by decide +kernel
theorem d12_0 : decode jdk_42_method_80_code 0 = .ok (.aload_n 0, 1) := by decide +kernel
theorem d12_1 : decode jdk_42_method_80_code 1 = .ok (.invokevirtual 492, 3) := by decide +kernel
theorem d12_4 : decode jdk_42_method_80_code 4 = .ok (.ifCond .eq 19, 3) := by decide +kernel
theorem d12_7 : decode jdk_42_method_80_code 7 = .ok (.aload_n 0, 1) := by decide +kernel
theorem d12_8 : decode jdk_42_method_80_code 8 = .ok (.getfield 9, 3) := by decide +kernel
theorem d12_11 : decode jdk_42_method_80_code 11 = .ok (.iload_n 1, 1) := by decide +kernel
theorem d12_12 : decode jdk_42_method_80_code 12 = .ok (.iload_n 2, 1) := by decide +kernel
theorem d12_13 : decode jdk_42_method_80_code 13 = .ok (.aload_n 0, 1) := by decide +kernel
theorem d12_14 : decode jdk_42_method_80_code 14 = .ok (.invokevirtual 505, 3) := by decide +kernel
theorem d12_17 : decode jdk_42_method_80_code 17 = .ok (.invokestatic 637, 3) := by decide +kernel
theorem d12_20 : decode jdk_42_method_80_code 20 = .ok (.goto 16, 3) := by decide +kernel
theorem d12_36 : decode jdk_42_method_80_code 36 = .ok (.ireturn, 1) := by decide +kernel
theorem d13_0 : decode jdk_42_method_154_code 0 = .ok (.getstatic 38, 3) := by decide +kernel
theorem d13_3 : decode jdk_42_method_154_code 3 = .ok (.ifCond .eq 14, 3) := by decide +kernel
theorem d13_6 : decode jdk_42_method_154_code 6 = .ok (.aload_n 0, 1) := by decide +kernel
theorem d13_7 : decode jdk_42_method_154_code 7 = .ok (.getfield 15, 3) := by decide +kernel
theorem d13_10 : decode jdk_42_method_154_code 10 = .ok (.ifCond .ne 7, 3) := by decide +kernel
theorem d13_13 : decode jdk_42_method_154_code 13 = .ok (.iconst 1, 1) := by decide +kernel
theorem d13_14 : decode jdk_42_method_154_code 14 = .ok (.goto 4, 3) := by decide +kernel
theorem d13_18 : decode jdk_42_method_154_code 18 = .ok (.ireturn, 1) := by decide +kernel
theorem d14_0 : decode jdk_42_method_54_code 0 = .ok (.aload_n 0, 1) := by decide +kernel
theorem d14_1 : decode jdk_42_method_54_code 1 = .ok (.getfield 9, 3) := by decide +kernel
theorem d14_4 : decode jdk_42_method_54_code 4 = .ok (.arraylength, 1) := by decide +kernel
theorem d14_5 : decode jdk_42_method_54_code 5 = .ok (.aload_n 0, 1) := by decide +kernel
theorem d14_6 : decode jdk_42_method_54_code 6 = .ok (.invokevirtual 335, 3) := by decide +kernel
theorem d14_9 : decode jdk_42_method_54_code 9 = .ok (.ishr, 1) := by decide +kernel
theorem d14_10 : decode jdk_42_method_54_code 10 = .ok (.ireturn, 1) := by decide +kernel
theorem d15_0 : decode jdk_42_method_152_code 0 = .ok (.getstatic 38, 3) := by decide +kernel
theorem d15_3 : decode jdk_42_method_152_code 3 = .ok (.ifCond .eq 10, 3) := by decide +kernel
theorem d15_6 : decode jdk_42_method_152_code 6 = .ok (.aload_n 0, 1) := by decide +kernel
theorem d15_7 : decode jdk_42_method_152_code 7 = .ok (.getfield 15, 3) := by decide +kernel
theorem d15_10 : decode jdk_42_method_152_code 10 = .ok (.goto 4, 3) := by decide +kernel
theorem d15_14 : decode jdk_42_method_152_code 14 = .ok (.ireturn, 1) := by decide +kernel
theorem d16_0 : decode jdk_43_method_22_code 0 = .ok (.iload_n 1, 1) := by decide +kernel
theorem d16_1 : decode jdk_43_method_22_code 1 = .ok (.invokestatic 88, 3) := by decide +kernel
theorem d16_4 : decode jdk_43_method_22_code 4 = .ok (.ifCond .ne 5, 3) := by decide +kernel
theorem d16_9 : decode jdk_43_method_22_code 9 = .ok (.iload_n 2, 1) := by decide +kernel
theorem d16_10 : decode jdk_43_method_22_code 10 = .ok (.iconst 0, 1) := by decide +kernel
theorem d16_11 : decode jdk_43_method_22_code 11 = .ok (.invokestatic 92, 3) := by decide +kernel
theorem d16_14 : decode jdk_43_method_22_code 14 = .ok (.istore_n 2, 1) := by decide +kernel
theorem d16_15 : decode jdk_43_method_22_code 15 = .ok (.iload_n 3, 1) := by decide +kernel
theorem d16_16 : decode jdk_43_method_22_code 16 = .ok (.aload_n 0, 1) := by decide +kernel
theorem d16_17 : decode jdk_43_method_22_code 17 = .ok (.arraylength, 1) := by decide +kernel
theorem d16_18 : decode jdk_43_method_22_code 18 = .ok (.invokestatic 38, 3) := by decide +kernel
theorem d16_21 : decode jdk_43_method_22_code 21 = .ok (.istore_n 3, 1) := by decide +kernel
theorem d16_22 : decode jdk_43_method_22_code 22 = .ok (.iload_n 2, 1) := by decide +kernel
theorem d16_23 : decode jdk_43_method_22_code 23 = .ok (.iload_n 3, 1) := by decide +kernel
theorem d16_24 : decode jdk_43_method_22_code 24 = .ok (.if_icmp .lt 5, 3) := by decide +kernel
theorem d16_27 : decode jdk_43_method_22_code 27 = .ok (.iconst (-1), 1) := by decide +kernel
theorem d16_28 : decode jdk_43_method_22_code 28 = .ok (.ireturn, 1) := by decide +kernel
theorem d16_29 : decode jdk_43_method_22_code 29 = .ok (.aload_n 0, 1) := by decide +kernel
theorem d16_30 : decode jdk_43_method_22_code 30 = .ok (.iload_n 1, 1) := by decide +kernel
theorem d16_31 : decode jdk_43_method_22_code 31 = .ok (.iload_n 2, 1) := by decide +kernel
theorem d16_32 : decode jdk_43_method_22_code 32 = .ok (.iload_n 3, 1) := by decide +kernel
theorem d16_33 : decode jdk_43_method_22_code 33 = .ok (.invokestatic 95, 3) := by decide +kernel
theorem d16_36 : decode jdk_43_method_22_code 36 = .ok (.ireturn, 1) := by decide +kernel
theorem d17_0 : decode jdk_43_method_4_code 0 = .ok (.iload_n 0, 1) := by decide +kernel
theorem d17_1 : decode jdk_43_method_4_code 1 = .ok (.ifCond .lt 14, 3) := by decide +kernel
theorem d17_4 : decode jdk_43_method_4_code 4 = .ok (.iload_n 0, 1) := by decide +kernel
theorem d17_5 : decode jdk_43_method_4_code 5 = .ok (.sipush 255, 3) := by decide +kernel
theorem d17_8 : decode jdk_43_method_4_code 8 = .ok (.if_icmp .gt 7, 3) := by decide +kernel
theorem d17_11 : decode jdk_43_method_4_code 11 = .ok (.iconst 1, 1) := by decide +kernel
theorem d17_12 : decode jdk_43_method_4_code 12 = .ok (.goto 4, 3) := by decide +kernel
theorem d17_16 : decode jdk_43_method_4_code 16 = .ok (.ireturn, 1) := by decide +kernel
theorem d18_0 : decode jdk_29_method_65_code 0 = .ok (.iload_n 0, 1) := by decide +kernel
theorem d18_1 : decode jdk_29_method_65_code 1 = .ok (.iload_n 1, 1) := by decide +kernel
theorem d18_2 : decode jdk_29_method_65_code 2 = .ok (.if_icmp .lt 7, 3) := by decide +kernel
theorem d18_5 : decode jdk_29_method_65_code 5 = .ok (.iload_n 0, 1) := by decide +kernel
theorem d18_6 : decode jdk_29_method_65_code 6 = .ok (.goto 4, 3) := by decide +kernel
theorem d18_10 : decode jdk_29_method_65_code 10 = .ok (.ireturn, 1) := by decide +kernel
theorem d19_0 : decode jdk_29_method_69_code 0 = .ok (.iload_n 0, 1) := by decide +kernel
theorem d19_1 : decode jdk_29_method_69_code 1 = .ok (.iload_n 1, 1) := by decide +kernel
theorem d19_2 : decode jdk_29_method_69_code 2 = .ok (.if_icmp .gt 7, 3) := by decide +kernel
theorem d19_5 : decode jdk_29_method_69_code 5 = .ok (.iload_n 0, 1) := by decide +kernel
theorem d19_6 : decode jdk_29_method_69_code 6 = .ok (.goto 4, 3) := by decide +kernel
theorem d19_9 : decode jdk_29_method_69_code 9 = .ok (.iload_n 1, 1) := by decide +kernel
theorem d19_10 : decode jdk_29_method_69_code 10 = .ok (.ireturn, 1) := by decide +kernel
theorem d20_0 : decode jdk_43_method_23_code 0 = .ok (.iload_n 1, 1) := by decide +kernel
theorem d20_1 : decode jdk_43_method_23_code 1 = .ok (.i2b, 1) := by decide +kernel
theorem d20_2 : decode jdk_43_method_23_code 2 = .ok (.istore 4, 2) := by decide +kernel
theorem d20_4 : decode jdk_43_method_23_code 4 = .ok (.iload_n 2, 1) := by decide +kernel
theorem d20_5 : decode jdk_43_method_23_code 5 = .ok (.istore 5, 2) := by decide +kernel
theorem d20_7 : decode jdk_43_method_23_code 7 = .ok (.iload 5, 2) := by decide +kernel
theorem d20_9 : decode jdk_43_method_23_code 9 = .ok (.iload_n 3, 1) := by decide +kernel
theorem d20_10 : decode jdk_43_method_23_code 10 = .ok (.if_icmp .ge 21, 3) := by decide +kernel
theorem d20_13 : decode jdk_43_method_23_code 13 = .ok (.aload_n 0, 1) := by decide +kernel
theorem d20_14 : decode jdk_43_method_23_code 14 = .ok (.iload 5, 2) := by decide +kernel
theorem d20_16 : decode jdk_43_method_23_code 16 = .ok (.baload, 1) := by decide +kernel
theorem d20_17 : decode jdk_43_method_23_code 17 = .ok (.iload 4, 2) := by decide +kernel
theorem d20_19 : decode jdk_43_method_23_code 19 = .ok (.if_icmp .ne 6, 3) := by decide +kernel
theorem d20_22 : decode jdk_43_method_23_code 22 = .ok (.iload 5, 2) := by decide +kernel
theorem d20_24 : decode jdk_43_method_23_code 24 = .ok (.ireturn, 1) := by decide +kernel
theorem d20_25 : decode jdk_43_method_23_code 25 = .ok (.iinc 5 1, 3) := by decide +kernel
theorem d20_28 : decode jdk_43_method_23_code 28 = .ok (.goto (-21), 3) := by decide +kernel
theorem d20_31 : decode jdk_43_method_23_code 31 = .ok (.iconst (-1), 1) := by decide +kernel
theorem d20_32 : decode jdk_43_method_23_code 32 = .ok (.ireturn, 1) := by decide +kernel
theorem d21_0 : decode prog_6_method_4_code 0 = .ok (.new 23, 3) := by decide +kernel
theorem d21_3 : decode prog_6_method_4_code 3 = .ok (.dup, 1) := by decide +kernel
theorem d21_4 : decode prog_6_method_4_code 4 = .ok (.invokespecial 25, 3) := by decide +kernel
theorem d21_7 : decode prog_6_method_4_code 7 = .ok (.aload_n 0, 1) := by decide +kernel
theorem d21_8 : decode prog_6_method_4_code 8 = .ok (.getfield 39, 3) := by decide +kernel
theorem d21_11 : decode prog_6_method_4_code 11 = .ok (.invokevirtual 28, 3) := by decide +kernel
theorem d21_14 : decode prog_6_method_4_code 14 = .ok (.ldc 52, 2) := by decide +kernel
theorem d21_16 : decode prog_6_method_4_code 16 = .ok (.invokevirtual 28, 3) := by decide +kernel
theorem d21_19 : decode prog_6_method_4_code 19 = .ok (.aload_n 1, 1) := by decide +kernel
theorem d21_20 : decode prog_6_method_4_code 20 = .ok (.invokestatic 46, 3) := by decide +kernel
theorem d21_23 : decode prog_6_method_4_code 23 = .ok (.invokevirtual 28, 3) := by decide +kernel
theorem d21_26 : decode prog_6_method_4_code 26 = .ok (.invokevirtual 32, 3) := by decide +kernel
theorem d21_29 : decode prog_6_method_4_code 29 = .ok (.areturn, 1) := by decide +kernel
theorem d22_0 : decode jdk_67_method_1_code 0 = .ok (.aload_n 0, 1) := by decide +kernel
theorem d22_1 : decode jdk_67_method_1_code 1 = .ok (.bipush 16, 2) := by decide +kernel
theorem d22_3 : decode jdk_67_method_1_code 3 = .ok (.invokespecial 1, 3) := by decide +kernel
theorem d22_6 : decode jdk_67_method_1_code 6 = .ok (.return_, 1) := by decide +kernel
theorem d23_0 : decode jdk_68_method_2_code 0 = .ok (.aload_n 0, 1) := by decide +kernel
theorem d23_1 : decode jdk_68_method_2_code 1 = .ok (.invokespecial 3, 3) := by decide +kernel
theorem d23_4 : decode jdk_68_method_2_code 4 = .ok (.getstatic 18, 3) := by decide +kernel
theorem d23_7 : decode jdk_68_method_2_code 7 = .ok (.ifCond .eq 18, 3) := by decide +kernel
theorem d23_10 : decode jdk_68_method_2_code 10 = .ok (.aload_n 0, 1) := by decide +kernel
theorem d23_11 : decode jdk_68_method_2_code 11 = .ok (.iload_n 1, 1) := by decide +kernel
theorem d23_12 : decode jdk_68_method_2_code 12 = .ok (.newarray .byte, 2) := by decide +kernel
theorem d23_14 : decode jdk_68_method_2_code 14 = .ok (.putfield 15, 3) := by decide +kernel
theorem d23_17 : decode jdk_68_method_2_code 17 = .ok (.aload_n 0, 1) := by decide +kernel
theorem d23_18 : decode jdk_68_method_2_code 18 = .ok (.iconst 0, 1) := by decide +kernel
theorem d23_19 : decode jdk_68_method_2_code 19 = .ok (.putfield 22, 3) := by decide +kernel
theorem d23_22 : decode jdk_68_method_2_code 22 = .ok (.goto 16, 3) := by decide +kernel
theorem d23_38 : decode jdk_68_method_2_code 38 = .ok (.return_, 1) := by decide +kernel
theorem d24_0 : decode jdk_67_method_7_code 0 = .ok (.aload_n 0, 1) := by decide +kernel
theorem d24_1 : decode jdk_67_method_7_code 1 = .ok (.aload_n 1, 1) := by decide +kernel
theorem d24_2 : decode jdk_67_method_7_code 2 = .ok (.invokespecial 29, 3) := by decide +kernel
theorem d24_5 : decode jdk_67_method_7_code 5 = .ok (.pop, 1) := by decide +kernel
theorem d24_6 : decode jdk_67_method_7_code 6 = .ok (.aload_n 0, 1) := by decide +kernel
theorem d24_7 : decode jdk_67_method_7_code 7 = .ok (.areturn, 1) := by decide +kernel
theorem d25_0 : decode jdk_68_method_22_code 0 = .ok (.aload_n 1, 1) := by decide +kernel
theorem d25_1 : decode jdk_68_method_22_code 1 = .ok (.ifnonnull 8, 3) := by decide +kernel
theorem d25_9 : decode jdk_68_method_22_code 9 = .ok (.aload_n 1, 1) := by decide +kernel
theorem d25_10 : decode jdk_68_method_22_code 10 = .ok (.invokevirtual 32, 3) := by decide +kernel
theorem d25_13 : decode jdk_68_method_22_code 13 = .ok (.istore_n 2, 1) := by decide +kernel
theorem d25_14 : decode jdk_68_method_22_code 14 = .ok (.aload_n 0, 1) := by decide +kernel
theorem d25_15 : decode jdk_68_method_22_code 15 = .ok (.aload_n 0, 1) := by decide +kernel
theorem d25_16 : decode jdk_68_method_22_code 16 = .ok (.getfield 79, 3) := by decide +kernel
theorem d25_19 : decode jdk_68_method_22_code 19 = .ok (.iload_n 2, 1) := by decide +kernel
theorem d25_20 : decode jdk_68_method_22_code 20 = .ok (.iadd, 1) := by decide +kernel
theorem d25_21 : decode jdk_68_method_22_code 21 = .ok (.invokevirtual 100, 3) := by decide +kernel
theorem d25_24 : decode jdk_68_method_22_code 24 = .ok (.aload_n 0, 1) := by decide +kernel
theorem d25_25 : decode jdk_68_method_22_code 25 = .ok (.aload_n 0, 1) := by decide +kernel
theorem d25_26 : decode jdk_68_method_22_code 26 = .ok (.getfield 79, 3) := by decide +kernel
theorem d25_29 : decode jdk_68_method_22_code 29 = .ok (.aload_n 1, 1) := by decide +kernel
theorem d25_30 : decode jdk_68_method_22_code 30 = .ok (.invokevirtual 208, 3) := by decide +kernel
theorem d25_33 : decode jdk_68_method_22_code 33 = .ok (.aload_n 0, 1) := by decide +kernel
theorem d25_34 : decode jdk_68_method_22_code 34 = .ok (.dup, 1) := by decide +kernel
theorem d25_35 : decode jdk_68_method_22_code 35 = .ok (.getfield 79, 3) := by decide +kernel
theorem d25_38 : decode jdk_68_method_22_code 38 = .ok (.iload_n 2, 1) := by decide +kernel
theorem d25_39 : decode jdk_68_method_22_code 39 = .ok (.iadd, 1) := by decide +kernel
theorem d25_40 : decode jdk_68_method_22_code 40 = .ok (.putfield 79, 3) := by decide +kernel
theorem d25_43 : decode jdk_68_method_22_code 43 = .ok (.aload_n 0, 1) := by decide +kernel
theorem d25_44 : decode jdk_68_method_22_code 44 = .ok (.areturn, 1) := by decide +kernel
theorem d26_0 : decode jdk_68_method_9_code 0 = .ok (.aload_n 0, 1) := by decide +kernel
theorem d26_1 : decode jdk_68_method_9_code 1 = .ok (.getfield 15, 3) := by decide +kernel
theorem d26_4 : decode jdk_68_method_9_code 4 = .ok (.arraylength, 1) := by decide +kernel
theorem d26_5 : decode jdk_68_method_9_code 5 = .ok (.aload_n 0, 1) := by decide +kernel
theorem d26_6 : decode jdk_68_method_9_code 6 = .ok (.getfield 22, 3) := by decide +kernel
theorem d26_9 : decode jdk_68_method_9_code 9 = .ok (.ishr, 1) := by decide +kernel
theorem d26_10 : decode jdk_68_method_9_code 10 = .ok (.istore_n 2, 1) := by decide +kernel
theorem d26_11 : decode jdk_68_method_9_code 11 = .ok (.iload_n 1, 1) := by decide +kernel
theorem d26_12 : decode jdk_68_method_9_code 12 = .ok (.iload_n 2, 1) := by decide +kernel
theorem d26_13 : decode jdk_68_method_9_code 13 = .ok (.isub, 1) := by decide +kernel
theorem d26_14 : decode jdk_68_method_9_code 14 = .ok (.ifCond .le 24, 3) := by decide +kernel
theorem d26_38 : decode jdk_68_method_9_code 38 = .ok (.return_, 1) := by decide +kernel
theorem d27_0 : decode jdk_68_method_73_code 0 = .ok (.aload_n 0, 1) := by decide +kernel
theorem d27_1 : decode jdk_68_method_73_code 1 = .ok (.aload_n 2, 1) := by decide +kernel
theorem d27_2 : decode jdk_68_method_73_code 2 = .ok (.invokevirtual 397, 3) := by decide +kernel
theorem d27_5 : decode jdk_68_method_73_code 5 = .ok (.aload_n 2, 1) := by decide +kernel
theorem d27_6 : decode jdk_68_method_73_code 6 = .ok (.aload_n 0, 1) := by decide +kernel
theorem d27_7 : decode jdk_68_method_73_code 7 = .ok (.getfield 15, 3) := by decide +kernel
theorem d27_10 : decode jdk_68_method_73_code 10 = .ok (.iload_n 1, 1) := by decide +kernel
theorem d27_11 : decode jdk_68_method_73_code 11 = .ok (.aload_n 0, 1) := by decide +kernel
theorem d27_12 : decode jdk_68_method_73_code 12 = .ok (.getfield 22, 3) := by decide +kernel
theorem d27_15 : decode jdk_68_method_73_code 15 = .ok (.invokevirtual 399, 3) := by decide +kernel
theorem d27_18 : decode jdk_68_method_73_code 18 = .ok (.return_, 1) := by decide +kernel
theorem d28_0 : decode jdk_68_method_71_code 0 = .ok (.getstatic 18, 3) := by decide +kernel
theorem d28_3 : decode jdk_68_method_71_code 3 = .ok (.ifCond .eq 18, 3) := by decide +kernel
theorem d28_6 : decode jdk_68_method_71_code 6 = .ok (.aload_n 0, 1) := by decide +kernel
theorem d28_7 : decode jdk_68_method_71_code 7 = .ok (.getfield 22, 3) := by decide +kernel
theorem d28_10 : decode jdk_68_method_71_code 10 = .ok (.aload_n 1, 1) := by decide +kernel
theorem d28_11 : decode jdk_68_method_71_code 11 = .ok (.invokevirtual 40, 3) := by decide +kernel
theorem d28_14 : decode jdk_68_method_71_code 14 = .ok (.if_icmp .eq 7, 3) := by decide +kernel
theorem d28_21 : decode jdk_68_method_71_code 21 = .ok (.return_, 1) := by decide +kernel
theorem d29_0 : decode jdk_42_method_147_code 0 = .ok (.aload_n 0, 1) := by decide +kernel
theorem d29_1 : decode jdk_42_method_147_code 1 = .ok (.invokevirtual 335, 3) := by decide +kernel
theorem d29_4 : decode jdk_42_method_147_code 4 = .ok (.iload_n 3, 1) := by decide +kernel
theorem d29_5 : decode jdk_42_method_147_code 5 = .ok (.if_icmp .ne 23, 3) := by decide +kernel
theorem d29_8 : decode jdk_42_method_147_code 8 = .ok (.aload_n 0, 1) := by decide +kernel
theorem d29_9 : decode jdk_42_method_147_code 9 = .ok (.getfield 9, 3) := by decide +kernel
theorem d29_12 : decode jdk_42_method_147_code 12 = .ok (.iconst 0, 1) := by decide +kernel
theorem d29_13 : decode jdk_42_method_147_code 13 = .ok (.aload_n 1, 1) := by decide +kernel
theorem d29_14 : decode jdk_42_method_147_code 14 = .ok (.iload_n 2, 1) := by decide +kernel
theorem d29_15 : decode jdk_42_method_147_code 15 = .ok (.iload_n 3, 1) := by decide +kernel
theorem d29_16 : decode jdk_42_method_147_code 16 = .ok (.ishl, 1) := by decide +kernel
theorem d29_17 : decode jdk_42_method_147_code 17 = .ok (.aload_n 0, 1) := by decide +kernel
theorem d29_18 : decode jdk_42_method_147_code 18 = .ok (.getfield 9, 3) := by decide +kernel
theorem d29_21 : decode jdk_42_method_147_code 21 = .ok (.arraylength, 1) := by decide +kernel
theorem d29_22 : decode jdk_42_method_147_code 22 = .ok (.invokestatic 212, 3) := by decide +kernel
theorem d29_25 : decode jdk_42_method_147_code 25 = .ok (.goto 18, 3) := by decide +kernel
theorem d29_43 : decode jdk_42_method_147_code 43 = .ok (.return_, 1) := by decide +kernel
theorem d30_0 : decode prog_6_method_8_code 0 = .ok (.aload_n 0, 1) := by decide +kernel
theorem d30_1 : decode prog_6_method_8_code 1 = .ok (.ldc 60, 2) := by decide +kernel
theorem d30_3 : decode prog_6_method_8_code 3 = .ok (.invokestatic 9, 3) := by decide +kernel
theorem d30_6 : decode prog_6_method_8_code 6 = .ok (.pop, 1) := by decide +kernel
theorem d30_7 : decode prog_6_method_8_code 7 = .ok (.aload_n 0, 1) := by decide +kernel
theorem d30_8 : decode prog_6_method_8_code 8 = .ok (.invokevirtual 62, 3) := by decide +kernel
theorem d30_11 : decode prog_6_method_8_code 11 = .ok (.ifCond .ne 13, 3) := by decide +kernel
theorem d30_14 : decode prog_6_method_8_code 14 = .ok (.aload_n 0, 1) := by decide +kernel
theorem d30_15 : decode prog_6_method_8_code 15 = .ok (.iconst 0, 1) := by decide +kernel
theorem d30_16 : decode prog_6_method_8_code 16 = .ok (.invokevirtual 66, 3) := by decide +kernel
theorem d30_19 : decode prog_6_method_8_code 19 = .ok (.bipush 125, 2) := by decide +kernel
theorem d30_21 : decode prog_6_method_8_code 21 = .ok (.if_icmp .ne 30, 3) := by decide +kernel
theorem d30_51 : decode prog_6_method_8_code 51 = .ok (.new 23, 3) := by decide +kernel
theorem d30_54 : decode prog_6_method_8_code 54 = .ok (.dup, 1) := by decide +kernel
theorem d30_55 : decode prog_6_method_8_code 55 = .ok (.invokespecial 25, 3) := by decide +kernel
theorem d30_58 : decode prog_6_method_8_code 58 = .ok (.ldc 72, 2) := by decide +kernel
theorem d30_60 : decode prog_6_method_8_code 60 = .ok (.invokevirtual 28, 3) := by decide +kernel
theorem d30_63 : decode prog_6_method_8_code 63 = .ok (.aload_n 0, 1) := by decide +kernel
theorem d30_64 : decode prog_6_method_8_code 64 = .ok (.invokevirtual 28, 3) := by decide +kernel
theorem d30_67 : decode prog_6_method_8_code 67 = .ok (.ldc 74, 2) := by decide +kernel
theorem d30_69 : decode prog_6_method_8_code 69 = .ok (.invokevirtual 28, 3) := by decide +kernel
theorem d30_72 : decode prog_6_method_8_code 72 = .ok (.invokevirtual 32, 3) := by decide +kernel
theorem d30_75 : decode prog_6_method_8_code 75 = .ok (.areturn, 1) := by decide +kernel
theorem d31_0 : decode jdk_42_method_55_code 0 = .ok (.aload_n 0, 1) := by decide +kernel
theorem d31_1 : decode jdk_42_method_55_code 1 = .ok (.getfield 9, 3) := by decide +kernel
theorem d31_4 : decode jdk_42_method_55_code 4 = .ok (.arraylength, 1) := by decide +kernel
theorem d31_5 : decode jdk_42_method_55_code 5 = .ok (.ifCond .ne 7, 3) := by decide +kernel
theorem d31_12 : decode jdk_42_method_55_code 12 = .ok (.iconst 0, 1) := by decide +kernel
theorem d31_13 : decode jdk_42_method_55_code 13 = .ok (.ireturn, 1) := by decide +kernel
theorem d32_0 : decode jdk_42_method_56_code 0 = .ok (.aload_n 0, 1) := by decide +kernel
theorem d32_1 : decode jdk_42_method_56_code 1 = .ok (.invokevirtual 492, 3) := by decide +kernel
theorem d32_4 : decode jdk_42_method_56_code 4 = .ok (.ifCond .eq 12, 3) := by decide +kernel
theorem d32_7 : decode jdk_42_method_56_code 7 = .ok (.aload_n 0, 1) := by decide +kernel
theorem d32_8 : decode jdk_42_method_56_code 8 = .ok (.getfield 9, 3) := by decide +kernel
theorem d32_11 : decode jdk_42_method_56_code 11 = .ok (.iload_n 1, 1) := by decide +kernel
theorem d32_12 : decode jdk_42_method_56_code 12 = .ok (.invokestatic 495, 3) := by decide +kernel
theorem d32_15 : decode jdk_42_method_56_code 15 = .ok (.ireturn, 1) := by decide +kernel
theorem d33_0 : decode jdk_43_method_2_code 0 = .ok (.iload_n 1, 1) := by decide +kernel
theorem d33_1 : decode jdk_43_method_2_code 1 = .ok (.aload_n 0, 1) := by decide +kernel
theorem d33_2 : decode jdk_43_method_2_code 2 = .ok (.arraylength, 1) := by decide +kernel
theorem d33_3 : decode jdk_43_method_2_code 3 = .ok (.invokestatic 9, 3) := by decide +kernel
theorem d33_6 : decode jdk_43_method_2_code 6 = .ok (.aload_n 0, 1) := by decide +kernel
theorem d33_7 : decode jdk_43_method_2_code 7 = .ok (.iload_n 1, 1) := by decide +kernel
theorem d33_8 : decode jdk_43_method_2_code 8 = .ok (.baload, 1) := by decide +kernel
theorem d33_9 : decode jdk_43_method_2_code 9 = .ok (.sipush 255, 3) := by decide +kernel
theorem d33_12 : decode jdk_43_method_2_code 12 = .ok (.iand, 1) := by decide +kernel
theorem d33_13 : decode jdk_43_method_2_code 13 = .ok (.i2c, 1) := by decide +kernel
theorem d33_14 : decode jdk_43_method_2_code 14 = .ok (.ireturn, 1) := by decide +kernel
theorem d34_0 : decode jdk_42_method_155_code 0 = .ok (.iload_n 0, 1) := by decide +kernel
theorem d34_1 : decode jdk_42_method_155_code 1 = .ok (.iload_n 1, 1) := by decide +kernel
theorem d34_2 : decode jdk_42_method_155_code 2 = .ok (.getstatic 1053, 3) := by decide +kernel
theorem d34_5 : decode jdk_42_method_155_code 5 = .ok (.invokestatic 1059, 3) := by decide +kernel
theorem d34_8 : decode jdk_42_method_155_code 8 = .ok (.pop, 1) := by decide +kernel
theorem d34_9 : decode jdk_42_method_155_code 9 = .ok (.return_, 1) := by decide +kernel
theorem d35_0 : decode jdk_41_method_11_code 0 = .ok (.iload_n 0, 1) := by decide +kernel
theorem d35_1 : decode jdk_41_method_11_code 1 = .ok (.ifCond .lt 8, 3) := by decide +kernel
theorem d35_4 : decode jdk_41_method_11_code 4 = .ok (.iload_n 0, 1) := by decide +kernel
theorem d35_5 : decode jdk_41_method_11_code 5 = .ok (.iload_n 1, 1) := by decide +kernel
theorem d35_6 : decode jdk_41_method_11_code 6 = .ok (.if_icmp .lt 10, 3) := by decide +kernel
theorem d35_16 : decode jdk_41_method_11_code 16 = .ok (.iload_n 0, 1) := by decide +kernel
theorem d35_17 : decode jdk_41_method_11_code 17 = .ok (.ireturn, 1) := by decide +kernel
theorem d36_0 : decode jdk_67_method_42_code 0 = .ok (.new 18, 3) := by decide +kernel
theorem d36_3 : decode jdk_67_method_42_code 3 = .ok (.dup, 1) := by decide +kernel
theorem d36_4 : decode jdk_67_method_42_code 4 = .ok (.aload_n 0, 1) := by decide +kernel
theorem d36_5 : decode jdk_67_method_42_code 5 = .ok (.invokespecial 137, 3) := by decide +kernel
theorem d36_8 : decode jdk_67_method_42_code 8 = .ok (.areturn, 1) := by decide +kernel
theorem d37_0 : decode jdk_42_method_53_code 0 = .ok (.aload_n 0, 1) := by decide +kernel
theorem d37_1 : decode jdk_42_method_53_code 1 = .ok (.aload_n 1, 1) := by decide +kernel
theorem d37_2 : decode jdk_42_method_53_code 2 = .ok (.aconst_null, 1) := by decide +kernel
theorem d37_3 : decode jdk_42_method_53_code 3 = .ok (.invokespecial 489, 3) := by decide +kernel
theorem d37_6 : decode jdk_42_method_53_code 6 = .ok (.return_, 1) := by decide +kernel
theorem d38_0 : decode jdk_42_method_150_code 0 = .ok (.aload_n 0, 1) := by decide +kernel
theorem d38_1 : decode jdk_42_method_150_code 1 = .ok (.invokespecial 1, 3) := by decide +kernel
theorem d38_4 : decode jdk_42_method_150_code 4 = .ok (.aload_n 1, 1) := by decide +kernel
theorem d38_5 : decode jdk_42_method_150_code 5 = .ok (.invokevirtual 552, 3) := by decide +kernel
theorem d38_8 : decode jdk_42_method_150_code 8 = .ok (.astore_n 3, 1) := by decide +kernel
theorem d38_9 : decode jdk_42_method_150_code 9 = .ok (.aload_n 1, 1) := by decide +kernel
theorem d38_10 : decode jdk_42_method_150_code 10 = .ok (.invokevirtual 549, 3) := by decide +kernel
theorem d38_13 : decode jdk_42_method_150_code 13 = .ok (.istore 4, 2) := by decide +kernel
theorem d38_15 : decode jdk_42_method_150_code 15 = .ok (.aload_n 1, 1) := by decide +kernel
theorem d38_16 : decode jdk_42_method_150_code 16 = .ok (.invokevirtual 1047, 3) := by decide +kernel
theorem d38_19 : decode jdk_42_method_150_code 19 = .ok (.ifCond .eq 22, 3) := by decide +kernel
theorem d38_22 : decode jdk_42_method_150_code 22 = .ok (.aload_n 0, 1) := by decide +kernel
theorem d38_23 : decode jdk_42_method_150_code 23 = .ok (.iconst 0, 1) := by decide +kernel
theorem d38_24 : decode jdk_42_method_150_code 24 = .ok (.putfield 15, 3) := by decide +kernel
theorem d38_27 : decode jdk_42_method_150_code 27 = .ok (.aload_n 0, 1) := by decide +kernel
theorem d38_28 : decode jdk_42_method_150_code 28 = .ok (.aload_n 3, 1) := by decide +kernel
theorem d38_29 : decode jdk_42_method_150_code 29 = .ok (.iconst 0, 1) := by decide +kernel
theorem d38_30 : decode jdk_42_method_150_code 30 = .ok (.iload 4, 2) := by decide +kernel
theorem d38_32 : decode jdk_42_method_150_code 32 = .ok (.invokestatic 54, 3) := by decide +kernel
theorem d38_35 : decode jdk_42_method_150_code 35 = .ok (.putfield 9, 3) := by decide +kernel
theorem d38_38 : decode jdk_42_method_150_code 38 = .ok (.goto 59, 3) := by decide +kernel
theorem d38_97 : decode jdk_42_method_150_code 97 = .ok (.return_, 1) := by decide +kernel
theorem d39_0 : decode jdk_68_method_64_code 0 = .ok (.aload_n 0, 1) := by decide +kernel
theorem d39_1 : decode jdk_68_method_64_code 1 = .ok (.getfield 15, 3) := by decide +kernel
theorem d39_4 : decode jdk_68_method_64_code 4 = .ok (.areturn, 1) := by decide +kernel
theorem d40_0 : decode jdk_67_method_93_code 0 = .ok (.aload_n 0, 1) := by decide +kernel
theorem d40_1 : decode jdk_67_method_93_code 1 = .ok (.invokespecial 343, 3) := by decide +kernel
theorem d40_4 : decode jdk_67_method_93_code 4 = .ok (.ireturn, 1) := by decide +kernel
theorem d41_0 : decode jdk_68_method_6_code 0 = .ok (.aload_n 0, 1) := by decide +kernel
theorem d41_1 : decode jdk_68_method_6_code 1 = .ok (.getfield 79, 3) := by decide +kernel
theorem d41_4 : decode jdk_68_method_6_code 4 = .ok (.ireturn, 1) := by decide +kernel
theorem d42_0 : decode jdk_68_method_68_code 0 = .ok (.getstatic 18, 3) := by decide +kernel
theorem d42_3 : decode jdk_68_method_68_code 3 = .ok (.ifCond .eq 14, 3) := by decide +kernel
theorem d42_6 : decode jdk_68_method_68_code 6 = .ok (.aload_n 0, 1) := by decide +kernel
theorem d42_7 : decode jdk_68_method_68_code 7 = .ok (.getfield 22, 3) := by decide +kernel
theorem d42_10 : decode jdk_68_method_68_code 10 = .ok (.ifCond .ne 7, 3) := by decide +kernel
theorem d42_13 : decode jdk_68_method_68_code 13 = .ok (.iconst 1, 1) := by decide +kernel
theorem d42_14 : decode jdk_68_method_68_code 14 = .ok (.goto 4, 3) := by decide +kernel
theorem d42_18 : decode jdk_68_method_68_code 18 = .ok (.ireturn, 1) := by decide +kernel
theorem d43_0 : decode jdk_65_method_132_code 0 = .ok (.iload_n 1, 1) := by decide +kernel
theorem d43_1 : decode jdk_65_method_132_code 1 = .ok (.ifCond .ne 9, 3) := by decide +kernel
theorem d43_4 : decode jdk_65_method_132_code 4 = .ok (.iload_n 2, 1) := by decide +kernel
theorem d43_5 : decode jdk_65_method_132_code 5 = .ok (.aload_n 0, 1) := by decide +kernel
theorem d43_6 : decode jdk_65_method_132_code 6 = .ok (.arraylength, 1) := by decide +kernel
theorem d43_7 : decode jdk_65_method_132_code 7 = .ok (.if_icmp .eq 10, 3) := by decide +kernel
theorem d43_10 : decode jdk_65_method_132_code 10 = .ok (.aload_n 0, 1) := by decide +kernel
theorem d43_11 : decode jdk_65_method_132_code 11 = .ok (.iload_n 1, 1) := by decide +kernel
theorem d43_12 : decode jdk_65_method_132_code 12 = .ok (.iload_n 2, 1) := by decide +kernel
theorem d43_13 : decode jdk_65_method_132_code 13 = .ok (.invokestatic 339, 3) := by decide +kernel
theorem d43_16 : decode jdk_65_method_132_code 16 = .ok (.areturn, 1) := by decide +kernel
theorem d44_0 : decode jdk_65_method_133_code 0 = .ok (.iload_n 1, 1) := by decide +kernel
theorem d44_1 : decode jdk_65_method_133_code 1 = .ok (.iload_n 2, 1) := by decide +kernel
theorem d44_2 : decode jdk_65_method_133_code 2 = .ok (.invokestatic 343, 3) := by decide +kernel
theorem d44_5 : decode jdk_65_method_133_code 5 = .ok (.iload_n 2, 1) := by decide +kernel
theorem d44_6 : decode jdk_65_method_133_code 6 = .ok (.iload_n 1, 1) := by decide +kernel
theorem d44_7 : decode jdk_65_method_133_code 7 = .ok (.isub, 1) := by decide +kernel
theorem d44_8 : decode jdk_65_method_133_code 8 = .ok (.istore_n 3, 1) := by decide +kernel
theorem d44_9 : decode jdk_65_method_133_code 9 = .ok (.iload_n 3, 1) := by decide +kernel
theorem d44_10 : decode jdk_65_method_133_code 10 = .ok (.newarray .byte, 2) := by decide +kernel
theorem d44_12 : decode jdk_65_method_133_code 12 = .ok (.astore 4, 2) := by decide +kernel
theorem d44_14 : decode jdk_65_method_133_code 14 = .ok (.aload_n 0, 1) := by decide +kernel
theorem d44_15 : decode jdk_65_method_133_code 15 = .ok (.iload_n 1, 1) := by decide +kernel
theorem d44_16 : decode jdk_65_method_133_code 16 = .ok (.aload 4, 2) := by decide +kernel
theorem d44_18 : decode jdk_65_method_133_code 18 = .ok (.iconst 0, 1) := by decide +kernel
theorem d44_19 : decode jdk_65_method_133_code 19 = .ok (.aload_n 0, 1) := by decide +kernel
theorem d44_20 : decode jdk_65_method_133_code 20 = .ok (.arraylength, 1) := by decide +kernel
theorem d44_21 : decode jdk_65_method_133_code 21 = .ok (.iload_n 1, 1) := by decide +kernel
theorem d44_22 : decode jdk_65_method_133_code 22 = .ok (.isub, 1) := by decide +kernel
theorem d44_23 : decode jdk_65_method_133_code 23 = .ok (.iload_n 3, 1) := by decide +kernel
theorem d44_24 : decode jdk_65_method_133_code 24 = .ok (.invokestatic 304, 3) := by decide +kernel
theorem d44_27 : decode jdk_65_method_133_code 27 = .ok (.invokestatic 150, 3) := by decide +kernel
theorem d44_30 : decode jdk_65_method_133_code 30 = .ok (.aload 4, 2) := by decide +kernel
theorem d44_32 : decode jdk_65_method_133_code 32 = .ok (.areturn, 1) := by decide +kernel
theorem d45_0 : decode jdk_65_method_131_code 0 = .ok (.iload_n 1, 1) := by decide +kernel
theorem d45_1 : decode jdk_65_method_131_code 1 = .ok (.iload_n 0, 1) := by decide +kernel
theorem d45_2 : decode jdk_65_method_131_code 2 = .ok (.if_icmp .ge 35, 3) := by decide +kernel
theorem d45_37 : decode jdk_65_method_131_code 37 = .ok (.return_, 1) := by decide +kernel
theorem d46_0 : decode method_6_code 0 = .ok (.iload_n 1, 1) := by decide +kernel
theorem d46_1 : decode method_6_code 1 = .ok (.iload_n 2, 1) := by decide +kernel
theorem d46_2 : decode method_6_code 2 = .ok (.if_icmp .ge 22, 3) := by decide +kernel
theorem d46_5 : decode method_6_code 5 = .ok (.aload_n 0, 1) := by decide +kernel
theorem d46_6 : decode method_6_code 6 = .ok (.iload_n 1, 1) := by decide +kernel
theorem d46_7 : decode method_6_code 7 = .ok (.invokevirtual 41, 3) := by decide +kernel
theorem d46_10 : decode method_6_code 10 = .ok (.iload_n 1, 1) := by decide +kernel
theorem d46_11 : decode method_6_code 11 = .ok (.aload_n 3, 1) := by decide +kernel
theorem d46_12 : decode method_6_code 12 = .ok (.iload 4, 2) := by decide +kernel
theorem d46_14 : decode method_6_code 14 = .ok (.aload 5, 2) := by decide +kernel
theorem d46_16 : decode method_6_code 16 = .ok (.iload 6, 2) := by decide +kernel
theorem d46_18 : decode method_6_code 18 = .ok (.invokestatic 45, 3) := by decide +kernel
theorem d46_21 : decode method_6_code 21 = .ok (.if_icmp .ne 7, 3) := by decide +kernel
theorem d46_24 : decode method_6_code 24 = .ok (.iconst 1, 1) := by decide +kernel
theorem d46_25 : decode method_6_code 25 = .ok (.goto 4, 3) := by decide +kernel
theorem d46_29 : decode method_6_code 29 = .ok (.ireturn, 1) := by decide +kernel
theorem d47_0 : decode method_5_code 0 = .ok (.iload_n 0, 1) := by decide +kernel
theorem d47_1 : decode method_5_code 1 = .ok (.iload_n 2, 1) := by decide +kernel
theorem d47_2 : decode method_5_code 2 = .ok (.if_icmp .ge 7, 3) := by decide +kernel
theorem d47_5 : decode method_5_code 5 = .ok (.aload_n 1, 1) := by decide +kernel
theorem d47_6 : decode method_5_code 6 = .ok (.iload_n 0, 1) := by decide +kernel
theorem d47_7 : decode method_5_code 7 = .ok (.caload, 1) := by decide +kernel
theorem d47_8 : decode method_5_code 8 = .ok (.ireturn, 1) := by decide +kernel
theorem d47_9 : decode method_5_code 9 = .ok (.iload_n 0, 1) := by decide +kernel
theorem d47_10 : decode method_5_code 10 = .ok (.iload_n 2, 1) := by decide +kernel
theorem d47_11 : decode method_5_code 11 = .ok (.isub, 1) := by decide +kernel
theorem d47_12 : decode method_5_code 12 = .ok (.istore 5, 2) := by decide +kernel
theorem d47_14 : decode method_5_code 14 = .ok (.iload 5, 2) := by decide +kernel
theorem d47_16 : decode method_5_code 16 = .ok (.bipush 6, 2) := by decide +kernel
theorem d47_18 : decode method_5_code 18 = .ok (.if_icmp .ge 11, 3) := by decide +kernel
theorem d47_21 : decode method_5_code 21 = .ok (.ldc 39, 2) := by decide +kernel
theorem d47_23 : decode method_5_code 23 = .ok (.iload 5, 2) := by decide +kernel
theorem d47_25 : decode method_5_code 25 = .ok (.invokevirtual 41, 3) := by decide +kernel
theorem d47_28 : decode method_5_code 28 = .ok (.ireturn, 1) := by decide +kernel
theorem d47_29 : decode method_5_code 29 = .ok (.iload 5, 2) := by decide +kernel
theorem d47_31 : decode method_5_code 31 = .ok (.bipush 6, 2) := by decide +kernel
theorem d47_33 : decode method_5_code 33 = .ok (.if_icmp .ne 6, 3) := by decide +kernel
theorem d47_36 : decode method_5_code 36 = .ok (.bipush 123, 2) := by decide +kernel
theorem d47_38 : decode method_5_code 38 = .ok (.ireturn, 1) := by decide +kernel
theorem d47_39 : decode method_5_code 39 = .ok (.iload 5, 2) := by decide +kernel
theorem d47_41 : decode method_5_code 41 = .ok (.bipush 7, 2) := by decide +kernel
theorem d47_43 : decode method_5_code 43 = .ok (.isub, 1) := by decide +kernel
theorem d47_44 : decode method_5_code 44 = .ok (.istore 6, 2) := by decide +kernel
theorem d47_46 : decode method_5_code 46 = .ok (.iload 6, 2) := by decide +kernel
theorem d47_48 : decode method_5_code 48 = .ok (.iload 4, 2) := by decide +kernel
theorem d47_50 : decode method_5_code 50 = .ok (.if_icmp .ge 8, 3) := by decide +kernel
theorem d47_53 : decode method_5_code 53 = .ok (.aload_n 3, 1) := by decide +kernel
theorem d47_54 : decode method_5_code 54 = .ok (.iload 6, 2) := by decide +kernel
theorem d47_56 : decode method_5_code 56 = .ok (.caload, 1) := by decide +kernel
theorem d47_57 : decode method_5_code 57 = .ok (.ireturn, 1) := by decide +kernel
theorem d47_58 : decode method_5_code 58 = .ok (.bipush 125, 2) := by decide +kernel
theorem d47_60 : decode method_5_code 60 = .ok (.ireturn, 1) := by decide +kernel
theorem pn_2 : plainName "java/util/Objects" = true := by first | (simp [plainName, overriddenIn]; done) | decide +kernel
theorem pn_3 : plainName "com/example/portunus/portunus/LockKeys" = true := by first | (simp [plainName, overriddenIn]; done) | decide +kernel
theorem pn_4 : plainName "com/example/portunus/portunus/LockKeysQueueKeyPinLaw" = true := by first | (simp [plainName, overriddenIn]; done) | decide +kernel
/-! new String(char[]), all chars below 256: the JDK's bodies walked -/
section StrInit
variable {l : Launch} {Z : State} {a0 : Array Value}
theorem own_hEL (hw : ∀ d ∈ tables_1, d.before a0 Z = true) : EW Z a0 consts_1 := (EW.cons (w44 hw) (by decide) (EW.cons (w156 hw) (by decide) (EW.cons (w160 hw) (by decide) (EW.cons (w182 hw) (by decide) (EW.cons (w183 hw) (by decide) (EW.cons (w234 hw) (by decide) (EW.cons (w235 hw) (by decide) EW.nil)))))))
theorem own_wS (hw : ∀ d ∈ tables_1, d.before a0 Z = true) : ∀ a ∈ Bundle.stringAtoms, a.before a0 Z = true := by
  intro a ha
  simp only [Bundle.stringAtoms, List.mem_cons, List.not_mem_nil, or_false] at ha
  rcases ha with rfl | rfl | rfl | rfl | rfl | rfl | rfl
  · exact (w10 hw)
  · exact (w9 hw)
  · exact (w26 hw)
  · exact (w36 hw)
  · exact (w34 hw)
  · exact (w45 hw)
  · exact (w46 hw)
theorem pn_utf16 : plainName "java/lang/StringUTF16" = true := by first | (simp [plainName, overriddenIn]; done) | decide +kernel
theorem pf_str (n d : String) (q : plainFor ⟨"java/lang/String", n, d⟩ = true) : plainFor ⟨"java/lang/String", n, d⟩ = true := q
abbrev rm0 : Room := { frames := 0, cells := 0, slots := 0, locals := 0 }
theorem coderLen_met (hw : ∀ d ∈ tables_1, d.before a0 Z = true) {h : Heap} {b : Addr} {kb : ClassId} {z zz : Int32} {vs : List Value} {dv : Value} (F : Arv Z h b kb .byte z vs dv) :
    Met l Z consts_1 ⟨"java/lang/StringUTF16", "coderFromArrayLen", "([BI)B"⟩ jdk_52_method_15_code 2 (some .byte) [] rm0 #[.ref b, .int zz] h [] (fun v h' => v = some (.int (((zz - z).toUInt32 >>> ((31 : Int32) &&& 31).toUInt32).toInt32.toInt8.toInt32)) ∧ h = h') := by
  refine Met.of_walk (a0 := a0) (Ls := #[.val (.ref b), .val (.int zz)]) (plainFor_of_name pn_utf16) (own_hEL hw) rfl ?_
  refine Wl.iload_n 1 d8_0 rfl ?_
  refine Wl.aload_n 2 d8_1 rfl rfl ?_
  refine Wl.arraylength 3 d8_2 F ?_
  refine Wl.isub 4 d8_3 ?_
  refine Wl.bipush 6 (31 : Int32) d8_4 (by decide) ?_
  refine Wl.iushr 7 d8_6 ?_
  refine Wl.i2b 8 d8_7 ?_
  exact Wl.ireturn (t := .byte) d8_8 rfl (Jvm.Free.XT.narrow_b _) (by simp) (by decide) (by decide) ⟨rfl, rfl⟩
/-- the inner compress: the loop -/
theorem comp2_loop (hw : ∀ d ∈ tables_1, d.before a0 Z = true) {h0 : Heap} {b d : Addr} {kb kd : ClassId} {cs : List Int32} (hn : cs.length < 65536) (hlat : ∀ c ∈ cs, Lat c) (hne : b ≠ d) (j : Nat) :
    ∀ (i : Nat) (h : Heap) (o : Slot), i + j = cs.length → (o = .unset ∨ ∃ w, o = .val w ∧ w.category = 1) → Arv Z h b kb .char (Int32.ofNat cs.length) (cs.map Value.int) (.int 0) → Arv Z h d kd .byte (Int32.ofNat cs.length) (fil (cs.map byV) (.int 0) i) (.int 0) → Keep h0 h [d] →
    Wl l Z a0 consts_1 ⟨"java/lang/StringUTF16", "compress", "([CI[BII)I"⟩ jdk_52_method_21_code 7 (some .int) rm0 #[.ref b, .int 0, .ref d, .int 0, .int (Int32.ofNat cs.length)] (fun v h' => v = some (.int (Int32.ofNat cs.length)) ∧ Keep h0 h' [d] ∧ Arv Z h' d kd .byte (Int32.ofNat cs.length) (cs.map byV) (.int 0)) [d] h 0 0 3
      #[.val (.ref b), .val (.int (Int32.ofNat i)), .val (.ref d), .val (.int (Int32.ofNat i)), .val (.int (Int32.ofNat cs.length)), .val (.int (Int32.ofNat i)), o] [] := by
  induction j with
  | zero =>
    intro i h o hij ho Kb Kd K
    have hi : i = cs.length := by omega
    subst hi
    refine Wl.iload 5 d7_3 rfl ?_
    refine Wl.iload 7 d7_5 rfl ?_
    refine Wl.icmpY 44 d7_7 (flt Int32.lt_irrefl).2.1 ?_
    refine Wl.iload 46 d7_44 rfl ?_
    have e : fil (cs.map byV) (.int 0) cs.length = cs.map byV := by
      have := fil_all (cs.map byV) (.int 0); rwa [List.length_map] at this
    rw [e] at Kd
    exact Wl.ireturn (t := .int) d7_46 rfl rfl (by simp) (by decide) (by decide) ⟨rfl, K, Kd⟩
  | succ j ih =>
    intro i h o hij ho Kb Kd K
    have hi : i < cs.length := by omega
    have h31 : i < 2147483648 := by omega
    have hl : Lat cs[i] := hlat _ (List.getElem_mem hi)
    have hcl := nCl (i := cs.length) (by omega)
    refine Wl.iload 5 d7_3 rfl ?_
    refine Wl.iload 7 d7_5 rfl ?_
    refine Wl.icmpN 10 d7_7 (tlt ((nLt h31 (by omega)).mpr hi)).2.1 ?_
    refine Wl.aload_n 11 d7_10 rfl rfl ?_
    refine Wl.iload_n 12 d7_11 rfl ?_
    refine Wl.caload 13 i d7_12 Kb (nNn h31) (nCl h31) (by rw [hcl]; exact hi) (v := .int cs[i]) (by simp [List.getD_eq_getElem?_getD, hi]) ?_
    refine Wl.istore 15 #[.val (.ref b), .val (.int (Int32.ofNat i)), .val (.ref d), .val (.int (Int32.ofNat i)), .val (.int (Int32.ofNat cs.length)), .val (.int (Int32.ofNat i)), .val (.int cs[i])] d7_13 (XS.store1 (o := o) rfl ho rfl) ?_
    refine Wl.iload 17 d7_15 rfl ?_
    refine Wl.sipush 20 (255 : Int32) d7_17 (by decide) ?_
    refine Wl.icmpY 26 d7_20 (flt (lat_le hl)).2.2.2 ?_
    refine Wl.aload_n 27 d7_26 rfl rfl ?_
    refine Wl.iload_n 28 d7_27 rfl ?_
    refine Wl.iload 30 d7_28 rfl ?_
    refine Wl.i2b 31 d7_30 ?_
    refine Wl.bastore 32 i d7_31 Kd (List.mem_of_getElem? (i := 0) rfl) (nNn h31) (nCl h31) (by rw [hcl]; exact hi) (by rw [fil_len _ _ _ (by rw [List.length_map]; omega), List.length_map]; exact hi) ?_
    intro h' W Kd'
    rw [show nar .byte (cs[i]).toInt8.toInt32 = (cs[i]).toInt8.toInt32 from i2b_id _, fil_set (cs.map byV) (.int 0) _ i (by rw [List.length_map]; exact hi) (by simp [byV])] at Kd'
    refine Wl.iinc 35 #[.val (.ref b), .val (.int (Int32.ofNat (i + 1))), .val (.ref d), .val (.int (Int32.ofNat i)), .val (.int (Int32.ofNat cs.length)), .val (.int (Int32.ofNat i)), .val (.int cs[i])] (1 : Int32) d7_32 (by decide) rfl (by rw [nS]; rfl) ?_
    refine Wl.iinc 38 #[.val (.ref b), .val (.int (Int32.ofNat (i + 1))), .val (.ref d), .val (.int (Int32.ofNat (i + 1))), .val (.int (Int32.ofNat cs.length)), .val (.int (Int32.ofNat i)), .val (.int cs[i])] (1 : Int32) d7_35 (by decide) rfl (by rw [nS]; rfl) ?_
    refine Wl.iinc 41 #[.val (.ref b), .val (.int (Int32.ofNat (i + 1))), .val (.ref d), .val (.int (Int32.ofNat (i + 1))), .val (.int (Int32.ofNat cs.length)), .val (.int (Int32.ofNat (i + 1))), .val (.int cs[i])] (1 : Int32) d7_38 (by decide) rfl (by rw [nS]; rfl) ?_
    refine Wl.goto 3 d7_41 ?_
    exact ih (i + 1) h' _ (by omega) (Or.inr ⟨_, rfl, rfl⟩) (Kb.other W hne) Kd' (K.wr W (Or.inl (List.mem_of_getElem? (i := 0) rfl)))
theorem comp2_met (hw : ∀ d ∈ tables_1, d.before a0 Z = true) {h : Heap} {b d : Addr} {kb kd : ClassId} {cs : List Int32} (hn : cs.length < 65536) (hlat : ∀ c ∈ cs, Lat c) (hne : b ≠ d) (Kb : Arv Z h b kb .char (Int32.ofNat cs.length) (cs.map Value.int) (.int 0)) (Kd : Arv Z h d kd .byte (Int32.ofNat cs.length) (List.replicate cs.length (.int 0)) (.int 0)) :
    Met l Z consts_1 ⟨"java/lang/StringUTF16", "compress", "([CI[BII)I"⟩ jdk_52_method_21_code 7 (some .int) [] rm0 #[.ref b, .int 0, .ref d, .int 0, .int (Int32.ofNat cs.length)] h [d] (fun v h' => v = some (.int (Int32.ofNat cs.length)) ∧ Keep h h' [d] ∧ Arv Z h' d kd .byte (Int32.ofNat cs.length) (cs.map byV) (.int 0)) := by
  refine Met.of_walk (a0 := a0) (Ls := #[.val (.ref b), .val (.int 0), .val (.ref d), .val (.int 0), .val (.int (Int32.ofNat cs.length)), .unset, .unset]) (plainFor_of_name pn_utf16) (own_hEL hw) rfl ?_
  refine Wl.iconst 1 (0 : Int32) d7_0 (by decide) ?_
  refine Wl.istore 3 #[.val (.ref b), .val (.int 0), .val (.ref d), .val (.int 0), .val (.int (Int32.ofNat cs.length)), .val (.int 0), .unset] d7_1 rfl ?_
  exact comp2_loop hw hn hlat hne cs.length 0 h _ (by omega) (Or.inl rfl) Kb (by have e := fil_zero (cs.map byV) (.int 0); rw [List.length_map] at e; rw [e]; exact Kd) (Keep.refl h [d])
/-- compress(char[], int, int) -/
theorem comp1_met (hw : ∀ d ∈ tables_1, d.before a0 Z = true) {h : Heap} {b : Addr} {kb : ClassId} {cs : List Int32} {N : Nat} (hn : cs.length < 65536) (hN : cs.length ≤ N) (hN2 : N < 65536) (hlat : ∀ c ∈ cs, Lat c) (Kb : Arv Z h b kb .char (Int32.ofNat cs.length) (cs.map Value.int) (.int 0)) :
    Met l Z consts_1 ⟨"java/lang/StringUTF16", "compress", "([CII)[B"⟩ jdk_52_method_16_code 6 (some (.array .byte)) [] { frames := 1, cells := 1, slots := N, locals := 18 } #[.ref b, .int 0, .int (Int32.ofNat cs.length)] h [] (fun v h' => ∃ (d : Addr) (kd : ClassId), v = some (.ref d) ∧ h.size ≤ d ∧ Ext h h' ∧ Arv Z h' d kd .byte (Int32.ofNat cs.length) (cs.map byV) (.int 0)) := by
  refine Met.of_walk (a0 := a0) (Ls := #[.val (.ref b), .val (.int 0), .val (.int (Int32.ofNat cs.length)), .unset, .unset, .unset]) (plainFor_of_name pn_utf16) (own_hEL hw) rfl ?_
  refine Wl.iload_n 1 d6_0 rfl ?_
  refine Wl.newarray 3 N d6_1 (w26 hw) (nNn (by omega)) (by rw [nCl (by omega)]; exact hN) (by omega) (by show 0 + 1 ≤ 1; omega) (by show 0 + N ≤ N; omega) ?_
  intro d h1 kd q E A
  rw [nCl (by omega)] at A
  have A : Arv Z h1 d kd .byte (Int32.ofNat cs.length) (List.replicate cs.length (.int 0)) (.int 0) := A
  have hne : b ≠ d := Nat.ne_of_lt (by rw [q]; exact Kb.lt)
  refine Wl.astore_n 4 #[.val (.ref b), .val (.int 0), .val (.int (Int32.ofNat cs.length)), .val (.ref d), .unset, .unset] d6_3 rfl rfl ?_
  refine Wl.aload_n 5 d6_4 rfl rfl ?_
  refine Wl.iload_n 6 d6_5 rfl ?_
  refine Wl.aload_n 7 d6_6 rfl rfl ?_
  refine Wl.iconst 8 (0 : Int32) d6_7 (by decide) ?_
  refine Wl.iload_n 9 d6_8 rfl ?_
  refine Wl.static 12 (argsL := [.ref b, .int 0, .ref d, .int 0, .int (Int32.ofNat cs.length)]) d6_9 (w27 hw) (w28 hw) (w24 hw) (w29 hw) (show parseMethodDescriptor "([CI[BII)I" = some ⟨[.array .char, .int, .array .byte, .int, .int], some .int⟩ by decide +kernel) rfl (comp2_met hw hn hlat hne (Kb.ext E) A) (allS (List.mem_of_getElem? (i := 0) rfl) (fun _ q => nomatch q)) rfl rfl rfl (by decide) ⟨⟨by show 0 + 1 ≤ 1; omega, by show 0 + (7 + 11) + 0 ≤ 18; omega⟩, by show 0 + 1 + 0 ≤ 1; omega, by show 0 + N + 0 ≤ N; omega⟩ ?_
  intro v h2 hq _
  obtain ⟨rfl, K, A2⟩ := hq
  refine Wl.istore 14 #[.val (.ref b), .val (.int 0), .val (.int (Int32.ofNat cs.length)), .val (.ref d), .val (.int (Int32.ofNat cs.length)), .unset] d6_12 rfl ?_
  refine Wl.iload 16 d6_14 rfl ?_
  refine Wl.iload_n 17 d6_16 rfl ?_
  refine Wl.icmpY 57 d6_17 (teq rfl).1 ?_
  refine Wl.aload_n 58 d6_57 rfl rfl ?_
  exact Wl.areturn d6_58 rfl rfl rfl (by show 0 + 1 + 0 ≤ 1; omega) (by show 0 + N + 0 ≤ N; omega) ⟨d, kd, rfl, Nat.le_of_eq q.symm, extKeep E K (allS (Nat.le_of_eq q.symm) all0), A2⟩
/-- String(char[], int, int, Void) -/
theorem strV_met (hw : ∀ d ∈ tables_1, d.before a0 Z = true) (hcs : CSon Z) {h : Heap} {a b : Addr} {kb : ClassId} {cs : List Int32} {N : Nat} (hN : cs.length ≤ N) (hN2 : N < 65536) (hlat : ∀ c ∈ cs, Lat c) (E : Exa Z h a "java/lang/String") (FV : Fld Z h a "java/lang/String" "value" "[B" .null) (FC : Fld Z h a "java/lang/String" "coder" "B" (.int 0)) (Kb : Arv Z h b kb .char (Int32.ofNat cs.length) (cs.map Value.int) (.int 0)) :
    Met l Z consts_1 ⟨"java/lang/String", "<init>", "([CIILjava/lang/Void;)V"⟩ jdk_42_method_149_code 6 none [] { frames := 2, cells := 4, slots := N + 8, locals := 36 } #[.ref a, .ref b, .int 0, .int (Int32.ofNat cs.length), .null] h [a] (fun v h' => v = none ∧ Keep h h' [a] ∧ Stl Z h' a cs) := by
  refine Met.of_walk (a0 := a0) (Ls := #[.val (.ref a), .val (.ref b), .val (.int 0), .val (.int (Int32.ofNat cs.length)), .val .null, .unset]) (plainFor_of_name pn_str) (own_hEL hw) rfl ?_
  refine Wl.aload_n 1 d4_0 rfl rfl ?_
  refine Wl.initO 4 d4_1 (w18 hw) (w19 hw) (w20 hw) rfl (by show 1 ≤ 2; omega) (by show 0 + 12 ≤ 36; omega) ?_
  refine Wl.iload_n 5 d4_4 rfl ?_
  obtain ⟨cst, hS, hcn⟩ := hcs
  have L1 : Laid Z a0 "java/lang/String" "java/lang/String" "value" "[B" := Or.inr (w36 hw)
  have L2 : Laid Z a0 "java/lang/String" "java/lang/String" "coder" "B" := Or.inr (w34 hw)
  have hsl : Jvm.RoadKit.slotOf Z "java/lang/String" "value" "[B" ≠ Jvm.RoadKit.slotOf Z "java/lang/String" "coder" "B" := slot_ne L1 L2 (by decide) (t := .array .byte) (t' := .byte) (by decide) (by decide)
  by_cases h0 : cs = []
  · subst h0
    refine Wl.ifN 8 d4_5 (teq (by decide)).2 ?_
    refine Wl.aload_n 9 d4_8 rfl rfl ?_
    refine Wl.ldcS 11 0 (text := "") (vs := []) (z := (0 : Int32)) d4_9 (w235 hw) (own_wS hw) (by decide) ⟨by simp, rfl⟩ (by decide) (by decide) (by decide) (by decide) (by show 0 + 2 ≤ 4; omega) (by show 0 + (0 + 4) ≤ N + 8; omega) ?_
    intro x1 h1 b1 k1 E1 X1 C1 V1 A1 hnx1
    refine Wl.getfield 14 d4_11 (w35 hw) V1 ?_
    have na1 := hnx1 a (List.mem_of_getElem? (i := 0) rfl)
    refine Wl.putfield 17 d4_14 (w35 hw) (FV.ext E1) (E.ext E1) (Or.inr ⟨(w36 hw), rfl, rfl⟩) (w9 hw) (ty := .array .byte) (by decide) rfl rfl (List.mem_of_getElem? (i := 0) rfl) ?_
    intro h2 W2
    refine Wl.aload_n 18 d4_17 rfl rfl ?_
    refine Wl.ldcS 20 0 (text := "") (vs := []) (z := (0 : Int32)) d4_18 (w235 hw) (own_wS hw) (by decide) ⟨by simp, rfl⟩ (by decide) (by decide) (by decide) (by decide) (by show 0 + 2 + 2 ≤ 4; omega) (by show 0 + (0 + 4) + (0 + 4) ≤ N + 8; omega) ?_
    intro x3 h3 b3 k3 E3 X3 C3 V3 A3 hnx3
    refine Wl.getfield 23 d4_20 (w33 hw) C3 ?_
    refine Wl.putfield 26 d4_23 (w33 hw) (((FC.ext E1).other W2 (Or.inr hsl.symm)).ext E3) (((E.ext E1).wr W2).ext E3) (Or.inr ⟨(w34 hw), rfl, rfl⟩) (w9 hw) (ty := .byte) (by decide) rfl rfl (List.mem_of_getElem? (i := 0) rfl) ?_
    intro h4 W4
    refine Wl.return_ d4_26 rfl (by show 0 + 2 + 2 ≤ 4; omega) (by show 0 + (0 + 4) + (0 + 4) ≤ N + 8; omega) ⟨rfl, ?_, ?_⟩
    · exact ((((Keep.refl h [a]).ext E1).wr W2 (Or.inl (List.mem_of_getElem? (i := 0) rfl))).ext E3).wr W4 (Or.inl (List.mem_of_getElem? (i := 0) rfl))
    · refine ⟨b1, k1, (((E.ext E1).wr W2).ext E3).wr W4, (((FC.ext E1).other W2 (Or.inr hsl.symm)).ext E3).same W4, ((((FV.ext E1).same W2).ext E3).other W4 (Or.inr hsl)), (((A1.other W2 na1.2.symm).ext E3).other W4 na1.2.symm), (fun c hc => nomatch hc), by decide⟩
  · have hpos : 0 < cs.length := List.length_pos_iff.mpr h0
    refine Wl.ifY 27 d4_5 (feq (fun q => by have := congrArg Int32.toInt q; rw [nI (by omega), show (0 : Int32).toInt = 0 by decide] at this; omega)).2 ?_
    refine Wl.getstatic 30 d4_27 (w21 hw) hS ?_
    refine Wl.ifN 33 d4_30 (feq hcn).1 ?_
    refine Wl.aload_n 34 d4_33 rfl rfl ?_
    refine Wl.iload_n 35 d4_34 rfl ?_
    refine Wl.iload_n 36 d4_35 rfl ?_
    refine Wl.static 39 (argsL := [.ref b, .int 0, .int (Int32.ofNat cs.length)]) d4_36 (w22 hw) (w23 hw) (w24 hw) (w25 hw) (show parseMethodDescriptor "([CII)[B" = some ⟨[.array .char, .int, .int], some (.array .byte)⟩ by decide +kernel) rfl (comp1_met hw (by omega) hN hN2 hlat Kb) (fun _ q => nomatch q) rfl rfl rfl (by decide) ⟨⟨by show 1 + 1 ≤ 2; omega, by show 0 + (6 + 11) + 18 ≤ 36; omega⟩, by show 0 + 1 ≤ 4; omega, by show 0 + N ≤ N + 8; omega⟩ ?_
    intro v h1 hq _
    obtain ⟨d, kd, rfl, hd, E1, A1⟩ := hq
    have hne : d ≠ a := Nat.ne_of_gt (Nat.lt_of_lt_of_le E.lt hd)
    refine Wl.astore 41 #[.val (.ref a), .val (.ref b), .val (.int 0), .val (.int (Int32.ofNat cs.length)), .val .null, .val (.ref d)] d4_39 rfl rfl ?_
    refine Wl.aload_n 42 d4_41 rfl rfl ?_
    refine Wl.aload 44 d4_42 rfl rfl ?_
    refine Wl.iload_n 45 d4_44 rfl ?_
    refine Wl.static 48 (argsL := [.ref d, .int (Int32.ofNat cs.length)]) d4_45 (w30 hw) (w31 hw) (w24 hw) (w32 hw) (show parseMethodDescriptor "([BI)B" = some ⟨[.array .byte, .int], some .byte⟩ by decide +kernel) rfl (coderLen_met hw A1) (fun _ q => nomatch q) rfl rfl rfl (by decide) ⟨⟨by show 0 + 1 ≤ 2; omega, by show 1 + (2 + 11) + 0 ≤ 36; omega⟩, by show 0 + 1 + 0 ≤ 4; omega, by show 0 + N + 0 ≤ N + 8; omega⟩ ?_
    intro v h2 hq _
    obtain ⟨rfl, rfl⟩ := hq
    have e0 : ((Int32.ofNat cs.length - Int32.ofNat cs.length).toUInt32 >>> ((31 : Int32) &&& 31).toUInt32).toInt32.toInt8.toInt32 = 0 := by rw [Int32.sub_self]; decide
    rw [e0]
    refine Wl.putfield 51 d4_48 (w33 hw) (FC.ext E1) (E.ext E1) (Or.inr ⟨(w34 hw), rfl, rfl⟩) (w9 hw) (ty := .byte) (by decide) rfl rfl (List.mem_of_getElem? (i := 0) rfl) ?_
    intro h3 W3
    refine Wl.aload_n 52 d4_51 rfl rfl ?_
    refine Wl.aload 54 d4_52 rfl rfl ?_
    refine Wl.putfield 57 d4_54 (w35 hw) ((FV.ext E1).other W3 (Or.inr hsl)) ((E.ext E1).wr W3) (Or.inr ⟨(w36 hw), rfl, rfl⟩) (w9 hw) (ty := .array .byte) (by decide) rfl rfl (List.mem_of_getElem? (i := 0) rfl) ?_
    intro h4 W4
    refine Wl.return_ d4_57 rfl (by show 0 + 1 + 0 ≤ 4; omega) (by show 0 + N + 0 ≤ N + 8; omega) ⟨rfl, ?_, ?_⟩
    · exact ((((Keep.refl h [a]).ext E1)).wr W3 (Or.inl (List.mem_of_getElem? (i := 0) rfl))).wr W4 (Or.inl (List.mem_of_getElem? (i := 0) rfl))
    · exact ⟨d, kd, ((E.ext E1).wr W3).wr W4, ((FC.ext E1).same W3).other W4 (Or.inr hsl.symm), ((FV.ext E1).other W3 (Or.inr hsl)).same W4, (A1.other W3 hne).other W4 hne, hlat, by omega⟩
/-- String(char[]) -/
theorem strC_met (hw : ∀ d ∈ tables_1, d.before a0 Z = true) (hcs : CSon Z) {h : Heap} {a b : Addr} {kb : ClassId} {cs : List Int32} (N : Nat) (hN : cs.length ≤ N) (hN2 : N < 65536) (hlat : ∀ c ∈ cs, Lat c) (E : Exa Z h a "java/lang/String") (FV : Fld Z h a "java/lang/String" "value" "[B" .null) (FC : Fld Z h a "java/lang/String" "coder" "B" (.int 0)) (Kb : Arv Z h b kb .char (Int32.ofNat cs.length) (cs.map Value.int) (.int 0)) :
    Met l Z consts_1 ⟨"java/lang/String", "<init>", "([C)V"⟩ jdk_42_method_3_code 2 none [] { frames := 3, cells := 4, slots := N + 8, locals := 53 } #[.ref a, .ref b] h [a] (fun v h' => v = none ∧ Keep h h' [a] ∧ Stl Z h' a cs) := by
  refine Met.of_walk (a0 := a0) (Ls := #[.val (.ref a), .val (.ref b)]) (plainFor_of_name pn_str) (own_hEL hw) rfl ?_
  refine Wl.aload_n 1 d3_0 rfl rfl ?_
  refine Wl.aload_n 2 d3_1 rfl rfl ?_
  refine Wl.iconst 3 (0 : Int32) d3_2 (by decide) ?_
  refine Wl.aload_n 4 d3_3 rfl rfl ?_
  refine Wl.arraylength 5 d3_4 Kb ?_
  refine Wl.aconst_null 6 d3_5 ?_
  refine Wl.special 9 (argsL := [.ref b, .int 0, .int (Int32.ofNat cs.length), .null]) d3_6 (w14 hw) (w15 hw) (w10 hw) (w17 hw) (show parseMethodDescriptor "([CIILjava/lang/Void;)V" = some ⟨[.array .char, .int, .int, .object "java/lang/Void"], none⟩ by decide +kernel) rfl (strV_met hw hcs hN hN2 hlat E FV FC Kb) (allS (List.mem_of_getElem? (i := 0) rfl) (fun _ q => nomatch q)) rfl rfl rfl rfl (by decide) ⟨⟨by show 2 + 1 ≤ 3; omega, by show 0 + (6 + 11) + 36 ≤ 53; omega⟩, by show 0 + 4 ≤ 4; omega, by show 0 + (N + 8) ≤ N + 8; omega⟩ ?_
  intro v h1 hq _
  obtain ⟨rfl, K1, S1⟩ := hq
  exact Wl.return_ d3_9 rfl (by show 0 + 4 ≤ 4; omega) (by show 0 + (N + 8) ≤ N + 8; omega) ⟨rfl, K1, S1⟩
end StrInit

section OpLen
variable {l : Launch} {Z : State} {a0 : Array Value}
theorem coder_met (hw : ∀ d ∈ tables_1, d.before a0 Z = true) (hcs : CSon Z) {h : Heap} {a : Addr} {cd : Int32} (hnar : narrow .byte (.int cd) = .int cd) (FC : Fld Z h a "java/lang/String" "coder" "B" (.int cd)) :
    Met l Z consts_1 ⟨"java/lang/String", "coder", "()B"⟩ jdk_42_method_152_code 1 (some .byte) [] rm0 #[.ref a] h [] (fun v h' => v = some (.int cd) ∧ h = h') := by
  obtain ⟨cst, hS, hcn⟩ := hcs
  refine Met.of_walk (a0 := a0) (Ls := #[.val (.ref a)]) (plainFor_of_name pn_str) (own_hEL hw) rfl ?_
  refine Wl.getstatic 3 d15_0 (w21 hw) hS ?_
  refine Wl.ifN 6 d15_3 (feq hcn).1 ?_
  refine Wl.aload_n 7 d15_6 rfl rfl ?_
  refine Wl.getfield 10 d15_7 (w33 hw) FC ?_
  refine Wl.goto 14 d15_10 ?_
  exact Wl.ireturn (t := .byte) d15_14 rfl hnar (by simp) (nle rfl) (nle rfl) ⟨rfl, rfl⟩
theorem len_met (hw : ∀ d ∈ tables_1, d.before a0 Z = true) (hcs : CSon Z) {h : Heap} {a : Addr} {cs : List Int32} (S : Stl Z h a cs) :
    Met l Z consts_1 ⟨"java/lang/String", "length", "()I"⟩ jdk_42_method_54_code 1 (some .int) [] { frames := 1, cells := 0, slots := 0, locals := 13 } #[.ref a] h [] (fun v h' => v = some (.int (Int32.ofNat cs.length)) ∧ h = h') := by
  obtain ⟨b, kb, X, C, Vl, A, hlat, hn⟩ := S
  refine Met.of_walk (a0 := a0) (Ls := #[.val (.ref a)]) (plainFor_of_name pn_str) (own_hEL hw) rfl ?_
  refine Wl.aload_n 1 d14_0 rfl rfl ?_
  refine Wl.getfield 4 d14_1 (w35 hw) Vl ?_
  refine Wl.arraylength 5 d14_4 A ?_
  refine Wl.aload_n 6 d14_5 rfl rfl ?_
  refine Wl.virtual 9 (argsL := []) d14_6 (w71 hw) (w72 hw) (w74 hw) (w73 hw) (w10 hw) (w75 hw) (nf_sel (w74 hw) rfl) X (show parseMethodDescriptor "()B" = some ⟨[], some .byte⟩ by decide +kernel) rfl (coder_met hw hcs rfl C) (fun _ q => nomatch q) rfl rfl rfl (by decide) ⟨⟨nle rfl, nle rfl⟩, nle rfl, nle rfl⟩ ?_
  intro v h1 hq _
  obtain ⟨rfl, rfl⟩ := hq
  show Wl _ _ _ _ _ _ _ _ _ _ _ _ _ _ _ _ _ [.int 0, .int (Int32.ofNat cs.length)]
  refine Wl.ishr 10 d14_9 ?_
  rw [show (Int32.ofNat cs.length >>> ((0 : Int32) &&& 31)) = Int32.ofNat cs.length by simp]
  exact Wl.ireturn (t := .int) d14_10 rfl rfl (by simp) (nle rfl) (nle rfl) ⟨rfl, rfl⟩
end OpLen

/-- the formatter of an index that lies outside: a reference -/
def Fmt (Z : State) : Prop := ∃ f : Value, Sta Z Z.heap "jdk/internal/util/Preconditions" "SIOOBE_FORMATTER" "Ljava/util/function/BiFunction;" f ∧ f.isRef = true
section OpChar
variable {l : Launch} {Z : State} {a0 : Array Value}
theorem pn_prec : plainName "jdk/internal/util/Preconditions" = true := by first | (simp [plainName, overriddenIn]; done) | decide +kernel
theorem pn_lat : plainName "java/lang/StringLatin1" = true := by first | (simp [plainName, overriddenIn]; done) | decide +kernel
theorem isLatin1_met (hw : ∀ d ∈ tables_1, d.before a0 Z = true) (hcs : CSon Z) {h : Heap} {a : Addr} (FC : Fld Z h a "java/lang/String" "coder" "B" (.int 0)) :
    Met l Z consts_1 ⟨"java/lang/String", "isLatin1", "()Z"⟩ jdk_42_method_154_code 1 (some .boolean) [] rm0 #[.ref a] h [] (fun v h' => v = some (.int 1) ∧ h = h') := by
  obtain ⟨cst, hS, hcn⟩ := hcs
  refine Met.of_walk (a0 := a0) (Ls := #[.val (.ref a)]) (plainFor_of_name pn_str) (own_hEL hw) rfl ?_
  refine Wl.getstatic 3 d13_0 (w21 hw) hS ?_
  refine Wl.ifN 6 d13_3 (feq hcn).1 ?_
  refine Wl.aload_n 7 d13_6 rfl rfl ?_
  refine Wl.getfield 10 d13_7 (w33 hw) FC ?_
  refine Wl.ifN 13 d13_10 (teq rfl).2 ?_
  refine Wl.iconst 14 (1 : Int32) d13_13 (by decide) ?_
  refine Wl.goto 18 d13_14 ?_
  exact Wl.ireturn (t := .boolean) d13_18 rfl rfl (by simp) (nle rfl) (nle rfl) ⟨rfl, rfl⟩
theorem chk_met (hw : ∀ d ∈ tables_1, d.before a0 Z = true) {h : Heap} {i z : Int32} {f : Value} (hf : f.isRef = true) (h1 : ¬ i < 0) (h2 : i < z) :
    Met l Z consts_1 ⟨"jdk/internal/util/Preconditions", "checkIndex", "(IILjava/util/function/BiFunction;)I"⟩ jdk_41_method_11_code 3 (some .int) [] rm0 #[.int i, .int z, f] h [] (fun v h' => v = some (.int i) ∧ h = h') := by
  refine Met.of_walk (a0 := a0) (Ls := #[.val (.int i), .val (.int z), .val f]) (plainFor_of_name pn_prec) (own_hEL hw) (by rcases ref_cases hf with rfl | ⟨x, rfl⟩ <;> rfl) ?_
  refine Wl.iload_n 1 d35_0 rfl ?_
  refine Wl.ifN 4 d35_1 (flt h1).1 ?_
  refine Wl.iload_n 5 d35_4 rfl ?_
  refine Wl.iload_n 6 d35_5 rfl ?_
  refine Wl.icmpY 16 d35_6 (tlt h2).1 ?_
  refine Wl.iload_n 17 d35_16 rfl ?_
  exact Wl.ireturn (t := .int) d35_17 rfl rfl (by simp) (nle rfl) (nle rfl) ⟨rfl, rfl⟩
theorem chkS_met (hw : ∀ d ∈ tables_1, d.before a0 Z = true) (hfm : Fmt Z) {h : Heap} {i z : Int32} (h1 : ¬ i < 0) (h2 : i < z) :
    Met l Z consts_1 ⟨"java/lang/String", "checkIndex", "(II)V"⟩ jdk_42_method_155_code 2 none [] { frames := 1, cells := 0, slots := 0, locals := 14 } #[.int i, .int z] h [] (fun v h' => v = none ∧ h = h') := by
  obtain ⟨f, hS, hf⟩ := hfm
  refine Met.of_walk (a0 := a0) (Ls := #[.val (.int i), .val (.int z)]) (plainFor_of_name pn_str) (own_hEL hw) rfl ?_
  refine Wl.iload_n 1 d34_0 rfl ?_
  refine Wl.iload_n 2 d34_1 rfl ?_
  refine Wl.getstatic 5 d34_2 (w177 hw) hS ?_
  refine Wl.static 8 (argsL := [.int i, .int z, f]) d34_5 (w179 hw) (w180 hw) (w178 hw) (w181 hw) (show parseMethodDescriptor "(IILjava/util/function/BiFunction;)I" = some ⟨[.int, .int, .object "java/util/function/BiFunction"], some .int⟩ by decide +kernel) rfl (chk_met hw hf h1 h2) (fun _ q => nomatch q) rfl rfl rfl (by decide) ⟨⟨nle rfl, nle rfl⟩, nle rfl, nle rfl⟩ ?_
  intro v h1 hq _
  obtain ⟨rfl, rfl⟩ := hq
  show Wl _ _ _ _ _ _ _ _ _ _ _ _ _ _ _ _ _ [.int i]
  refine Wl.pop 9 d34_8 rfl ?_
  exact Wl.return_ d34_9 rfl (nle rfl) (nle rfl) ⟨rfl, rfl⟩
theorem charL_met (hw : ∀ d ∈ tables_1, d.before a0 Z = true) (hfm : Fmt Z) {h : Heap} {b : Addr} {kb : ClassId} {cs : List Int32} (A : Arv Z h b kb .byte (Int32.ofNat cs.length) (cs.map byV) (.int 0)) (hlat : ∀ c ∈ cs, Lat c) (hn : cs.length < 65536) {i : Nat} (hi : i < cs.length) :
    Met l Z consts_1 ⟨"java/lang/StringLatin1", "charAt", "([BI)C"⟩ jdk_43_method_2_code 2 (some .char) [] { frames := 2, cells := 0, slots := 0, locals := 27 } #[.ref b, .int (Int32.ofNat i)] h [] (fun v h' => v = some (.int cs[i]) ∧ h = h') := by
  have hl : Lat cs[i] := hlat _ (List.getElem_mem hi)
  refine Met.of_walk (a0 := a0) (Ls := #[.val (.ref b), .val (.int (Int32.ofNat i))]) (plainFor_of_name pn_lat) (own_hEL hw) rfl ?_
  refine Wl.iload_n 1 d33_0 rfl ?_
  refine Wl.aload_n 2 d33_1 rfl rfl ?_
  refine Wl.arraylength 3 d33_2 A ?_
  refine Wl.static 6 (argsL := [.int (Int32.ofNat i), .int (Int32.ofNat cs.length)]) d33_3 (w174 hw) (w175 hw) (w10 hw) (w176 hw) (show parseMethodDescriptor "(II)V" = some ⟨[.int, .int], none⟩ by decide +kernel) rfl (chkS_met hw hfm (nNn (by omega)) ((nLt (by omega) (by omega)).mpr hi)) (fun _ q => nomatch q) rfl rfl rfl (by decide) ⟨⟨nle rfl, nle rfl⟩, nle rfl, nle rfl⟩ ?_
  intro v h1 hq _
  obtain ⟨rfl, rfl⟩ := hq
  show Wl _ _ _ _ _ _ _ _ _ _ _ _ _ _ _ _ _ []
  refine Wl.aload_n 7 d33_6 rfl rfl ?_
  refine Wl.iload_n 8 d33_7 rfl ?_
  refine Wl.baload 9 i d33_8 A (nNn (by omega)) (nCl (by omega)) (by rw [nCl (by omega)]; exact hi) (v := .int (cs[i]).toInt8.toInt32) (by simp [List.getD_eq_getElem?_getD, hi, byV]) ?_
  refine Wl.sipush 12 (255 : Int32) d33_9 (by decide) ?_
  refine Wl.iand 13 d33_12 ?_
  refine Wl.i2c 14 d33_13 ?_
  rw [lo8 hl, i2c_id hl.ch]
  exact Wl.ireturn (t := .char) d33_14 rfl (narC hl.ch) (by simp) (nle rfl) (nle rfl) ⟨rfl, rfl⟩
theorem charAt_met (hw : ∀ d ∈ tables_1, d.before a0 Z = true) (hcs : CSon Z) (hfm : Fmt Z) {h : Heap} {a : Addr} {cs : List Int32} (S : Stl Z h a cs) {i : Nat} (hi : i < cs.length) :
    Met l Z consts_1 ⟨"java/lang/String", "charAt", "(I)C"⟩ jdk_42_method_56_code 2 (some .char) [] { frames := 3, cells := 0, slots := 0, locals := 40 } #[.ref a, .int (Int32.ofNat i)] h [] (fun v h' => v = some (.int cs[i]) ∧ h = h') := by
  obtain ⟨b, kb, X, C, Vl, A, hlat, hn⟩ := S
  have hl : Lat cs[i] := hlat _ (List.getElem_mem hi)
  refine Met.of_walk (a0 := a0) (Ls := #[.val (.ref a), .val (.int (Int32.ofNat i))]) (plainFor_of_name pn_str) (own_hEL hw) rfl ?_
  refine Wl.aload_n 1 d32_0 rfl rfl ?_
  refine Wl.virtual 4 (argsL := []) d32_1 (w61 hw) (w62 hw) (w64 hw) (w63 hw) (w10 hw) (w65 hw) (nf_sel (w64 hw) rfl) X (show parseMethodDescriptor "()Z" = some ⟨[], some .boolean⟩ by decide +kernel) rfl (isLatin1_met hw hcs C) (fun _ q => nomatch q) rfl rfl rfl (by decide) ⟨⟨nle rfl, nle rfl⟩, nle rfl, nle rfl⟩ ?_
  intro v h1 hq _
  obtain ⟨rfl, rfl⟩ := hq
  show Wl _ _ _ _ _ _ _ _ _ _ _ _ _ _ _ _ _ [.int 1]
  refine Wl.ifN 7 d32_4 (by decide) ?_
  refine Wl.aload_n 8 d32_7 rfl rfl ?_
  refine Wl.getfield 11 d32_8 (w35 hw) Vl ?_
  refine Wl.iload_n 12 d32_11 rfl ?_
  refine Wl.static 15 (argsL := [.ref b, .int (Int32.ofNat i)]) d32_12 (w171 hw) (w172 hw) (w78 hw) (w173 hw) (show parseMethodDescriptor "([BI)C" = some ⟨[.array .byte, .int], some .char⟩ by decide +kernel) rfl (charL_met hw hfm A hlat hn hi) (fun _ q => nomatch q) rfl rfl rfl (by decide) ⟨⟨nle rfl, nle rfl⟩, nle rfl, nle rfl⟩ ?_
  intro v h2 hq _
  obtain ⟨rfl, rfl⟩ := hq
  show Wl _ _ _ _ _ _ _ _ _ _ _ _ _ _ _ _ _ [.int cs[i]]
  exact Wl.ireturn (t := .char) d32_15 rfl (narC hl.ch) (by simp) (nle rfl) (nle rfl) ⟨rfl, rfl⟩
end OpChar

/-! String.indexOf(int): the first place of a Latin-1 char -/
def idxF (c : Int32) : Nat → List Int32 → Int32
  | _, [] => -1
  | k, x :: xs => if x = c then Int32.ofNat k else idxF c (k + 1) xs
theorem idxF_spec (c : Int32) : ∀ (xs : List Int32) (k : Nat), (idxF c k xs = -1 ∧ ∀ x ∈ xs, x ≠ c) ∨ (∃ n, n < xs.length ∧ idxF c k xs = Int32.ofNat (k + n) ∧ (∀ m (hm : m < xs.length), m < n → xs[m] ≠ c) ∧ ∀ h : n < xs.length, xs[n] = c)
  | [], k => Or.inl ⟨rfl, fun _ q => nomatch q⟩
  | x :: xs, k => by
    by_cases h : x = c
    · exact Or.inr ⟨0, Nat.zero_lt_succ _, by simp [idxF, h], fun m _ q => absurd q (Nat.not_lt_zero _), fun _ => h⟩
    · have e : idxF c k (x :: xs) = idxF c (k + 1) xs := by simp [idxF, h]
      rcases idxF_spec c xs (k + 1) with ⟨h1, h2⟩ | ⟨n, h1, h2, h3, h4⟩
      · exact Or.inl ⟨e.trans h1, fun z hz => (List.mem_cons.mp hz).elim (fun q => q ▸ h) (h2 z)⟩
      · refine Or.inr ⟨n + 1, Nat.succ_lt_succ h1, by rw [e, h2]; congr 1; omega, fun m hm hn => ?_, fun _ => h4 h1⟩
        cases m with
        | zero => exact h
        | succ m => exact h3 m (Nat.lt_of_succ_lt_succ hm) (Nat.lt_of_succ_lt_succ hn)
section OpIdx
variable {l : Launch} {Z : State} {a0 : Array Value}
theorem canEnc_met (hw : ∀ d ∈ tables_1, d.before a0 Z = true) {h : Heap} {c : Int32} (q : Lat c) :
    Met l Z consts_1 ⟨"java/lang/StringLatin1", "canEncode", "(I)Z"⟩ jdk_43_method_4_code 1 (some .boolean) [] rm0 #[.int c] h [] (fun v h' => v = some (.int 1) ∧ h = h') := by
  refine Met.of_walk (a0 := a0) (Ls := #[.val (.int c)]) (plainFor_of_name pn_lat) (own_hEL hw) rfl ?_
  refine Wl.iload_n 1 d17_0 rfl ?_
  refine Wl.ifN 4 d17_1 (flt (latNn q)).1 ?_
  refine Wl.iload_n 5 d17_4 rfl ?_
  refine Wl.sipush 8 (255 : Int32) d17_5 (by decide) ?_
  refine Wl.icmpN 11 d17_8 (flt (lat_le q)).2.2.1 ?_
  refine Wl.iconst 12 (1 : Int32) d17_11 (by decide) ?_
  refine Wl.goto 16 d17_12 ?_
  exact Wl.ireturn (t := .boolean) d17_16 rfl rfl (by simp) (nle rfl) (nle rfl) ⟨rfl, rfl⟩
theorem max_met (hw : ∀ d ∈ tables_1, d.before a0 Z = true) {h : Heap} {x z : Int32} (q : ¬ x < z) :
    Met l Z consts_1 ⟨"java/lang/Math", "max", "(II)I"⟩ jdk_29_method_65_code 2 (some .int) [] rm0 #[.int x, .int z] h [] (fun v h' => v = some (.int x) ∧ h = h') := by
  refine Met.of_walk (a0 := a0) (Ls := #[.val (.int x), .val (.int z)]) (Jvm.Free.JP.mathPlain rfl (by decide +kernel)) (own_hEL hw) rfl ?_
  refine Wl.iload_n 1 d18_0 rfl ?_
  refine Wl.iload_n 2 d18_1 rfl ?_
  refine Wl.icmpN 5 d18_2 (flt q).1 ?_
  refine Wl.iload_n 6 d18_5 rfl ?_
  refine Wl.goto 10 d18_6 ?_
  exact Wl.ireturn (t := .int) d18_10 rfl rfl (by simp) (nle rfl) (nle rfl) ⟨rfl, rfl⟩
theorem min_met (hw : ∀ d ∈ tables_1, d.before a0 Z = true) {h : Heap} {x z : Int32} (q : ¬ z < x) :
    Met l Z consts_1 ⟨"java/lang/Math", "min", "(II)I"⟩ jdk_29_method_69_code 2 (some .int) [] rm0 #[.int x, .int z] h [] (fun v h' => v = some (.int x) ∧ h = h') := by
  refine Met.of_walk (a0 := a0) (Ls := #[.val (.int x), .val (.int z)]) (Jvm.Free.JP.mathPlain rfl (by decide +kernel)) (own_hEL hw) rfl ?_
  refine Wl.iload_n 1 d19_0 rfl ?_
  refine Wl.iload_n 2 d19_1 rfl ?_
  refine Wl.icmpN 5 d19_2 (flt q).2.2.1 ?_
  refine Wl.iload_n 6 d19_5 rfl ?_
  refine Wl.goto 10 d19_6 ?_
  exact Wl.ireturn (t := .int) d19_10 rfl rfl (by simp) (nle rfl) (nle rfl) ⟨rfl, rfl⟩
theorem min2_met (hw : ∀ d ∈ tables_1, d.before a0 Z = true) {h : Heap} {x z : Int32} (q : z < x) :
    Met l Z consts_1 ⟨"java/lang/Math", "min", "(II)I"⟩ jdk_29_method_69_code 2 (some .int) [] rm0 #[.int x, .int z] h [] (fun v h' => v = some (.int z) ∧ h = h') := by
  refine Met.of_walk (a0 := a0) (Ls := #[.val (.int x), .val (.int z)]) (Jvm.Free.JP.mathPlain rfl (by decide +kernel)) (own_hEL hw) rfl ?_
  refine Wl.iload_n 1 d19_0 rfl ?_
  refine Wl.iload_n 2 d19_1 rfl ?_
  refine Wl.icmpY 9 d19_2 (tlt q).2.2.1 ?_
  refine Wl.iload_n 10 d19_9 rfl ?_
  exact Wl.ireturn (t := .int) d19_10 rfl rfl (by simp) (nle rfl) (nle rfl) ⟨rfl, rfl⟩

/-- the loop of indexOfChar -/
theorem idxC_loop (hw : ∀ d ∈ tables_1, d.before a0 Z = true) {h : Heap} {b : Addr} {kb : ClassId} {cs : List Int32} {c : Int32} (hc : Lat c) (hn : cs.length < 65536) (hlat : ∀ c ∈ cs, Lat c) (A : Arv Z h b kb .byte (Int32.ofNat cs.length) (cs.map byV) (.int 0)) (j : Nat) :
    ∀ i, i + j = cs.length →
    Wl l Z a0 consts_1 ⟨"java/lang/StringLatin1", "indexOfChar", "([BIII)I"⟩ jdk_43_method_23_code 6 (some .int) rm0 #[.ref b, .int c, .int 0, .int (Int32.ofNat cs.length)] (fun v h' => v = some (.int (idxF c 0 cs)) ∧ h = h') [] h 0 0 7 #[.val (.ref b), .val (.int c), .val (.int 0), .val (.int (Int32.ofNat cs.length)), .val (.int c.toInt8.toInt32), .val (.int (Int32.ofNat i))] [] ∨ idxF c i (cs.drop i) ≠ idxF c 0 cs := by
  induction j with
  | zero =>
    intro i hi
    by_cases he : idxF c i (cs.drop i) = idxF c 0 cs
    · refine Or.inl ?_
      have hd : cs.drop i = [] := List.drop_eq_nil_of_le (by omega)
      rw [hd] at he
      refine Wl.iload 9 d20_7 rfl ?_
      refine Wl.iload_n 10 d20_9 rfl ?_
      refine Wl.icmpY 31 d20_10 (flt (fun q => by rw [nLt (by omega) (by omega)] at q; omega)).2.1 ?_
      refine Wl.iconst 32 (-1 : Int32) d20_31 (by decide) ?_
      exact Wl.ireturn (t := .int) d20_32 rfl rfl (by simp) (nle rfl) (nle rfl) ⟨by rw [← he]; rfl, rfl⟩
    · exact Or.inr he
  | succ j ih =>
    intro i hi
    by_cases he : idxF c i (cs.drop i) = idxF c 0 cs
    · refine Or.inl ?_
      have h1 : i < cs.length := by omega
      have hd : cs.drop i = cs[i] :: cs.drop (i + 1) := List.drop_eq_getElem_cons h1
      rw [hd] at he
      refine Wl.iload 9 d20_7 rfl ?_
      refine Wl.iload_n 10 d20_9 rfl ?_
      refine Wl.icmpN 13 d20_10 (tlt ((nLt (by omega) (by omega)).mpr h1)).2.1 ?_
      refine Wl.aload_n 14 d20_13 rfl rfl ?_
      refine Wl.iload 16 d20_14 rfl ?_
      refine Wl.baload 17 i d20_16 A (nNn (by omega)) (nCl (by omega)) (by rw [nCl (by omega)]; exact h1) (v := .int (cs[i]).toInt8.toInt32) (by simp [List.getD_eq_getElem?_getD, h1, byV]) ?_
      refine Wl.iload 19 d20_17 rfl ?_
      by_cases hx : cs[i] = c
      · refine Wl.icmpN 22 d20_19 (teq (by rw [hx])).2 ?_
        refine Wl.iload 24 d20_22 rfl ?_
        exact Wl.ireturn (t := .int) d20_24 rfl rfl (by simp) (nle rfl) (nle rfl) ⟨by rw [← he]; simp [idxF, hx], rfl⟩
      · refine Wl.icmpY 25 d20_19 (feq (fun q => hx (by rw [← lo8 (hlat _ (List.getElem_mem h1)), ← lo8 hc, q]))).2 ?_
        refine Wl.iinc 28 #[.val (.ref b), .val (.int c), .val (.int 0), .val (.int (Int32.ofNat cs.length)), .val (.int c.toInt8.toInt32), .val (.int (Int32.ofNat (i + 1)))] (1 : Int32) d20_25 (by decide) rfl (by rw [nS]; rfl) ?_
        refine Wl.goto 7 d20_28 ?_
        rcases ih (i + 1) (by omega) with g | g
        · exact g
        · exact absurd (by rw [← he]; simp [idxF, hx]) g
    · exact Or.inr he
theorem idxC_met (hw : ∀ d ∈ tables_1, d.before a0 Z = true) {h : Heap} {b : Addr} {kb : ClassId} {cs : List Int32} {c : Int32} (hc : Lat c) (hn : cs.length < 65536) (hlat : ∀ c ∈ cs, Lat c) (A : Arv Z h b kb .byte (Int32.ofNat cs.length) (cs.map byV) (.int 0)) :
    Met l Z consts_1 ⟨"java/lang/StringLatin1", "indexOfChar", "([BIII)I"⟩ jdk_43_method_23_code 6 (some .int) [] rm0 #[.ref b, .int c, .int 0, .int (Int32.ofNat cs.length)] h [] (fun v h' => v = some (.int (idxF c 0 cs)) ∧ h = h') := by
  refine Met.of_walk (a0 := a0) (Ls := #[.val (.ref b), .val (.int c), .val (.int 0), .val (.int (Int32.ofNat cs.length)), .unset, .unset]) (plainFor_of_name pn_lat) (own_hEL hw) rfl ?_
  refine Wl.iload_n 1 d20_0 rfl ?_
  refine Wl.i2b 2 d20_1 ?_
  refine Wl.istore 4 #[.val (.ref b), .val (.int c), .val (.int 0), .val (.int (Int32.ofNat cs.length)), .val (.int c.toInt8.toInt32), .unset] d20_2 rfl ?_
  refine Wl.iload_n 5 d20_4 rfl ?_
  refine Wl.istore 7 #[.val (.ref b), .val (.int c), .val (.int 0), .val (.int (Int32.ofNat cs.length)), .val (.int c.toInt8.toInt32), .val (.int 0)] d20_5 rfl ?_
  rcases idxC_loop (l := l) (a0 := a0) hw hc hn hlat A cs.length 0 (by omega) with g | g
  · exact g
  · exact absurd rfl g
theorem idxL_met (hw : ∀ d ∈ tables_1, d.before a0 Z = true) {h : Heap} {b : Addr} {kb : ClassId} {cs : List Int32} {c : Int32} (hc : Lat c) (hn : cs.length < 65536) (hlat : ∀ c ∈ cs, Lat c) (A : Arv Z h b kb .byte (Int32.ofNat cs.length) (cs.map byV) (.int 0)) :
    Met l Z consts_1 ⟨"java/lang/StringLatin1", "indexOf", "([BIII)I"⟩ jdk_43_method_22_code 4 (some .int) [] { frames := 1, cells := 0, slots := 0, locals := 17 } #[.ref b, .int c, .int 0, .int (Int32.ofNat cs.length)] h [] (fun v h' => v = some (.int (idxF c 0 cs)) ∧ h = h') := by
  refine Met.of_walk (a0 := a0) (Ls := #[.val (.ref b), .val (.int c), .val (.int 0), .val (.int (Int32.ofNat cs.length))]) (plainFor_of_name pn_lat) (own_hEL hw) rfl ?_
  refine Wl.iload_n 1 d16_0 rfl ?_
  refine Wl.static 4 (argsL := [.int c]) d16_1 (w80 hw) (w81 hw) (w78 hw) (w82 hw) (show parseMethodDescriptor "(I)Z" = some ⟨[.int], some .boolean⟩ by decide +kernel) rfl (canEnc_met hw hc) (fun _ q => nomatch q) rfl rfl rfl (by decide) ⟨⟨nle rfl, nle rfl⟩, nle rfl, nle rfl⟩ ?_
  intro v h1 hq _
  obtain ⟨rfl, rfl⟩ := hq
  show Wl _ _ _ _ _ _ _ _ _ _ _ _ _ _ _ _ _ [.int 1]
  refine Wl.ifY 9 d16_4 (by decide) ?_
  refine Wl.iload_n 10 d16_9 rfl ?_
  refine Wl.iconst 11 (0 : Int32) d16_10 (by decide) ?_
  refine Wl.static 14 (argsL := [.int 0, .int 0]) d16_11 (w83 hw) (w84 hw) (w85 hw) (w86 hw) (show parseMethodDescriptor "(II)I" = some ⟨[.int, .int], some .int⟩ by decide +kernel) rfl (max_met hw (by decide)) (fun _ q => nomatch q) rfl rfl rfl (by decide) ⟨⟨nle rfl, nle rfl⟩, nle rfl, nle rfl⟩ ?_
  intro v h2 hq _
  obtain ⟨rfl, rfl⟩ := hq
  show Wl _ _ _ _ _ _ _ _ _ _ _ _ _ _ _ _ _ [.int 0]
  refine Wl.istore_n 15 #[.val (.ref b), .val (.int c), .val (.int 0), .val (.int (Int32.ofNat cs.length))] d16_14 rfl ?_
  refine Wl.iload_n 16 d16_15 rfl ?_
  refine Wl.aload_n 17 d16_16 rfl rfl ?_
  refine Wl.arraylength 18 d16_17 A ?_
  refine Wl.static 21 (argsL := [.int (Int32.ofNat cs.length), .int (Int32.ofNat cs.length)]) d16_18 (w87 hw) (w88 hw) (w85 hw) (w89 hw) (show parseMethodDescriptor "(II)I" = some ⟨[.int, .int], some .int⟩ by decide +kernel) rfl (min_met hw Int32.lt_irrefl) (fun _ q => nomatch q) rfl rfl rfl (by decide) ⟨⟨nle rfl, nle rfl⟩, nle rfl, nle rfl⟩ ?_
  intro v h3 hq _
  obtain ⟨rfl, rfl⟩ := hq
  show Wl _ _ _ _ _ _ _ _ _ _ _ _ _ _ _ _ _ [.int (Int32.ofNat cs.length)]
  refine Wl.istore_n 22 #[.val (.ref b), .val (.int c), .val (.int 0), .val (.int (Int32.ofNat cs.length))] d16_21 rfl ?_
  refine Wl.iload_n 23 d16_22 rfl ?_
  refine Wl.iload_n 24 d16_23 rfl ?_
  by_cases h0 : cs = []
  · subst h0
    refine Wl.icmpN 27 d16_24 (by decide) ?_
    refine Wl.iconst 28 (-1 : Int32) d16_27 (by decide) ?_
    exact Wl.ireturn (t := .int) d16_28 rfl rfl (by simp) (nle rfl) (nle rfl) ⟨rfl, rfl⟩
  · have hpos : 0 < cs.length := List.length_pos_iff.mpr h0
    refine Wl.icmpY 29 d16_24 (tlt ((nLt (i := 0) (by omega) (by omega)).mpr hpos)).1 ?_
    refine Wl.aload_n 30 d16_29 rfl rfl ?_
    refine Wl.iload_n 31 d16_30 rfl ?_
    refine Wl.iload_n 32 d16_31 rfl ?_
    refine Wl.iload_n 33 d16_32 rfl ?_
    refine Wl.static 36 (argsL := [.ref b, .int c, .int 0, .int (Int32.ofNat cs.length)]) d16_33 (w90 hw) (w91 hw) (w78 hw) (w92 hw) (show parseMethodDescriptor "([BIII)I" = some ⟨[.array .byte, .int, .int, .int], some .int⟩ by decide +kernel) rfl (idxC_met hw hc hn hlat A) (fun _ q => nomatch q) rfl rfl rfl (by decide) ⟨⟨nle rfl, nle rfl⟩, nle rfl, nle rfl⟩ ?_
    intro v h4 hq _
    obtain ⟨rfl, rfl⟩ := hq
    show Wl _ _ _ _ _ _ _ _ _ _ _ _ _ _ _ _ _ [.int (idxF c 0 cs)]
    exact Wl.ireturn (t := .int) d16_36 rfl rfl (by simp) (nle rfl) (nle rfl) ⟨rfl, rfl⟩
theorem idx2_met (hw : ∀ d ∈ tables_1, d.before a0 Z = true) (hcs : CSon Z) {h : Heap} {a : Addr} {cs : List Int32} {c : Int32} (hc : Lat c) (S : Stl Z h a cs) :
    Met l Z consts_1 ⟨"java/lang/String", "indexOf", "(II)I"⟩ jdk_42_method_80_code 3 (some .int) [] { frames := 2, cells := 0, slots := 0, locals := 32 } #[.ref a, .int c, .int 0] h [] (fun v h' => v = some (.int (idxF c 0 cs)) ∧ h = h') := by
  have S0 := S
  obtain ⟨b, kb, X, C, Vl, A, hlat, hn⟩ := S
  refine Met.of_walk (a0 := a0) (Ls := #[.val (.ref a), .val (.int c), .val (.int 0)]) (plainFor_of_name pn_str) (own_hEL hw) rfl ?_
  refine Wl.aload_n 1 d12_0 rfl rfl ?_
  refine Wl.virtual 4 (argsL := []) d12_1 (w61 hw) (w62 hw) (w64 hw) (w63 hw) (w10 hw) (w65 hw) (nf_sel (w64 hw) rfl) X (show parseMethodDescriptor "()Z" = some ⟨[], some .boolean⟩ by decide +kernel) rfl (isLatin1_met hw hcs C) (fun _ q => nomatch q) rfl rfl rfl (by decide) ⟨⟨nle rfl, nle rfl⟩, nle rfl, nle rfl⟩ ?_
  intro v h1 hq _
  obtain ⟨rfl, rfl⟩ := hq
  show Wl _ _ _ _ _ _ _ _ _ _ _ _ _ _ _ _ _ [.int 1]
  refine Wl.ifN 7 d12_4 (by decide) ?_
  refine Wl.aload_n 8 d12_7 rfl rfl ?_
  refine Wl.getfield 11 d12_8 (w35 hw) Vl ?_
  refine Wl.iload_n 12 d12_11 rfl ?_
  refine Wl.iload_n 13 d12_12 rfl ?_
  refine Wl.aload_n 14 d12_13 rfl rfl ?_
  refine Wl.virtual 17 (argsL := []) d12_14 (w66 hw) (w67 hw) (w69 hw) (w68 hw) (w10 hw) (w70 hw) (nf_sel (w69 hw) rfl) X (show parseMethodDescriptor "()I" = some ⟨[], some .int⟩ by decide +kernel) rfl (len_met hw hcs S0) (fun _ q => nomatch q) rfl rfl rfl (by decide) ⟨⟨nle rfl, nle rfl⟩, nle rfl, nle rfl⟩ ?_
  intro v h2 hq _
  obtain ⟨rfl, rfl⟩ := hq
  show Wl _ _ _ _ _ _ _ _ _ _ _ _ _ _ _ _ _ [.int (Int32.ofNat cs.length), .int 0, .int c, .ref b]
  refine Wl.static 20 (argsL := [.ref b, .int c, .int 0, .int (Int32.ofNat cs.length)]) d12_17 (w76 hw) (w77 hw) (w78 hw) (w79 hw) (show parseMethodDescriptor "([BIII)I" = some ⟨[.array .byte, .int, .int, .int], some .int⟩ by decide +kernel) rfl (idxL_met hw hc hn hlat A) (fun _ q => nomatch q) rfl rfl rfl (by decide) ⟨⟨nle rfl, nle rfl⟩, nle rfl, nle rfl⟩ ?_
  intro v h3 hq _
  obtain ⟨rfl, rfl⟩ := hq
  show Wl _ _ _ _ _ _ _ _ _ _ _ _ _ _ _ _ _ [.int (idxF c 0 cs)]
  refine Wl.goto 36 d12_20 ?_
  exact Wl.ireturn (t := .int) d12_36 rfl rfl (by simp) (nle rfl) (nle rfl) ⟨rfl, rfl⟩
theorem idx1_met (hw : ∀ d ∈ tables_1, d.before a0 Z = true) (hcs : CSon Z) {h : Heap} {a : Addr} {cs : List Int32} {c : Int32} (hc : Lat c) (S : Stl Z h a cs) :
    Met l Z consts_1 ⟨"java/lang/String", "indexOf", "(I)I"⟩ jdk_42_method_79_code 2 (some .int) [] { frames := 3, cells := 0, slots := 0, locals := 46 } #[.ref a, .int c] h [] (fun v h' => v = some (.int (idxF c 0 cs)) ∧ h = h') := by
  refine Met.of_walk (a0 := a0) (Ls := #[.val (.ref a), .val (.int c)]) (plainFor_of_name pn_str) (own_hEL hw) rfl ?_
  refine Wl.aload_n 1 d11_0 rfl rfl ?_
  refine Wl.iload_n 2 d11_1 rfl ?_
  refine Wl.iconst 3 (0 : Int32) d11_2 (by decide) ?_
  refine Wl.virtual 6 (argsL := [.int c, .int 0]) d11_3 (w56 hw) (w57 hw) (w59 hw) (w58 hw) (w10 hw) (w60 hw) (nf_sel (w59 hw) rfl) S.exa (show parseMethodDescriptor "(II)I" = some ⟨[.int, .int], some .int⟩ by decide +kernel) rfl (idx2_met hw hcs hc S) (fun _ q => nomatch q) rfl rfl rfl (by decide) ⟨⟨nle rfl, nle rfl⟩, nle rfl, nle rfl⟩ ?_
  intro v h1 hq _
  obtain ⟨rfl, rfl⟩ := hq
  show Wl _ _ _ _ _ _ _ _ _ _ _ _ _ _ _ _ _ [.int (idxF c 0 cs)]
  exact Wl.ireturn (t := .int) d11_6 rfl rfl (by simp) (nle rfl) (nle rfl) ⟨rfl, rfl⟩
end OpIdx

/-! String.substring(int, int) of a Latin-1 String -/
theorem rng_map (xs : List Int32) (i n : Nat) (h : i + n ≤ xs.length) : (List.range n).map (fun t => (xs.map byV).getD (i + t) (.int 0)) = ((xs.drop i).take n).map byV := by
  apply List.ext_getElem
  · simp; omega
  · intro k h1 h2
    have hk : k < n := by simpa using h1
    have hk2 : i + k < xs.length := by omega
    simp [List.getD_eq_getElem?_getD, hk2]
theorem sub_lat {cs : List Int32} (hl : ∀ c ∈ cs, Lat c) (i n : Nat) : ∀ c ∈ (cs.drop i).take n, Lat c := fun c q => hl c (List.mem_of_mem_drop (List.mem_of_mem_take q))
theorem sub_len {cs : List Int32} {i n : Nat} (h : i + n ≤ cs.length) : ((cs.drop i).take n).length = n := by simp; omega
section OpSub
variable {l : Launch} {Z : State} {a0 : Array Value}
theorem pn_arr : plainName "java/util/Arrays" = true := by first | (simp [plainName, overriddenIn]; done) | decide +kernel

theorem chkLen_met (hw : ∀ d ∈ tables_1, d.before a0 Z = true) {h : Heap} {i e : Int32} (h2 : ¬ e < i) :
    Met l Z consts_1 ⟨"java/util/Arrays", "checkLength", "(II)V"⟩ jdk_65_method_131_code 2 none [] rm0 #[.int i, .int e] h [] (fun v h' => v = none ∧ h = h') := by
  refine Met.of_walk (a0 := a0) (Ls := #[.val (.int i), .val (.int e)]) (plainFor_of_name pn_arr) (own_hEL hw) rfl ?_
  refine Wl.iload_n 1 d45_0 rfl ?_
  refine Wl.iload_n 2 d45_1 rfl ?_
  refine Wl.icmpY 37 d45_2 (flt h2).2.1 ?_
  exact Wl.return_ d45_37 rfl (nle rfl) (nle rfl) ⟨rfl, rfl⟩
/-- copyOfRangeByte: bytes i to i + n of a byte[] -/
theorem copyRB_met (hw : ∀ d ∈ tables_1, d.before a0 Z = true) {h : Heap} {b : Addr} {kb : ClassId} {cs : List Int32} {i n N : Nat} (hn : cs.length < 65536) (hi : i + n ≤ cs.length) (hN : n ≤ N) (hN2 : N < 65536) (A : Arv Z h b kb .byte (Int32.ofNat cs.length) (cs.map byV) (.int 0)) :
    Met l Z consts_1 ⟨"java/util/Arrays", "copyOfRangeByte", "([BII)[B"⟩ jdk_65_method_133_code 5 (some (.array .byte)) [] { frames := 1, cells := 1, slots := N, locals := 18 } #[.ref b, .int (Int32.ofNat i), .int (Int32.ofNat (i + n))] h [] (fun v h' => ∃ (d : Addr) (kd : ClassId), v = some (.ref d) ∧ h.size ≤ d ∧ Ext h h' ∧ Arv Z h' d kd .byte (Int32.ofNat n) (((cs.drop i).take n).map byV) (.int 0)) := by
  refine Met.of_walk (a0 := a0) (Ls := #[.val (.ref b), .val (.int (Int32.ofNat i)), .val (.int (Int32.ofNat (i + n))), .unset, .unset]) (plainFor_of_name pn_arr) (own_hEL hw) rfl ?_
  refine Wl.iload_n 1 d44_0 rfl ?_
  refine Wl.iload_n 2 d44_1 rfl ?_
  refine Wl.static 5 (argsL := [.int (Int32.ofNat i), .int (Int32.ofNat (i + n))]) d44_2 (w221 hw) (w222 hw) (w216 hw) (w223 hw) (show parseMethodDescriptor "(II)V" = some ⟨[.int, .int], none⟩ by decide +kernel) rfl (chkLen_met hw (fun q => by rw [nLt (by omega) (by omega)] at q; omega)) (fun _ q => nomatch q) rfl rfl rfl (by decide) ⟨⟨by show 0 + 1 ≤ 1; omega, by show 0 + (2 + 11) + 0 ≤ 18; omega⟩, by show 0 + 0 ≤ 1; omega, by show 0 + 0 ≤ N; omega⟩ ?_
  intro v h1 hq _
  obtain ⟨rfl, rfl⟩ := hq
  show Wl _ _ _ _ _ _ _ _ _ _ _ _ _ _ _ _ _ []
  refine Wl.iload_n 6 d44_5 rfl ?_
  refine Wl.iload_n 7 d44_6 rfl ?_
  refine Wl.isub 8 d44_7 ?_
  rw [nSub (by omega) (by omega), show i + n - i = n by omega]
  refine Wl.istore_n 9 #[.val (.ref b), .val (.int (Int32.ofNat i)), .val (.int (Int32.ofNat (i + n))), .val (.int (Int32.ofNat n)), .unset] d44_8 rfl ?_
  refine Wl.iload_n 10 d44_9 rfl ?_
  refine Wl.newarray 12 N d44_10 (w26 hw) (nNn (by omega)) (by rw [nCl (by omega)]; exact hN) (by omega) (by show 0 + 0 + 1 ≤ 1; omega) (by show 0 + 0 + N ≤ N; omega) ?_
  intro d h2 kd q E D
  rw [nCl (by omega)] at D
  have D : Arv Z h2 d kd .byte (Int32.ofNat n) (List.replicate n (.int 0)) (.int 0) := D
  have A2 := A.ext E
  refine Wl.astore 14 #[.val (.ref b), .val (.int (Int32.ofNat i)), .val (.int (Int32.ofNat (i + n))), .val (.int (Int32.ofNat n)), .val (.ref d)] d44_12 rfl rfl ?_
  refine Wl.aload_n 15 d44_14 rfl rfl ?_
  refine Wl.iload_n 16 d44_15 rfl ?_
  refine Wl.aload 18 d44_16 rfl rfl ?_
  refine Wl.iconst 19 (0 : Int32) d44_18 (by decide) ?_
  refine Wl.aload_n 20 d44_19 rfl rfl ?_
  refine Wl.arraylength 21 d44_20 A2 ?_
  refine Wl.iload_n 22 d44_21 rfl ?_
  refine Wl.isub 23 d44_22 ?_
  rw [nSub (by omega) (by omega)]
  refine Wl.iload_n 24 d44_23 rfl ?_
  have hmin : Met l Z consts_1 ⟨"java/lang/Math", "min", "(II)I"⟩ jdk_29_method_69_code 2 (some .int) [] rm0 #[.int (Int32.ofNat (cs.length - i)), .int (Int32.ofNat n)] h2 [] (fun v h' => v = some (.int (Int32.ofNat n)) ∧ h2 = h') := by
    by_cases hlt : n < cs.length - i
    · exact min2_met hw ((nLt (by omega) (by omega)).mpr hlt)
    · have e : cs.length - i = n := by omega
      rw [e]; exact min_met hw Int32.lt_irrefl
  refine Wl.static 27 (argsL := [.int (Int32.ofNat (cs.length - i)), .int (Int32.ofNat n)]) d44_24 (w224 hw) (w88 hw) (w85 hw) (w89 hw) (show parseMethodDescriptor "(II)I" = some ⟨[.int, .int], some .int⟩ by decide +kernel) rfl hmin (fun _ q => nomatch q) rfl rfl rfl (by decide) ⟨⟨by show 0 + 1 ≤ 1; omega, by show 4 + (2 + 11) + 0 ≤ 18; omega⟩, by show 0 + 0 + 1 + 0 ≤ 1; omega, by show 0 + 0 + N + 0 ≤ N; omega⟩ ?_
  intro v h3 hq _
  obtain ⟨rfl, rfl⟩ := hq
  show Wl _ _ _ _ _ _ _ _ _ _ _ _ _ _ _ _ _ [.int (Int32.ofNat n), .int 0, .ref d, .int (Int32.ofNat i), .ref b]
  refine Wl.arraycopy 30 d44_27 (w225 hw) (w155 hw) (w153 hw) (w154 hw) A2 D rfl (nNn (by omega)) (by decide) (nNn (by omega)) (by rw [nCl (by omega), nCl (by omega), nCl (by omega)]; exact hi) (by rw [nCl (i := n) (by omega)]; exact Nat.le_of_eq (Nat.zero_add n)) (by rw [nCl (i := n) (by omega), List.length_replicate]; exact Nat.le_of_eq (Nat.zero_add n)) (List.mem_of_getElem? (i := 0) rfl) rfl (by show 1 ≤ 1; omega) (by show 0 + (7 + 11) ≤ 18; omega) ?_
  intro h4 K D4
  rw [nCl (i := n) (by omega), nCl (i := i) (by omega), rng_map cs i n hi] at D4
  have e0 : List.take (Int32.toNatClampNeg 0) (List.replicate n (Value.int 0)) ++ List.map byV (List.take n (List.drop i cs)) ++ List.drop (Int32.toNatClampNeg 0 + n) (List.replicate n (Value.int 0)) = ((cs.drop i).take n).map byV := by
    rw [show Int32.toNatClampNeg 0 = 0 by decide]; simp
  rw [e0] at D4
  refine Wl.aload 32 d44_30 rfl rfl ?_
  exact Wl.areturn d44_32 rfl rfl rfl (by show 0 + 0 + 1 + 0 ≤ 1; omega) (by show 0 + 0 + N + 0 ≤ N; omega) ⟨d, kd, rfl, Nat.le_of_eq q.symm, extKeep E K (allS (Nat.le_of_eq q.symm) all0), D4⟩
theorem copyR_met (hw : ∀ d ∈ tables_1, d.before a0 Z = true) {h : Heap} {b : Addr} {kb : ClassId} {cs : List Int32} {i n N : Nat} (hn : cs.length < 65536) (hi : i + n ≤ cs.length) (hno : ¬ (i = 0 ∧ n = cs.length)) (hN : n ≤ N) (hN2 : N < 65536) (A : Arv Z h b kb .byte (Int32.ofNat cs.length) (cs.map byV) (.int 0)) :
    Met l Z consts_1 ⟨"java/util/Arrays", "copyOfRange", "([BII)[B"⟩ jdk_65_method_132_code 3 (some (.array .byte)) [] { frames := 2, cells := 1, slots := N, locals := 34 } #[.ref b, .int (Int32.ofNat i), .int (Int32.ofNat (i + n))] h [] (fun v h' => ∃ (d : Addr) (kd : ClassId), v = some (.ref d) ∧ h.size ≤ d ∧ Ext h h' ∧ Arv Z h' d kd .byte (Int32.ofNat n) (((cs.drop i).take n).map byV) (.int 0)) := by
  refine Met.of_walk (a0 := a0) (Ls := #[.val (.ref b), .val (.int (Int32.ofNat i)), .val (.int (Int32.ofNat (i + n)))]) (plainFor_of_name pn_arr) (own_hEL hw) rfl ?_
  have go : ∀ {l : Launch}, Wl l Z a0 consts_1 ⟨"java/util/Arrays", "copyOfRange", "([BII)[B"⟩ jdk_65_method_132_code 3 (some (.array .byte)) { frames := 2, cells := 1, slots := N, locals := 34 } #[.ref b, .int (Int32.ofNat i), .int (Int32.ofNat (i + n))] (fun v h' => ∃ (d : Addr) (kd : ClassId), v = some (.ref d) ∧ h.size ≤ d ∧ Ext h h' ∧ Arv Z h' d kd .byte (Int32.ofNat n) (((cs.drop i).take n).map byV) (.int 0)) [] h 0 0 10 #[.val (.ref b), .val (.int (Int32.ofNat i)), .val (.int (Int32.ofNat (i + n)))] [] := by
    intro l
    refine Wl.aload_n 11 d43_10 rfl rfl ?_
    refine Wl.iload_n 12 d43_11 rfl ?_
    refine Wl.iload_n 13 d43_12 rfl ?_
    refine Wl.static 16 (argsL := [.ref b, .int (Int32.ofNat i), .int (Int32.ofNat (i + n))]) d43_13 (w218 hw) (w219 hw) (w216 hw) (w220 hw) (show parseMethodDescriptor "([BII)[B" = some ⟨[.array .byte, .int, .int], some (.array .byte)⟩ by decide +kernel) rfl (copyRB_met hw hn hi hN hN2 A) (fun _ q => nomatch q) rfl rfl rfl (by decide) ⟨⟨by show 1 + 1 ≤ 2; omega, by show 0 + (5 + 11) + 18 ≤ 34; omega⟩, by show 0 + 1 ≤ 1; omega, by show 0 + N ≤ N; omega⟩ ?_
    intro v h1 hq _
    obtain ⟨d, kd, rfl, r⟩ := hq
    show Wl _ _ _ _ _ _ _ _ _ _ _ _ _ _ _ _ _ [.ref d]
    exact Wl.areturn d43_16 rfl rfl rfl (by show 0 + 1 ≤ 1; omega) (by show 0 + N ≤ N; omega) ⟨d, kd, rfl, r⟩
  refine Wl.iload_n 1 d43_0 rfl ?_
  by_cases h0 : i = 0
  · subst h0
    refine Wl.ifN 4 d43_1 (teq (by decide)).2 ?_
    refine Wl.iload_n 5 d43_4 rfl ?_
    refine Wl.aload_n 6 d43_5 rfl rfl ?_
    refine Wl.arraylength 7 d43_6 A ?_
    refine Wl.icmpN 10 d43_7 (feq (fun q => by rw [nEq (by omega) (by omega)] at q; exact hno ⟨rfl, by omega⟩)).1 ?_
    exact go
  · refine Wl.ifY 10 d43_1 (feq (fun q => h0 ((nEq (j := 0) (by omega) (by omega)).mp q))).2 ?_
    exact go
end OpSub
/-! StringBuilder with room for sixteen Latin-1 chars -/
def pad (cs : List Int32) : List Int32 := cs ++ List.replicate (16 - cs.length) 0
theorem pad_len {cs : List Int32} (h : cs.length ≤ 16) : (pad cs).length = 16 := by simp [pad]; omega
theorem pad_take {cs : List Int32} : (pad cs).take cs.length = cs := by simp [pad]
theorem pad_app {cs ds : List Int32} (h : cs.length + ds.length ≤ 16) : ((pad cs).map byV).take cs.length ++ ds.map byV ++ ((pad cs).map byV).drop (cs.length + ds.length) = (pad (cs ++ ds)).map byV := by
  have e1 : ((pad cs).map byV).take cs.length = cs.map byV := by rw [← List.map_take, pad_take]
  have e2 : ((pad cs).map byV).drop (cs.length + ds.length) = (List.replicate (16 - (cs ++ ds).length) (0 : Int32)).map byV := by
    rw [← List.map_drop]
    congr 1
    unfold pad
    rw [← List.drop_drop, List.drop_left, List.drop_replicate, List.length_append]
    congr 1
    omega
  rw [e1, e2]
  simp [pad]
def Bld (Z : State) (h : Heap) (a b : Addr) (kb : ClassId) (cs : List Int32) : Prop :=
  Exa Z h a "java/lang/StringBuilder" ∧ Fld Z h a "java/lang/AbstractStringBuilder" "value" "[B" (.ref b) ∧ Fld Z h a "java/lang/AbstractStringBuilder" "coder" "B" (.int 0) ∧ Fld Z h a "java/lang/AbstractStringBuilder" "count" "I" (.int (Int32.ofNat cs.length)) ∧
  Arv Z h b kb .byte (Int32.ofNat 16) ((pad cs).map byV) (.int 0) ∧ (∀ c ∈ cs, Lat c) ∧ cs.length ≤ 16 ∧ a ≠ b
theorem Bld.ext {Z : State} {h h' : Heap} {a b : Addr} {kb : ClassId} {cs : List Int32} (B : Bld Z h a b kb cs) (E : Ext h h') : Bld Z h' a b kb cs := ⟨B.1.ext E, B.2.1.ext E, B.2.2.1.ext E, B.2.2.2.1.ext E, B.2.2.2.2.1.ext E, B.2.2.2.2.2⟩
/-- class Y declares the method itself, and it is no interface -/
theorem sm_of {Z : State} {a0 : Array Value} {K : String} {y y1 : MethodName} (wd : (Jvm.Cond.declares y).before a0 Z = true) (ws : (Jvm.Cond.selects K y1 y1).before a0 Z = true) (hc : y1.cls = y.cls) (hy : y.cls ≠ "java/lang/invoke/MethodHandle" ∧ y.cls ≠ "java/lang/invoke/VarHandle") : (Jvm.Cond.sameMethod y.cls y.cls y.name y.desc).before a0 Z = true := by
  obtain ⟨r0, r, hn, hrm, hstR, hsigR⟩ := Cond.declares_spec wd
  obtain ⟨c2, r2, m2, q1, q2, q3, q4, kP, hkP, hkPi⟩ := Cond.selects_spec ws
  have hf := State.methodFound?_of_named hn hy
  have hc0 := findClass_of_methodNamed hn
  have hc1 := findClass_of_methodNamed q3
  rw [hc] at hc1
  have e := Option.some.inj (hc0.symm.trans hc1)
  rw [← e] at hkP
  refine Cond.before_iff.mpr ?_
  have hn' : Z.methodNamed? ⟨y.cls, y.name, y.desc⟩ = some r0 := hn
  simp [Cond.value, hc0, hf, hn', hkP, hkPi]
section OpSB
variable {l : Launch} {Z : State} {a0 : Array Value}
theorem pn_sb : plainName "java/lang/StringBuilder" = true := by first | (simp [plainName, overriddenIn]; done) | decide +kernel
theorem pn_asb : plainName "java/lang/AbstractStringBuilder" = true := by first | (simp [plainName, overriddenIn]; done) | decide +kernel
theorem asbInit_met (hw : ∀ d ∈ tables_1, d.before a0 Z = true) (hcs : CSon Z) {h : Heap} {a : Addr} (E : Exa Z h a "java/lang/StringBuilder") (FV : Fld Z h a "java/lang/AbstractStringBuilder" "value" "[B" .null) (FC : Fld Z h a "java/lang/AbstractStringBuilder" "coder" "B" (.int 0)) (FN : Fld Z h a "java/lang/AbstractStringBuilder" "count" "I" (.int 0)) :
    MetO l Z consts_1 ⟨"java/lang/AbstractStringBuilder", "<init>", "(I)V"⟩ jdk_68_method_2_code 2 none [] { frames := 1, cells := 1, slots := 16, locals := 12 } #[.ref a, .int 16] h [a] [h.size] (fun v h' => v = none ∧ Keep h h' [a] ∧ ∃ kb, Bld Z h' a h.size kb []) := by
  obtain ⟨cst, hS, hcn⟩ := hcs
  have L1 : Laid Z a0 "java/lang/StringBuilder" "java/lang/AbstractStringBuilder" "value" "[B" := Or.inl (w115 hw)
  have L2 : Laid Z a0 "java/lang/StringBuilder" "java/lang/AbstractStringBuilder" "coder" "B" := Or.inl (w117 hw)
  have L3 : Laid Z a0 "java/lang/StringBuilder" "java/lang/AbstractStringBuilder" "count" "I" := Or.inl (w130 hw)
  have s12 : Jvm.RoadKit.slotOf Z "java/lang/AbstractStringBuilder" "value" "[B" ≠ Jvm.RoadKit.slotOf Z "java/lang/AbstractStringBuilder" "coder" "B" := slot_ne L1 L2 (by decide) (t := .array .byte) (t' := .byte) (by decide) (by decide)
  have s31 : Jvm.RoadKit.slotOf Z "java/lang/AbstractStringBuilder" "count" "I" ≠ Jvm.RoadKit.slotOf Z "java/lang/AbstractStringBuilder" "value" "[B" := slot_ne L3 L1 (by decide) (t := .int) (t' := .array .byte) (by decide) (by decide)
  have s32 : Jvm.RoadKit.slotOf Z "java/lang/AbstractStringBuilder" "count" "I" ≠ Jvm.RoadKit.slotOf Z "java/lang/AbstractStringBuilder" "coder" "B" := slot_ne L3 L2 (by decide) (t := .int) (t' := .byte) (by decide) (by decide)
  refine Met.of_walk (a0 := a0) (Ls := #[.val (.ref a), .val (.int 16)]) (plainFor_of_name pn_asb) (own_hEL hw) rfl ?_
  refine Wl.aload_n 1 d23_0 rfl rfl ?_
  refine Wl.initO 4 d23_1 (w112 hw) (w19 hw) (w20 hw) rfl (nle rfl) (nle rfl) ?_
  refine Wl.getstatic 7 d23_4 (w113 hw) hS ?_
  refine Wl.ifN 10 d23_7 (feq hcn).1 ?_
  refine Wl.aload_n 11 d23_10 rfl rfl ?_
  refine Wl.iload_n 12 d23_11 rfl ?_
  refine Wl.newarray 14 16 d23_12 (w26 hw) (by decide) (by decide) (by decide) (nle rfl) (nle rfl) ?_
  intro d h1 kd q E1 A
  subst q
  have A : Arv Z h1 h.size kd .byte (Int32.ofNat 16) ((pad []).map byV) (.int 0) := A
  have hne : a ≠ h.size := Nat.ne_of_lt E.lt
  refine Wl.putfield 17 d23_14 (w114 hw) (FV.ext E1) (E.ext E1) (Or.inl (w115 hw)) (w101 hw) (ty := .array .byte) (by decide) rfl rfl (List.mem_of_getElem? (i := 1) rfl) ?_
  intro h2 W2
  refine Wl.aload_n 18 d23_17 rfl rfl ?_
  refine Wl.iconst 19 (0 : Int32) d23_18 (by decide) ?_
  refine Wl.putfield 22 d23_19 (w116 hw) ((FC.ext E1).other W2 (Or.inr s12.symm)) ((E.ext E1).wr W2) (Or.inl (w117 hw)) (w101 hw) (ty := .byte) (by decide) rfl rfl (List.mem_of_getElem? (i := 1) rfl) ?_
  intro h3 W3
  refine Wl.goto 38 d23_22 ?_
  exact Wl.return_ d23_38 rfl (nle rfl) (nle rfl) ⟨rfl, (((Keep.refl h [a]).ext E1).wr W2 (Or.inl (List.mem_of_getElem? (i := 0) rfl))).wr W3 (Or.inl (List.mem_of_getElem? (i := 0) rfl)),
    kd, ((E.ext E1).wr W2).wr W3, ((FV.ext E1).same W2).other W3 (Or.inr s12), ((FC.ext E1).other W2 (Or.inr s12.symm)).same W3, ((FN.ext E1).other W2 (Or.inr s31)).other W3 (Or.inr s32), (A.other W2 hne.symm).other W3 hne.symm, latN, nle rfl, hne⟩ (fun x hx => by cases List.mem_singleton.mp hx; exact List.mem_of_getElem? (i := 0) rfl)
theorem sbInit_met (hw : ∀ d ∈ tables_1, d.before a0 Z = true) (hcs : CSon Z) {h : Heap} {a : Addr} (E : Exa Z h a "java/lang/StringBuilder") (FV : Fld Z h a "java/lang/AbstractStringBuilder" "value" "[B" .null) (FC : Fld Z h a "java/lang/AbstractStringBuilder" "coder" "B" (.int 0)) (FN : Fld Z h a "java/lang/AbstractStringBuilder" "count" "I" (.int 0)) :
    MetO l Z consts_1 ⟨"java/lang/StringBuilder", "<init>", "()V"⟩ jdk_67_method_1_code 1 none [] { frames := 2, cells := 1, slots := 16, locals := 25 } #[.ref a] h [a] [h.size] (fun v h' => v = none ∧ Keep h h' [a] ∧ ∃ kb, Bld Z h' a h.size kb []) := by
  refine Met.of_walk (a0 := a0) (Ls := #[.val (.ref a)]) (plainFor_of_name pn_sb) (own_hEL hw) rfl ?_
  refine Wl.aload_n 1 d22_0 rfl rfl ?_
  refine Wl.bipush 3 (16 : Int32) d22_1 (by decide) ?_
  refine Wl.specialO 6 (argsL := [.int 16]) d22_3 (w106 hw) (w107 hw) (w110 hw) (w111 hw) (show parseMethodDescriptor "(I)V" = some ⟨[.int], none⟩ by decide +kernel) rfl (asbInit_met hw hcs E FV FC FN) (allS (List.mem_of_getElem? (i := 0) rfl) (fun _ q => nomatch q)) rfl rfl rfl rfl (by decide) ⟨⟨nle rfl, nle rfl⟩, nle rfl, nle rfl⟩ ?_
  intro v h1 hq _
  obtain ⟨rfl, r⟩ := hq
  exact Wl.return_ d22_6 rfl (nle rfl) (nle rfl) ⟨rfl, r⟩ (fun x hx => by cases List.mem_singleton.mp hx; exact List.mem_of_getElem? (i := 0) rfl)
theorem ensure_met (hw : ∀ d ∈ tables_1, d.before a0 Z = true) {h : Heap} {a b : Addr} {kb : ClassId} {cs : List Int32} {n : Nat} (hn : n ≤ 16) (B : Bld Z h a b kb cs) :
    Met l Z consts_1 ⟨"java/lang/AbstractStringBuilder", "ensureCapacityInternal", "(I)V"⟩ jdk_68_method_9_code 3 none [] rm0 #[.ref a, .int (Int32.ofNat n)] h [] (fun v h' => v = none ∧ h = h') := by
  refine Met.of_walk (a0 := a0) (Ls := #[.val (.ref a), .val (.int (Int32.ofNat n)), .unset]) (plainFor_of_name pn_asb) (own_hEL hw) rfl ?_
  refine Wl.aload_n 1 d26_0 rfl rfl ?_
  refine Wl.getfield 4 d26_1 (w114 hw) B.2.1 ?_
  refine Wl.arraylength 5 d26_4 B.2.2.2.2.1 ?_
  refine Wl.aload_n 6 d26_5 rfl rfl ?_
  refine Wl.getfield 9 d26_6 (w116 hw) B.2.2.1 ?_
  refine Wl.ishr 10 d26_9 ?_
  rw [show (Int32.ofNat 16 >>> ((0 : Int32) &&& 31)) = Int32.ofNat 16 by decide]
  refine Wl.istore_n 11 #[.val (.ref a), .val (.int (Int32.ofNat n)), .val (.int (Int32.ofNat 16))] d26_10 rfl ?_
  refine Wl.iload_n 12 d26_11 rfl ?_
  refine Wl.iload_n 13 d26_12 rfl ?_
  refine Wl.isub 14 d26_13 ?_
  refine Wl.ifY 38 d26_14 (flt (fun q => by
    rw [Int32.lt_iff_toInt_lt] at q
    have e := c_isub (Int32.ofNat n) (Int32.ofNat 16); have r := rng32 (Int32.ofNat n - Int32.ofNat 16)
    rw [nI (by omega), nI (by omega)] at e
    rw [show (0 : Int32).toInt = 0 by decide] at q
    omega)).2.2.2 ?_
  exact Wl.return_ d26_38 rfl (nle rfl) (nle rfl) ⟨rfl, rfl⟩
theorem inflate_met (hw : ∀ d ∈ tables_1, d.before a0 Z = true) (hcs : CSon Z) {h : Heap} {a b x : Addr} {kb : ClassId} {cs ds : List Int32} (B : Bld Z h a b kb cs) (S : Stl Z h x ds) :
    Met l Z consts_1 ⟨"java/lang/AbstractStringBuilder", "inflateIfNeededFor", "(Ljava/lang/String;)V"⟩ jdk_68_method_71_code 2 none [] { frames := 1, cells := 0, slots := 0, locals := 13 } #[.ref a, .ref x] h [] (fun v h' => v = none ∧ h = h') := by
  have hcs' := hcs
  obtain ⟨cst, hS, hcn⟩ := hcs
  obtain ⟨b2, kb2, X, C, Vl, A, hlat, hn⟩ := S
  refine Met.of_walk (a0 := a0) (Ls := #[.val (.ref a), .val (.ref x)]) (plainFor_of_name pn_asb) (own_hEL hw) rfl ?_
  refine Wl.getstatic 3 d28_0 (w113 hw) hS ?_
  refine Wl.ifN 6 d28_3 (feq hcn).1 ?_
  refine Wl.aload_n 7 d28_6 rfl rfl ?_
  refine Wl.getfield 10 d28_7 (w116 hw) B.2.2.1 ?_
  refine Wl.aload_n 11 d28_10 rfl rfl ?_
  refine Wl.virtual 14 (argsL := []) d28_11 (w146 hw) (w72 hw) (w74 hw) (w73 hw) (w10 hw) (w75 hw) (nf_sel (w74 hw) rfl) X (show parseMethodDescriptor "()B" = some ⟨[], some .byte⟩ by decide +kernel) rfl (coder_met hw hcs' rfl C) (fun _ q => nomatch q) rfl rfl rfl (by decide) ⟨⟨nle rfl, nle rfl⟩, nle rfl, nle rfl⟩ ?_
  intro v h1 hq _
  obtain ⟨rfl, rfl⟩ := hq
  show WlO _ _ _ _ _ _ _ _ _ _ _ _ _ _ _ _ _ _ [.int 0, .int 0]
  refine Wl.icmpY 21 d28_14 (teq rfl).1 ?_
  exact Wl.return_ d28_21 rfl (nle rfl) (nle rfl) ⟨rfl, rfl⟩
theorem getB_met (hw : ∀ d ∈ tables_1, d.before a0 Z = true) (hcs : CSon Z) {h : Heap} {b x : Addr} {kb : ClassId} {cs ds : List Int32} (hl : cs.length + ds.length ≤ 16) (A : Arv Z h b kb .byte (Int32.ofNat 16) ((pad cs).map byV) (.int 0)) (S : Stl Z h x ds) :
    Met l Z consts_1 ⟨"java/lang/String", "getBytes", "([BIB)V"⟩ jdk_42_method_147_code 4 none [] { frames := 1, cells := 0, slots := 0, locals := 18 } #[.ref x, .ref b, .int (Int32.ofNat cs.length), .int 0] h [b] (fun v h' => v = none ∧ Keep h h' [b] ∧ Arv Z h' b kb .byte (Int32.ofNat 16) ((pad (cs ++ ds)).map byV) (.int 0)) := by
  obtain ⟨b2, kb2, X, C, Vl, A2, hlat, hn⟩ := S
  refine Met.of_walk (a0 := a0) (Ls := #[.val (.ref x), .val (.ref b), .val (.int (Int32.ofNat cs.length)), .val (.int 0)]) (plainFor_of_name pn_str) (own_hEL hw) rfl ?_
  refine Wl.aload_n 1 d29_0 rfl rfl ?_
  refine Wl.virtual 4 (argsL := []) d29_1 (w71 hw) (w72 hw) (w74 hw) (w73 hw) (w10 hw) (w75 hw) (nf_sel (w74 hw) rfl) X (show parseMethodDescriptor "()B" = some ⟨[], some .byte⟩ by decide +kernel) rfl (coder_met hw hcs rfl C) (fun _ q => nomatch q) rfl rfl rfl (by decide) ⟨⟨nle rfl, nle rfl⟩, nle rfl, nle rfl⟩ ?_
  intro v h1 hq _
  obtain ⟨rfl, rfl⟩ := hq
  show WlO _ _ _ _ _ _ _ _ _ _ _ _ _ _ _ _ _ _ [.int 0]
  refine Wl.iload_n 5 d29_4 rfl ?_
  refine Wl.icmpN 8 d29_5 (teq rfl).2 ?_
  refine Wl.aload_n 9 d29_8 rfl rfl ?_
  refine Wl.getfield 12 d29_9 (w35 hw) Vl ?_
  refine Wl.iconst 13 (0 : Int32) d29_12 (by decide) ?_
  refine Wl.aload_n 14 d29_13 rfl rfl ?_
  refine Wl.iload_n 15 d29_14 rfl ?_
  refine Wl.iload_n 16 d29_15 rfl ?_
  refine Wl.ishl 17 d29_16 ?_
  rw [show (Int32.ofNat cs.length <<< ((0 : Int32) &&& 31)) = Int32.ofNat cs.length by simp]
  refine Wl.aload_n 18 d29_17 rfl rfl ?_
  refine Wl.getfield 21 d29_18 (w35 hw) Vl ?_
  refine Wl.arraylength 22 d29_21 A2 ?_
  refine Wl.arraycopy 25 d29_22 (w152 hw) (w155 hw) (w153 hw) (w154 hw) A2 A rfl (by decide) (nNn (by omega)) (nNn (by omega)) (by rw [nCl (i := ds.length) (by omega)]; exact Nat.le_of_eq (Nat.zero_add _)) (by rw [nCl (by omega), nCl (by omega), nCl (by omega)]; exact hl) (by rw [nCl (by omega), nCl (by omega), List.length_map, pad_len (by omega)]; exact hl) (List.mem_of_getElem? (i := 0) rfl) rfl (nle rfl) (nle rfl) ?_
  intro h2 K D
  rw [nCl (i := ds.length) (by omega), nCl (i := cs.length) (by omega)] at D
  have e0 : (List.range ds.length).map (fun i => (ds.map byV).getD (Int32.toNatClampNeg 0 + i) (.int 0)) = ds.map byV := by
    have q := rng_map ds 0 ds.length (by omega)
    rw [show Int32.toNatClampNeg 0 = 0 by decide, q]; simp
  rw [e0, pad_app hl] at D
  refine Wl.goto 43 d29_25 ?_
  exact Wl.return_ d29_43 rfl (nle rfl) (nle rfl) ⟨rfl, K, D⟩
theorem putAt_met (hw : ∀ d ∈ tables_1, d.before a0 Z = true) (hcs : CSon Z) {h : Heap} {a b x : Addr} {kb : ClassId} {cs ds : List Int32} (hl : cs.length + ds.length ≤ 16) (B : Bld Z h a b kb cs) (S : Stl Z h x ds) :
    Met l Z consts_1 ⟨"java/lang/AbstractStringBuilder", "putStringAt", "(ILjava/lang/String;)V"⟩ jdk_68_method_73_code 3 none [] { frames := 2, cells := 0, slots := 0, locals := 33 } #[.ref a, .int (Int32.ofNat cs.length), .ref x] h [b] (fun v h' => v = none ∧ Keep h h' [b] ∧ Arv Z h' b kb .byte (Int32.ofNat 16) ((pad (cs ++ ds)).map byV) (.int 0)) := by
  refine Met.of_walk (a0 := a0) (Ls := #[.val (.ref a), .val (.int (Int32.ofNat cs.length)), .val (.ref x)]) (plainFor_of_name pn_asb) (own_hEL hw) rfl ?_
  refine Wl.aload_n 1 d27_0 rfl rfl ?_
  refine Wl.aload_n 2 d27_1 rfl rfl ?_
  refine Wl.priv 5 (K := "java/lang/StringBuilder") (argsL := [.ref x]) d27_2 (w141 hw) (w143 hw) (w144 hw) (w142 hw) (w110 hw) (w145 hw) B.1 (show parseMethodDescriptor "(Ljava/lang/String;)V" = some ⟨[.object "java/lang/String"], none⟩ by decide +kernel) rfl (inflate_met hw hcs B S) (fun _ q => nomatch q) rfl rfl rfl (by decide) ⟨⟨nle rfl, nle rfl⟩, nle rfl, nle rfl⟩ ?_
  intro v h1 hq _
  obtain ⟨rfl, rfl⟩ := hq
  show WlO _ _ _ _ _ _ _ _ _ _ _ _ _ _ _ _ _ _ []
  refine Wl.aload_n 6 d27_5 rfl rfl ?_
  refine Wl.aload_n 7 d27_6 rfl rfl ?_
  refine Wl.getfield 10 d27_7 (w114 hw) B.2.1 ?_
  refine Wl.iload_n 11 d27_10 rfl ?_
  refine Wl.aload_n 12 d27_11 rfl rfl ?_
  refine Wl.getfield 15 d27_12 (w116 hw) B.2.2.1 ?_
  refine Wl.virtual 18 (argsL := [.ref b, .int (Int32.ofNat cs.length), .int 0]) d27_15 (w147 hw) (w148 hw) (w150 hw) (w149 hw) (w10 hw) (w151 hw) (nf_sel (w150 hw) rfl) S.exa (show parseMethodDescriptor "([BIB)V" = some ⟨[.array .byte, .int, .byte], none⟩ by decide +kernel) rfl (getB_met hw hcs hl B.2.2.2.2.1 S) (allS (List.mem_of_getElem? (i := 0) rfl) (fun _ q => nomatch q)) rfl rfl rfl (by decide) ⟨⟨nle rfl, nle rfl⟩, nle rfl, nle rfl⟩ ?_
  intro v h2 hq _
  obtain ⟨rfl, r⟩ := hq
  exact Wl.return_ d27_18 rfl (nle rfl) (nle rfl) ⟨rfl, r⟩
theorem asbApp_met (hw : ∀ d ∈ tables_1, d.before a0 Z = true) (hcs : CSon Z) {h : Heap} {a b x : Addr} {kb : ClassId} {cs ds : List Int32} (hl : cs.length + ds.length ≤ 16) (B : Bld Z h a b kb cs) (S : Stl Z h x ds) :
    Met l Z consts_1 ⟨"java/lang/AbstractStringBuilder", "append", "(Ljava/lang/String;)Ljava/lang/AbstractStringBuilder;"⟩ jdk_68_method_22_code 3 (some (.object "java/lang/AbstractStringBuilder")) [] { frames := 3, cells := 0, slots := 0, locals := 47 } #[.ref a, .ref x] h [a, b] (fun v h' => v = some (.ref a) ∧ Keep h h' [a, b] ∧ Bld Z h' a b kb (cs ++ ds)) := by
  have L1 : Laid Z a0 "java/lang/StringBuilder" "java/lang/AbstractStringBuilder" "value" "[B" := Or.inl (w115 hw)
  have L2 : Laid Z a0 "java/lang/StringBuilder" "java/lang/AbstractStringBuilder" "coder" "B" := Or.inl (w117 hw)
  have L3 : Laid Z a0 "java/lang/StringBuilder" "java/lang/AbstractStringBuilder" "count" "I" := Or.inl (w130 hw)
  have s13 : Jvm.RoadKit.slotOf Z "java/lang/AbstractStringBuilder" "value" "[B" ≠ Jvm.RoadKit.slotOf Z "java/lang/AbstractStringBuilder" "count" "I" := slot_ne L1 L3 (by decide) (t := .array .byte) (t' := .int) (by decide) (by decide)
  have s23 : Jvm.RoadKit.slotOf Z "java/lang/AbstractStringBuilder" "coder" "B" ≠ Jvm.RoadKit.slotOf Z "java/lang/AbstractStringBuilder" "count" "I" := slot_ne L2 L3 (by decide) (t := .byte) (t' := .int) (by decide) (by decide)
  have hab := B.2.2.2.2.2.2.2
  have hds : ∀ c ∈ ds, Lat c := by obtain ⟨_, _, _, _, _, _, q, _⟩ := S; exact q
  refine Met.of_walk (a0 := a0) (Ls := #[.val (.ref a), .val (.ref x), .unset]) (plainFor_of_name pn_asb) (own_hEL hw) rfl ?_
  refine Wl.aload_n 1 d25_0 rfl rfl ?_
  refine Wl.ifnonnullY 9 d25_1 ?_
  refine Wl.aload_n 10 d25_9 rfl rfl ?_
  refine Wl.virtual 13 (argsL := []) d25_10 (w128 hw) (w67 hw) (w69 hw) (w68 hw) (w10 hw) (w70 hw) (nf_sel (w69 hw) rfl) S.exa (show parseMethodDescriptor "()I" = some ⟨[], some .int⟩ by decide +kernel) rfl (len_met hw hcs S) (fun _ q => nomatch q) rfl rfl rfl (by decide) ⟨⟨nle rfl, nle rfl⟩, nle rfl, nle rfl⟩ ?_
  intro v h1 hq _
  obtain ⟨rfl, rfl⟩ := hq
  show WlO _ _ _ _ _ _ _ _ _ _ _ _ _ _ _ _ _ _ [.int (Int32.ofNat ds.length)]
  refine Wl.istore_n 14 #[.val (.ref a), .val (.ref x), .val (.int (Int32.ofNat ds.length))] d25_13 rfl ?_
  refine Wl.aload_n 15 d25_14 rfl rfl ?_
  refine Wl.aload_n 16 d25_15 rfl rfl ?_
  refine Wl.getfield 19 d25_16 (w129 hw) B.2.2.2.1 ?_
  refine Wl.iload_n 20 d25_19 rfl ?_
  refine Wl.iadd 21 d25_20 ?_
  rw [nAdd]
  refine Wl.priv 24 (K := "java/lang/StringBuilder") (argsL := [.int (Int32.ofNat (cs.length + ds.length))]) d25_21 (w131 hw) (w133 hw) (w134 hw) (w132 hw) (w110 hw) (w135 hw) B.1 (show parseMethodDescriptor "(I)V" = some ⟨[.int], none⟩ by decide +kernel) rfl (ensure_met hw hl B) (fun _ q => nomatch q) rfl rfl rfl (by decide) ⟨⟨nle rfl, nle rfl⟩, nle rfl, nle rfl⟩ ?_
  intro v h1 hq _
  obtain ⟨rfl, rfl⟩ := hq
  show WlO _ _ _ _ _ _ _ _ _ _ _ _ _ _ _ _ _ _ []
  refine Wl.aload_n 25 d25_24 rfl rfl ?_
  refine Wl.aload_n 26 d25_25 rfl rfl ?_
  refine Wl.getfield 29 d25_26 (w129 hw) B.2.2.2.1 ?_
  refine Wl.aload_n 30 d25_29 rfl rfl ?_
  refine Wl.priv 33 (K := "java/lang/StringBuilder") (argsL := [.int (Int32.ofNat cs.length), .ref x]) d25_30 (w136 hw) (w138 hw) (w139 hw) (w137 hw) (w110 hw) (w140 hw) B.1 (show parseMethodDescriptor "(ILjava/lang/String;)V" = some ⟨[.int, .object "java/lang/String"], none⟩ by decide +kernel) rfl (putAt_met hw hcs hl B S) (allS (List.mem_of_getElem? (i := 1) rfl) (fun _ q => nomatch q)) rfl rfl rfl (by decide) ⟨⟨nle rfl, nle rfl⟩, nle rfl, nle rfl⟩ ?_
  intro v h2 hq _
  obtain ⟨rfl, K, D⟩ := hq
  show WlO _ _ _ _ _ _ _ _ _ _ _ _ _ _ _ _ _ _ []
  have nb : a ∉ [b] := ninS hab nin0
  refine Wl.aload_n 34 d25_33 rfl rfl ?_
  refine Wl.dup 35 d25_34 rfl ?_
  refine Wl.getfield 38 d25_35 (w129 hw) (B.2.2.2.1.keep K nb) ?_
  refine Wl.iload_n 39 d25_38 rfl ?_
  refine Wl.iadd 40 d25_39 ?_
  rw [nAdd]
  refine Wl.putfield 43 d25_40 (w129 hw) (B.2.2.2.1.keep K nb) (B.1.keep K) (Or.inl (w130 hw)) (w101 hw) (ty := .int) (by decide) rfl rfl (List.mem_of_getElem? (i := 0) rfl) ?_
  intro h3 W3
  refine Wl.aload_n 44 d25_43 rfl rfl ?_
  refine Wl.areturn d25_44 rfl rfl rfl (nle rfl) (nle rfl) ⟨rfl, ?_, (B.1.keep K).wr W3, (B.2.1.keep K nb).other W3 (Or.inr s13), (B.2.2.1.keep K nb).other W3 (Or.inr s23), ?_, D.other W3 hab.symm, ?_, ?_, hab⟩
  · exact ((Keep.refl h [a, b]).trans K (fun x hx => Or.inl (by cases List.mem_singleton.mp hx; exact List.mem_of_getElem? (i := 1) rfl))).wr W3 (Or.inl (List.mem_of_getElem? (i := 0) rfl))
  · rw [List.length_append]; exact (B.2.2.2.1.keep K nb).same W3
  · intro c hc
    exact (List.mem_append.mp hc).elim (B.2.2.2.2.2.1 c) (hds c)
  · rw [List.length_append]; exact hl
theorem sbApp_met (hw : ∀ d ∈ tables_1, d.before a0 Z = true) (hcs : CSon Z) {h : Heap} {a b x : Addr} {kb : ClassId} {cs ds : List Int32} (hl : cs.length + ds.length ≤ 16) (B : Bld Z h a b kb cs) (S : Stl Z h x ds) :
    Met l Z consts_1 ⟨"java/lang/StringBuilder", "append", "(Ljava/lang/String;)Ljava/lang/StringBuilder;"⟩ jdk_67_method_7_code 2 (some (.object "java/lang/StringBuilder")) [] { frames := 4, cells := 0, slots := 0, locals := 61 } #[.ref a, .ref x] h [a, b] (fun v h' => v = some (.ref a) ∧ Keep h h' [a, b] ∧ Bld Z h' a b kb (cs ++ ds)) := by
  refine Met.of_walk (a0 := a0) (Ls := #[.val (.ref a), .val (.ref x)]) (plainFor_of_name pn_sb) (own_hEL hw) rfl ?_
  refine Wl.aload_n 1 d24_0 rfl rfl ?_
  refine Wl.aload_n 2 d24_1 rfl rfl ?_
  refine Wl.up 5 (argsL := [.ref x]) d24_2 (w123 hw) (sm_of (w126 hw) (w139 hw) rfl (by decide)) (w124 hw) (w125 hw) (w110 hw) (w127 hw) B.1 (show parseMethodDescriptor "(Ljava/lang/String;)Ljava/lang/AbstractStringBuilder;" = some ⟨[.object "java/lang/String"], some (.object "java/lang/AbstractStringBuilder")⟩ by decide +kernel) rfl (asbApp_met hw hcs hl B S) (fun x q => q) rfl rfl rfl (by decide) ⟨⟨nle rfl, nle rfl⟩, nle rfl, nle rfl⟩ ?_
  intro v h1 hq _
  obtain ⟨rfl, r⟩ := hq
  show WlO _ _ _ _ _ _ _ _ _ _ _ _ _ _ _ _ _ _ [.ref a]
  refine Wl.pop 6 d24_5 rfl ?_
  refine Wl.aload_n 7 d24_6 rfl rfl ?_
  exact Wl.areturn d24_7 rfl rfl rfl (nle rfl) (nle rfl) ⟨rfl, r⟩
theorem getV_met (hw : ∀ d ∈ tables_1, d.before a0 Z = true) {h : Heap} {a b : Addr} {kb : ClassId} {cs : List Int32} (B : Bld Z h a b kb cs) :
    Met l Z consts_1 ⟨"java/lang/AbstractStringBuilder", "getValue", "()[B"⟩ jdk_68_method_64_code 1 (some (.array .byte)) [] rm0 #[.ref a] h [] (fun v h' => v = some (.ref b) ∧ h = h') := by
  refine Met.of_walk (a0 := a0) (Ls := #[.val (.ref a)]) (plainFor_of_name pn_asb) (own_hEL hw) rfl ?_
  refine Wl.aload_n 1 d39_0 rfl rfl ?_
  refine Wl.getfield 4 d39_1 (w114 hw) B.2.1 ?_
  exact Wl.areturn d39_4 rfl rfl rfl (nle rfl) (nle rfl) ⟨rfl, rfl⟩
theorem asbLen_met (hw : ∀ d ∈ tables_1, d.before a0 Z = true) {h : Heap} {a b : Addr} {kb : ClassId} {cs : List Int32} (B : Bld Z h a b kb cs) :
    Met l Z consts_1 ⟨"java/lang/AbstractStringBuilder", "length", "()I"⟩ jdk_68_method_6_code 1 (some .int) [] rm0 #[.ref a] h [] (fun v h' => v = some (.int (Int32.ofNat cs.length)) ∧ h = h') := by
  refine Met.of_walk (a0 := a0) (Ls := #[.val (.ref a)]) (plainFor_of_name pn_asb) (own_hEL hw) rfl ?_
  refine Wl.aload_n 1 d41_0 rfl rfl ?_
  refine Wl.getfield 4 d41_1 (w129 hw) B.2.2.2.1 ?_
  exact Wl.ireturn (t := .int) d41_4 rfl rfl (by simp) (nle rfl) (nle rfl) ⟨rfl, rfl⟩
theorem sbLen_met (hw : ∀ d ∈ tables_1, d.before a0 Z = true) {h : Heap} {a b : Addr} {kb : ClassId} {cs : List Int32} (B : Bld Z h a b kb cs) :
    Met l Z consts_1 ⟨"java/lang/StringBuilder", "length", "()I"⟩ jdk_67_method_93_code 1 (some .int) [] { frames := 1, cells := 0, slots := 0, locals := 12 } #[.ref a] h [] (fun v h' => v = some (.int (Int32.ofNat cs.length)) ∧ h = h') := by
  refine Met.of_walk (a0 := a0) (Ls := #[.val (.ref a)]) (plainFor_of_name pn_sb) (own_hEL hw) rfl ?_
  refine Wl.aload_n 1 d40_0 rfl rfl ?_
  refine Wl.up 4 (argsL := []) d40_1 (w207 hw) (sm_of (w202 hw) (w139 hw) rfl (by decide)) (w203 hw) (w125 hw) (w110 hw) (w208 hw) B.1 (show parseMethodDescriptor "()I" = some ⟨[], some .int⟩ by decide +kernel) rfl (asbLen_met hw B) (fun _ q => nomatch q) rfl rfl rfl (by decide) ⟨⟨nle rfl, nle rfl⟩, nle rfl, nle rfl⟩ ?_
  intro v h1 hq _
  obtain ⟨rfl, rfl⟩ := hq
  show WlO _ _ _ _ _ _ _ _ _ _ _ _ _ _ _ _ _ _ [.int (Int32.ofNat cs.length)]
  exact Wl.ireturn (t := .int) d40_4 rfl rfl (by simp) (nle rfl) (nle rfl) ⟨rfl, rfl⟩
theorem asbLat_met (hw : ∀ d ∈ tables_1, d.before a0 Z = true) (hcs : CSon Z) {h : Heap} {a b : Addr} {kb : ClassId} {cs : List Int32} (B : Bld Z h a b kb cs) :
    Met l Z consts_1 ⟨"java/lang/AbstractStringBuilder", "isLatin1", "()Z"⟩ jdk_68_method_68_code 1 (some .boolean) [] rm0 #[.ref a] h [] (fun v h' => v = some (.int 1) ∧ h = h') := by
  obtain ⟨cst, hS, hcn⟩ := hcs
  refine Met.of_walk (a0 := a0) (Ls := #[.val (.ref a)]) (plainFor_of_name pn_asb) (own_hEL hw) rfl ?_
  refine Wl.getstatic 3 d42_0 (w113 hw) hS ?_
  refine Wl.ifN 6 d42_3 (feq hcn).1 ?_
  refine Wl.aload_n 7 d42_6 rfl rfl ?_
  refine Wl.getfield 10 d42_7 (w116 hw) B.2.2.1 ?_
  refine Wl.ifN 13 d42_10 (teq rfl).2 ?_
  refine Wl.iconst 14 (1 : Int32) d42_13 (by decide) ?_
  refine Wl.goto 18 d42_14 ?_
  exact Wl.ireturn (t := .boolean) d42_18 rfl rfl (by simp) (nle rfl) (nle rfl) ⟨rfl, rfl⟩
theorem strA_met (hw : ∀ d ∈ tables_1, d.before a0 Z = true) (hcs : CSon Z) {h : Heap} {s a b : Addr} {kb : ClassId} {cs : List Int32} (hl : cs.length < 16) (B : Bld Z h a b kb cs) (E : Exa Z h s "java/lang/String") (FV : Fld Z h s "java/lang/String" "value" "[B" .null) (FC : Fld Z h s "java/lang/String" "coder" "B" (.int 0)) (hsb : s ≠ b) :
    Met l Z consts_1 ⟨"java/lang/String", "<init>", "(Ljava/lang/AbstractStringBuilder;Ljava/lang/Void;)V"⟩ jdk_42_method_150_code 5 none [] { frames := 3, cells := 1, slots := 16, locals := 49 } #[.ref s, .ref a, .null] h [s] (fun v h' => v = none ∧ Keep h h' [s] ∧ Stl Z h' s cs) := by
  have L1 : Laid Z a0 "java/lang/String" "java/lang/String" "value" "[B" := Or.inr (w36 hw)
  have L2 : Laid Z a0 "java/lang/String" "java/lang/String" "coder" "B" := Or.inr (w34 hw)
  have hsl : Jvm.RoadKit.slotOf Z "java/lang/String" "value" "[B" ≠ Jvm.RoadKit.slotOf Z "java/lang/String" "coder" "B" := slot_ne L1 L2 (by decide) (t := .array .byte) (t' := .byte) (by decide) (by decide)
  refine Met.of_walk (a0 := a0) (Ls := #[.val (.ref s), .val (.ref a), .val .null, .unset, .unset]) (plainFor_of_name pn_str) (own_hEL hw) rfl ?_
  refine Wl.aload_n 1 d38_0 rfl rfl ?_
  refine Wl.initO 4 d38_1 (w18 hw) (w19 hw) (w20 hw) rfl (nle rfl) (nle rfl) ?_
  refine Wl.aload_n 5 d38_4 rfl rfl ?_
  refine Wl.virtual 8 (K := "java/lang/StringBuilder") (argsL := []) d38_5 (w196 hw) (w197 hw) (w199 hw) (w198 hw) (w110 hw) (w200 hw) (nf_sel (w199 hw) rfl) B.1 (show parseMethodDescriptor "()[B" = some ⟨[], some (.array .byte)⟩ by decide +kernel) rfl (getV_met hw B) (fun _ q => nomatch q) rfl rfl rfl (by decide) ⟨⟨nle rfl, nle rfl⟩, nle rfl, nle rfl⟩ ?_
  intro v h1 hq _
  obtain ⟨rfl, rfl⟩ := hq
  show WlO _ _ _ _ _ _ _ _ _ _ _ _ _ _ _ _ _ _ [.ref b]
  refine Wl.astore_n 9 #[.val (.ref s), .val (.ref a), .val .null, .val (.ref b), .unset] d38_8 rfl rfl ?_
  refine Wl.aload_n 10 d38_9 rfl rfl ?_
  refine Wl.virtual 13 (K := "java/lang/StringBuilder") (argsL := []) d38_10 (w201 hw) (w202 hw) (w204 hw) (w205 hw) (w102 hw) (w206 hw) (nf_cls (w202 hw) (w199 hw) rfl) B.1 (show parseMethodDescriptor "()I" = some ⟨[], some .int⟩ by decide +kernel) rfl (sbLen_met hw B) (fun _ q => nomatch q) rfl rfl rfl (by decide) ⟨⟨nle rfl, nle rfl⟩, nle rfl, nle rfl⟩ ?_
  intro v h1 hq _
  obtain ⟨rfl, rfl⟩ := hq
  show WlO _ _ _ _ _ _ _ _ _ _ _ _ _ _ _ _ _ _ [.int (Int32.ofNat cs.length)]
  refine Wl.istore 15 #[.val (.ref s), .val (.ref a), .val .null, .val (.ref b), .val (.int (Int32.ofNat cs.length))] d38_13 rfl ?_
  refine Wl.aload_n 16 d38_15 rfl rfl ?_
  refine Wl.virtual 19 (K := "java/lang/StringBuilder") (argsL := []) d38_16 (w209 hw) (w210 hw) (w212 hw) (w211 hw) (w110 hw) (w213 hw) (nf_sel (w212 hw) rfl) B.1 (show parseMethodDescriptor "()Z" = some ⟨[], some .boolean⟩ by decide +kernel) rfl (asbLat_met hw hcs B) (fun _ q => nomatch q) rfl rfl rfl (by decide) ⟨⟨nle rfl, nle rfl⟩, nle rfl, nle rfl⟩ ?_
  intro v h1 hq _
  obtain ⟨rfl, rfl⟩ := hq
  show WlO _ _ _ _ _ _ _ _ _ _ _ _ _ _ _ _ _ _ [.int 1]
  refine Wl.ifN 22 d38_19 (by decide) ?_
  refine Wl.aload_n 23 d38_22 rfl rfl ?_
  refine Wl.iconst 24 (0 : Int32) d38_23 (by decide) ?_
  refine Wl.putfield 27 d38_24 (w33 hw) FC E (Or.inr ⟨(w34 hw), rfl, rfl⟩) (w9 hw) (ty := .byte) (by decide) rfl rfl (List.mem_of_getElem? (i := 0) rfl) ?_
  intro h2 W2
  refine Wl.aload_n 28 d38_27 rfl rfl ?_
  refine Wl.aload_n 29 d38_28 rfl rfl ?_
  refine Wl.iconst 30 (0 : Int32) d38_29 (by decide) ?_
  refine Wl.iload 32 d38_30 rfl ?_
  have A2 : Arv Z h2 b kb .byte (Int32.ofNat (pad cs).length) ((pad cs).map byV) (.int 0) := by rw [pad_len (by omega)]; exact B.2.2.2.2.1.other W2 hsb.symm
  have hpl := pad_len (cs := cs) (by omega)
  have hcp : Met l Z consts_1 ⟨"java/util/Arrays", "copyOfRange", "([BII)[B"⟩ jdk_65_method_132_code 3 (some (.array .byte)) [] { frames := 2, cells := 1, slots := 16, locals := 34 } #[.ref b, .int 0, .int (Int32.ofNat cs.length)] h2 [] (fun v h' => ∃ (d : Addr) (kd : ClassId), v = some (.ref d) ∧ h2.size ≤ d ∧ Ext h2 h' ∧ Arv Z h' d kd .byte (Int32.ofNat cs.length) ((((pad cs).drop 0).take cs.length).map byV) (.int 0)) := by
    have q := copyR_met (l := l) hw (cs := pad cs) (i := 0) (n := cs.length) (N := 16) (by omega) (by omega) (by omega) (by omega) (by decide) A2
    rw [Nat.zero_add] at q
    exact q
  refine Wl.static 35 (argsL := [.ref b, .int 0, .int (Int32.ofNat cs.length)]) d38_32 (w214 hw) (w215 hw) (w216 hw) (w217 hw) (show parseMethodDescriptor "([BII)[B" = some ⟨[.array .byte, .int, .int], some (.array .byte)⟩ by decide +kernel) rfl hcp (fun _ q => nomatch q) rfl rfl rfl (by decide) ⟨⟨nle rfl, nle rfl⟩, nle rfl, nle rfl⟩ ?_
  intro v h3 hq _
  obtain ⟨d, kd, rfl, hd, E3, D⟩ := hq
  rw [List.drop_zero, pad_take] at D
  show WlO _ _ _ _ _ _ _ _ _ _ _ _ _ _ _ _ _ _ [.ref d, .ref s]
  have hne : d ≠ s := Nat.ne_of_gt (Nat.lt_of_lt_of_le (E.wr W2).lt hd)
  refine Wl.putfield 38 d38_35 (w35 hw) ((FV.other W2 (Or.inr hsl)).ext E3) ((E.wr W2).ext E3) (Or.inr ⟨(w36 hw), rfl, rfl⟩) (w9 hw) (ty := .array .byte) (by decide) rfl rfl (List.mem_of_getElem? (i := 0) rfl) ?_
  intro h4 W4
  refine Wl.goto 97 d38_38 ?_
  exact Wl.return_ d38_97 rfl (nle rfl) (nle rfl) ⟨rfl, (((Keep.refl h [s]).wr W2 (Or.inl (List.mem_of_getElem? (i := 0) rfl))).ext E3).wr W4 (Or.inl (List.mem_of_getElem? (i := 0) rfl)),
    d, kd, ((E.wr W2).ext E3).wr W4, ((FC.same W2).ext E3).other W4 (Or.inr hsl.symm), ((FV.other W2 (Or.inr hsl)).ext E3).same W4, D.other W4 hne, B.2.2.2.2.2.1, by omega⟩
theorem strSB_met (hw : ∀ d ∈ tables_1, d.before a0 Z = true) (hcs : CSon Z) {h : Heap} {s a b : Addr} {kb : ClassId} {cs : List Int32} (hl : cs.length < 16) (B : Bld Z h a b kb cs) (E : Exa Z h s "java/lang/String") (FV : Fld Z h s "java/lang/String" "value" "[B" .null) (FC : Fld Z h s "java/lang/String" "coder" "B" (.int 0)) (hsb : s ≠ b) :
    Met l Z consts_1 ⟨"java/lang/String", "<init>", "(Ljava/lang/StringBuilder;)V"⟩ jdk_42_method_53_code 2 none [] { frames := 4, cells := 1, slots := 16, locals := 65 } #[.ref s, .ref a] h [s] (fun v h' => v = none ∧ Keep h h' [s] ∧ Stl Z h' s cs) := by
  refine Met.of_walk (a0 := a0) (Ls := #[.val (.ref s), .val (.ref a)]) (plainFor_of_name pn_str) (own_hEL hw) rfl ?_
  refine Wl.aload_n 1 d37_0 rfl rfl ?_
  refine Wl.aload_n 2 d37_1 rfl rfl ?_
  refine Wl.aconst_null 3 d37_2 ?_
  refine Wl.special 6 (argsL := [.ref a, .null]) d37_3 (w193 hw) (w194 hw) (w10 hw) (w195 hw) (show parseMethodDescriptor "(Ljava/lang/AbstractStringBuilder;Ljava/lang/Void;)V" = some ⟨[.object "java/lang/AbstractStringBuilder", .object "java/lang/Void"], none⟩ by decide +kernel) rfl (strA_met hw hcs hl B E FV FC hsb) (allS (List.mem_of_getElem? (i := 0) rfl) (fun _ q => nomatch q)) rfl rfl rfl rfl (by decide) ⟨⟨nle rfl, nle rfl⟩, nle rfl, nle rfl⟩ ?_
  intro v h1 hq _
  obtain ⟨rfl, r⟩ := hq
  exact Wl.return_ d37_6 rfl (nle rfl) (nle rfl) ⟨rfl, r⟩
theorem toS_met (hw : ∀ d ∈ tables_1, d.before a0 Z = true) (hcs : CSon Z) {h : Heap} {a b : Addr} {kb : ClassId} {cs : List Int32} (hl : cs.length < 16) (B : Bld Z h a b kb cs) :
    Met l Z consts_1 ⟨"java/lang/StringBuilder", "toString", "()Ljava/lang/String;"⟩ jdk_67_method_42_code 1 (some (.object "java/lang/String")) [] { frames := 5, cells := 2, slots := 20, locals := 79 } #[.ref a] h [] (fun v h' => ∃ s, v = some (.ref s) ∧ Ext h h' ∧ Stl Z h' s cs) := by
  refine Met.of_walk (a0 := a0) (Ls := #[.val (.ref a)]) (plainFor_of_name pn_sb) (own_hEL hw) rfl ?_
  refine Wl.new 3 d36_0 (w189 hw) (w9 hw) (w10 hw) (nle rfl) (nle rfl) ?_
  intro s h1 q E1 X D
  have F1 : Fld Z h1 s "java/lang/String" "value" "[B" .null := D (Or.inr (w36 hw)) (ty := .array .byte) (by decide)
  have F2 : Fld Z h1 s "java/lang/String" "coder" "B" (.int 0) := D (Or.inr (w34 hw)) (ty := .byte) (by decide)
  have hsb : s ≠ b := fun e => by have := B.2.2.2.2.1.lt; rw [← e, q] at this; exact absurd this (Nat.lt_irrefl _)
  refine Wl.dup 4 d36_3 rfl ?_
  refine Wl.aload_n 5 d36_4 rfl rfl ?_
  refine Wl.special 8 (argsL := [.ref a]) d36_5 (w190 hw) (w191 hw) (w10 hw) (w192 hw) (show parseMethodDescriptor "(Ljava/lang/StringBuilder;)V" = some ⟨[.object "java/lang/StringBuilder"], none⟩ by decide +kernel) rfl (strSB_met hw hcs hl (B.ext E1) X F1 F2 hsb) (allS (List.mem_of_getElem? (i := 0) rfl) (fun _ q => nomatch q)) rfl rfl rfl rfl (by decide) ⟨⟨nle rfl, nle rfl⟩, nle rfl, nle rfl⟩ ?_
  intro v h2 hq _
  obtain ⟨rfl, K, S⟩ := hq
  show WlO _ _ _ _ _ _ _ _ _ _ _ _ _ _ _ _ _ _ [.ref s]
  exact Wl.areturn d36_8 rfl rfl rfl (nle rfl) (nle rfl) ⟨s, rfl, extKeep E1 K (allS (Nat.le_of_eq q.symm) all0), S⟩
end OpSB

theorem idxF_none (c : Int32) : ∀ (xs : List Int32) (k : Nat), (∀ x ∈ xs, x ≠ c) → idxF c k xs = -1
  | [], _, _ => rfl
  | x :: xs, k, h => by
    have h1 : ¬ x = c := h x (List.mem_cons_self ..)
    rw [idxF, if_neg h1]
    exact idxF_none c xs (k + 1) (fun z q => h z (List.mem_cons_of_mem _ q))
theorem neN {c : Int32} : ∀ x ∈ ([] : List Int32), x ≠ c := fun _ q => nomatch q
theorem neC {c x : Int32} {xs : List Int32} (p : x ≠ c) (r : ∀ z ∈ xs, z ≠ c) : ∀ z ∈ x :: xs, z ≠ c := fun z q => (List.mem_cons.mp q).elim (fun e => e ▸ p) (r z)
theorem empL_met {l : Launch} {Z : State} {a0 : Array Value} (hw : ∀ d ∈ tables_1, d.before a0 Z = true) {h : Heap} {a : Addr} {cs : List Int32} (S : Stl Z h a cs) (hne : cs ≠ []) :
    Met l Z consts_1 ⟨"java/lang/String", "isEmpty", "()Z"⟩ jdk_42_method_55_code 1 (some .boolean) [] rm0 #[.ref a] h [] (fun v h' => v = some (.int 0) ∧ h = h') := by
  have hp : 0 < cs.length := List.length_pos_iff.mpr hne
  obtain ⟨b, kb, X, C, Vl, A, hl, hn⟩ := S
  refine Met.of_walk (a0 := a0) (Ls := #[.val (.ref a)]) (plainFor_of_name pn_str) (own_hEL hw) rfl ?_
  refine Wl.aload_n 1 d31_0 rfl rfl ?_
  refine Wl.getfield 4 d31_1 (w35 hw) Vl ?_
  refine Wl.arraylength 5 d31_4 A ?_
  refine Wl.ifY 12 d31_5 (feq (fun q => by have := congrArg Int32.toInt q; rw [nI (by omega), show (0 : Int32).toInt = 0 by decide] at this; omega)).2 ?_
  refine Wl.iconst 13 (0 : Int32) d31_12 (by decide) ?_
  exact Wl.ireturn (t := .boolean) d31_13 rfl rfl (by simp) (nle rfl) (nle rfl) ⟨rfl, rfl⟩
set_option maxRecDepth 65536 in
set_option maxHeartbeats 40000000 in
theorem reqnn_met {l : Launch} {Z : State} {a0 : Array Value} (hw : ∀ d ∈ tables_1, d.before a0 Z = true) {h : Heap} {a : Addr} {v1 : Value} (r1 : v1.isRef = true) :
    Met l Z consts_1 ⟨"java/util/Objects", "requireNonNull", "(Ljava/lang/Object;Ljava/lang/String;)Ljava/lang/Object;"⟩ jdk_31_method_11_code 2 (some (.object "java/lang/Object")) [] { frames := 0, cells := 0, slots := 0, locals := 0 } #[.ref a, v1] h [] (fun v h' => v = some (.ref a) ∧ h = h') := by
  refine Met.of_walk (a0 := a0) (Ls := #[.val (.ref a), .val (v1)]) (plainFor_of_name pn_2) (own_hEL hw) (by rcases ref_cases r1 with rfl | ⟨_, rfl⟩ <;> rfl) ?_
  refine Wl.aload_n 1 d10_0 rfl rfl ?_
  refine Wl.ifnonnullY 13 d10_1 ?_
  refine Wl.aload_n 14 d10_13 rfl rfl ?_
  exact Wl.areturn d10_14 rfl rfl rfl (nle rfl) (nle rfl) ⟨rfl, rfl⟩
set_option maxRecDepth 65536 in
set_option maxHeartbeats 40000000 in
theorem keys_met {l : Launch} {Z : State} {a0 : Array Value} (hw : ∀ d ∈ tables_1, d.before a0 Z = true) (hcs : CSon Z) {h : Heap} {a : Addr} {x0 : Addr} {cs : List Int32} (E : Exa Z h a "com/example/portunus/portunus/LockKeys") (F_prefix : Fld Z h a "com/example/portunus/portunus/LockKeys" "prefix" "Ljava/lang/String;" (.null)) (S : Stl Z h x0 cs) (n123 : ∀ x ∈ cs, x ≠ 123) (n125 : ∀ x ∈ cs, x ≠ 125) :
    Met l Z consts_1 ⟨"com/example/portunus/portunus/LockKeys", "<init>", "(Ljava/lang/String;)V"⟩ prog_6_method_1_code 2 none [] { frames := 4, cells := 2, slots := 28, locals := 59 } #[.ref a, .ref x0] h [a] (fun v h' => v = none ∧ Keep h h' [a] ∧ Exa Z h' a "com/example/portunus/portunus/LockKeys" ∧ Fld Z h' a "com/example/portunus/portunus/LockKeys" "prefix" "Ljava/lang/String;" (.ref x0)) := by
  refine Met.of_walk (a0 := a0) (Ls := #[.val (.ref a), .val (.ref x0)]) (plainFor_of_name pn_3) (own_hEL hw) rfl ?_
  refine Wl.aload_n 1 d9_0 rfl rfl ?_
  refine Wl.initO 4 d9_1 (w43 hw) (w19 hw) (w20 hw) rfl (nle rfl) (nle rfl) ?_
  refine Wl.aload_n 5 d9_4 rfl rfl ?_
  refine Wl.ldcS 7 24 (text := "prefix") (vs := [byV (112 : Int32), byV (114 : Int32), byV (101 : Int32), byV (102 : Int32), byV (105 : Int32), byV (120 : Int32)]) (z := (6 : Int32)) d9_5 (w44 hw) (own_wS hw) (by decide) ⟨by decide, by decide⟩ (by decide) (by decide) (by decide) (by decide) (nle rfl) (nle rfl) ?_
  intro a1 h2 b3 k4 E5 X6 C7 V8 A9 ne10
  have S11 : Stl Z h2 a1 [(112 : Int32), (114 : Int32), (101 : Int32), (102 : Int32), (105 : Int32), (120 : Int32)] := ⟨b3, k4, X6, C7, V8, A9, (latC (by decide) (latC (by decide) (latC (by decide) (latC (by decide) (latC (by decide) (latC (by decide) latN)))))), by decide⟩
  have K12 : Keep h h2 [a] := ((Keep.refl h [a])).ext E5
  refine Wl.static 10 (argsL := [.ref x0, .ref a1]) d9_7 (w47 hw) (w48 hw) (w49 hw) (w50 hw) (show parseMethodDescriptor "(Ljava/lang/Object;Ljava/lang/String;)Ljava/lang/Object;" = some ⟨[(.object "java/lang/Object"), (.object "java/lang/String")], some (.object "java/lang/Object")⟩ by decide +kernel) rfl (reqnn_met hw rfl) (fun _ q => nomatch q) rfl rfl rfl (by decide) ⟨⟨nle rfl, nle rfl⟩, nle rfl, nle rfl⟩ ?_
  intro v13 h14 hq15 _
  obtain ⟨rfl, rfl⟩ := hq15
  show WlO _ _ _ _ _ _ _ _ _ _ _ _ _ _ _ _ _ _ [.ref x0]
  refine Wl.pop 11 d9_10 rfl ?_
  refine Wl.aload_n 12 d9_11 rfl rfl ?_
  refine Wl.bipush 14 (123 : Int32) d9_12 (by decide) ?_
  refine Wl.virtual 17 (argsL := [.int (123 : Int32)]) d9_14 (w51 hw) (w52 hw) (w54 hw) (w53 hw) (w10 hw) (w55 hw) (nf_sel (w54 hw) rfl) ((S).exa.ext E5) (show parseMethodDescriptor "(I)I" = some ⟨[.int], some .int⟩ by decide +kernel) rfl (idx1_met hw hcs (by decide) (S.ext E5)) (fun _ q => nomatch q) rfl rfl rfl (by decide) ⟨⟨nle rfl, nle rfl⟩, nle rfl, nle rfl⟩ ?_
  intro v16 h17 hq18 _
  rw [idxF_none _ _ _ n123] at hq18
  obtain ⟨rfl, rfl⟩ := hq18
  show WlO _ _ _ _ _ _ _ _ _ _ _ _ _ _ _ _ _ _ [.int (-1 : Int32)]
  refine Wl.ifN 20 d9_17 (tlt (by decide)).2.1 ?_
  refine Wl.aload_n 21 d9_20 rfl rfl ?_
  refine Wl.bipush 23 (125 : Int32) d9_21 (by decide) ?_
  refine Wl.virtual 26 (argsL := [.int (125 : Int32)]) d9_23 (w51 hw) (w52 hw) (w54 hw) (w53 hw) (w10 hw) (w55 hw) (nf_sel (w54 hw) rfl) ((S).exa.ext E5) (show parseMethodDescriptor "(I)I" = some ⟨[.int], some .int⟩ by decide +kernel) rfl (idx1_met hw hcs (by decide) (S.ext E5)) (fun _ q => nomatch q) rfl rfl rfl (by decide) ⟨⟨nle rfl, nle rfl⟩, nle rfl, nle rfl⟩ ?_
  intro v19 h20 hq21 _
  rw [idxF_none _ _ _ n125] at hq21
  obtain ⟨rfl, rfl⟩ := hq21
  show WlO _ _ _ _ _ _ _ _ _ _ _ _ _ _ _ _ _ _ [.int (-1 : Int32)]
  refine Wl.ifY 56 d9_26 (tlt (by decide)).1 ?_
  refine Wl.aload_n 57 d9_56 rfl rfl ?_
  refine Wl.aload_n 58 d9_57 rfl rfl ?_
  refine Wl.putfield 61 d9_58 (w93 hw) (F_prefix.ext E5) (E.ext E5) (Or.inr ⟨(w94 hw), rfl, rfl⟩) (w38 hw) (ty := (.object "java/lang/String")) (by decide) rfl rfl (List.mem_of_getElem? (i := 0) rfl) ?_
  intro h22 W23
  have F24 : Fld Z h22 a "com/example/portunus/portunus/LockKeys" "prefix" "Ljava/lang/String;" (.ref x0) := ((F_prefix.ext E5)).same W23
  have K25 : Keep h h22 [a] := (K12).wr W23 (Or.inl (List.mem_of_getElem? (i := 0) rfl))
  exact Wl.return_ d9_61 rfl (nle rfl) (nle rfl) ⟨rfl, K25, ((E.ext E5).wr W23), F24⟩
set_option maxRecDepth 65536 in
set_option maxHeartbeats 40000000 in
theorem braced_met {l : Launch} {Z : State} {a0 : Array Value} (hw : ∀ d ∈ tables_1, d.before a0 Z = true) (hcs : CSon Z) (hfm : Fmt Z) {h : Heap} {n : Addr} {cs : List Int32} (S : Stl Z h n cs) (hne : cs ≠ []) (hp : 0 < cs.length) (h0 : ¬ cs[0] = 125) (h4 : cs.length ≤ 4) :
    Met l Z consts_1 ⟨"com/example/portunus/portunus/LockKeys", "braced", "(Ljava/lang/String;)Ljava/lang/String;"⟩ prog_6_method_8_code 1 (some (.object "java/lang/String")) [] { frames := 6, cells := 10, slots := 80, locals := 92 } #[.ref n] h [] (fun v h' => ∃ s, v = some (.ref s) ∧ Ext h h' ∧ Stl Z h' s ((([] ++ [(123 : Int32)]) ++ cs) ++ [(125 : Int32)])) := by
  refine Met.of_walk (a0 := a0) (Ls := #[.val (.ref n)]) (plainFor_of_name pn_3) (own_hEL hw) rfl ?_
  refine Wl.aload_n 1 d30_0 rfl rfl ?_
  refine Wl.ldcS 3 16 (text := "name") (vs := [byV (110 : Int32), byV (97 : Int32), byV (109 : Int32), byV (101 : Int32)]) (z := (4 : Int32)) d30_1 (w160 hw) (own_wS hw) (by decide) ⟨by decide, by decide⟩ (by decide) (by decide) (by decide) (by decide) (nle rfl) (nle rfl) ?_
  intro a1 h2 b3 k4 E5 X6 C7 V8 A9 ne10
  have B11 : Ext h h2 := E5
  have S12 : Stl Z h2 a1 [(110 : Int32), (97 : Int32), (109 : Int32), (101 : Int32)] := ⟨b3, k4, X6, C7, V8, A9, (latC (by decide) (latC (by decide) (latC (by decide) (latC (by decide) latN)))), by decide⟩
  refine Wl.static 6 (argsL := [.ref n, .ref a1]) d30_3 (w47 hw) (w48 hw) (w49 hw) (w50 hw) (show parseMethodDescriptor "(Ljava/lang/Object;Ljava/lang/String;)Ljava/lang/Object;" = some ⟨[(.object "java/lang/Object"), (.object "java/lang/String")], some (.object "java/lang/Object")⟩ by decide +kernel) rfl (reqnn_met hw rfl) (fun _ q => nomatch q) rfl rfl rfl (by decide) ⟨⟨nle rfl, nle rfl⟩, nle rfl, nle rfl⟩ ?_
  intro v13 h14 hq15 _
  obtain ⟨rfl, rfl⟩ := hq15
  show WlO _ _ _ _ _ _ _ _ _ _ _ _ _ _ _ _ _ _ [.ref n]
  refine Wl.pop 7 d30_6 rfl ?_
  refine Wl.aload_n 8 d30_7 rfl rfl ?_
  refine Wl.virtual 11 (argsL := []) d30_8 (w161 hw) (w162 hw) (w164 hw) (w163 hw) (w10 hw) (w165 hw) (nf_sel (w164 hw) rfl) ((S).exa.ext E5) (show parseMethodDescriptor "()Z" = some ⟨[], some .boolean⟩ by decide +kernel) rfl (empL_met hw (S.ext E5) hne) (fun _ q => nomatch q) rfl rfl rfl (by decide) ⟨⟨nle rfl, nle rfl⟩, nle rfl, nle rfl⟩ ?_
  intro v16 h17 hq18 _
  obtain ⟨rfl, rfl⟩ := hq18
  show WlO _ _ _ _ _ _ _ _ _ _ _ _ _ _ _ _ _ _ [.int (0 : Int32)]
  refine Wl.ifN 14 d30_11 (teq (by decide)).2 ?_
  refine Wl.aload_n 15 d30_14 rfl rfl ?_
  refine Wl.iconst 16 (0 : Int32) d30_15 (by decide) ?_
  refine Wl.virtual 19 (argsL := [.int (0 : Int32)]) d30_16 (w166 hw) (w167 hw) (w169 hw) (w168 hw) (w10 hw) (w170 hw) (nf_sel (w169 hw) rfl) ((S).exa.ext E5) (show parseMethodDescriptor "(I)C" = some ⟨[.int], some .char⟩ by decide +kernel) rfl (charAt_met hw hcs hfm (S.ext E5) (i := 0) hp) (fun _ q => nomatch q) rfl rfl rfl (by decide) ⟨⟨nle rfl, nle rfl⟩, nle rfl, nle rfl⟩ ?_
  intro v19 h20 hq21 _
  obtain ⟨rfl, rfl⟩ := hq21
  show WlO _ _ _ _ _ _ _ _ _ _ _ _ _ _ _ _ _ _ [.int (cs[0])]
  refine Wl.bipush 21 (125 : Int32) d30_19 (by decide) ?_
  refine Wl.icmpY 51 d30_21 (feq h0).2 ?_
  refine Wl.new 54 d30_51 (w100 hw) (w101 hw) (w102 hw) (nle rfl) (nle rfl) ?_
  intro a22 h23 q24 E25 X26 D27
  have z28 : h.size ≤ a22 := Nat.le_trans B11.1 (Nat.le_of_eq q24.symm)
  have z29 : h2.size ≤ a22 := Nat.le_of_eq q24.symm
  have ne30 : n ≠ a22 := Nat.ne_of_lt (by rw [q24]; exact (((S).exa.ext E5)).lt)
  have ne31 : a1 ≠ a22 := Nat.ne_of_lt (by rw [q24]; exact (X6).lt)
  have B32 : Ext h h23 := extTr B11 E25
  have B33 : Ext h2 h23 := E25
  have F34 : Fld Z h23 a22 "java/lang/AbstractStringBuilder" "value" "[B" (.null) := D27 (Or.inl (w115 hw)) (ty := (.array .byte)) (by decide)
  have F35 : Fld Z h23 a22 "java/lang/AbstractStringBuilder" "coder" "B" (.int 0) := D27 (Or.inl (w117 hw)) (ty := .byte) (by decide)
  have F36 : Fld Z h23 a22 "java/lang/AbstractStringBuilder" "count" "I" (.int 0) := D27 (Or.inl (w130 hw)) (ty := .int) (by decide)
  refine Wl.dup 55 d30_54 rfl ?_
  refine Wl.specialO 58 (argsL := []) d30_55 (w103 hw) (w104 hw) (w102 hw) (w105 hw) (show parseMethodDescriptor "()V" = some ⟨[], none⟩ by decide +kernel) rfl (sbInit_met hw hcs X26 F34 F35 F36) (allS (List.mem_of_getElem? (i := 0) rfl) (fun _ q => nomatch q)) rfl rfl rfl rfl (by decide) ⟨⟨nle rfl, nle rfl⟩, nle rfl, nle rfl⟩ ?_
  intro v37 h38 hq39 _
  obtain ⟨rfl, K40, kb41, B42⟩ := hq39
  have z43 : h.size ≤ (h23.size) := B32.1
  have z44 : h2.size ≤ (h23.size) := B33.1
  have B45 : Ext h h38 := extKeep B32 K40 (allS z28 all0)
  have B46 : Ext h2 h38 := extKeep B33 K40 (allS z29 all0)
  show WlO _ _ _ _ _ _ _ _ _ _ _ _ _ _ _ _ _ _ [.ref a22]
  refine Wl.ldcS 60 4 (text := "{") (vs := [byV (123 : Int32)]) (z := (1 : Int32)) d30_58 (w182 hw) (own_wS hw) (by decide) ⟨by decide, by decide⟩ (by decide) (by decide) (by decide) (by decide) (nle rfl) (nle rfl) ?_
  intro a47 h48 b49 k50 E51 X52 C53 V54 A55 ne56
  have B57 : Ext h h48 := extTr B45 E51
  have B58 : Ext h2 h48 := extTr B46 E51
  have S59 : Stl Z h48 a47 [(123 : Int32)] := ⟨b49, k50, X52, C53, V54, A55, (latC (by decide) latN), by decide⟩
  refine Wl.virtual 63 (argsL := [.ref a47]) d30_60 (w118 hw) (w119 hw) (w121 hw) (w120 hw) (w102 hw) (w122 hw) (nf_sel (w121 hw) rfl) (B42.1.ext E51) (show parseMethodDescriptor "(Ljava/lang/String;)Ljava/lang/StringBuilder;" = some ⟨[(.object "java/lang/String")], some (.object "java/lang/StringBuilder")⟩ by decide +kernel) rfl (sbApp_met hw hcs (cs := []) (ds := [(123 : Int32)]) (by simp only [List.length_append, List.length_cons, List.length_nil]; omega) (B42.ext E51) S59) (allS (List.mem_of_getElem? (i := 1) rfl) (allS (List.mem_of_getElem? (i := 0) rfl) (fun _ q => nomatch q))) rfl rfl rfl (by decide) ⟨⟨nle rfl, nle rfl⟩, nle rfl, nle rfl⟩ ?_
  intro v60 h61 hq62 _
  obtain ⟨rfl, K63, B64⟩ := hq62
  have B65 : Ext h h61 := extKeep B57 K63 (allS z28 (allS z43 all0))
  have B66 : Ext h2 h61 := extKeep B58 K63 (allS z29 (allS z44 all0))
  show WlO _ _ _ _ _ _ _ _ _ _ _ _ _ _ _ _ _ _ [.ref a22]
  refine Wl.aload_n 64 d30_63 rfl rfl ?_
  refine Wl.virtual 67 (argsL := [.ref n]) d30_64 (w118 hw) (w119 hw) (w121 hw) (w120 hw) (w102 hw) (w122 hw) (nf_sel (w121 hw) rfl) B64.1 (show parseMethodDescriptor "(Ljava/lang/String;)Ljava/lang/StringBuilder;" = some ⟨[(.object "java/lang/String")], some (.object "java/lang/StringBuilder")⟩ by decide +kernel) rfl (sbApp_met hw hcs (cs := ([] ++ [(123 : Int32)])) (ds := cs) (by simp only [List.length_append, List.length_cons, List.length_nil]; omega) B64 (S.ext B65)) (allS (List.mem_of_getElem? (i := 1) rfl) (allS (List.mem_of_getElem? (i := 0) rfl) (fun _ q => nomatch q))) rfl rfl rfl (by decide) ⟨⟨nle rfl, nle rfl⟩, nle rfl, nle rfl⟩ ?_
  intro v67 h68 hq69 _
  obtain ⟨rfl, K70, B71⟩ := hq69
  have B72 : Ext h h68 := extKeep B65 K70 (allS z28 (allS z43 all0))
  have B73 : Ext h2 h68 := extKeep B66 K70 (allS z29 (allS z44 all0))
  show WlO _ _ _ _ _ _ _ _ _ _ _ _ _ _ _ _ _ _ [.ref a22]
  refine Wl.ldcS 69 4 (text := "}") (vs := [byV (125 : Int32)]) (z := (1 : Int32)) d30_67 (w183 hw) (own_wS hw) (by decide) ⟨by decide, by decide⟩ (by decide) (by decide) (by decide) (by decide) (nle rfl) (nle rfl) ?_
  intro a74 h75 b76 k77 E78 X79 C80 V81 A82 ne83
  have B84 : Ext h h75 := extTr B72 E78
  have B85 : Ext h2 h75 := extTr B73 E78
  have S86 : Stl Z h75 a74 [(125 : Int32)] := ⟨b76, k77, X79, C80, V81, A82, (latC (by decide) latN), by decide⟩
  refine Wl.virtual 72 (argsL := [.ref a74]) d30_69 (w118 hw) (w119 hw) (w121 hw) (w120 hw) (w102 hw) (w122 hw) (nf_sel (w121 hw) rfl) (B71.1.ext E78) (show parseMethodDescriptor "(Ljava/lang/String;)Ljava/lang/StringBuilder;" = some ⟨[(.object "java/lang/String")], some (.object "java/lang/StringBuilder")⟩ by decide +kernel) rfl (sbApp_met hw hcs (cs := (([] ++ [(123 : Int32)]) ++ cs)) (ds := [(125 : Int32)]) (by simp only [List.length_append, List.length_cons, List.length_nil]; omega) (B71.ext E78) S86) (allS (List.mem_of_getElem? (i := 1) rfl) (allS (List.mem_of_getElem? (i := 0) rfl) (fun _ q => nomatch q))) rfl rfl rfl (by decide) ⟨⟨nle rfl, nle rfl⟩, nle rfl, nle rfl⟩ ?_
  intro v87 h88 hq89 _
  obtain ⟨rfl, K90, B91⟩ := hq89
  have B92 : Ext h h88 := extKeep B84 K90 (allS z28 (allS z43 all0))
  have B93 : Ext h2 h88 := extKeep B85 K90 (allS z29 (allS z44 all0))
  show WlO _ _ _ _ _ _ _ _ _ _ _ _ _ _ _ _ _ _ [.ref a22]
  refine Wl.virtual 75 (argsL := []) d30_72 (w184 hw) (w185 hw) (w187 hw) (w186 hw) (w102 hw) (w188 hw) (nf_sel (w187 hw) rfl) B91.1 (show parseMethodDescriptor "()Ljava/lang/String;" = some ⟨[], some (.object "java/lang/String")⟩ by decide +kernel) rfl (toS_met hw hcs (cs := ((([] ++ [(123 : Int32)]) ++ cs) ++ [(125 : Int32)])) (by simp only [List.length_append, List.length_cons, List.length_nil]; omega) B91) (fun _ q => nomatch q) rfl rfl rfl (by decide) ⟨⟨nle rfl, nle rfl⟩, nle rfl, nle rfl⟩ ?_
  intro v94 h95 hq96 _
  obtain ⟨s97, rfl, E98, S99⟩ := hq96
  have B100 : Ext h h95 := extTr B92 E98
  have B101 : Ext h2 h95 := extTr B93 E98
  show WlO _ _ _ _ _ _ _ _ _ _ _ _ _ _ _ _ _ _ [.ref s97]
  exact Wl.areturn d30_75 rfl rfl rfl (nle rfl) (nle rfl) ⟨s97, rfl, B100, S99⟩
set_option maxRecDepth 65536 in
set_option maxHeartbeats 40000000 in
theorem key_met {l : Launch} {Z : State} {a0 : Array Value} (hw : ∀ d ∈ tables_1, d.before a0 Z = true) (hcs : CSon Z) (hfm : Fmt Z) {h : Heap} {t n p : Addr} {cs ps : List Int32} (F : Fld Z h t "com/example/portunus/portunus/LockKeys" "prefix" "Ljava/lang/String;" (.ref p)) (U : Stl Z h p ps) (h3 : ps.length ≤ 3) (S : Stl Z h n cs) (hne : cs ≠ []) (hp : 0 < cs.length) (h0 : ¬ cs[0] = 125) (h4 : cs.length ≤ 4) :
    Met l Z consts_1 ⟨"com/example/portunus/portunus/LockKeys", "queueKey", "(Ljava/lang/String;)Ljava/lang/String;"⟩ prog_6_method_4_code 2 (some (.object "java/lang/String")) [] { frames := 7, cells := 20, slots := 160, locals := 120 } #[.ref t, .ref n] h [] (fun v h' => ∃ s, v = some (.ref s) ∧ Ext h h' ∧ Stl Z h' s ((([] ++ ps) ++ [(113 : Int32), (117 : Int32), (101 : Int32), (117 : Int32), (101 : Int32), (58 : Int32)]) ++ ((([] ++ [(123 : Int32)]) ++ cs) ++ [(125 : Int32)]))) := by
  refine Met.of_walk (a0 := a0) (Ls := #[.val (.ref t), .val (.ref n)]) (plainFor_of_name pn_3) (own_hEL hw) rfl ?_
  refine Wl.new 3 d21_0 (w100 hw) (w101 hw) (w102 hw) (nle rfl) (nle rfl) ?_
  intro a1 h2 q3 E4 X5 D6
  have z7 : h.size ≤ a1 := Nat.le_of_eq q3.symm
  have ne8 : n ≠ a1 := Nat.ne_of_lt (by rw [q3]; exact ((S).exa).lt)
  have ne9 : p ≠ a1 := Nat.ne_of_lt (by rw [q3]; exact ((U).exa).lt)
  have B10 : Ext h h2 := E4
  have F11 : Fld Z h2 a1 "java/lang/AbstractStringBuilder" "value" "[B" (.null) := D6 (Or.inl (w115 hw)) (ty := (.array .byte)) (by decide)
  have F12 : Fld Z h2 a1 "java/lang/AbstractStringBuilder" "coder" "B" (.int 0) := D6 (Or.inl (w117 hw)) (ty := .byte) (by decide)
  have F13 : Fld Z h2 a1 "java/lang/AbstractStringBuilder" "count" "I" (.int 0) := D6 (Or.inl (w130 hw)) (ty := .int) (by decide)
  refine Wl.dup 4 d21_3 rfl ?_
  refine Wl.specialO 7 (argsL := []) d21_4 (w103 hw) (w104 hw) (w102 hw) (w105 hw) (show parseMethodDescriptor "()V" = some ⟨[], none⟩ by decide +kernel) rfl (sbInit_met hw hcs X5 F11 F12 F13) (allS (List.mem_of_getElem? (i := 0) rfl) (fun _ q => nomatch q)) rfl rfl rfl rfl (by decide) ⟨⟨nle rfl, nle rfl⟩, nle rfl, nle rfl⟩ ?_
  intro v14 h15 hq16 _
  obtain ⟨rfl, K17, kb18, B19⟩ := hq16
  have z20 : h.size ≤ (h2.size) := B10.1
  have B21 : Ext h h15 := extKeep B10 K17 (allS z7 all0)
  show WlO _ _ _ _ _ _ _ _ _ _ _ _ _ _ _ _ _ _ [.ref a1]
  refine Wl.aload_n 8 d21_7 rfl rfl ?_
  refine Wl.getfield 11 d21_8 (w93 hw) (F.ext B21) ?_
  refine Wl.virtual 14 (argsL := [.ref p]) d21_11 (w118 hw) (w119 hw) (w121 hw) (w120 hw) (w102 hw) (w122 hw) (nf_sel (w121 hw) rfl) B19.1 (show parseMethodDescriptor "(Ljava/lang/String;)Ljava/lang/StringBuilder;" = some ⟨[(.object "java/lang/String")], some (.object "java/lang/StringBuilder")⟩ by decide +kernel) rfl (sbApp_met hw hcs (cs := []) (ds := ps) (by simp only [List.length_append, List.length_cons, List.length_nil]; omega) B19 (U.ext B21)) (allS (List.mem_of_getElem? (i := 1) rfl) (allS (List.mem_of_getElem? (i := 0) rfl) (fun _ q => nomatch q))) rfl rfl rfl (by decide) ⟨⟨nle rfl, nle rfl⟩, nle rfl, nle rfl⟩ ?_
  intro v22 h23 hq24 _
  obtain ⟨rfl, K25, B26⟩ := hq24
  have B27 : Ext h h23 := extKeep B21 K25 (allS z7 (allS z20 all0))
  show WlO _ _ _ _ _ _ _ _ _ _ _ _ _ _ _ _ _ _ [.ref a1]
  refine Wl.ldcS 16 24 (text := "queue:") (vs := [byV (113 : Int32), byV (117 : Int32), byV (101 : Int32), byV (117 : Int32), byV (101 : Int32), byV (58 : Int32)]) (z := (6 : Int32)) d21_14 (w156 hw) (own_wS hw) (by decide) ⟨by decide, by decide⟩ (by decide) (by decide) (by decide) (by decide) (nle rfl) (nle rfl) ?_
  intro a28 h29 b30 k31 E32 X33 C34 V35 A36 ne37
  have B38 : Ext h h29 := extTr B27 E32
  have S39 : Stl Z h29 a28 [(113 : Int32), (117 : Int32), (101 : Int32), (117 : Int32), (101 : Int32), (58 : Int32)] := ⟨b30, k31, X33, C34, V35, A36, (latC (by decide) (latC (by decide) (latC (by decide) (latC (by decide) (latC (by decide) (latC (by decide) latN)))))), by decide⟩
  refine Wl.virtual 19 (argsL := [.ref a28]) d21_16 (w118 hw) (w119 hw) (w121 hw) (w120 hw) (w102 hw) (w122 hw) (nf_sel (w121 hw) rfl) (B26.1.ext E32) (show parseMethodDescriptor "(Ljava/lang/String;)Ljava/lang/StringBuilder;" = some ⟨[(.object "java/lang/String")], some (.object "java/lang/StringBuilder")⟩ by decide +kernel) rfl (sbApp_met hw hcs (cs := ([] ++ ps)) (ds := [(113 : Int32), (117 : Int32), (101 : Int32), (117 : Int32), (101 : Int32), (58 : Int32)]) (by simp only [List.length_append, List.length_cons, List.length_nil]; omega) (B26.ext E32) S39) (allS (List.mem_of_getElem? (i := 1) rfl) (allS (List.mem_of_getElem? (i := 0) rfl) (fun _ q => nomatch q))) rfl rfl rfl (by decide) ⟨⟨nle rfl, nle rfl⟩, nle rfl, nle rfl⟩ ?_
  intro v40 h41 hq42 _
  obtain ⟨rfl, K43, B44⟩ := hq42
  have B45 : Ext h h41 := extKeep B38 K43 (allS z7 (allS z20 all0))
  show WlO _ _ _ _ _ _ _ _ _ _ _ _ _ _ _ _ _ _ [.ref a1]
  refine Wl.aload_n 20 d21_19 rfl rfl ?_
  refine Wl.static 23 (argsL := [.ref n]) d21_20 (w157 hw) (w158 hw) (w39 hw) (w159 hw) (show parseMethodDescriptor "(Ljava/lang/String;)Ljava/lang/String;" = some ⟨[(.object "java/lang/String")], some (.object "java/lang/String")⟩ by decide +kernel) rfl (braced_met hw hcs hfm (S.ext B45) hne hp h0 h4) (fun _ q => nomatch q) rfl rfl rfl (by decide) ⟨⟨nle rfl, nle rfl⟩, nle rfl, nle rfl⟩ ?_
  intro v46 h47 hq48 _
  obtain ⟨s49, rfl, E50, S51⟩ := hq48
  have B52 : Ext h h47 := extTr B45 E50
  show WlO _ _ _ _ _ _ _ _ _ _ _ _ _ _ _ _ _ _ [.ref s49, .ref a1]
  refine Wl.virtual 26 (argsL := [.ref s49]) d21_23 (w118 hw) (w119 hw) (w121 hw) (w120 hw) (w102 hw) (w122 hw) (nf_sel (w121 hw) rfl) (B44.1.ext E50) (show parseMethodDescriptor "(Ljava/lang/String;)Ljava/lang/StringBuilder;" = some ⟨[(.object "java/lang/String")], some (.object "java/lang/StringBuilder")⟩ by decide +kernel) rfl (sbApp_met hw hcs (cs := (([] ++ ps) ++ [(113 : Int32), (117 : Int32), (101 : Int32), (117 : Int32), (101 : Int32), (58 : Int32)])) (ds := ((([] ++ [(123 : Int32)]) ++ cs) ++ [(125 : Int32)])) (by simp only [List.length_append, List.length_cons, List.length_nil]; omega) (B44.ext E50) S51) (allS (List.mem_of_getElem? (i := 1) rfl) (allS (List.mem_of_getElem? (i := 0) rfl) (fun _ q => nomatch q))) rfl rfl rfl (by decide) ⟨⟨nle rfl, nle rfl⟩, nle rfl, nle rfl⟩ ?_
  intro v53 h54 hq55 _
  obtain ⟨rfl, K56, B57⟩ := hq55
  have B58 : Ext h h54 := extKeep B52 K56 (allS z7 (allS z20 all0))
  show WlO _ _ _ _ _ _ _ _ _ _ _ _ _ _ _ _ _ _ [.ref a1]
  refine Wl.virtual 29 (argsL := []) d21_26 (w184 hw) (w185 hw) (w187 hw) (w186 hw) (w102 hw) (w188 hw) (nf_sel (w187 hw) rfl) B57.1 (show parseMethodDescriptor "()Ljava/lang/String;" = some ⟨[], some (.object "java/lang/String")⟩ by decide +kernel) rfl (toS_met hw hcs (cs := ((([] ++ ps) ++ [(113 : Int32), (117 : Int32), (101 : Int32), (117 : Int32), (101 : Int32), (58 : Int32)]) ++ ((([] ++ [(123 : Int32)]) ++ cs) ++ [(125 : Int32)]))) (by simp only [List.length_append, List.length_cons, List.length_nil]; omega) B57) (fun _ q => nomatch q) rfl rfl rfl (by decide) ⟨⟨nle rfl, nle rfl⟩, nle rfl, nle rfl⟩ ?_
  intro v59 h60 hq61 _
  obtain ⟨s62, rfl, E63, S64⟩ := hq61
  have B65 : Ext h h60 := extTr B58 E63
  show WlO _ _ _ _ _ _ _ _ _ _ _ _ _ _ _ _ _ _ [.ref s62]
  exact Wl.areturn d21_29 rfl rfl rfl (nle rfl) (nle rfl) ⟨s62, rfl, B65, S64⟩
theorem and3 (k : Int32) : (k &&& (3 : Int32)) = 0 ∨ (k &&& (3 : Int32)) = 1 ∨ (k &&& (3 : Int32)) = 2 ∨ (k &&& (3 : Int32)) = 3 := by
  have h := c_and k 3 (by decide)
  have e : (3 : Int32).toInt = 3 := by decide
  generalize (k &&& (3 : Int32)) = n at h ⊢
  have q : ∀ k : Int32, n.toInt = k.toInt → n = k := fun k h => Int32.toInt_inj.mp h
  have : n.toInt = 0 ∨ n.toInt = 1 ∨ n.toInt = 2 ∨ n.toInt = 3 := by omega
  rcases this with h | h | h | h
  · exact Or.inl (q 0 h)
  · exact Or.inr (Or.inl (q 1 h))
  · exact Or.inr (Or.inr (Or.inl (q 2 h)))
  · exact Or.inr (Or.inr (Or.inr (q 3 h)))
theorem and3p (k : Int32) : (1 : Int32) + (k &&& (3 : Int32)) = 1 ∨ (1 : Int32) + (k &&& (3 : Int32)) = 2 ∨ (1 : Int32) + (k &&& (3 : Int32)) = 3 ∨ (1 : Int32) + (k &&& (3 : Int32)) = 4 := by
  rcases and3 k with h | h | h | h <;> rw [h]
  · exact Or.inl (by decide)
  · exact Or.inr (Or.inl (by decide))
  · exact Or.inr (Or.inr (Or.inl (by decide)))
  · exact Or.inr (Or.inr (Or.inr (by decide)))
set_option maxRecDepth 65536 in
set_option maxHeartbeats 40000000 in
theorem pch_met {l : Launch} {Z : State} {a0 : Array Value} (hw : ∀ d ∈ tables_1, d.before a0 Z = true) {h : Heap} {x y : Int32}  :
    Met l Z consts_1 ⟨"com/example/portunus/portunus/LockKeysQueueKeyPinLaw", "pch", "(II)C"⟩ method_3_code 3 (some .char) [] { frames := 0, cells := 0, slots := 0, locals := 0 } #[.int x, .int y] h [] (fun v h' => ∃ z, v = some (.int z) ∧ Lat z ∧ z ≠ 123 ∧ z ≠ 125 ∧ h = h') := by
  refine Met.of_walk (a0 := a0) (Ls := #[.val (.int x), .val (.int y), .unset]) (plainFor_of_name pn_4) (own_hEL hw) rfl ?_
  refine Wl.iload_n 1 d1_0 rfl ?_
  refine Wl.iload_n 2 d1_1 rfl ?_
  refine Wl.iushr 3 d1_2 ?_
  refine Wl.sipush 6 (255 : Int32) d1_3 (by decide) ?_
  refine Wl.iand 7 d1_6 ?_
  refine Wl.i2c 8 d1_7 ?_
  refine Wl.istore_n 9 #[.val (.int x), .val (.int y), .val (.int (((((x).toUInt32 >>> (y &&& 31).toUInt32).toInt32 &&& (255 : Int32))).toUInt32.toUInt16.toUInt32.toInt32))] d1_8 rfl ?_
  refine Wl.iload_n 10 d1_9 rfl ?_
  refine Wl.bipush 12 (123 : Int32) d1_10 (by decide) ?_
  by_cases c1 : ((((x).toUInt32 >>> (y &&& 31).toUInt32).toInt32 &&& (255 : Int32))).toUInt32.toUInt16.toUInt32.toInt32 = (123 : Int32)
  · refine Wl.icmpY 21 d1_12 (teq c1).1 ?_
    refine Wl.bipush 23 (95 : Int32) d1_21 (by decide) ?_
    refine Wl.istore_n 24 #[.val (.int x), .val (.int y), .val (.int (95 : Int32))] d1_23 rfl ?_
    refine Wl.iload_n 25 d1_24 rfl ?_
    exact Wl.ireturn d1_25 rfl rfl (by simp) (nle rfl) (nle rfl) ⟨_, rfl, by decide, by decide, by decide, rfl⟩
  · refine Wl.icmpN 15 d1_12 (feq c1).1 ?_
    refine Wl.iload_n 16 d1_15 rfl ?_
    refine Wl.bipush 18 (125 : Int32) d1_16 (by decide) ?_
    by_cases c2 : ((((x).toUInt32 >>> (y &&& 31).toUInt32).toInt32 &&& (255 : Int32))).toUInt32.toUInt16.toUInt32.toInt32 = (125 : Int32)
    · refine Wl.icmpN 21 d1_18 (teq c2).2 ?_
      refine Wl.bipush 23 (95 : Int32) d1_21 (by decide) ?_
      refine Wl.istore_n 24 #[.val (.int x), .val (.int y), .val (.int (95 : Int32))] d1_23 rfl ?_
      refine Wl.iload_n 25 d1_24 rfl ?_
      exact Wl.ireturn d1_25 rfl rfl (by simp) (nle rfl) (nle rfl) ⟨_, rfl, by decide, by decide, by decide, rfl⟩
    · refine Wl.icmpY 24 d1_18 (feq c2).2 ?_
      refine Wl.iload_n 25 d1_24 rfl ?_
      exact Wl.ireturn d1_25 rfl (narC (i2c_ch _)) (by simp) (nle rfl) (nle rfl) ⟨_, rfl, i2c_mask_lat _, c1, c2, rfl⟩
set_option maxRecDepth 65536 in
set_option maxHeartbeats 40000000 in
theorem mk30_met {l : Launch} {Z : State} {a0 : Array Value} (hw : ∀ d ∈ tables_1, d.before a0 Z = true) (hcs : CSon Z) {h : Heap} {b : Addr} {kb : ClassId} {c0 c1 c2 : Int32} (A : Arv Z h b kb .char (3 : Int32) [.int c0, .int c1, .int c2] (.int 0)) (lc0 : Lat c0) (lc1 : Lat c1) (lc2 : Lat c2) :
    Met l Z consts_1 ⟨"com/example/portunus/portunus/LockKeysQueueKeyPinLaw", "mk", "([CI)Ljava/lang/String;"⟩ method_4_code 2 (some (.object "java/lang/String")) [] { frames := 4, cells := 6, slots := 24, locals := 70 } #[.ref b, .int (0 : Int32)] h [] (fun v h' => ∃ a, v = some (.ref a) ∧ Ext h h' ∧ Stl Z h' a []) := by
  refine Met.of_walk (a0 := a0) (Ls := #[.val (.ref b), .val (.int (0 : Int32))]) (plainFor_of_name pn_4) (own_hEL hw) rfl ?_
  refine Wl.iload_n 1 d2_0 rfl ?_
  refine Wl.ifN 4 d2_1 (teq (by decide)).2 ?_
  refine Wl.new 7 d2_4 (w8 hw) (w9 hw) (w10 hw) (nle rfl) (nle rfl) ?_
  intro a1 h2 q3 E4 X5 D6
  have z7 : h.size ≤ a1 := Nat.le_of_eq q3.symm
  have ne8 : b ≠ a1 := Nat.ne_of_lt (by rw [q3]; exact (A).lt)
  have B9 : Ext h h2 := E4
  have F10 : Fld Z h2 a1 "java/lang/String" "coder" "B" (.int 0) := D6 (Or.inr (w34 hw)) (ty := .byte) (by decide)
  have F11 : Fld Z h2 a1 "java/lang/String" "value" "[B" (.null) := D6 (Or.inr (w36 hw)) (ty := (.array .byte)) (by decide)
  refine Wl.dup 8 d2_7 rfl ?_
  refine Wl.iconst 9 (0 : Int32) d2_8 (by decide) ?_
  refine Wl.newarray 11 0 d2_9 (w0 hw) (by decide) (by decide) (by decide) (nle rfl) (nle rfl) ?_
  intro a12 h13 k14 q15 E16 A17
  have A17 : Arv Z h13 a12 k14 .char (0 : Int32) [] (.int 0) := A17
  have z18 : h.size ≤ a12 := Nat.le_trans B9.1 (Nat.le_of_eq q15.symm)
  have z19 : h2.size ≤ a12 := Nat.le_of_eq q15.symm
  have ne20 : b ≠ a12 := Nat.ne_of_lt (by rw [q15]; exact ((A.ext E4)).lt)
  have ne21 : a1 ≠ a12 := Nat.ne_of_lt (by rw [q15]; exact (X5).lt)
  have B22 : Ext h h13 := extTr B9 E16
  have B23 : Ext h2 h13 := E16
  refine Wl.special 14 (argsL := [.ref a12]) d2_11 (w11 hw) (w12 hw) (w10 hw) (w13 hw) (show parseMethodDescriptor "([C)V" = some ⟨[(.array .char)], none⟩ by decide +kernel) rfl (strC_met hw hcs (cs := []) 4 (nle rfl) (nle rfl)  latN (X5.ext E16) (F11.ext E16) (F10.ext E16) A17) (allS (List.mem_of_getElem? (i := 1) rfl) (fun _ q => nomatch q)) rfl rfl rfl rfl (by decide) ⟨⟨nle rfl, nle rfl⟩, nle rfl, nle rfl⟩ ?_
  intro v24 h25 hq26 _
  obtain ⟨rfl, K27, S28⟩ := hq26
  have B29 : Ext h h25 := extKeep B22 K27 (allS z7 all0)
  show WlO _ _ _ _ _ _ _ _ _ _ _ _ _ _ _ _ _ _ [.ref a1]
  exact Wl.areturn d2_14 rfl rfl rfl (nle rfl) (nle rfl) ⟨a1, rfl, B29, S28⟩
set_option maxRecDepth 65536 in
set_option maxHeartbeats 40000000 in
theorem mk31_met {l : Launch} {Z : State} {a0 : Array Value} (hw : ∀ d ∈ tables_1, d.before a0 Z = true) (hcs : CSon Z) {h : Heap} {b : Addr} {kb : ClassId} {c0 c1 c2 : Int32} (A : Arv Z h b kb .char (3 : Int32) [.int c0, .int c1, .int c2] (.int 0)) (lc0 : Lat c0) (lc1 : Lat c1) (lc2 : Lat c2) :
    Met l Z consts_1 ⟨"com/example/portunus/portunus/LockKeysQueueKeyPinLaw", "mk", "([CI)Ljava/lang/String;"⟩ method_4_code 2 (some (.object "java/lang/String")) [] { frames := 4, cells := 6, slots := 24, locals := 70 } #[.ref b, .int (1 : Int32)] h [] (fun v h' => ∃ a, v = some (.ref a) ∧ Ext h h' ∧ Stl Z h' a [c0]) := by
  refine Met.of_walk (a0 := a0) (Ls := #[.val (.ref b), .val (.int (1 : Int32))]) (plainFor_of_name pn_4) (own_hEL hw) rfl ?_
  refine Wl.iload_n 1 d2_0 rfl ?_
  refine Wl.ifY 15 d2_1 (feq (by decide)).2 ?_
  refine Wl.iload_n 16 d2_15 rfl ?_
  refine Wl.iconst 17 (1 : Int32) d2_16 (by decide) ?_
  refine Wl.icmpN 20 d2_17 (teq (by decide)).2 ?_
  refine Wl.new 23 d2_20 (w8 hw) (w9 hw) (w10 hw) (nle rfl) (nle rfl) ?_
  intro a1 h2 q3 E4 X5 D6
  have z7 : h.size ≤ a1 := Nat.le_of_eq q3.symm
  have ne8 : b ≠ a1 := Nat.ne_of_lt (by rw [q3]; exact (A).lt)
  have B9 : Ext h h2 := E4
  have F10 : Fld Z h2 a1 "java/lang/String" "coder" "B" (.int 0) := D6 (Or.inr (w34 hw)) (ty := .byte) (by decide)
  have F11 : Fld Z h2 a1 "java/lang/String" "value" "[B" (.null) := D6 (Or.inr (w36 hw)) (ty := (.array .byte)) (by decide)
  refine Wl.dup 24 d2_23 rfl ?_
  refine Wl.iconst 25 (1 : Int32) d2_24 (by decide) ?_
  refine Wl.newarray 27 1 d2_25 (w0 hw) (by decide) (by decide) (by decide) (nle rfl) (nle rfl) ?_
  intro a12 h13 k14 q15 E16 A17
  have A17 : Arv Z h13 a12 k14 .char (1 : Int32) [.int 0] (.int 0) := A17
  have z18 : h.size ≤ a12 := Nat.le_trans B9.1 (Nat.le_of_eq q15.symm)
  have z19 : h2.size ≤ a12 := Nat.le_of_eq q15.symm
  have ne20 : b ≠ a12 := Nat.ne_of_lt (by rw [q15]; exact ((A.ext E4)).lt)
  have ne21 : a1 ≠ a12 := Nat.ne_of_lt (by rw [q15]; exact (X5).lt)
  have B22 : Ext h h13 := extTr B9 E16
  have B23 : Ext h2 h13 := E16
  refine Wl.dup 28 d2_27 rfl ?_
  refine Wl.iconst 29 (0 : Int32) d2_28 (by decide) ?_
  refine Wl.aload_n 30 d2_29 rfl rfl ?_
  refine Wl.iconst 31 (0 : Int32) d2_30 (by decide) ?_
  refine Wl.caload 32 0 d2_31 (A.ext B22) (by decide) (by decide) (by decide) rfl ?_
  refine Wl.castore 33 0 d2_32 A17 (List.mem_of_getElem? (i := 0) rfl) (by decide) (by decide) (by decide) (nle rfl) ?_
  intro h24 W25 A26
  rw [nar_ch (lc0).ch] at A26
  have A26 : Arv Z h24 a12 k14 .char (1 : Int32) [.int c0] (.int 0) := A26
  have B27 : Ext h h24 := extWr B22 W25 z18
  have B28 : Ext h2 h24 := extWr B23 W25 z19
  refine Wl.special 36 (argsL := [.ref a12]) d2_33 (w11 hw) (w12 hw) (w10 hw) (w13 hw) (show parseMethodDescriptor "([C)V" = some ⟨[(.array .char)], none⟩ by decide +kernel) rfl (strC_met hw hcs (cs := [c0]) 4 (nle rfl) (nle rfl)  (latC lc0 latN) (X5.ext B28) (F11.ext B28) (F10.ext B28) A26) (allS (List.mem_of_getElem? (i := 1) rfl) (fun _ q => nomatch q)) rfl rfl rfl rfl (by decide) ⟨⟨nle rfl, nle rfl⟩, nle rfl, nle rfl⟩ ?_
  intro v29 h30 hq31 _
  obtain ⟨rfl, K32, S33⟩ := hq31
  have B34 : Ext h h30 := extKeep B27 K32 (allS z7 all0)
  show WlO _ _ _ _ _ _ _ _ _ _ _ _ _ _ _ _ _ _ [.ref a1]
  exact Wl.areturn d2_36 rfl rfl rfl (nle rfl) (nle rfl) ⟨a1, rfl, B34, S33⟩
set_option maxRecDepth 65536 in
set_option maxHeartbeats 40000000 in
theorem mk32_met {l : Launch} {Z : State} {a0 : Array Value} (hw : ∀ d ∈ tables_1, d.before a0 Z = true) (hcs : CSon Z) {h : Heap} {b : Addr} {kb : ClassId} {c0 c1 c2 : Int32} (A : Arv Z h b kb .char (3 : Int32) [.int c0, .int c1, .int c2] (.int 0)) (lc0 : Lat c0) (lc1 : Lat c1) (lc2 : Lat c2) :
    Met l Z consts_1 ⟨"com/example/portunus/portunus/LockKeysQueueKeyPinLaw", "mk", "([CI)Ljava/lang/String;"⟩ method_4_code 2 (some (.object "java/lang/String")) [] { frames := 4, cells := 6, slots := 24, locals := 70 } #[.ref b, .int (2 : Int32)] h [] (fun v h' => ∃ a, v = some (.ref a) ∧ Ext h h' ∧ Stl Z h' a [c0, c1]) := by
  refine Met.of_walk (a0 := a0) (Ls := #[.val (.ref b), .val (.int (2 : Int32))]) (plainFor_of_name pn_4) (own_hEL hw) rfl ?_
  refine Wl.iload_n 1 d2_0 rfl ?_
  refine Wl.ifY 15 d2_1 (feq (by decide)).2 ?_
  refine Wl.iload_n 16 d2_15 rfl ?_
  refine Wl.iconst 17 (1 : Int32) d2_16 (by decide) ?_
  refine Wl.icmpY 37 d2_17 (feq (by decide)).2 ?_
  refine Wl.iload_n 38 d2_37 rfl ?_
  refine Wl.iconst 39 (2 : Int32) d2_38 (by decide) ?_
  refine Wl.icmpN 42 d2_39 (teq (by decide)).2 ?_
  refine Wl.new 45 d2_42 (w8 hw) (w9 hw) (w10 hw) (nle rfl) (nle rfl) ?_
  intro a1 h2 q3 E4 X5 D6
  have z7 : h.size ≤ a1 := Nat.le_of_eq q3.symm
  have ne8 : b ≠ a1 := Nat.ne_of_lt (by rw [q3]; exact (A).lt)
  have B9 : Ext h h2 := E4
  have F10 : Fld Z h2 a1 "java/lang/String" "coder" "B" (.int 0) := D6 (Or.inr (w34 hw)) (ty := .byte) (by decide)
  have F11 : Fld Z h2 a1 "java/lang/String" "value" "[B" (.null) := D6 (Or.inr (w36 hw)) (ty := (.array .byte)) (by decide)
  refine Wl.dup 46 d2_45 rfl ?_
  refine Wl.iconst 47 (2 : Int32) d2_46 (by decide) ?_
  refine Wl.newarray 49 2 d2_47 (w0 hw) (by decide) (by decide) (by decide) (nle rfl) (nle rfl) ?_
  intro a12 h13 k14 q15 E16 A17
  have A17 : Arv Z h13 a12 k14 .char (2 : Int32) [.int 0, .int 0] (.int 0) := A17
  have z18 : h.size ≤ a12 := Nat.le_trans B9.1 (Nat.le_of_eq q15.symm)
  have z19 : h2.size ≤ a12 := Nat.le_of_eq q15.symm
  have ne20 : b ≠ a12 := Nat.ne_of_lt (by rw [q15]; exact ((A.ext E4)).lt)
  have ne21 : a1 ≠ a12 := Nat.ne_of_lt (by rw [q15]; exact (X5).lt)
  have B22 : Ext h h13 := extTr B9 E16
  have B23 : Ext h2 h13 := E16
  refine Wl.dup 50 d2_49 rfl ?_
  refine Wl.iconst 51 (0 : Int32) d2_50 (by decide) ?_
  refine Wl.aload_n 52 d2_51 rfl rfl ?_
  refine Wl.iconst 53 (0 : Int32) d2_52 (by decide) ?_
  refine Wl.caload 54 0 d2_53 (A.ext B22) (by decide) (by decide) (by decide) rfl ?_
  refine Wl.castore 55 0 d2_54 A17 (List.mem_of_getElem? (i := 0) rfl) (by decide) (by decide) (by decide) (nle rfl) ?_
  intro h24 W25 A26
  rw [nar_ch (lc0).ch] at A26
  have A26 : Arv Z h24 a12 k14 .char (2 : Int32) [.int c0, .int (0 : Int32)] (.int 0) := A26
  have B27 : Ext h h24 := extWr B22 W25 z18
  have B28 : Ext h2 h24 := extWr B23 W25 z19
  refine Wl.dup 56 d2_55 rfl ?_
  refine Wl.iconst 57 (1 : Int32) d2_56 (by decide) ?_
  refine Wl.aload_n 58 d2_57 rfl rfl ?_
  refine Wl.iconst 59 (1 : Int32) d2_58 (by decide) ?_
  refine Wl.caload 60 1 d2_59 (A.ext B27) (by decide) (by decide) (by decide) rfl ?_
  refine Wl.castore 61 1 d2_60 A26 (List.mem_of_getElem? (i := 0) rfl) (by decide) (by decide) (by decide) (nle rfl) ?_
  intro h29 W30 A31
  rw [nar_ch (lc1).ch] at A31
  have A31 : Arv Z h29 a12 k14 .char (2 : Int32) [.int c0, .int c1] (.int 0) := A31
  have B32 : Ext h h29 := extWr B27 W30 z18
  have B33 : Ext h2 h29 := extWr B28 W30 z19
  refine Wl.special 64 (argsL := [.ref a12]) d2_61 (w11 hw) (w12 hw) (w10 hw) (w13 hw) (show parseMethodDescriptor "([C)V" = some ⟨[(.array .char)], none⟩ by decide +kernel) rfl (strC_met hw hcs (cs := [c0, c1]) 4 (nle rfl) (nle rfl)  (latC lc0 (latC lc1 latN)) (X5.ext B33) (F11.ext B33) (F10.ext B33) A31) (allS (List.mem_of_getElem? (i := 1) rfl) (fun _ q => nomatch q)) rfl rfl rfl rfl (by decide) ⟨⟨nle rfl, nle rfl⟩, nle rfl, nle rfl⟩ ?_
  intro v34 h35 hq36 _
  obtain ⟨rfl, K37, S38⟩ := hq36
  have B39 : Ext h h35 := extKeep B32 K37 (allS z7 all0)
  show WlO _ _ _ _ _ _ _ _ _ _ _ _ _ _ _ _ _ _ [.ref a1]
  exact Wl.areturn d2_64 rfl rfl rfl (nle rfl) (nle rfl) ⟨a1, rfl, B39, S38⟩
set_option maxRecDepth 65536 in
set_option maxHeartbeats 40000000 in
theorem mk33_met {l : Launch} {Z : State} {a0 : Array Value} (hw : ∀ d ∈ tables_1, d.before a0 Z = true) (hcs : CSon Z) {h : Heap} {b : Addr} {kb : ClassId} {c0 c1 c2 : Int32} (A : Arv Z h b kb .char (3 : Int32) [.int c0, .int c1, .int c2] (.int 0)) (lc0 : Lat c0) (lc1 : Lat c1) (lc2 : Lat c2) :
    Met l Z consts_1 ⟨"com/example/portunus/portunus/LockKeysQueueKeyPinLaw", "mk", "([CI)Ljava/lang/String;"⟩ method_4_code 2 (some (.object "java/lang/String")) [] { frames := 4, cells := 6, slots := 24, locals := 70 } #[.ref b, .int (3 : Int32)] h [] (fun v h' => ∃ a, v = some (.ref a) ∧ Ext h h' ∧ Stl Z h' a [c0, c1, c2]) := by
  refine Met.of_walk (a0 := a0) (Ls := #[.val (.ref b), .val (.int (3 : Int32))]) (plainFor_of_name pn_4) (own_hEL hw) rfl ?_
  refine Wl.iload_n 1 d2_0 rfl ?_
  refine Wl.ifY 15 d2_1 (feq (by decide)).2 ?_
  refine Wl.iload_n 16 d2_15 rfl ?_
  refine Wl.iconst 17 (1 : Int32) d2_16 (by decide) ?_
  refine Wl.icmpY 37 d2_17 (feq (by decide)).2 ?_
  refine Wl.iload_n 38 d2_37 rfl ?_
  refine Wl.iconst 39 (2 : Int32) d2_38 (by decide) ?_
  refine Wl.icmpY 65 d2_39 (feq (by decide)).2 ?_
  refine Wl.iload_n 66 d2_65 rfl ?_
  refine Wl.iconst 67 (3 : Int32) d2_66 (by decide) ?_
  refine Wl.icmpN 70 d2_67 (teq (by decide)).2 ?_
  refine Wl.new 73 d2_70 (w8 hw) (w9 hw) (w10 hw) (nle rfl) (nle rfl) ?_
  intro a1 h2 q3 E4 X5 D6
  have z7 : h.size ≤ a1 := Nat.le_of_eq q3.symm
  have ne8 : b ≠ a1 := Nat.ne_of_lt (by rw [q3]; exact (A).lt)
  have B9 : Ext h h2 := E4
  have F10 : Fld Z h2 a1 "java/lang/String" "coder" "B" (.int 0) := D6 (Or.inr (w34 hw)) (ty := .byte) (by decide)
  have F11 : Fld Z h2 a1 "java/lang/String" "value" "[B" (.null) := D6 (Or.inr (w36 hw)) (ty := (.array .byte)) (by decide)
  refine Wl.dup 74 d2_73 rfl ?_
  refine Wl.iconst 75 (3 : Int32) d2_74 (by decide) ?_
  refine Wl.newarray 77 3 d2_75 (w0 hw) (by decide) (by decide) (by decide) (nle rfl) (nle rfl) ?_
  intro a12 h13 k14 q15 E16 A17
  have A17 : Arv Z h13 a12 k14 .char (3 : Int32) [.int 0, .int 0, .int 0] (.int 0) := A17
  have z18 : h.size ≤ a12 := Nat.le_trans B9.1 (Nat.le_of_eq q15.symm)
  have z19 : h2.size ≤ a12 := Nat.le_of_eq q15.symm
  have ne20 : b ≠ a12 := Nat.ne_of_lt (by rw [q15]; exact ((A.ext E4)).lt)
  have ne21 : a1 ≠ a12 := Nat.ne_of_lt (by rw [q15]; exact (X5).lt)
  have B22 : Ext h h13 := extTr B9 E16
  have B23 : Ext h2 h13 := E16
  refine Wl.dup 78 d2_77 rfl ?_
  refine Wl.iconst 79 (0 : Int32) d2_78 (by decide) ?_
  refine Wl.aload_n 80 d2_79 rfl rfl ?_
  refine Wl.iconst 81 (0 : Int32) d2_80 (by decide) ?_
  refine Wl.caload 82 0 d2_81 (A.ext B22) (by decide) (by decide) (by decide) rfl ?_
  refine Wl.castore 83 0 d2_82 A17 (List.mem_of_getElem? (i := 0) rfl) (by decide) (by decide) (by decide) (nle rfl) ?_
  intro h24 W25 A26
  rw [nar_ch (lc0).ch] at A26
  have A26 : Arv Z h24 a12 k14 .char (3 : Int32) [.int c0, .int (0 : Int32), .int (0 : Int32)] (.int 0) := A26
  have B27 : Ext h h24 := extWr B22 W25 z18
  have B28 : Ext h2 h24 := extWr B23 W25 z19
  refine Wl.dup 84 d2_83 rfl ?_
  refine Wl.iconst 85 (1 : Int32) d2_84 (by decide) ?_
  refine Wl.aload_n 86 d2_85 rfl rfl ?_
  refine Wl.iconst 87 (1 : Int32) d2_86 (by decide) ?_
  refine Wl.caload 88 1 d2_87 (A.ext B27) (by decide) (by decide) (by decide) rfl ?_
  refine Wl.castore 89 1 d2_88 A26 (List.mem_of_getElem? (i := 0) rfl) (by decide) (by decide) (by decide) (nle rfl) ?_
  intro h29 W30 A31
  rw [nar_ch (lc1).ch] at A31
  have A31 : Arv Z h29 a12 k14 .char (3 : Int32) [.int c0, .int c1, .int (0 : Int32)] (.int 0) := A31
  have B32 : Ext h h29 := extWr B27 W30 z18
  have B33 : Ext h2 h29 := extWr B28 W30 z19
  refine Wl.dup 90 d2_89 rfl ?_
  refine Wl.iconst 91 (2 : Int32) d2_90 (by decide) ?_
  refine Wl.aload_n 92 d2_91 rfl rfl ?_
  refine Wl.iconst 93 (2 : Int32) d2_92 (by decide) ?_
  refine Wl.caload 94 2 d2_93 (A.ext B32) (by decide) (by decide) (by decide) rfl ?_
  refine Wl.castore 95 2 d2_94 A31 (List.mem_of_getElem? (i := 0) rfl) (by decide) (by decide) (by decide) (nle rfl) ?_
  intro h34 W35 A36
  rw [nar_ch (lc2).ch] at A36
  have A36 : Arv Z h34 a12 k14 .char (3 : Int32) [.int c0, .int c1, .int c2] (.int 0) := A36
  have B37 : Ext h h34 := extWr B32 W35 z18
  have B38 : Ext h2 h34 := extWr B33 W35 z19
  refine Wl.special 98 (argsL := [.ref a12]) d2_95 (w11 hw) (w12 hw) (w10 hw) (w13 hw) (show parseMethodDescriptor "([C)V" = some ⟨[(.array .char)], none⟩ by decide +kernel) rfl (strC_met hw hcs (cs := [c0, c1, c2]) 4 (nle rfl) (nle rfl)  (latC lc0 (latC lc1 (latC lc2 latN))) (X5.ext B38) (F11.ext B38) (F10.ext B38) A36) (allS (List.mem_of_getElem? (i := 1) rfl) (fun _ q => nomatch q)) rfl rfl rfl rfl (by decide) ⟨⟨nle rfl, nle rfl⟩, nle rfl, nle rfl⟩ ?_
  intro v39 h40 hq41 _
  obtain ⟨rfl, K42, S43⟩ := hq41
  have B44 : Ext h h40 := extKeep B37 K42 (allS z7 all0)
  show WlO _ _ _ _ _ _ _ _ _ _ _ _ _ _ _ _ _ _ [.ref a1]
  exact Wl.areturn d2_98 rfl rfl rfl (nle rfl) (nle rfl) ⟨a1, rfl, B44, S43⟩
set_option maxRecDepth 65536 in
set_option maxHeartbeats 40000000 in
theorem mk41_met {l : Launch} {Z : State} {a0 : Array Value} (hw : ∀ d ∈ tables_1, d.before a0 Z = true) (hcs : CSon Z) {h : Heap} {b : Addr} {kb : ClassId} {c0 c1 c2 c3 : Int32} (A : Arv Z h b kb .char (4 : Int32) [.int c0, .int c1, .int c2, .int c3] (.int 0)) (lc0 : Lat c0) (lc1 : Lat c1) (lc2 : Lat c2) (lc3 : Lat c3) :
    Met l Z consts_1 ⟨"com/example/portunus/portunus/LockKeysQueueKeyPinLaw", "mk", "([CI)Ljava/lang/String;"⟩ method_4_code 2 (some (.object "java/lang/String")) [] { frames := 4, cells := 6, slots := 24, locals := 70 } #[.ref b, .int (1 : Int32)] h [] (fun v h' => ∃ a, v = some (.ref a) ∧ Ext h h' ∧ Stl Z h' a [c0]) := by
  refine Met.of_walk (a0 := a0) (Ls := #[.val (.ref b), .val (.int (1 : Int32))]) (plainFor_of_name pn_4) (own_hEL hw) rfl ?_
  refine Wl.iload_n 1 d2_0 rfl ?_
  refine Wl.ifY 15 d2_1 (feq (by decide)).2 ?_
  refine Wl.iload_n 16 d2_15 rfl ?_
  refine Wl.iconst 17 (1 : Int32) d2_16 (by decide) ?_
  refine Wl.icmpN 20 d2_17 (teq (by decide)).2 ?_
  refine Wl.new 23 d2_20 (w8 hw) (w9 hw) (w10 hw) (nle rfl) (nle rfl) ?_
  intro a1 h2 q3 E4 X5 D6
  have z7 : h.size ≤ a1 := Nat.le_of_eq q3.symm
  have ne8 : b ≠ a1 := Nat.ne_of_lt (by rw [q3]; exact (A).lt)
  have B9 : Ext h h2 := E4
  have F10 : Fld Z h2 a1 "java/lang/String" "coder" "B" (.int 0) := D6 (Or.inr (w34 hw)) (ty := .byte) (by decide)
  have F11 : Fld Z h2 a1 "java/lang/String" "value" "[B" (.null) := D6 (Or.inr (w36 hw)) (ty := (.array .byte)) (by decide)
  refine Wl.dup 24 d2_23 rfl ?_
  refine Wl.iconst 25 (1 : Int32) d2_24 (by decide) ?_
  refine Wl.newarray 27 1 d2_25 (w0 hw) (by decide) (by decide) (by decide) (nle rfl) (nle rfl) ?_
  intro a12 h13 k14 q15 E16 A17
  have A17 : Arv Z h13 a12 k14 .char (1 : Int32) [.int 0] (.int 0) := A17
  have z18 : h.size ≤ a12 := Nat.le_trans B9.1 (Nat.le_of_eq q15.symm)
  have z19 : h2.size ≤ a12 := Nat.le_of_eq q15.symm
  have ne20 : b ≠ a12 := Nat.ne_of_lt (by rw [q15]; exact ((A.ext E4)).lt)
  have ne21 : a1 ≠ a12 := Nat.ne_of_lt (by rw [q15]; exact (X5).lt)
  have B22 : Ext h h13 := extTr B9 E16
  have B23 : Ext h2 h13 := E16
  refine Wl.dup 28 d2_27 rfl ?_
  refine Wl.iconst 29 (0 : Int32) d2_28 (by decide) ?_
  refine Wl.aload_n 30 d2_29 rfl rfl ?_
  refine Wl.iconst 31 (0 : Int32) d2_30 (by decide) ?_
  refine Wl.caload 32 0 d2_31 (A.ext B22) (by decide) (by decide) (by decide) rfl ?_
  refine Wl.castore 33 0 d2_32 A17 (List.mem_of_getElem? (i := 0) rfl) (by decide) (by decide) (by decide) (nle rfl) ?_
  intro h24 W25 A26
  rw [nar_ch (lc0).ch] at A26
  have A26 : Arv Z h24 a12 k14 .char (1 : Int32) [.int c0] (.int 0) := A26
  have B27 : Ext h h24 := extWr B22 W25 z18
  have B28 : Ext h2 h24 := extWr B23 W25 z19
  refine Wl.special 36 (argsL := [.ref a12]) d2_33 (w11 hw) (w12 hw) (w10 hw) (w13 hw) (show parseMethodDescriptor "([C)V" = some ⟨[(.array .char)], none⟩ by decide +kernel) rfl (strC_met hw hcs (cs := [c0]) 4 (nle rfl) (nle rfl)  (latC lc0 latN) (X5.ext B28) (F11.ext B28) (F10.ext B28) A26) (allS (List.mem_of_getElem? (i := 1) rfl) (fun _ q => nomatch q)) rfl rfl rfl rfl (by decide) ⟨⟨nle rfl, nle rfl⟩, nle rfl, nle rfl⟩ ?_
  intro v29 h30 hq31 _
  obtain ⟨rfl, K32, S33⟩ := hq31
  have B34 : Ext h h30 := extKeep B27 K32 (allS z7 all0)
  show WlO _ _ _ _ _ _ _ _ _ _ _ _ _ _ _ _ _ _ [.ref a1]
  exact Wl.areturn d2_36 rfl rfl rfl (nle rfl) (nle rfl) ⟨a1, rfl, B34, S33⟩
set_option maxRecDepth 65536 in
set_option maxHeartbeats 40000000 in
theorem mk42_met {l : Launch} {Z : State} {a0 : Array Value} (hw : ∀ d ∈ tables_1, d.before a0 Z = true) (hcs : CSon Z) {h : Heap} {b : Addr} {kb : ClassId} {c0 c1 c2 c3 : Int32} (A : Arv Z h b kb .char (4 : Int32) [.int c0, .int c1, .int c2, .int c3] (.int 0)) (lc0 : Lat c0) (lc1 : Lat c1) (lc2 : Lat c2) (lc3 : Lat c3) :
    Met l Z consts_1 ⟨"com/example/portunus/portunus/LockKeysQueueKeyPinLaw", "mk", "([CI)Ljava/lang/String;"⟩ method_4_code 2 (some (.object "java/lang/String")) [] { frames := 4, cells := 6, slots := 24, locals := 70 } #[.ref b, .int (2 : Int32)] h [] (fun v h' => ∃ a, v = some (.ref a) ∧ Ext h h' ∧ Stl Z h' a [c0, c1]) := by
  refine Met.of_walk (a0 := a0) (Ls := #[.val (.ref b), .val (.int (2 : Int32))]) (plainFor_of_name pn_4) (own_hEL hw) rfl ?_
  refine Wl.iload_n 1 d2_0 rfl ?_
  refine Wl.ifY 15 d2_1 (feq (by decide)).2 ?_
  refine Wl.iload_n 16 d2_15 rfl ?_
  refine Wl.iconst 17 (1 : Int32) d2_16 (by decide) ?_
  refine Wl.icmpY 37 d2_17 (feq (by decide)).2 ?_
  refine Wl.iload_n 38 d2_37 rfl ?_
  refine Wl.iconst 39 (2 : Int32) d2_38 (by decide) ?_
  refine Wl.icmpN 42 d2_39 (teq (by decide)).2 ?_
  refine Wl.new 45 d2_42 (w8 hw) (w9 hw) (w10 hw) (nle rfl) (nle rfl) ?_
  intro a1 h2 q3 E4 X5 D6
  have z7 : h.size ≤ a1 := Nat.le_of_eq q3.symm
  have ne8 : b ≠ a1 := Nat.ne_of_lt (by rw [q3]; exact (A).lt)
  have B9 : Ext h h2 := E4
  have F10 : Fld Z h2 a1 "java/lang/String" "coder" "B" (.int 0) := D6 (Or.inr (w34 hw)) (ty := .byte) (by decide)
  have F11 : Fld Z h2 a1 "java/lang/String" "value" "[B" (.null) := D6 (Or.inr (w36 hw)) (ty := (.array .byte)) (by decide)
  refine Wl.dup 46 d2_45 rfl ?_
  refine Wl.iconst 47 (2 : Int32) d2_46 (by decide) ?_
  refine Wl.newarray 49 2 d2_47 (w0 hw) (by decide) (by decide) (by decide) (nle rfl) (nle rfl) ?_
  intro a12 h13 k14 q15 E16 A17
  have A17 : Arv Z h13 a12 k14 .char (2 : Int32) [.int 0, .int 0] (.int 0) := A17
  have z18 : h.size ≤ a12 := Nat.le_trans B9.1 (Nat.le_of_eq q15.symm)
  have z19 : h2.size ≤ a12 := Nat.le_of_eq q15.symm
  have ne20 : b ≠ a12 := Nat.ne_of_lt (by rw [q15]; exact ((A.ext E4)).lt)
  have ne21 : a1 ≠ a12 := Nat.ne_of_lt (by rw [q15]; exact (X5).lt)
  have B22 : Ext h h13 := extTr B9 E16
  have B23 : Ext h2 h13 := E16
  refine Wl.dup 50 d2_49 rfl ?_
  refine Wl.iconst 51 (0 : Int32) d2_50 (by decide) ?_
  refine Wl.aload_n 52 d2_51 rfl rfl ?_
  refine Wl.iconst 53 (0 : Int32) d2_52 (by decide) ?_
  refine Wl.caload 54 0 d2_53 (A.ext B22) (by decide) (by decide) (by decide) rfl ?_
  refine Wl.castore 55 0 d2_54 A17 (List.mem_of_getElem? (i := 0) rfl) (by decide) (by decide) (by decide) (nle rfl) ?_
  intro h24 W25 A26
  rw [nar_ch (lc0).ch] at A26
  have A26 : Arv Z h24 a12 k14 .char (2 : Int32) [.int c0, .int (0 : Int32)] (.int 0) := A26
  have B27 : Ext h h24 := extWr B22 W25 z18
  have B28 : Ext h2 h24 := extWr B23 W25 z19
  refine Wl.dup 56 d2_55 rfl ?_
  refine Wl.iconst 57 (1 : Int32) d2_56 (by decide) ?_
  refine Wl.aload_n 58 d2_57 rfl rfl ?_
  refine Wl.iconst 59 (1 : Int32) d2_58 (by decide) ?_
  refine Wl.caload 60 1 d2_59 (A.ext B27) (by decide) (by decide) (by decide) rfl ?_
  refine Wl.castore 61 1 d2_60 A26 (List.mem_of_getElem? (i := 0) rfl) (by decide) (by decide) (by decide) (nle rfl) ?_
  intro h29 W30 A31
  rw [nar_ch (lc1).ch] at A31
  have A31 : Arv Z h29 a12 k14 .char (2 : Int32) [.int c0, .int c1] (.int 0) := A31
  have B32 : Ext h h29 := extWr B27 W30 z18
  have B33 : Ext h2 h29 := extWr B28 W30 z19
  refine Wl.special 64 (argsL := [.ref a12]) d2_61 (w11 hw) (w12 hw) (w10 hw) (w13 hw) (show parseMethodDescriptor "([C)V" = some ⟨[(.array .char)], none⟩ by decide +kernel) rfl (strC_met hw hcs (cs := [c0, c1]) 4 (nle rfl) (nle rfl)  (latC lc0 (latC lc1 latN)) (X5.ext B33) (F11.ext B33) (F10.ext B33) A31) (allS (List.mem_of_getElem? (i := 1) rfl) (fun _ q => nomatch q)) rfl rfl rfl rfl (by decide) ⟨⟨nle rfl, nle rfl⟩, nle rfl, nle rfl⟩ ?_
  intro v34 h35 hq36 _
  obtain ⟨rfl, K37, S38⟩ := hq36
  have B39 : Ext h h35 := extKeep B32 K37 (allS z7 all0)
  show WlO _ _ _ _ _ _ _ _ _ _ _ _ _ _ _ _ _ _ [.ref a1]
  exact Wl.areturn d2_64 rfl rfl rfl (nle rfl) (nle rfl) ⟨a1, rfl, B39, S38⟩
set_option maxRecDepth 65536 in
set_option maxHeartbeats 40000000 in
theorem mk43_met {l : Launch} {Z : State} {a0 : Array Value} (hw : ∀ d ∈ tables_1, d.before a0 Z = true) (hcs : CSon Z) {h : Heap} {b : Addr} {kb : ClassId} {c0 c1 c2 c3 : Int32} (A : Arv Z h b kb .char (4 : Int32) [.int c0, .int c1, .int c2, .int c3] (.int 0)) (lc0 : Lat c0) (lc1 : Lat c1) (lc2 : Lat c2) (lc3 : Lat c3) :
    Met l Z consts_1 ⟨"com/example/portunus/portunus/LockKeysQueueKeyPinLaw", "mk", "([CI)Ljava/lang/String;"⟩ method_4_code 2 (some (.object "java/lang/String")) [] { frames := 4, cells := 6, slots := 24, locals := 70 } #[.ref b, .int (3 : Int32)] h [] (fun v h' => ∃ a, v = some (.ref a) ∧ Ext h h' ∧ Stl Z h' a [c0, c1, c2]) := by
  refine Met.of_walk (a0 := a0) (Ls := #[.val (.ref b), .val (.int (3 : Int32))]) (plainFor_of_name pn_4) (own_hEL hw) rfl ?_
  refine Wl.iload_n 1 d2_0 rfl ?_
  refine Wl.ifY 15 d2_1 (feq (by decide)).2 ?_
  refine Wl.iload_n 16 d2_15 rfl ?_
  refine Wl.iconst 17 (1 : Int32) d2_16 (by decide) ?_
  refine Wl.icmpY 37 d2_17 (feq (by decide)).2 ?_
  refine Wl.iload_n 38 d2_37 rfl ?_
  refine Wl.iconst 39 (2 : Int32) d2_38 (by decide) ?_
  refine Wl.icmpY 65 d2_39 (feq (by decide)).2 ?_
  refine Wl.iload_n 66 d2_65 rfl ?_
  refine Wl.iconst 67 (3 : Int32) d2_66 (by decide) ?_
  refine Wl.icmpN 70 d2_67 (teq (by decide)).2 ?_
  refine Wl.new 73 d2_70 (w8 hw) (w9 hw) (w10 hw) (nle rfl) (nle rfl) ?_
  intro a1 h2 q3 E4 X5 D6
  have z7 : h.size ≤ a1 := Nat.le_of_eq q3.symm
  have ne8 : b ≠ a1 := Nat.ne_of_lt (by rw [q3]; exact (A).lt)
  have B9 : Ext h h2 := E4
  have F10 : Fld Z h2 a1 "java/lang/String" "coder" "B" (.int 0) := D6 (Or.inr (w34 hw)) (ty := .byte) (by decide)
  have F11 : Fld Z h2 a1 "java/lang/String" "value" "[B" (.null) := D6 (Or.inr (w36 hw)) (ty := (.array .byte)) (by decide)
  refine Wl.dup 74 d2_73 rfl ?_
  refine Wl.iconst 75 (3 : Int32) d2_74 (by decide) ?_
  refine Wl.newarray 77 3 d2_75 (w0 hw) (by decide) (by decide) (by decide) (nle rfl) (nle rfl) ?_
  intro a12 h13 k14 q15 E16 A17
  have A17 : Arv Z h13 a12 k14 .char (3 : Int32) [.int 0, .int 0, .int 0] (.int 0) := A17
  have z18 : h.size ≤ a12 := Nat.le_trans B9.1 (Nat.le_of_eq q15.symm)
  have z19 : h2.size ≤ a12 := Nat.le_of_eq q15.symm
  have ne20 : b ≠ a12 := Nat.ne_of_lt (by rw [q15]; exact ((A.ext E4)).lt)
  have ne21 : a1 ≠ a12 := Nat.ne_of_lt (by rw [q15]; exact (X5).lt)
  have B22 : Ext h h13 := extTr B9 E16
  have B23 : Ext h2 h13 := E16
  refine Wl.dup 78 d2_77 rfl ?_
  refine Wl.iconst 79 (0 : Int32) d2_78 (by decide) ?_
  refine Wl.aload_n 80 d2_79 rfl rfl ?_
  refine Wl.iconst 81 (0 : Int32) d2_80 (by decide) ?_
  refine Wl.caload 82 0 d2_81 (A.ext B22) (by decide) (by decide) (by decide) rfl ?_
  refine Wl.castore 83 0 d2_82 A17 (List.mem_of_getElem? (i := 0) rfl) (by decide) (by decide) (by decide) (nle rfl) ?_
  intro h24 W25 A26
  rw [nar_ch (lc0).ch] at A26
  have A26 : Arv Z h24 a12 k14 .char (3 : Int32) [.int c0, .int (0 : Int32), .int (0 : Int32)] (.int 0) := A26
  have B27 : Ext h h24 := extWr B22 W25 z18
  have B28 : Ext h2 h24 := extWr B23 W25 z19
  refine Wl.dup 84 d2_83 rfl ?_
  refine Wl.iconst 85 (1 : Int32) d2_84 (by decide) ?_
  refine Wl.aload_n 86 d2_85 rfl rfl ?_
  refine Wl.iconst 87 (1 : Int32) d2_86 (by decide) ?_
  refine Wl.caload 88 1 d2_87 (A.ext B27) (by decide) (by decide) (by decide) rfl ?_
  refine Wl.castore 89 1 d2_88 A26 (List.mem_of_getElem? (i := 0) rfl) (by decide) (by decide) (by decide) (nle rfl) ?_
  intro h29 W30 A31
  rw [nar_ch (lc1).ch] at A31
  have A31 : Arv Z h29 a12 k14 .char (3 : Int32) [.int c0, .int c1, .int (0 : Int32)] (.int 0) := A31
  have B32 : Ext h h29 := extWr B27 W30 z18
  have B33 : Ext h2 h29 := extWr B28 W30 z19
  refine Wl.dup 90 d2_89 rfl ?_
  refine Wl.iconst 91 (2 : Int32) d2_90 (by decide) ?_
  refine Wl.aload_n 92 d2_91 rfl rfl ?_
  refine Wl.iconst 93 (2 : Int32) d2_92 (by decide) ?_
  refine Wl.caload 94 2 d2_93 (A.ext B32) (by decide) (by decide) (by decide) rfl ?_
  refine Wl.castore 95 2 d2_94 A31 (List.mem_of_getElem? (i := 0) rfl) (by decide) (by decide) (by decide) (nle rfl) ?_
  intro h34 W35 A36
  rw [nar_ch (lc2).ch] at A36
  have A36 : Arv Z h34 a12 k14 .char (3 : Int32) [.int c0, .int c1, .int c2] (.int 0) := A36
  have B37 : Ext h h34 := extWr B32 W35 z18
  have B38 : Ext h2 h34 := extWr B33 W35 z19
  refine Wl.special 98 (argsL := [.ref a12]) d2_95 (w11 hw) (w12 hw) (w10 hw) (w13 hw) (show parseMethodDescriptor "([C)V" = some ⟨[(.array .char)], none⟩ by decide +kernel) rfl (strC_met hw hcs (cs := [c0, c1, c2]) 4 (nle rfl) (nle rfl)  (latC lc0 (latC lc1 (latC lc2 latN))) (X5.ext B38) (F11.ext B38) (F10.ext B38) A36) (allS (List.mem_of_getElem? (i := 1) rfl) (fun _ q => nomatch q)) rfl rfl rfl rfl (by decide) ⟨⟨nle rfl, nle rfl⟩, nle rfl, nle rfl⟩ ?_
  intro v39 h40 hq41 _
  obtain ⟨rfl, K42, S43⟩ := hq41
  have B44 : Ext h h40 := extKeep B37 K42 (allS z7 all0)
  show WlO _ _ _ _ _ _ _ _ _ _ _ _ _ _ _ _ _ _ [.ref a1]
  exact Wl.areturn d2_98 rfl rfl rfl (nle rfl) (nle rfl) ⟨a1, rfl, B44, S43⟩
set_option maxRecDepth 65536 in
set_option maxHeartbeats 40000000 in
theorem mk44_met {l : Launch} {Z : State} {a0 : Array Value} (hw : ∀ d ∈ tables_1, d.before a0 Z = true) (hcs : CSon Z) {h : Heap} {b : Addr} {kb : ClassId} {c0 c1 c2 c3 : Int32} (A : Arv Z h b kb .char (4 : Int32) [.int c0, .int c1, .int c2, .int c3] (.int 0)) (lc0 : Lat c0) (lc1 : Lat c1) (lc2 : Lat c2) (lc3 : Lat c3) :
    Met l Z consts_1 ⟨"com/example/portunus/portunus/LockKeysQueueKeyPinLaw", "mk", "([CI)Ljava/lang/String;"⟩ method_4_code 2 (some (.object "java/lang/String")) [] { frames := 4, cells := 6, slots := 24, locals := 70 } #[.ref b, .int (4 : Int32)] h [] (fun v h' => ∃ a, v = some (.ref a) ∧ Ext h h' ∧ Stl Z h' a [c0, c1, c2, c3]) := by
  refine Met.of_walk (a0 := a0) (Ls := #[.val (.ref b), .val (.int (4 : Int32))]) (plainFor_of_name pn_4) (own_hEL hw) rfl ?_
  refine Wl.iload_n 1 d2_0 rfl ?_
  refine Wl.ifY 15 d2_1 (feq (by decide)).2 ?_
  refine Wl.iload_n 16 d2_15 rfl ?_
  refine Wl.iconst 17 (1 : Int32) d2_16 (by decide) ?_
  refine Wl.icmpY 37 d2_17 (feq (by decide)).2 ?_
  refine Wl.iload_n 38 d2_37 rfl ?_
  refine Wl.iconst 39 (2 : Int32) d2_38 (by decide) ?_
  refine Wl.icmpY 65 d2_39 (feq (by decide)).2 ?_
  refine Wl.iload_n 66 d2_65 rfl ?_
  refine Wl.iconst 67 (3 : Int32) d2_66 (by decide) ?_
  refine Wl.icmpY 99 d2_67 (feq (by decide)).2 ?_
  refine Wl.new 102 d2_99 (w8 hw) (w9 hw) (w10 hw) (nle rfl) (nle rfl) ?_
  intro a1 h2 q3 E4 X5 D6
  have z7 : h.size ≤ a1 := Nat.le_of_eq q3.symm
  have ne8 : b ≠ a1 := Nat.ne_of_lt (by rw [q3]; exact (A).lt)
  have B9 : Ext h h2 := E4
  have F10 : Fld Z h2 a1 "java/lang/String" "coder" "B" (.int 0) := D6 (Or.inr (w34 hw)) (ty := .byte) (by decide)
  have F11 : Fld Z h2 a1 "java/lang/String" "value" "[B" (.null) := D6 (Or.inr (w36 hw)) (ty := (.array .byte)) (by decide)
  refine Wl.dup 103 d2_102 rfl ?_
  refine Wl.iconst 104 (4 : Int32) d2_103 (by decide) ?_
  refine Wl.newarray 106 4 d2_104 (w0 hw) (by decide) (by decide) (by decide) (nle rfl) (nle rfl) ?_
  intro a12 h13 k14 q15 E16 A17
  have A17 : Arv Z h13 a12 k14 .char (4 : Int32) [.int 0, .int 0, .int 0, .int 0] (.int 0) := A17
  have z18 : h.size ≤ a12 := Nat.le_trans B9.1 (Nat.le_of_eq q15.symm)
  have z19 : h2.size ≤ a12 := Nat.le_of_eq q15.symm
  have ne20 : b ≠ a12 := Nat.ne_of_lt (by rw [q15]; exact ((A.ext E4)).lt)
  have ne21 : a1 ≠ a12 := Nat.ne_of_lt (by rw [q15]; exact (X5).lt)
  have B22 : Ext h h13 := extTr B9 E16
  have B23 : Ext h2 h13 := E16
  refine Wl.dup 107 d2_106 rfl ?_
  refine Wl.iconst 108 (0 : Int32) d2_107 (by decide) ?_
  refine Wl.aload_n 109 d2_108 rfl rfl ?_
  refine Wl.iconst 110 (0 : Int32) d2_109 (by decide) ?_
  refine Wl.caload 111 0 d2_110 (A.ext B22) (by decide) (by decide) (by decide) rfl ?_
  refine Wl.castore 112 0 d2_111 A17 (List.mem_of_getElem? (i := 0) rfl) (by decide) (by decide) (by decide) (nle rfl) ?_
  intro h24 W25 A26
  rw [nar_ch (lc0).ch] at A26
  have A26 : Arv Z h24 a12 k14 .char (4 : Int32) [.int c0, .int (0 : Int32), .int (0 : Int32), .int (0 : Int32)] (.int 0) := A26
  have B27 : Ext h h24 := extWr B22 W25 z18
  have B28 : Ext h2 h24 := extWr B23 W25 z19
  refine Wl.dup 113 d2_112 rfl ?_
  refine Wl.iconst 114 (1 : Int32) d2_113 (by decide) ?_
  refine Wl.aload_n 115 d2_114 rfl rfl ?_
  refine Wl.iconst 116 (1 : Int32) d2_115 (by decide) ?_
  refine Wl.caload 117 1 d2_116 (A.ext B27) (by decide) (by decide) (by decide) rfl ?_
  refine Wl.castore 118 1 d2_117 A26 (List.mem_of_getElem? (i := 0) rfl) (by decide) (by decide) (by decide) (nle rfl) ?_
  intro h29 W30 A31
  rw [nar_ch (lc1).ch] at A31
  have A31 : Arv Z h29 a12 k14 .char (4 : Int32) [.int c0, .int c1, .int (0 : Int32), .int (0 : Int32)] (.int 0) := A31
  have B32 : Ext h h29 := extWr B27 W30 z18
  have B33 : Ext h2 h29 := extWr B28 W30 z19
  refine Wl.dup 119 d2_118 rfl ?_
  refine Wl.iconst 120 (2 : Int32) d2_119 (by decide) ?_
  refine Wl.aload_n 121 d2_120 rfl rfl ?_
  refine Wl.iconst 122 (2 : Int32) d2_121 (by decide) ?_
  refine Wl.caload 123 2 d2_122 (A.ext B32) (by decide) (by decide) (by decide) rfl ?_
  refine Wl.castore 124 2 d2_123 A31 (List.mem_of_getElem? (i := 0) rfl) (by decide) (by decide) (by decide) (nle rfl) ?_
  intro h34 W35 A36
  rw [nar_ch (lc2).ch] at A36
  have A36 : Arv Z h34 a12 k14 .char (4 : Int32) [.int c0, .int c1, .int c2, .int (0 : Int32)] (.int 0) := A36
  have B37 : Ext h h34 := extWr B32 W35 z18
  have B38 : Ext h2 h34 := extWr B33 W35 z19
  refine Wl.dup 125 d2_124 rfl ?_
  refine Wl.iconst 126 (3 : Int32) d2_125 (by decide) ?_
  refine Wl.aload_n 127 d2_126 rfl rfl ?_
  refine Wl.iconst 128 (3 : Int32) d2_127 (by decide) ?_
  refine Wl.caload 129 3 d2_128 (A.ext B37) (by decide) (by decide) (by decide) rfl ?_
  refine Wl.castore 130 3 d2_129 A36 (List.mem_of_getElem? (i := 0) rfl) (by decide) (by decide) (by decide) (nle rfl) ?_
  intro h39 W40 A41
  rw [nar_ch (lc3).ch] at A41
  have A41 : Arv Z h39 a12 k14 .char (4 : Int32) [.int c0, .int c1, .int c2, .int c3] (.int 0) := A41
  have B42 : Ext h h39 := extWr B37 W40 z18
  have B43 : Ext h2 h39 := extWr B38 W40 z19
  refine Wl.special 133 (argsL := [.ref a12]) d2_130 (w11 hw) (w12 hw) (w10 hw) (w13 hw) (show parseMethodDescriptor "([C)V" = some ⟨[(.array .char)], none⟩ by decide +kernel) rfl (strC_met hw hcs (cs := [c0, c1, c2, c3]) 4 (nle rfl) (nle rfl)  (latC lc0 (latC lc1 (latC lc2 (latC lc3 latN)))) (X5.ext B43) (F11.ext B43) (F10.ext B43) A41) (allS (List.mem_of_getElem? (i := 1) rfl) (fun _ q => nomatch q)) rfl rfl rfl rfl (by decide) ⟨⟨nle rfl, nle rfl⟩, nle rfl, nle rfl⟩ ?_
  intro v44 h45 hq46 _
  obtain ⟨rfl, K47, S48⟩ := hq46
  have B49 : Ext h h45 := extKeep B42 K47 (allS z7 all0)
  show WlO _ _ _ _ _ _ _ _ _ _ _ _ _ _ _ _ _ _ [.ref a1]
  exact Wl.areturn d2_133 rfl rfl rfl (nle rfl) (nle rfl) ⟨a1, rfl, B49, S48⟩
abbrev lk : List Int32 := [(113 : Int32), (117 : Int32), (101 : Int32), (117 : Int32), (101 : Int32), (58 : Int32)]
theorem lk_lat : ∀ c ∈ lk, Lat c := by decide
set_option maxRecDepth 65536 in
set_option maxHeartbeats 40000000 in
theorem expP_met {l : Launch} {Z : State} {a0 : Array Value} (hw : ∀ d ∈ tables_1, d.before a0 Z = true) (hcs : CSon Z) (hfm : Fmt Z) {h : Heap} {x y : Addr} {kx ky : ClassId} {ps ns : List Int32} {pl nl : Int32} {n : Nat} (A : Arv Z h x kx .char (Int32.ofNat ps.length) (ps.map Value.int) (.int 0)) (B : Arv Z h y ky .char (Int32.ofNat ns.length) (ns.map Value.int) (.int 0)) (hps : ps.length < 65536) (hns : ns.length < 65536) (lps : ∀ c ∈ ps, Lat c) (lns : ∀ c ∈ ns, Lat c) (h1 : (Int32.ofNat n) < pl) (hn1 : n < ps.length) :
    Met l Z consts_1 ⟨"com/example/portunus/portunus/LockKeysQueueKeyPinLaw", "exp", "(I[CI[CI)C"⟩ method_5_code 7 (some .char) [] { frames := 0, cells := 0, slots := 0, locals := 0 } #[.int (Int32.ofNat n), .ref x, .int pl, .ref y, .int nl] h [] (fun v h' => v = some (.int ps[n]) ∧ h = h') := by
  refine Met.of_walk (a0 := a0) (Ls := #[.val (.int (Int32.ofNat n)), .val (.ref x), .val (.int pl), .val (.ref y), .val (.int nl), .unset, .unset]) (plainFor_of_name pn_4) (own_hEL hw) rfl ?_
  refine Wl.iload_n 1 d47_0 rfl ?_
  refine Wl.iload_n 2 d47_1 rfl ?_
  refine Wl.icmpN 5 d47_2 (tlt h1).2.1 ?_
  refine Wl.aload_n 6 d47_5 rfl rfl ?_
  refine Wl.iload_n 7 d47_6 rfl ?_
  refine Wl.caload 8 n d47_7 A (nNn (by omega)) (nCl (by omega)) (by rw [nCl (by omega)]; exact hn1) (v := .int ps[n]) (by simp [List.getD_eq_getElem?_getD, hn1]) ?_
  exact Wl.ireturn d47_8 rfl (narC (lps _ (List.getElem_mem hn1)).ch) (by simp) (nle rfl) (nle rfl) ⟨rfl, rfl⟩
set_option maxRecDepth 65536 in
set_option maxHeartbeats 40000000 in
theorem atP_met {l : Launch} {Z : State} {a0 : Array Value} (hw : ∀ d ∈ tables_1, d.before a0 Z = true) (hcs : CSon Z) (hfm : Fmt Z) {h : Heap} {r : Addr} {tot : Int32} {rs : List Int32} {x y : Addr} {kx ky : ClassId} {ps ns : List Int32} {pl nl : Int32} {n : Nat} (S : Stl Z h r rs) (hn : n < rs.length) (ht : (Int32.ofNat n) < tot) (A : Arv Z h x kx .char (Int32.ofNat ps.length) (ps.map Value.int) (.int 0)) (B : Arv Z h y ky .char (Int32.ofNat ns.length) (ns.map Value.int) (.int 0)) (hps : ps.length < 65536) (hns : ns.length < 65536) (lps : ∀ c ∈ ps, Lat c) (lns : ∀ c ∈ ns, Lat c) (h1 : (Int32.ofNat n) < pl) (hn1 : n < ps.length) (hq : rs[n] = ps[n]) :
    Met l Z consts_1 ⟨"com/example/portunus/portunus/LockKeysQueueKeyPinLaw", "at", "(Ljava/lang/String;II[CI[CI)Z"⟩ method_6_code 7 (some .boolean) [] { frames := 4, cells := 0, slots := 0, locals := 60 } #[.ref r, .int (Int32.ofNat n), .int tot, .ref x, .int pl, .ref y, .int nl] h [] (fun v h' => v = some (.int 1) ∧ h = h') := by
  refine Met.of_walk (a0 := a0) (Ls := #[.val (.ref r), .val (.int (Int32.ofNat n)), .val (.int tot), .val (.ref x), .val (.int pl), .val (.ref y), .val (.int nl)]) (plainFor_of_name pn_4) (own_hEL hw) rfl ?_
  refine Wl.iload_n 1 d46_0 rfl ?_
  refine Wl.iload_n 2 d46_1 rfl ?_
  refine Wl.icmpN 5 d46_2 (tlt ht).2.1 ?_
  refine Wl.aload_n 6 d46_5 rfl rfl ?_
  refine Wl.iload_n 7 d46_6 rfl ?_
  refine Wl.virtual 10 (argsL := [.int (Int32.ofNat n)]) d46_7 (w230 hw) (w167 hw) (w169 hw) (w168 hw) (w10 hw) (w170 hw) (nf_sel (w169 hw) rfl) (S).exa (show parseMethodDescriptor "(I)C" = some ⟨[.int], some .char⟩ by decide +kernel) rfl (charAt_met hw hcs hfm S (i := n) hn) (fun _ q => nomatch q) rfl rfl rfl (by decide) ⟨⟨nle rfl, nle rfl⟩, nle rfl, nle rfl⟩ ?_
  intro v1 h2 hq3 _
  obtain ⟨rfl, rfl⟩ := hq3
  show WlO _ _ _ _ _ _ _ _ _ _ _ _ _ _ _ _ _ _ [.int (rs[n])]
  refine Wl.iload_n 11 d46_10 rfl ?_
  refine Wl.aload_n 12 d46_11 rfl rfl ?_
  refine Wl.iload 14 d46_12 rfl ?_
  refine Wl.aload 16 d46_14 rfl rfl ?_
  refine Wl.iload 18 d46_16 rfl ?_
  refine Wl.static 21 (argsL := [.int (Int32.ofNat n), .ref x, .int pl, .ref y, .int nl]) d46_18 (w231 hw) (w232 hw) (w3 hw) (w233 hw) (show parseMethodDescriptor "(I[CI[CI)C" = some ⟨[.int, (.array .char), .int, (.array .char), .int], some .char⟩ by decide +kernel) rfl (expP_met hw hcs hfm A B hps hns lps lns h1 hn1) (fun _ q => nomatch q) rfl rfl rfl (by decide) ⟨⟨nle rfl, nle rfl⟩, nle rfl, nle rfl⟩ ?_
  intro v4 h5 hq6 _
  obtain ⟨rfl, rfl⟩ := hq6
  show WlO _ _ _ _ _ _ _ _ _ _ _ _ _ _ _ _ _ _ [.int (ps[n]), .int (rs[n])]
  refine Wl.icmpN 24 d46_21 (teq hq).2 ?_
  refine Wl.iconst 25 (1 : Int32) d46_24 (by decide) ?_
  refine Wl.goto 29 d46_25 ?_
  exact Wl.ireturn d46_29 rfl rfl (by simp) (nle rfl) (nle rfl) ⟨rfl, rfl⟩
set_option maxRecDepth 65536 in
set_option maxHeartbeats 40000000 in
theorem expA_met {l : Launch} {Z : State} {a0 : Array Value} (hw : ∀ d ∈ tables_1, d.before a0 Z = true) (hcs : CSon Z) (hfm : Fmt Z) {h : Heap} {x y : Addr} {kx ky : ClassId} {ps ns : List Int32} {pl nl : Int32} {n : Nat} {j : Nat} (A : Arv Z h x kx .char (Int32.ofNat ps.length) (ps.map Value.int) (.int 0)) (B : Arv Z h y ky .char (Int32.ofNat ns.length) (ns.map Value.int) (.int 0)) (hps : ps.length < 65536) (hns : ns.length < 65536) (lps : ∀ c ∈ ps, Lat c) (lns : ∀ c ∈ ns, Lat c) (h1 : ¬ (Int32.ofNat n) < pl) (h2 : ((Int32.ofNat n) - pl) < (6 : Int32)) (hj : ((Int32.ofNat n) - pl) = Int32.ofNat j) (hj6 : j < lk.length) :
    Met l Z consts_1 ⟨"com/example/portunus/portunus/LockKeysQueueKeyPinLaw", "exp", "(I[CI[CI)C"⟩ method_5_code 7 (some .char) [] { frames := 4, cells := 2, slots := 28, locals := 53 } #[.int (Int32.ofNat n), .ref x, .int pl, .ref y, .int nl] h [] (fun v h' => v = some (.int lk[j]) ∧ Ext h h') := by
  refine Met.of_walk (a0 := a0) (Ls := #[.val (.int (Int32.ofNat n)), .val (.ref x), .val (.int pl), .val (.ref y), .val (.int nl), .unset, .unset]) (plainFor_of_name pn_4) (own_hEL hw) rfl ?_
  refine Wl.iload_n 1 d47_0 rfl ?_
  refine Wl.iload_n 2 d47_1 rfl ?_
  refine Wl.icmpY 9 d47_2 (flt h1).2.1 ?_
  refine Wl.iload_n 10 d47_9 rfl ?_
  refine Wl.iload_n 11 d47_10 rfl ?_
  refine Wl.isub 12 d47_11 ?_
  refine Wl.istore 14 #[.val (.int (Int32.ofNat n)), .val (.ref x), .val (.int pl), .val (.ref y), .val (.int nl), .val (.int ((Int32.ofNat n) - pl)), .unset] d47_12 rfl ?_
  refine Wl.iload 16 d47_14 rfl ?_
  refine Wl.bipush 18 (6 : Int32) d47_16 (by decide) ?_
  refine Wl.icmpN 21 d47_18 (tlt h2).2.1 ?_
  refine Wl.ldcS 23 24 (text := "queue:") (vs := [byV (113 : Int32), byV (117 : Int32), byV (101 : Int32), byV (117 : Int32), byV (101 : Int32), byV (58 : Int32)]) (z := (6 : Int32)) d47_21 (w234 hw) (own_wS hw) (by decide) ⟨by decide, by decide⟩ (by decide) (by decide) (by decide) (by decide) (nle rfl) (nle rfl) ?_
  intro a1 h2 b3 k4 E5 X6 C7 V8 A9 ne10
  have B11 : Ext h h2 := E5
  have S12 : Stl Z h2 a1 [(113 : Int32), (117 : Int32), (101 : Int32), (117 : Int32), (101 : Int32), (58 : Int32)] := ⟨b3, k4, X6, C7, V8, A9, (latC (by decide) (latC (by decide) (latC (by decide) (latC (by decide) (latC (by decide) (latC (by decide) latN)))))), by decide⟩
  refine Wl.iload 25 d47_23 rfl ?_
  rw [hj]
  refine Wl.virtual 28 (argsL := [.int (Int32.ofNat j)]) d47_25 (w230 hw) (w167 hw) (w169 hw) (w168 hw) (w10 hw) (w170 hw) (nf_sel (w169 hw) rfl) X6 (show parseMethodDescriptor "(I)C" = some ⟨[.int], some .char⟩ by decide +kernel) rfl (charAt_met hw hcs hfm (cs := lk) S12 (i := j) hj6) (fun _ q => nomatch q) rfl rfl rfl (by decide) ⟨⟨nle rfl, nle rfl⟩, nle rfl, nle rfl⟩ ?_
  intro v13 h14 hq15 _
  obtain ⟨rfl, rfl⟩ := hq15
  show WlO _ _ _ _ _ _ _ _ _ _ _ _ _ _ _ _ _ _ [.int (lk[j])]
  exact Wl.ireturn d47_28 rfl (narC (lk_lat _ (List.getElem_mem hj6)).ch) (by simp) (nle rfl) (nle rfl) ⟨rfl, B11⟩
set_option maxRecDepth 65536 in
set_option maxHeartbeats 40000000 in
theorem atA_met {l : Launch} {Z : State} {a0 : Array Value} (hw : ∀ d ∈ tables_1, d.before a0 Z = true) (hcs : CSon Z) (hfm : Fmt Z) {h : Heap} {r : Addr} {tot : Int32} {rs : List Int32} {x y : Addr} {kx ky : ClassId} {ps ns : List Int32} {pl nl : Int32} {n : Nat} {j : Nat} (S : Stl Z h r rs) (hn : n < rs.length) (ht : (Int32.ofNat n) < tot) (A : Arv Z h x kx .char (Int32.ofNat ps.length) (ps.map Value.int) (.int 0)) (B : Arv Z h y ky .char (Int32.ofNat ns.length) (ns.map Value.int) (.int 0)) (hps : ps.length < 65536) (hns : ns.length < 65536) (lps : ∀ c ∈ ps, Lat c) (lns : ∀ c ∈ ns, Lat c) (h1 : ¬ (Int32.ofNat n) < pl) (h2 : ((Int32.ofNat n) - pl) < (6 : Int32)) (hj : ((Int32.ofNat n) - pl) = Int32.ofNat j) (hj6 : j < lk.length) (hq : rs[n] = lk[j]) :
    Met l Z consts_1 ⟨"com/example/portunus/portunus/LockKeysQueueKeyPinLaw", "at", "(Ljava/lang/String;II[CI[CI)Z"⟩ method_6_code 7 (some .boolean) [] { frames := 5, cells := 2, slots := 28, locals := 76 } #[.ref r, .int (Int32.ofNat n), .int tot, .ref x, .int pl, .ref y, .int nl] h [] (fun v h' => v = some (.int 1) ∧ Ext h h') := by
  refine Met.of_walk (a0 := a0) (Ls := #[.val (.ref r), .val (.int (Int32.ofNat n)), .val (.int tot), .val (.ref x), .val (.int pl), .val (.ref y), .val (.int nl)]) (plainFor_of_name pn_4) (own_hEL hw) rfl ?_
  refine Wl.iload_n 1 d46_0 rfl ?_
  refine Wl.iload_n 2 d46_1 rfl ?_
  refine Wl.icmpN 5 d46_2 (tlt ht).2.1 ?_
  refine Wl.aload_n 6 d46_5 rfl rfl ?_
  refine Wl.iload_n 7 d46_6 rfl ?_
  refine Wl.virtual 10 (argsL := [.int (Int32.ofNat n)]) d46_7 (w230 hw) (w167 hw) (w169 hw) (w168 hw) (w10 hw) (w170 hw) (nf_sel (w169 hw) rfl) (S).exa (show parseMethodDescriptor "(I)C" = some ⟨[.int], some .char⟩ by decide +kernel) rfl (charAt_met hw hcs hfm S (i := n) hn) (fun _ q => nomatch q) rfl rfl rfl (by decide) ⟨⟨nle rfl, nle rfl⟩, nle rfl, nle rfl⟩ ?_
  intro v1 h2 hq3 _
  obtain ⟨rfl, rfl⟩ := hq3
  show WlO _ _ _ _ _ _ _ _ _ _ _ _ _ _ _ _ _ _ [.int (rs[n])]
  refine Wl.iload_n 11 d46_10 rfl ?_
  refine Wl.aload_n 12 d46_11 rfl rfl ?_
  refine Wl.iload 14 d46_12 rfl ?_
  refine Wl.aload 16 d46_14 rfl rfl ?_
  refine Wl.iload 18 d46_16 rfl ?_
  refine Wl.static 21 (argsL := [.int (Int32.ofNat n), .ref x, .int pl, .ref y, .int nl]) d46_18 (w231 hw) (w232 hw) (w3 hw) (w233 hw) (show parseMethodDescriptor "(I[CI[CI)C" = some ⟨[.int, (.array .char), .int, (.array .char), .int], some .char⟩ by decide +kernel) rfl (expA_met hw hcs hfm A B hps hns lps lns h1 h2 hj hj6) (fun _ q => nomatch q) rfl rfl rfl (by decide) ⟨⟨nle rfl, nle rfl⟩, nle rfl, nle rfl⟩ ?_
  intro v4 h5 hq6 _
  obtain ⟨rfl, E7⟩ := hq6
  have B8 : Ext h h5 := E7
  show WlO _ _ _ _ _ _ _ _ _ _ _ _ _ _ _ _ _ _ [.int (lk[j]), .int (rs[n])]
  refine Wl.icmpN 24 d46_21 (teq hq).2 ?_
  refine Wl.iconst 25 (1 : Int32) d46_24 (by decide) ?_
  refine Wl.goto 29 d46_25 ?_
  exact Wl.ireturn d46_29 rfl rfl (by simp) (nle rfl) (nle rfl) ⟨rfl, B8⟩
set_option maxRecDepth 65536 in
set_option maxHeartbeats 40000000 in
theorem expO_met {l : Launch} {Z : State} {a0 : Array Value} (hw : ∀ d ∈ tables_1, d.before a0 Z = true) (hcs : CSon Z) (hfm : Fmt Z) {h : Heap} {x y : Addr} {kx ky : ClassId} {ps ns : List Int32} {pl nl : Int32} {n : Nat} (A : Arv Z h x kx .char (Int32.ofNat ps.length) (ps.map Value.int) (.int 0)) (B : Arv Z h y ky .char (Int32.ofNat ns.length) (ns.map Value.int) (.int 0)) (hps : ps.length < 65536) (hns : ns.length < 65536) (lps : ∀ c ∈ ps, Lat c) (lns : ∀ c ∈ ns, Lat c) (h1 : ¬ (Int32.ofNat n) < pl) (h2 : ¬ ((Int32.ofNat n) - pl) < (6 : Int32)) (h3 : ((Int32.ofNat n) - pl) = (6 : Int32)) :
    Met l Z consts_1 ⟨"com/example/portunus/portunus/LockKeysQueueKeyPinLaw", "exp", "(I[CI[CI)C"⟩ method_5_code 7 (some .char) [] { frames := 0, cells := 0, slots := 0, locals := 0 } #[.int (Int32.ofNat n), .ref x, .int pl, .ref y, .int nl] h [] (fun v h' => v = some (.int (123 : Int32)) ∧ h = h') := by
  refine Met.of_walk (a0 := a0) (Ls := #[.val (.int (Int32.ofNat n)), .val (.ref x), .val (.int pl), .val (.ref y), .val (.int nl), .unset, .unset]) (plainFor_of_name pn_4) (own_hEL hw) rfl ?_
  refine Wl.iload_n 1 d47_0 rfl ?_
  refine Wl.iload_n 2 d47_1 rfl ?_
  refine Wl.icmpY 9 d47_2 (flt h1).2.1 ?_
  refine Wl.iload_n 10 d47_9 rfl ?_
  refine Wl.iload_n 11 d47_10 rfl ?_
  refine Wl.isub 12 d47_11 ?_
  refine Wl.istore 14 #[.val (.int (Int32.ofNat n)), .val (.ref x), .val (.int pl), .val (.ref y), .val (.int nl), .val (.int ((Int32.ofNat n) - pl)), .unset] d47_12 rfl ?_
  refine Wl.iload 16 d47_14 rfl ?_
  refine Wl.bipush 18 (6 : Int32) d47_16 (by decide) ?_
  refine Wl.icmpY 29 d47_18 (flt h2).2.1 ?_
  refine Wl.iload 31 d47_29 rfl ?_
  refine Wl.bipush 33 (6 : Int32) d47_31 (by decide) ?_
  refine Wl.icmpN 36 d47_33 (teq h3).2 ?_
  refine Wl.bipush 38 (123 : Int32) d47_36 (by decide) ?_
  exact Wl.ireturn d47_38 rfl rfl (by simp) (nle rfl) (nle rfl) ⟨rfl, rfl⟩
set_option maxRecDepth 65536 in
set_option maxHeartbeats 40000000 in
theorem atO_met {l : Launch} {Z : State} {a0 : Array Value} (hw : ∀ d ∈ tables_1, d.before a0 Z = true) (hcs : CSon Z) (hfm : Fmt Z) {h : Heap} {r : Addr} {tot : Int32} {rs : List Int32} {x y : Addr} {kx ky : ClassId} {ps ns : List Int32} {pl nl : Int32} {n : Nat} (S : Stl Z h r rs) (hn : n < rs.length) (ht : (Int32.ofNat n) < tot) (A : Arv Z h x kx .char (Int32.ofNat ps.length) (ps.map Value.int) (.int 0)) (B : Arv Z h y ky .char (Int32.ofNat ns.length) (ns.map Value.int) (.int 0)) (hps : ps.length < 65536) (hns : ns.length < 65536) (lps : ∀ c ∈ ps, Lat c) (lns : ∀ c ∈ ns, Lat c) (h1 : ¬ (Int32.ofNat n) < pl) (h2 : ¬ ((Int32.ofNat n) - pl) < (6 : Int32)) (h3 : ((Int32.ofNat n) - pl) = (6 : Int32)) (hq : rs[n] = (123 : Int32)) :
    Met l Z consts_1 ⟨"com/example/portunus/portunus/LockKeysQueueKeyPinLaw", "at", "(Ljava/lang/String;II[CI[CI)Z"⟩ method_6_code 7 (some .boolean) [] { frames := 4, cells := 0, slots := 0, locals := 60 } #[.ref r, .int (Int32.ofNat n), .int tot, .ref x, .int pl, .ref y, .int nl] h [] (fun v h' => v = some (.int 1) ∧ h = h') := by
  refine Met.of_walk (a0 := a0) (Ls := #[.val (.ref r), .val (.int (Int32.ofNat n)), .val (.int tot), .val (.ref x), .val (.int pl), .val (.ref y), .val (.int nl)]) (plainFor_of_name pn_4) (own_hEL hw) rfl ?_
  refine Wl.iload_n 1 d46_0 rfl ?_
  refine Wl.iload_n 2 d46_1 rfl ?_
  refine Wl.icmpN 5 d46_2 (tlt ht).2.1 ?_
  refine Wl.aload_n 6 d46_5 rfl rfl ?_
  refine Wl.iload_n 7 d46_6 rfl ?_
  refine Wl.virtual 10 (argsL := [.int (Int32.ofNat n)]) d46_7 (w230 hw) (w167 hw) (w169 hw) (w168 hw) (w10 hw) (w170 hw) (nf_sel (w169 hw) rfl) (S).exa (show parseMethodDescriptor "(I)C" = some ⟨[.int], some .char⟩ by decide +kernel) rfl (charAt_met hw hcs hfm S (i := n) hn) (fun _ q => nomatch q) rfl rfl rfl (by decide) ⟨⟨nle rfl, nle rfl⟩, nle rfl, nle rfl⟩ ?_
  intro v1 h2 hq3 _
  obtain ⟨rfl, rfl⟩ := hq3
  show WlO _ _ _ _ _ _ _ _ _ _ _ _ _ _ _ _ _ _ [.int (rs[n])]
  refine Wl.iload_n 11 d46_10 rfl ?_
  refine Wl.aload_n 12 d46_11 rfl rfl ?_
  refine Wl.iload 14 d46_12 rfl ?_
  refine Wl.aload 16 d46_14 rfl rfl ?_
  refine Wl.iload 18 d46_16 rfl ?_
  refine Wl.static 21 (argsL := [.int (Int32.ofNat n), .ref x, .int pl, .ref y, .int nl]) d46_18 (w231 hw) (w232 hw) (w3 hw) (w233 hw) (show parseMethodDescriptor "(I[CI[CI)C" = some ⟨[.int, (.array .char), .int, (.array .char), .int], some .char⟩ by decide +kernel) rfl (expO_met hw hcs hfm A B hps hns lps lns h1 h2 h3) (fun _ q => nomatch q) rfl rfl rfl (by decide) ⟨⟨nle rfl, nle rfl⟩, nle rfl, nle rfl⟩ ?_
  intro v4 h5 hq6 _
  obtain ⟨rfl, rfl⟩ := hq6
  show WlO _ _ _ _ _ _ _ _ _ _ _ _ _ _ _ _ _ _ [.int (123 : Int32), .int (rs[n])]
  refine Wl.icmpN 24 d46_21 (teq hq).2 ?_
  refine Wl.iconst 25 (1 : Int32) d46_24 (by decide) ?_
  refine Wl.goto 29 d46_25 ?_
  exact Wl.ireturn d46_29 rfl rfl (by simp) (nle rfl) (nle rfl) ⟨rfl, rfl⟩
set_option maxRecDepth 65536 in
set_option maxHeartbeats 40000000 in
theorem expN_met {l : Launch} {Z : State} {a0 : Array Value} (hw : ∀ d ∈ tables_1, d.before a0 Z = true) (hcs : CSon Z) (hfm : Fmt Z) {h : Heap} {x y : Addr} {kx ky : ClassId} {ps ns : List Int32} {pl nl : Int32} {n : Nat} {m : Nat} (A : Arv Z h x kx .char (Int32.ofNat ps.length) (ps.map Value.int) (.int 0)) (B : Arv Z h y ky .char (Int32.ofNat ns.length) (ns.map Value.int) (.int 0)) (hps : ps.length < 65536) (hns : ns.length < 65536) (lps : ∀ c ∈ ps, Lat c) (lns : ∀ c ∈ ns, Lat c) (h1 : ¬ (Int32.ofNat n) < pl) (h2 : ¬ ((Int32.ofNat n) - pl) < (6 : Int32)) (h3 : ¬ ((Int32.ofNat n) - pl) = (6 : Int32)) (h4 : (((Int32.ofNat n) - pl) - (7 : Int32)) < nl) (hk : (((Int32.ofNat n) - pl) - (7 : Int32)) = Int32.ofNat m) (hm : m < ns.length) :
    Met l Z consts_1 ⟨"com/example/portunus/portunus/LockKeysQueueKeyPinLaw", "exp", "(I[CI[CI)C"⟩ method_5_code 7 (some .char) [] { frames := 0, cells := 0, slots := 0, locals := 0 } #[.int (Int32.ofNat n), .ref x, .int pl, .ref y, .int nl] h [] (fun v h' => v = some (.int ns[m]) ∧ h = h') := by
  refine Met.of_walk (a0 := a0) (Ls := #[.val (.int (Int32.ofNat n)), .val (.ref x), .val (.int pl), .val (.ref y), .val (.int nl), .unset, .unset]) (plainFor_of_name pn_4) (own_hEL hw) rfl ?_
  refine Wl.iload_n 1 d47_0 rfl ?_
  refine Wl.iload_n 2 d47_1 rfl ?_
  refine Wl.icmpY 9 d47_2 (flt h1).2.1 ?_
  refine Wl.iload_n 10 d47_9 rfl ?_
  refine Wl.iload_n 11 d47_10 rfl ?_
  refine Wl.isub 12 d47_11 ?_
  refine Wl.istore 14 #[.val (.int (Int32.ofNat n)), .val (.ref x), .val (.int pl), .val (.ref y), .val (.int nl), .val (.int ((Int32.ofNat n) - pl)), .unset] d47_12 rfl ?_
  refine Wl.iload 16 d47_14 rfl ?_
  refine Wl.bipush 18 (6 : Int32) d47_16 (by decide) ?_
  refine Wl.icmpY 29 d47_18 (flt h2).2.1 ?_
  refine Wl.iload 31 d47_29 rfl ?_
  refine Wl.bipush 33 (6 : Int32) d47_31 (by decide) ?_
  refine Wl.icmpY 39 d47_33 (feq h3).2 ?_
  refine Wl.iload 41 d47_39 rfl ?_
  refine Wl.bipush 43 (7 : Int32) d47_41 (by decide) ?_
  refine Wl.isub 44 d47_43 ?_
  refine Wl.istore 46 #[.val (.int (Int32.ofNat n)), .val (.ref x), .val (.int pl), .val (.ref y), .val (.int nl), .val (.int ((Int32.ofNat n) - pl)), .val (.int (((Int32.ofNat n) - pl) - (7 : Int32)))] d47_44 rfl ?_
  refine Wl.iload 48 d47_46 rfl ?_
  refine Wl.iload 50 d47_48 rfl ?_
  refine Wl.icmpN 53 d47_50 (tlt h4).2.1 ?_
  refine Wl.aload_n 54 d47_53 rfl rfl ?_
  refine Wl.iload 56 d47_54 rfl ?_
  rw [hk]
  refine Wl.caload 57 m d47_56 B (nNn (by omega)) (nCl (by omega)) (by rw [nCl (by omega)]; exact hm) (v := .int ns[m]) (by simp [List.getD_eq_getElem?_getD, hm]) ?_
  exact Wl.ireturn d47_57 rfl (narC (lns _ (List.getElem_mem hm)).ch) (by simp) (nle rfl) (nle rfl) ⟨rfl, rfl⟩
set_option maxRecDepth 65536 in
set_option maxHeartbeats 40000000 in
theorem atN_met {l : Launch} {Z : State} {a0 : Array Value} (hw : ∀ d ∈ tables_1, d.before a0 Z = true) (hcs : CSon Z) (hfm : Fmt Z) {h : Heap} {r : Addr} {tot : Int32} {rs : List Int32} {x y : Addr} {kx ky : ClassId} {ps ns : List Int32} {pl nl : Int32} {n : Nat} {m : Nat} (S : Stl Z h r rs) (hn : n < rs.length) (ht : (Int32.ofNat n) < tot) (A : Arv Z h x kx .char (Int32.ofNat ps.length) (ps.map Value.int) (.int 0)) (B : Arv Z h y ky .char (Int32.ofNat ns.length) (ns.map Value.int) (.int 0)) (hps : ps.length < 65536) (hns : ns.length < 65536) (lps : ∀ c ∈ ps, Lat c) (lns : ∀ c ∈ ns, Lat c) (h1 : ¬ (Int32.ofNat n) < pl) (h2 : ¬ ((Int32.ofNat n) - pl) < (6 : Int32)) (h3 : ¬ ((Int32.ofNat n) - pl) = (6 : Int32)) (h4 : (((Int32.ofNat n) - pl) - (7 : Int32)) < nl) (hk : (((Int32.ofNat n) - pl) - (7 : Int32)) = Int32.ofNat m) (hm : m < ns.length) (hq : rs[n] = ns[m]) :
    Met l Z consts_1 ⟨"com/example/portunus/portunus/LockKeysQueueKeyPinLaw", "at", "(Ljava/lang/String;II[CI[CI)Z"⟩ method_6_code 7 (some .boolean) [] { frames := 4, cells := 0, slots := 0, locals := 60 } #[.ref r, .int (Int32.ofNat n), .int tot, .ref x, .int pl, .ref y, .int nl] h [] (fun v h' => v = some (.int 1) ∧ h = h') := by
  refine Met.of_walk (a0 := a0) (Ls := #[.val (.ref r), .val (.int (Int32.ofNat n)), .val (.int tot), .val (.ref x), .val (.int pl), .val (.ref y), .val (.int nl)]) (plainFor_of_name pn_4) (own_hEL hw) rfl ?_
  refine Wl.iload_n 1 d46_0 rfl ?_
  refine Wl.iload_n 2 d46_1 rfl ?_
  refine Wl.icmpN 5 d46_2 (tlt ht).2.1 ?_
  refine Wl.aload_n 6 d46_5 rfl rfl ?_
  refine Wl.iload_n 7 d46_6 rfl ?_
  refine Wl.virtual 10 (argsL := [.int (Int32.ofNat n)]) d46_7 (w230 hw) (w167 hw) (w169 hw) (w168 hw) (w10 hw) (w170 hw) (nf_sel (w169 hw) rfl) (S).exa (show parseMethodDescriptor "(I)C" = some ⟨[.int], some .char⟩ by decide +kernel) rfl (charAt_met hw hcs hfm S (i := n) hn) (fun _ q => nomatch q) rfl rfl rfl (by decide) ⟨⟨nle rfl, nle rfl⟩, nle rfl, nle rfl⟩ ?_
  intro v1 h2 hq3 _
  obtain ⟨rfl, rfl⟩ := hq3
  show WlO _ _ _ _ _ _ _ _ _ _ _ _ _ _ _ _ _ _ [.int (rs[n])]
  refine Wl.iload_n 11 d46_10 rfl ?_
  refine Wl.aload_n 12 d46_11 rfl rfl ?_
  refine Wl.iload 14 d46_12 rfl ?_
  refine Wl.aload 16 d46_14 rfl rfl ?_
  refine Wl.iload 18 d46_16 rfl ?_
  refine Wl.static 21 (argsL := [.int (Int32.ofNat n), .ref x, .int pl, .ref y, .int nl]) d46_18 (w231 hw) (w232 hw) (w3 hw) (w233 hw) (show parseMethodDescriptor "(I[CI[CI)C" = some ⟨[.int, (.array .char), .int, (.array .char), .int], some .char⟩ by decide +kernel) rfl (expN_met hw hcs hfm A B hps hns lps lns h1 h2 h3 h4 hk hm) (fun _ q => nomatch q) rfl rfl rfl (by decide) ⟨⟨nle rfl, nle rfl⟩, nle rfl, nle rfl⟩ ?_
  intro v4 h5 hq6 _
  obtain ⟨rfl, rfl⟩ := hq6
  show WlO _ _ _ _ _ _ _ _ _ _ _ _ _ _ _ _ _ _ [.int (ns[m]), .int (rs[n])]
  refine Wl.icmpN 24 d46_21 (teq hq).2 ?_
  refine Wl.iconst 25 (1 : Int32) d46_24 (by decide) ?_
  refine Wl.goto 29 d46_25 ?_
  exact Wl.ireturn d46_29 rfl rfl (by simp) (nle rfl) (nle rfl) ⟨rfl, rfl⟩
set_option maxRecDepth 65536 in
set_option maxHeartbeats 40000000 in
theorem expE_met {l : Launch} {Z : State} {a0 : Array Value} (hw : ∀ d ∈ tables_1, d.before a0 Z = true) (hcs : CSon Z) (hfm : Fmt Z) {h : Heap} {x y : Addr} {kx ky : ClassId} {ps ns : List Int32} {pl nl : Int32} {n : Nat} (A : Arv Z h x kx .char (Int32.ofNat ps.length) (ps.map Value.int) (.int 0)) (B : Arv Z h y ky .char (Int32.ofNat ns.length) (ns.map Value.int) (.int 0)) (hps : ps.length < 65536) (hns : ns.length < 65536) (lps : ∀ c ∈ ps, Lat c) (lns : ∀ c ∈ ns, Lat c) (h1 : ¬ (Int32.ofNat n) < pl) (h2 : ¬ ((Int32.ofNat n) - pl) < (6 : Int32)) (h3 : ¬ ((Int32.ofNat n) - pl) = (6 : Int32)) (h4 : ¬ (((Int32.ofNat n) - pl) - (7 : Int32)) < nl) :
    Met l Z consts_1 ⟨"com/example/portunus/portunus/LockKeysQueueKeyPinLaw", "exp", "(I[CI[CI)C"⟩ method_5_code 7 (some .char) [] { frames := 0, cells := 0, slots := 0, locals := 0 } #[.int (Int32.ofNat n), .ref x, .int pl, .ref y, .int nl] h [] (fun v h' => v = some (.int (125 : Int32)) ∧ h = h') := by
  refine Met.of_walk (a0 := a0) (Ls := #[.val (.int (Int32.ofNat n)), .val (.ref x), .val (.int pl), .val (.ref y), .val (.int nl), .unset, .unset]) (plainFor_of_name pn_4) (own_hEL hw) rfl ?_
  refine Wl.iload_n 1 d47_0 rfl ?_
  refine Wl.iload_n 2 d47_1 rfl ?_
  refine Wl.icmpY 9 d47_2 (flt h1).2.1 ?_
  refine Wl.iload_n 10 d47_9 rfl ?_
  refine Wl.iload_n 11 d47_10 rfl ?_
  refine Wl.isub 12 d47_11 ?_
  refine Wl.istore 14 #[.val (.int (Int32.ofNat n)), .val (.ref x), .val (.int pl), .val (.ref y), .val (.int nl), .val (.int ((Int32.ofNat n) - pl)), .unset] d47_12 rfl ?_
  refine Wl.iload 16 d47_14 rfl ?_
  refine Wl.bipush 18 (6 : Int32) d47_16 (by decide) ?_
  refine Wl.icmpY 29 d47_18 (flt h2).2.1 ?_
  refine Wl.iload 31 d47_29 rfl ?_
  refine Wl.bipush 33 (6 : Int32) d47_31 (by decide) ?_
  refine Wl.icmpY 39 d47_33 (feq h3).2 ?_
  refine Wl.iload 41 d47_39 rfl ?_
  refine Wl.bipush 43 (7 : Int32) d47_41 (by decide) ?_
  refine Wl.isub 44 d47_43 ?_
  refine Wl.istore 46 #[.val (.int (Int32.ofNat n)), .val (.ref x), .val (.int pl), .val (.ref y), .val (.int nl), .val (.int ((Int32.ofNat n) - pl)), .val (.int (((Int32.ofNat n) - pl) - (7 : Int32)))] d47_44 rfl ?_
  refine Wl.iload 48 d47_46 rfl ?_
  refine Wl.iload 50 d47_48 rfl ?_
  refine Wl.icmpY 58 d47_50 (flt h4).2.1 ?_
  refine Wl.bipush 60 (125 : Int32) d47_58 (by decide) ?_
  exact Wl.ireturn d47_60 rfl rfl (by simp) (nle rfl) (nle rfl) ⟨rfl, rfl⟩
set_option maxRecDepth 65536 in
set_option maxHeartbeats 40000000 in
theorem atE_met {l : Launch} {Z : State} {a0 : Array Value} (hw : ∀ d ∈ tables_1, d.before a0 Z = true) (hcs : CSon Z) (hfm : Fmt Z) {h : Heap} {r : Addr} {tot : Int32} {rs : List Int32} {x y : Addr} {kx ky : ClassId} {ps ns : List Int32} {pl nl : Int32} {n : Nat} (S : Stl Z h r rs) (hn : n < rs.length) (ht : (Int32.ofNat n) < tot) (A : Arv Z h x kx .char (Int32.ofNat ps.length) (ps.map Value.int) (.int 0)) (B : Arv Z h y ky .char (Int32.ofNat ns.length) (ns.map Value.int) (.int 0)) (hps : ps.length < 65536) (hns : ns.length < 65536) (lps : ∀ c ∈ ps, Lat c) (lns : ∀ c ∈ ns, Lat c) (h1 : ¬ (Int32.ofNat n) < pl) (h2 : ¬ ((Int32.ofNat n) - pl) < (6 : Int32)) (h3 : ¬ ((Int32.ofNat n) - pl) = (6 : Int32)) (h4 : ¬ (((Int32.ofNat n) - pl) - (7 : Int32)) < nl) (hq : rs[n] = (125 : Int32)) :
    Met l Z consts_1 ⟨"com/example/portunus/portunus/LockKeysQueueKeyPinLaw", "at", "(Ljava/lang/String;II[CI[CI)Z"⟩ method_6_code 7 (some .boolean) [] { frames := 4, cells := 0, slots := 0, locals := 60 } #[.ref r, .int (Int32.ofNat n), .int tot, .ref x, .int pl, .ref y, .int nl] h [] (fun v h' => v = some (.int 1) ∧ h = h') := by
  refine Met.of_walk (a0 := a0) (Ls := #[.val (.ref r), .val (.int (Int32.ofNat n)), .val (.int tot), .val (.ref x), .val (.int pl), .val (.ref y), .val (.int nl)]) (plainFor_of_name pn_4) (own_hEL hw) rfl ?_
  refine Wl.iload_n 1 d46_0 rfl ?_
  refine Wl.iload_n 2 d46_1 rfl ?_
  refine Wl.icmpN 5 d46_2 (tlt ht).2.1 ?_
  refine Wl.aload_n 6 d46_5 rfl rfl ?_
  refine Wl.iload_n 7 d46_6 rfl ?_
  refine Wl.virtual 10 (argsL := [.int (Int32.ofNat n)]) d46_7 (w230 hw) (w167 hw) (w169 hw) (w168 hw) (w10 hw) (w170 hw) (nf_sel (w169 hw) rfl) (S).exa (show parseMethodDescriptor "(I)C" = some ⟨[.int], some .char⟩ by decide +kernel) rfl (charAt_met hw hcs hfm S (i := n) hn) (fun _ q => nomatch q) rfl rfl rfl (by decide) ⟨⟨nle rfl, nle rfl⟩, nle rfl, nle rfl⟩ ?_
  intro v1 h2 hq3 _
  obtain ⟨rfl, rfl⟩ := hq3
  show WlO _ _ _ _ _ _ _ _ _ _ _ _ _ _ _ _ _ _ [.int (rs[n])]
  refine Wl.iload_n 11 d46_10 rfl ?_
  refine Wl.aload_n 12 d46_11 rfl rfl ?_
  refine Wl.iload 14 d46_12 rfl ?_
  refine Wl.aload 16 d46_14 rfl rfl ?_
  refine Wl.iload 18 d46_16 rfl ?_
  refine Wl.static 21 (argsL := [.int (Int32.ofNat n), .ref x, .int pl, .ref y, .int nl]) d46_18 (w231 hw) (w232 hw) (w3 hw) (w233 hw) (show parseMethodDescriptor "(I[CI[CI)C" = some ⟨[.int, (.array .char), .int, (.array .char), .int], some .char⟩ by decide +kernel) rfl (expE_met hw hcs hfm A B hps hns lps lns h1 h2 h3 h4) (fun _ q => nomatch q) rfl rfl rfl (by decide) ⟨⟨nle rfl, nle rfl⟩, nle rfl, nle rfl⟩ ?_
  intro v4 h5 hq6 _
  obtain ⟨rfl, rfl⟩ := hq6
  show WlO _ _ _ _ _ _ _ _ _ _ _ _ _ _ _ _ _ _ [.int (125 : Int32), .int (rs[n])]
  refine Wl.icmpN 24 d46_21 (teq hq).2 ?_
  refine Wl.iconst 25 (1 : Int32) d46_24 (by decide) ?_
  refine Wl.goto 29 d46_25 ?_
  exact Wl.ireturn d46_29 rfl rfl (by simp) (nle rfl) (nle rfl) ⟨rfl, rfl⟩
set_option maxRecDepth 65536 in
set_option maxHeartbeats 40000000 in
theorem atC_met {l : Launch} {Z : State} {a0 : Array Value} (hw : ∀ d ∈ tables_1, d.before a0 Z = true) {h : Heap} {r x y : Addr} {i tot pl nl : Int32} (ht : ¬ i < tot) :
    Met l Z consts_1 ⟨"com/example/portunus/portunus/LockKeysQueueKeyPinLaw", "at", "(Ljava/lang/String;II[CI[CI)Z"⟩ method_6_code 7 (some .boolean) [] { frames := 0, cells := 0, slots := 0, locals := 0 } #[.ref r, .int i, .int tot, .ref x, .int pl, .ref y, .int nl] h [] (fun v h' => v = some (.int 1) ∧ h = h') := by
  refine Met.of_walk (a0 := a0) (Ls := #[.val (.ref r), .val (.int i), .val (.int tot), .val (.ref x), .val (.int pl), .val (.ref y), .val (.int nl)]) (plainFor_of_name pn_4) (own_hEL hw) rfl ?_
  refine Wl.iload_n 1 d46_0 rfl ?_
  refine Wl.iload_n 2 d46_1 rfl ?_
  refine Wl.icmpY 24 d46_2 (flt ht).2.1 ?_
  refine Wl.iconst 25 (1 : Int32) d46_24 (by decide) ?_
  refine Wl.goto 29 d46_25 ?_
  exact Wl.ireturn d46_29 rfl rfl (by simp) (nle rfl) (nle rfl) ⟨rfl, rfl⟩
set_option maxRecDepth 65536 in
set_option maxHeartbeats 40000000 in
theorem law_t01 {l : Launch} {Z : State} {a0 : Array Value} (hw : ∀ d ∈ tables_1, d.before a0 Z = true) (hcs : CSon Z) (hfm : Fmt Z) {as : Array Value} {h : Heap} {i0 i1 i2 p0 p1 p2 n0 n1 n2 n3 : Int32} {xp yn : Addr} {kx ky : ClassId} (A : Arv Z h xp kx .char (3 : Int32) [.int p0, .int p1, .int p2] (.int 0)) (B : Arv Z h yn ky .char (4 : Int32) [.int n0, .int n1, .int n2, .int n3] (.int 0)) (lp0 : Lat p0) (lp1 : Lat p1) (lp2 : Lat p2) (ln0 : Lat n0) (ln1 : Lat n1) (ln2 : Lat n2) (ln3 : Lat n3) (p0123 : p0 ≠ 123) (p0125 : p0 ≠ 125) (p1123 : p1 ≠ 123) (p1125 : p1 ≠ 125) (p2123 : p2 ≠ 123) (p2125 : p2 ≠ 125) (hn0 : ¬ n0 = (125 : Int32)) :
    Wl l Z a0 consts_1 x code maxLocals ret room_1 as (fun v h' => v = some (.int 1)) [] h 2 7 116 #[.val (.int i0), .val (.int i1), .val (.int i2), .val (.int (0 : Int32)), .val (.int (1 : Int32)), .val (.ref xp), .val (.ref yn), .unset, .unset, .unset, .unset, .unset] [] := by
  refine Wl.aload 118 at_116 rfl rfl ?_
  refine Wl.iload_n 119 at_118 rfl ?_
  refine Wl.static 122 (argsL := [.ref xp, .int (0 : Int32)]) at_119 (w5 hw) (w6 hw) (w3 hw) (w7 hw) (show parseMethodDescriptor "([CI)Ljava/lang/String;" = some ⟨[(.array .char), .int], some (.object "java/lang/String")⟩ by decide +kernel) rfl (mk30_met hw hcs A lp0 lp1 lp2) (fun _ q => nomatch q) rfl rfl rfl (by decide) ⟨⟨nle rfl, nle rfl⟩, nle rfl, nle rfl⟩ ?_
  intro v1 h2 hq3 _
  obtain ⟨a4, rfl, E5, S6⟩ := hq3
  have B7 : Ext h h2 := E5
  show WlO _ _ _ _ _ _ _ _ _ _ _ _ _ _ _ _ _ _ [.ref a4]
  refine Wl.astore 124 #[.val (.int i0), .val (.int i1), .val (.int i2), .val (.int (0 : Int32)), .val (.int (1 : Int32)), .val (.ref xp), .val (.ref yn), .val (.ref a4), .unset, .unset, .unset, .unset] at_122 rfl rfl ?_
  refine Wl.aload 126 at_124 rfl rfl ?_
  refine Wl.iload 128 at_126 rfl ?_
  refine Wl.static 131 (argsL := [.ref yn, .int (1 : Int32)]) at_128 (w5 hw) (w6 hw) (w3 hw) (w7 hw) (show parseMethodDescriptor "([CI)Ljava/lang/String;" = some ⟨[(.array .char), .int], some (.object "java/lang/String")⟩ by decide +kernel) rfl (mk41_met hw hcs (B.ext E5) ln0 ln1 ln2 ln3) (fun _ q => nomatch q) rfl rfl rfl (by decide) ⟨⟨nle rfl, nle rfl⟩, nle rfl, nle rfl⟩ ?_
  intro v8 h9 hq10 _
  obtain ⟨a11, rfl, E12, S13⟩ := hq10
  have B14 : Ext h h9 := extTr B7 E12
  show WlO _ _ _ _ _ _ _ _ _ _ _ _ _ _ _ _ _ _ [.ref a11]
  refine Wl.astore 133 #[.val (.int i0), .val (.int i1), .val (.int i2), .val (.int (0 : Int32)), .val (.int (1 : Int32)), .val (.ref xp), .val (.ref yn), .val (.ref a4), .val (.ref a11), .unset, .unset, .unset] at_131 rfl rfl ?_
  refine Wl.new 136 at_133 (w37 hw) (w38 hw) (w39 hw) (nle rfl) (nle rfl) ?_
  intro a15 h16 q17 E18 X19 D20
  have z21 : h.size ≤ a15 := Nat.le_trans B14.1 (Nat.le_of_eq q17.symm)
  have z22 : h9.size ≤ a15 := Nat.le_of_eq q17.symm
  have ne23 : xp ≠ a15 := Nat.ne_of_lt (by rw [q17]; exact ((A.ext B14)).lt)
  have ne24 : yn ≠ a15 := Nat.ne_of_lt (by rw [q17]; exact ((B.ext B14)).lt)
  have ne25 : a4 ≠ a15 := Nat.ne_of_lt (by rw [q17]; exact (((S6).exa.ext E12)).lt)
  have ne26 : a11 ≠ a15 := Nat.ne_of_lt (by rw [q17]; exact ((S13).exa).lt)
  have B27 : Ext h h16 := extTr B14 E18
  have B28 : Ext h9 h16 := E18
  have F29 : Fld Z h16 a15 "com/example/portunus/portunus/LockKeys" "prefix" "Ljava/lang/String;" (.null) := D20 (Or.inr (w94 hw)) (ty := (.object "java/lang/String")) (by decide)
  refine Wl.dup 137 at_136 rfl ?_
  refine Wl.aload 139 at_137 rfl rfl ?_
  refine Wl.special 142 (argsL := [.ref a4]) at_139 (w40 hw) (w41 hw) (w39 hw) (w42 hw) (show parseMethodDescriptor "(Ljava/lang/String;)V" = some ⟨[(.object "java/lang/String")], none⟩ by decide +kernel) rfl (keys_met hw hcs X19 F29 (cs := []) ((S6.ext E12).ext E18) neN neN) (allS (List.mem_of_getElem? (i := 0) rfl) (fun _ q => nomatch q)) rfl rfl rfl rfl (by decide) ⟨⟨nle rfl, nle rfl⟩, nle rfl, nle rfl⟩ ?_
  intro v30 h31 hq32 _
  obtain ⟨rfl, K33, X34, F35⟩ := hq32
  have B36 : Ext h h31 := extKeep B27 K33 (allS z21 all0)
  have B37 : Ext h9 h31 := extKeep B28 K33 (allS z22 all0)
  show WlO _ _ _ _ _ _ _ _ _ _ _ _ _ _ _ _ _ _ [.ref a15]
  refine Wl.astore 144 #[.val (.int i0), .val (.int i1), .val (.int i2), .val (.int (0 : Int32)), .val (.int (1 : Int32)), .val (.ref xp), .val (.ref yn), .val (.ref a4), .val (.ref a11), .val (.ref a15), .unset, .unset] at_142 rfl rfl ?_
  refine Wl.aload 146 at_144 rfl rfl ?_
  refine Wl.aload 148 at_146 rfl rfl ?_
  refine Wl.virtual 151 (argsL := [.ref a11]) at_148 (w95 hw) (w96 hw) (w98 hw) (w97 hw) (w39 hw) (w99 hw) (nf_sel (w98 hw) rfl) X34 (show parseMethodDescriptor "(Ljava/lang/String;)Ljava/lang/String;" = some ⟨[(.object "java/lang/String")], some (.object "java/lang/String")⟩ by decide +kernel) rfl (key_met hw hcs hfm (cs := [n0]) (ps := []) F35 ((S6.ext E12).ext B37) (nle rfl) (S13.ext B37) (by simp) (nle rfl) hn0 (nle rfl)) (fun _ q => nomatch q) rfl rfl rfl (by decide) ⟨⟨nle rfl, nle rfl⟩, nle rfl, nle rfl⟩ ?_
  intro v38 h39 hq40 _
  obtain ⟨s41, rfl, E42, S43⟩ := hq40
  have S43 : Stl Z h39 s41 [(113 : Int32), (117 : Int32), (101 : Int32), (117 : Int32), (101 : Int32), (58 : Int32), (123 : Int32), n0, (125 : Int32)] := S43
  have B44 : Ext h h39 := extTr B36 E42
  have B45 : Ext h9 h39 := extTr B37 E42
  show WlO _ _ _ _ _ _ _ _ _ _ _ _ _ _ _ _ _ _ [.ref s41]
  refine Wl.astore 153 #[.val (.int i0), .val (.int i1), .val (.int i2), .val (.int (0 : Int32)), .val (.int (1 : Int32)), .val (.ref xp), .val (.ref yn), .val (.ref a4), .val (.ref a11), .val (.ref a15), .val (.ref s41), .unset] at_151 rfl rfl ?_
  refine Wl.iload_n 154 at_153 rfl ?_
  refine Wl.bipush 156 (6 : Int32) at_154 (by decide) ?_
  refine Wl.iadd 157 at_156 ?_
  show WlO _ _ _ _ _ _ _ _ _ _ _ _ _ _ _ _ _ _ [.int (6 : Int32)]
  refine Wl.iconst 158 (1 : Int32) at_157 (by decide) ?_
  refine Wl.iadd 159 at_158 ?_
  show WlO _ _ _ _ _ _ _ _ _ _ _ _ _ _ _ _ _ _ [.int (7 : Int32)]
  refine Wl.iload 161 at_159 rfl ?_
  refine Wl.iadd 162 at_161 ?_
  show WlO _ _ _ _ _ _ _ _ _ _ _ _ _ _ _ _ _ _ [.int (8 : Int32)]
  refine Wl.iconst 163 (1 : Int32) at_162 (by decide) ?_
  refine Wl.iadd 164 at_163 ?_
  show WlO _ _ _ _ _ _ _ _ _ _ _ _ _ _ _ _ _ _ [.int (9 : Int32)]
  refine Wl.istore 166 #[.val (.int i0), .val (.int i1), .val (.int i2), .val (.int (0 : Int32)), .val (.int (1 : Int32)), .val (.ref xp), .val (.ref yn), .val (.ref a4), .val (.ref a11), .val (.ref a15), .val (.ref s41), .val (.int (9 : Int32))] at_164 rfl ?_
  refine Wl.aload 168 at_166 rfl rfl ?_
  refine Wl.ifnullN 171 at_168 ?_
  refine Wl.aload 173 at_171 rfl rfl ?_
  refine Wl.virtual 176 (argsL := []) at_173 (w226 hw) (w67 hw) (w69 hw) (w68 hw) (w10 hw) (w70 hw) (nf_sel (w69 hw) rfl) (S43).exa (show parseMethodDescriptor "()I" = some ⟨[], some .int⟩ by decide +kernel) rfl (len_met hw hcs S43) (fun _ q => nomatch q) rfl rfl rfl (by decide) ⟨⟨nle rfl, nle rfl⟩, nle rfl, nle rfl⟩ ?_
  intro v46 h47 hq48 _
  obtain ⟨rfl, rfl⟩ := hq48
  show WlO _ _ _ _ _ _ _ _ _ _ _ _ _ _ _ _ _ _ [.int (9 : Int32)]
  refine Wl.iload 178 at_176 rfl ?_
  refine Wl.icmpY 183 at_178 (teq (by decide)).1 ?_
  refine Wl.aload 185 at_183 rfl rfl ?_
  refine Wl.iconst 186 (0 : Int32) at_185 (by decide) ?_
  refine Wl.iload 188 at_186 rfl ?_
  refine Wl.aload 190 at_188 rfl rfl ?_
  refine Wl.iload_n 191 at_190 rfl ?_
  refine Wl.aload 193 at_191 rfl rfl ?_
  refine Wl.iload 195 at_193 rfl ?_
  refine Wl.static 198 (argsL := [.ref s41, .int (0 : Int32), .int (9 : Int32), .ref xp, .int (0 : Int32), .ref yn, .int (1 : Int32)]) at_195 (w227 hw) (w228 hw) (w3 hw) (w229 hw) (show parseMethodDescriptor "(Ljava/lang/String;II[CI[CI)Z" = some ⟨[(.object "java/lang/String"), .int, .int, (.array .char), .int, (.array .char), .int], some .boolean⟩ by decide +kernel) rfl (atA_met hw hcs hfm (rs := [(113 : Int32), (117 : Int32), (101 : Int32), (117 : Int32), (101 : Int32), (58 : Int32), (123 : Int32), n0, (125 : Int32)]) (ps := [p0, p1, p2]) (ns := [n0, n1, n2, n3]) (n := 0) (j := 0) S43 (nle rfl) (by decide) (A.ext B44) (B.ext B44) (nle rfl) (nle rfl) (latC lp0 (latC lp1 (latC lp2 latN))) (latC ln0 (latC ln1 (latC ln2 (latC ln3 latN)))) (by decide) (by decide) (by decide) (nle rfl) rfl) (fun _ q => nomatch q) rfl rfl rfl (by decide) ⟨⟨nle rfl, nle rfl⟩, nle rfl, nle rfl⟩ ?_
  intro v49 h50 hq51 _
  obtain ⟨rfl, E52⟩ := hq51
  have B53 : Ext h h50 := extTr B44 E52
  have B54 : Ext h9 h50 := extTr B45 E52
  show WlO _ _ _ _ _ _ _ _ _ _ _ _ _ _ _ _ _ _ [.int (1 : Int32)]
  refine Wl.ifN 201 at_198 (feq (by decide)).1 ?_
  refine Wl.aload 203 at_201 rfl rfl ?_
  refine Wl.iconst 204 (1 : Int32) at_203 (by decide) ?_
  refine Wl.iload 206 at_204 rfl ?_
  refine Wl.aload 208 at_206 rfl rfl ?_
  refine Wl.iload_n 209 at_208 rfl ?_
  refine Wl.aload 211 at_209 rfl rfl ?_
  refine Wl.iload 213 at_211 rfl ?_
  refine Wl.static 216 (argsL := [.ref s41, .int (1 : Int32), .int (9 : Int32), .ref xp, .int (0 : Int32), .ref yn, .int (1 : Int32)]) at_213 (w227 hw) (w228 hw) (w3 hw) (w229 hw) (show parseMethodDescriptor "(Ljava/lang/String;II[CI[CI)Z" = some ⟨[(.object "java/lang/String"), .int, .int, (.array .char), .int, (.array .char), .int], some .boolean⟩ by decide +kernel) rfl (atA_met hw hcs hfm (rs := [(113 : Int32), (117 : Int32), (101 : Int32), (117 : Int32), (101 : Int32), (58 : Int32), (123 : Int32), n0, (125 : Int32)]) (ps := [p0, p1, p2]) (ns := [n0, n1, n2, n3]) (n := 1) (j := 1) (S43.ext E52) (nle rfl) (by decide) (A.ext B53) (B.ext B53) (nle rfl) (nle rfl) (latC lp0 (latC lp1 (latC lp2 latN))) (latC ln0 (latC ln1 (latC ln2 (latC ln3 latN)))) (by decide) (by decide) (by decide) (nle rfl) rfl) (fun _ q => nomatch q) rfl rfl rfl (by decide) ⟨⟨nle rfl, nle rfl⟩, nle rfl, nle rfl⟩ ?_
  intro v55 h56 hq57 _
  obtain ⟨rfl, E58⟩ := hq57
  have B59 : Ext h h56 := extTr B53 E58
  have B60 : Ext h9 h56 := extTr B54 E58
  show WlO _ _ _ _ _ _ _ _ _ _ _ _ _ _ _ _ _ _ [.int (1 : Int32)]
  refine Wl.ifN 219 at_216 (feq (by decide)).1 ?_
  refine Wl.aload 221 at_219 rfl rfl ?_
  refine Wl.iconst 222 (2 : Int32) at_221 (by decide) ?_
  refine Wl.iload 224 at_222 rfl ?_
  refine Wl.aload 226 at_224 rfl rfl ?_
  refine Wl.iload_n 227 at_226 rfl ?_
  refine Wl.aload 229 at_227 rfl rfl ?_
  refine Wl.iload 231 at_229 rfl ?_
  refine Wl.static 234 (argsL := [.ref s41, .int (2 : Int32), .int (9 : Int32), .ref xp, .int (0 : Int32), .ref yn, .int (1 : Int32)]) at_231 (w227 hw) (w228 hw) (w3 hw) (w229 hw) (show parseMethodDescriptor "(Ljava/lang/String;II[CI[CI)Z" = some ⟨[(.object "java/lang/String"), .int, .int, (.array .char), .int, (.array .char), .int], some .boolean⟩ by decide +kernel) rfl (atA_met hw hcs hfm (rs := [(113 : Int32), (117 : Int32), (101 : Int32), (117 : Int32), (101 : Int32), (58 : Int32), (123 : Int32), n0, (125 : Int32)]) (ps := [p0, p1, p2]) (ns := [n0, n1, n2, n3]) (n := 2) (j := 2) ((S43.ext E52).ext E58) (nle rfl) (by decide) (A.ext B59) (B.ext B59) (nle rfl) (nle rfl) (latC lp0 (latC lp1 (latC lp2 latN))) (latC ln0 (latC ln1 (latC ln2 (latC ln3 latN)))) (by decide) (by decide) (by decide) (nle rfl) rfl) (fun _ q => nomatch q) rfl rfl rfl (by decide) ⟨⟨nle rfl, nle rfl⟩, nle rfl, nle rfl⟩ ?_
  intro v61 h62 hq63 _
  obtain ⟨rfl, E64⟩ := hq63
  have B65 : Ext h h62 := extTr B59 E64
  have B66 : Ext h9 h62 := extTr B60 E64
  show WlO _ _ _ _ _ _ _ _ _ _ _ _ _ _ _ _ _ _ [.int (1 : Int32)]
  refine Wl.ifN 237 at_234 (feq (by decide)).1 ?_
  refine Wl.aload 239 at_237 rfl rfl ?_
  refine Wl.iconst 240 (3 : Int32) at_239 (by decide) ?_
  refine Wl.iload 242 at_240 rfl ?_
  refine Wl.aload 244 at_242 rfl rfl ?_
  refine Wl.iload_n 245 at_244 rfl ?_
  refine Wl.aload 247 at_245 rfl rfl ?_
  refine Wl.iload 249 at_247 rfl ?_
  refine Wl.static 252 (argsL := [.ref s41, .int (3 : Int32), .int (9 : Int32), .ref xp, .int (0 : Int32), .ref yn, .int (1 : Int32)]) at_249 (w227 hw) (w228 hw) (w3 hw) (w229 hw) (show parseMethodDescriptor "(Ljava/lang/String;II[CI[CI)Z" = some ⟨[(.object "java/lang/String"), .int, .int, (.array .char), .int, (.array .char), .int], some .boolean⟩ by decide +kernel) rfl (atA_met hw hcs hfm (rs := [(113 : Int32), (117 : Int32), (101 : Int32), (117 : Int32), (101 : Int32), (58 : Int32), (123 : Int32), n0, (125 : Int32)]) (ps := [p0, p1, p2]) (ns := [n0, n1, n2, n3]) (n := 3) (j := 3) (((S43.ext E52).ext E58).ext E64) (nle rfl) (by decide) (A.ext B65) (B.ext B65) (nle rfl) (nle rfl) (latC lp0 (latC lp1 (latC lp2 latN))) (latC ln0 (latC ln1 (latC ln2 (latC ln3 latN)))) (by decide) (by decide) (by decide) (nle rfl) rfl) (fun _ q => nomatch q) rfl rfl rfl (by decide) ⟨⟨nle rfl, nle rfl⟩, nle rfl, nle rfl⟩ ?_
  intro v67 h68 hq69 _
  obtain ⟨rfl, E70⟩ := hq69
  have B71 : Ext h h68 := extTr B65 E70
  have B72 : Ext h9 h68 := extTr B66 E70
  show WlO _ _ _ _ _ _ _ _ _ _ _ _ _ _ _ _ _ _ [.int (1 : Int32)]
  refine Wl.ifN 255 at_252 (feq (by decide)).1 ?_
  refine Wl.aload 257 at_255 rfl rfl ?_
  refine Wl.iconst 258 (4 : Int32) at_257 (by decide) ?_
  refine Wl.iload 260 at_258 rfl ?_
  refine Wl.aload 262 at_260 rfl rfl ?_
  refine Wl.iload_n 263 at_262 rfl ?_
  refine Wl.aload 265 at_263 rfl rfl ?_
  refine Wl.iload 267 at_265 rfl ?_
  refine Wl.static 270 (argsL := [.ref s41, .int (4 : Int32), .int (9 : Int32), .ref xp, .int (0 : Int32), .ref yn, .int (1 : Int32)]) at_267 (w227 hw) (w228 hw) (w3 hw) (w229 hw) (show parseMethodDescriptor "(Ljava/lang/String;II[CI[CI)Z" = some ⟨[(.object "java/lang/String"), .int, .int, (.array .char), .int, (.array .char), .int], some .boolean⟩ by decide +kernel) rfl (atA_met hw hcs hfm (rs := [(113 : Int32), (117 : Int32), (101 : Int32), (117 : Int32), (101 : Int32), (58 : Int32), (123 : Int32), n0, (125 : Int32)]) (ps := [p0, p1, p2]) (ns := [n0, n1, n2, n3]) (n := 4) (j := 4) ((((S43.ext E52).ext E58).ext E64).ext E70) (nle rfl) (by decide) (A.ext B71) (B.ext B71) (nle rfl) (nle rfl) (latC lp0 (latC lp1 (latC lp2 latN))) (latC ln0 (latC ln1 (latC ln2 (latC ln3 latN)))) (by decide) (by decide) (by decide) (nle rfl) rfl) (fun _ q => nomatch q) rfl rfl rfl (by decide) ⟨⟨nle rfl, nle rfl⟩, nle rfl, nle rfl⟩ ?_
  intro v73 h74 hq75 _
  obtain ⟨rfl, E76⟩ := hq75
  have B77 : Ext h h74 := extTr B71 E76
  have B78 : Ext h9 h74 := extTr B72 E76
  show WlO _ _ _ _ _ _ _ _ _ _ _ _ _ _ _ _ _ _ [.int (1 : Int32)]
  refine Wl.ifN 273 at_270 (feq (by decide)).1 ?_
  refine Wl.aload 275 at_273 rfl rfl ?_
  refine Wl.iconst 276 (5 : Int32) at_275 (by decide) ?_
  refine Wl.iload 278 at_276 rfl ?_
  refine Wl.aload 280 at_278 rfl rfl ?_
  refine Wl.iload_n 281 at_280 rfl ?_
  refine Wl.aload 283 at_281 rfl rfl ?_
  refine Wl.iload 285 at_283 rfl ?_
  refine Wl.static 288 (argsL := [.ref s41, .int (5 : Int32), .int (9 : Int32), .ref xp, .int (0 : Int32), .ref yn, .int (1 : Int32)]) at_285 (w227 hw) (w228 hw) (w3 hw) (w229 hw) (show parseMethodDescriptor "(Ljava/lang/String;II[CI[CI)Z" = some ⟨[(.object "java/lang/String"), .int, .int, (.array .char), .int, (.array .char), .int], some .boolean⟩ by decide +kernel) rfl (atA_met hw hcs hfm (rs := [(113 : Int32), (117 : Int32), (101 : Int32), (117 : Int32), (101 : Int32), (58 : Int32), (123 : Int32), n0, (125 : Int32)]) (ps := [p0, p1, p2]) (ns := [n0, n1, n2, n3]) (n := 5) (j := 5) (((((S43.ext E52).ext E58).ext E64).ext E70).ext E76) (nle rfl) (by decide) (A.ext B77) (B.ext B77) (nle rfl) (nle rfl) (latC lp0 (latC lp1 (latC lp2 latN))) (latC ln0 (latC ln1 (latC ln2 (latC ln3 latN)))) (by decide) (by decide) (by decide) (nle rfl) rfl) (fun _ q => nomatch q) rfl rfl rfl (by decide) ⟨⟨nle rfl, nle rfl⟩, nle rfl, nle rfl⟩ ?_
  intro v79 h80 hq81 _
  obtain ⟨rfl, E82⟩ := hq81
  have B83 : Ext h h80 := extTr B77 E82
  have B84 : Ext h9 h80 := extTr B78 E82
  show WlO _ _ _ _ _ _ _ _ _ _ _ _ _ _ _ _ _ _ [.int (1 : Int32)]
  refine Wl.ifN 291 at_288 (feq (by decide)).1 ?_
  refine Wl.aload 293 at_291 rfl rfl ?_
  refine Wl.bipush 295 (6 : Int32) at_293 (by decide) ?_
  refine Wl.iload 297 at_295 rfl ?_
  refine Wl.aload 299 at_297 rfl rfl ?_
  refine Wl.iload_n 300 at_299 rfl ?_
  refine Wl.aload 302 at_300 rfl rfl ?_
  refine Wl.iload 304 at_302 rfl ?_
  refine Wl.static 307 (argsL := [.ref s41, .int (6 : Int32), .int (9 : Int32), .ref xp, .int (0 : Int32), .ref yn, .int (1 : Int32)]) at_304 (w227 hw) (w228 hw) (w3 hw) (w229 hw) (show parseMethodDescriptor "(Ljava/lang/String;II[CI[CI)Z" = some ⟨[(.object "java/lang/String"), .int, .int, (.array .char), .int, (.array .char), .int], some .boolean⟩ by decide +kernel) rfl (atO_met hw hcs hfm (rs := [(113 : Int32), (117 : Int32), (101 : Int32), (117 : Int32), (101 : Int32), (58 : Int32), (123 : Int32), n0, (125 : Int32)]) (ps := [p0, p1, p2]) (ns := [n0, n1, n2, n3]) (n := 6) ((((((S43.ext E52).ext E58).ext E64).ext E70).ext E76).ext E82) (nle rfl) (by decide) (A.ext B83) (B.ext B83) (nle rfl) (nle rfl) (latC lp0 (latC lp1 (latC lp2 latN))) (latC ln0 (latC ln1 (latC ln2 (latC ln3 latN)))) (by decide) (by decide) (by decide) rfl) (fun _ q => nomatch q) rfl rfl rfl (by decide) ⟨⟨nle rfl, nle rfl⟩, nle rfl, nle rfl⟩ ?_
  intro v85 h86 hq87 _
  obtain ⟨rfl, rfl⟩ := hq87
  show WlO _ _ _ _ _ _ _ _ _ _ _ _ _ _ _ _ _ _ [.int (1 : Int32)]
  refine Wl.ifN 310 at_307 (feq (by decide)).1 ?_
  refine Wl.aload 312 at_310 rfl rfl ?_
  refine Wl.bipush 314 (7 : Int32) at_312 (by decide) ?_
  refine Wl.iload 316 at_314 rfl ?_
  refine Wl.aload 318 at_316 rfl rfl ?_
  refine Wl.iload_n 319 at_318 rfl ?_
  refine Wl.aload 321 at_319 rfl rfl ?_
  refine Wl.iload 323 at_321 rfl ?_
  refine Wl.static 326 (argsL := [.ref s41, .int (7 : Int32), .int (9 : Int32), .ref xp, .int (0 : Int32), .ref yn, .int (1 : Int32)]) at_323 (w227 hw) (w228 hw) (w3 hw) (w229 hw) (show parseMethodDescriptor "(Ljava/lang/String;II[CI[CI)Z" = some ⟨[(.object "java/lang/String"), .int, .int, (.array .char), .int, (.array .char), .int], some .boolean⟩ by decide +kernel) rfl (atN_met hw hcs hfm (rs := [(113 : Int32), (117 : Int32), (101 : Int32), (117 : Int32), (101 : Int32), (58 : Int32), (123 : Int32), n0, (125 : Int32)]) (ps := [p0, p1, p2]) (ns := [n0, n1, n2, n3]) (n := 7) (m := 0) ((((((S43.ext E52).ext E58).ext E64).ext E70).ext E76).ext E82) (nle rfl) (by decide) (A.ext B83) (B.ext B83) (nle rfl) (nle rfl) (latC lp0 (latC lp1 (latC lp2 latN))) (latC ln0 (latC ln1 (latC ln2 (latC ln3 latN)))) (by decide) (by decide) (by decide) (by decide) (by decide) (nle rfl) rfl) (fun _ q => nomatch q) rfl rfl rfl (by decide) ⟨⟨nle rfl, nle rfl⟩, nle rfl, nle rfl⟩ ?_
  intro v88 h89 hq90 _
  obtain ⟨rfl, rfl⟩ := hq90
  show WlO _ _ _ _ _ _ _ _ _ _ _ _ _ _ _ _ _ _ [.int (1 : Int32)]
  refine Wl.ifN 329 at_326 (feq (by decide)).1 ?_
  refine Wl.aload 331 at_329 rfl rfl ?_
  refine Wl.bipush 333 (8 : Int32) at_331 (by decide) ?_
  refine Wl.iload 335 at_333 rfl ?_
  refine Wl.aload 337 at_335 rfl rfl ?_
  refine Wl.iload_n 338 at_337 rfl ?_
  refine Wl.aload 340 at_338 rfl rfl ?_
  refine Wl.iload 342 at_340 rfl ?_
  refine Wl.static 345 (argsL := [.ref s41, .int (8 : Int32), .int (9 : Int32), .ref xp, .int (0 : Int32), .ref yn, .int (1 : Int32)]) at_342 (w227 hw) (w228 hw) (w3 hw) (w229 hw) (show parseMethodDescriptor "(Ljava/lang/String;II[CI[CI)Z" = some ⟨[(.object "java/lang/String"), .int, .int, (.array .char), .int, (.array .char), .int], some .boolean⟩ by decide +kernel) rfl (atE_met hw hcs hfm (rs := [(113 : Int32), (117 : Int32), (101 : Int32), (117 : Int32), (101 : Int32), (58 : Int32), (123 : Int32), n0, (125 : Int32)]) (ps := [p0, p1, p2]) (ns := [n0, n1, n2, n3]) (n := 8) ((((((S43.ext E52).ext E58).ext E64).ext E70).ext E76).ext E82) (nle rfl) (by decide) (A.ext B83) (B.ext B83) (nle rfl) (nle rfl) (latC lp0 (latC lp1 (latC lp2 latN))) (latC ln0 (latC ln1 (latC ln2 (latC ln3 latN)))) (by decide) (by decide) (by decide) (by decide) rfl) (fun _ q => nomatch q) rfl rfl rfl (by decide) ⟨⟨nle rfl, nle rfl⟩, nle rfl, nle rfl⟩ ?_
  intro v91 h92 hq93 _
  obtain ⟨rfl, rfl⟩ := hq93
  show WlO _ _ _ _ _ _ _ _ _ _ _ _ _ _ _ _ _ _ [.int (1 : Int32)]
  refine Wl.ifN 348 at_345 (feq (by decide)).1 ?_
  refine Wl.aload 350 at_348 rfl rfl ?_
  refine Wl.bipush 352 (9 : Int32) at_350 (by decide) ?_
  refine Wl.iload 354 at_352 rfl ?_
  refine Wl.aload 356 at_354 rfl rfl ?_
  refine Wl.iload_n 357 at_356 rfl ?_
  refine Wl.aload 359 at_357 rfl rfl ?_
  refine Wl.iload 361 at_359 rfl ?_
  refine Wl.static 364 (argsL := [.ref s41, .int (9 : Int32), .int (9 : Int32), .ref xp, .int (0 : Int32), .ref yn, .int (1 : Int32)]) at_361 (w227 hw) (w228 hw) (w3 hw) (w229 hw) (show parseMethodDescriptor "(Ljava/lang/String;II[CI[CI)Z" = some ⟨[(.object "java/lang/String"), .int, .int, (.array .char), .int, (.array .char), .int], some .boolean⟩ by decide +kernel) rfl (atC_met hw (by decide)) (fun _ q => nomatch q) rfl rfl rfl (by decide) ⟨⟨nle rfl, nle rfl⟩, nle rfl, nle rfl⟩ ?_
  intro v94 h95 hq96 _
  obtain ⟨rfl, rfl⟩ := hq96
  show WlO _ _ _ _ _ _ _ _ _ _ _ _ _ _ _ _ _ _ [.int (1 : Int32)]
  refine Wl.ifN 367 at_364 (feq (by decide)).1 ?_
  refine Wl.aload 369 at_367 rfl rfl ?_
  refine Wl.bipush 371 (10 : Int32) at_369 (by decide) ?_
  refine Wl.iload 373 at_371 rfl ?_
  refine Wl.aload 375 at_373 rfl rfl ?_
  refine Wl.iload_n 376 at_375 rfl ?_
  refine Wl.aload 378 at_376 rfl rfl ?_
  refine Wl.iload 380 at_378 rfl ?_
  refine Wl.static 383 (argsL := [.ref s41, .int (10 : Int32), .int (9 : Int32), .ref xp, .int (0 : Int32), .ref yn, .int (1 : Int32)]) at_380 (w227 hw) (w228 hw) (w3 hw) (w229 hw) (show parseMethodDescriptor "(Ljava/lang/String;II[CI[CI)Z" = some ⟨[(.object "java/lang/String"), .int, .int, (.array .char), .int, (.array .char), .int], some .boolean⟩ by decide +kernel) rfl (atC_met hw (by decide)) (fun _ q => nomatch q) rfl rfl rfl (by decide) ⟨⟨nle rfl, nle rfl⟩, nle rfl, nle rfl⟩ ?_
  intro v97 h98 hq99 _
  obtain ⟨rfl, rfl⟩ := hq99
  show WlO _ _ _ _ _ _ _ _ _ _ _ _ _ _ _ _ _ _ [.int (1 : Int32)]
  refine Wl.ifN 386 at_383 (feq (by decide)).1 ?_
  refine Wl.aload 388 at_386 rfl rfl ?_
  refine Wl.bipush 390 (11 : Int32) at_388 (by decide) ?_
  refine Wl.iload 392 at_390 rfl ?_
  refine Wl.aload 394 at_392 rfl rfl ?_
  refine Wl.iload_n 395 at_394 rfl ?_
  refine Wl.aload 397 at_395 rfl rfl ?_
  refine Wl.iload 399 at_397 rfl ?_
  refine Wl.static 402 (argsL := [.ref s41, .int (11 : Int32), .int (9 : Int32), .ref xp, .int (0 : Int32), .ref yn, .int (1 : Int32)]) at_399 (w227 hw) (w228 hw) (w3 hw) (w229 hw) (show parseMethodDescriptor "(Ljava/lang/String;II[CI[CI)Z" = some ⟨[(.object "java/lang/String"), .int, .int, (.array .char), .int, (.array .char), .int], some .boolean⟩ by decide +kernel) rfl (atC_met hw (by decide)) (fun _ q => nomatch q) rfl rfl rfl (by decide) ⟨⟨nle rfl, nle rfl⟩, nle rfl, nle rfl⟩ ?_
  intro v100 h101 hq102 _
  obtain ⟨rfl, rfl⟩ := hq102
  show WlO _ _ _ _ _ _ _ _ _ _ _ _ _ _ _ _ _ _ [.int (1 : Int32)]
  refine Wl.ifN 405 at_402 (feq (by decide)).1 ?_
  refine Wl.aload 407 at_405 rfl rfl ?_
  refine Wl.bipush 409 (12 : Int32) at_407 (by decide) ?_
  refine Wl.iload 411 at_409 rfl ?_
  refine Wl.aload 413 at_411 rfl rfl ?_
  refine Wl.iload_n 414 at_413 rfl ?_
  refine Wl.aload 416 at_414 rfl rfl ?_
  refine Wl.iload 418 at_416 rfl ?_
  refine Wl.static 421 (argsL := [.ref s41, .int (12 : Int32), .int (9 : Int32), .ref xp, .int (0 : Int32), .ref yn, .int (1 : Int32)]) at_418 (w227 hw) (w228 hw) (w3 hw) (w229 hw) (show parseMethodDescriptor "(Ljava/lang/String;II[CI[CI)Z" = some ⟨[(.object "java/lang/String"), .int, .int, (.array .char), .int, (.array .char), .int], some .boolean⟩ by decide +kernel) rfl (atC_met hw (by decide)) (fun _ q => nomatch q) rfl rfl rfl (by decide) ⟨⟨nle rfl, nle rfl⟩, nle rfl, nle rfl⟩ ?_
  intro v103 h104 hq105 _
  obtain ⟨rfl, rfl⟩ := hq105
  show WlO _ _ _ _ _ _ _ _ _ _ _ _ _ _ _ _ _ _ [.int (1 : Int32)]
  refine Wl.ifN 424 at_421 (feq (by decide)).1 ?_
  refine Wl.aload 426 at_424 rfl rfl ?_
  refine Wl.bipush 428 (13 : Int32) at_426 (by decide) ?_
  refine Wl.iload 430 at_428 rfl ?_
  refine Wl.aload 432 at_430 rfl rfl ?_
  refine Wl.iload_n 433 at_432 rfl ?_
  refine Wl.aload 435 at_433 rfl rfl ?_
  refine Wl.iload 437 at_435 rfl ?_
  refine Wl.static 440 (argsL := [.ref s41, .int (13 : Int32), .int (9 : Int32), .ref xp, .int (0 : Int32), .ref yn, .int (1 : Int32)]) at_437 (w227 hw) (w228 hw) (w3 hw) (w229 hw) (show parseMethodDescriptor "(Ljava/lang/String;II[CI[CI)Z" = some ⟨[(.object "java/lang/String"), .int, .int, (.array .char), .int, (.array .char), .int], some .boolean⟩ by decide +kernel) rfl (atC_met hw (by decide)) (fun _ q => nomatch q) rfl rfl rfl (by decide) ⟨⟨nle rfl, nle rfl⟩, nle rfl, nle rfl⟩ ?_
  intro v106 h107 hq108 _
  obtain ⟨rfl, rfl⟩ := hq108
  show WlO _ _ _ _ _ _ _ _ _ _ _ _ _ _ _ _ _ _ [.int (1 : Int32)]
  refine Wl.ifN 443 at_440 (feq (by decide)).1 ?_
  refine Wl.aload 445 at_443 rfl rfl ?_
  refine Wl.bipush 447 (14 : Int32) at_445 (by decide) ?_
  refine Wl.iload 449 at_447 rfl ?_
  refine Wl.aload 451 at_449 rfl rfl ?_
  refine Wl.iload_n 452 at_451 rfl ?_
  refine Wl.aload 454 at_452 rfl rfl ?_
  refine Wl.iload 456 at_454 rfl ?_
  refine Wl.static 459 (argsL := [.ref s41, .int (14 : Int32), .int (9 : Int32), .ref xp, .int (0 : Int32), .ref yn, .int (1 : Int32)]) at_456 (w227 hw) (w228 hw) (w3 hw) (w229 hw) (show parseMethodDescriptor "(Ljava/lang/String;II[CI[CI)Z" = some ⟨[(.object "java/lang/String"), .int, .int, (.array .char), .int, (.array .char), .int], some .boolean⟩ by decide +kernel) rfl (atC_met hw (by decide)) (fun _ q => nomatch q) rfl rfl rfl (by decide) ⟨⟨nle rfl, nle rfl⟩, nle rfl, nle rfl⟩ ?_
  intro v109 h110 hq111 _
  obtain ⟨rfl, rfl⟩ := hq111
  show WlO _ _ _ _ _ _ _ _ _ _ _ _ _ _ _ _ _ _ [.int (1 : Int32)]
  refine Wl.ifN 462 at_459 (feq (by decide)).1 ?_
  refine Wl.iconst 463 (1 : Int32) at_462 (by decide) ?_
  refine Wl.goto 467 at_463 ?_
  exact Wl.ireturn at_467 rfl rfl (by simp) (nle rfl) (nle rfl) rfl
set_option maxRecDepth 65536 in
set_option maxHeartbeats 40000000 in
theorem law_t02 {l : Launch} {Z : State} {a0 : Array Value} (hw : ∀ d ∈ tables_1, d.before a0 Z = true) (hcs : CSon Z) (hfm : Fmt Z) {as : Array Value} {h : Heap} {i0 i1 i2 p0 p1 p2 n0 n1 n2 n3 : Int32} {xp yn : Addr} {kx ky : ClassId} (A : Arv Z h xp kx .char (3 : Int32) [.int p0, .int p1, .int p2] (.int 0)) (B : Arv Z h yn ky .char (4 : Int32) [.int n0, .int n1, .int n2, .int n3] (.int 0)) (lp0 : Lat p0) (lp1 : Lat p1) (lp2 : Lat p2) (ln0 : Lat n0) (ln1 : Lat n1) (ln2 : Lat n2) (ln3 : Lat n3) (p0123 : p0 ≠ 123) (p0125 : p0 ≠ 125) (p1123 : p1 ≠ 123) (p1125 : p1 ≠ 125) (p2123 : p2 ≠ 123) (p2125 : p2 ≠ 125) (hn0 : ¬ n0 = (125 : Int32)) :
    Wl l Z a0 consts_1 x code maxLocals ret room_1 as (fun v h' => v = some (.int 1)) [] h 2 7 116 #[.val (.int i0), .val (.int i1), .val (.int i2), .val (.int (0 : Int32)), .val (.int (2 : Int32)), .val (.ref xp), .val (.ref yn), .unset, .unset, .unset, .unset, .unset] [] := by
  refine Wl.aload 118 at_116 rfl rfl ?_
  refine Wl.iload_n 119 at_118 rfl ?_
  refine Wl.static 122 (argsL := [.ref xp, .int (0 : Int32)]) at_119 (w5 hw) (w6 hw) (w3 hw) (w7 hw) (show parseMethodDescriptor "([CI)Ljava/lang/String;" = some ⟨[(.array .char), .int], some (.object "java/lang/String")⟩ by decide +kernel) rfl (mk30_met hw hcs A lp0 lp1 lp2) (fun _ q => nomatch q) rfl rfl rfl (by decide) ⟨⟨nle rfl, nle rfl⟩, nle rfl, nle rfl⟩ ?_
  intro v1 h2 hq3 _
  obtain ⟨a4, rfl, E5, S6⟩ := hq3
  have B7 : Ext h h2 := E5
  show WlO _ _ _ _ _ _ _ _ _ _ _ _ _ _ _ _ _ _ [.ref a4]
  refine Wl.astore 124 #[.val (.int i0), .val (.int i1), .val (.int i2), .val (.int (0 : Int32)), .val (.int (2 : Int32)), .val (.ref xp), .val (.ref yn), .val (.ref a4), .unset, .unset, .unset, .unset] at_122 rfl rfl ?_
  refine Wl.aload 126 at_124 rfl rfl ?_
  refine Wl.iload 128 at_126 rfl ?_
  refine Wl.static 131 (argsL := [.ref yn, .int (2 : Int32)]) at_128 (w5 hw) (w6 hw) (w3 hw) (w7 hw) (show parseMethodDescriptor "([CI)Ljava/lang/String;" = some ⟨[(.array .char), .int], some (.object "java/lang/String")⟩ by decide +kernel) rfl (mk42_met hw hcs (B.ext E5) ln0 ln1 ln2 ln3) (fun _ q => nomatch q) rfl rfl rfl (by decide) ⟨⟨nle rfl, nle rfl⟩, nle rfl, nle rfl⟩ ?_
  intro v8 h9 hq10 _
  obtain ⟨a11, rfl, E12, S13⟩ := hq10
  have B14 : Ext h h9 := extTr B7 E12
  show WlO _ _ _ _ _ _ _ _ _ _ _ _ _ _ _ _ _ _ [.ref a11]
  refine Wl.astore 133 #[.val (.int i0), .val (.int i1), .val (.int i2), .val (.int (0 : Int32)), .val (.int (2 : Int32)), .val (.ref xp), .val (.ref yn), .val (.ref a4), .val (.ref a11), .unset, .unset, .unset] at_131 rfl rfl ?_
  refine Wl.new 136 at_133 (w37 hw) (w38 hw) (w39 hw) (nle rfl) (nle rfl) ?_
  intro a15 h16 q17 E18 X19 D20
  have z21 : h.size ≤ a15 := Nat.le_trans B14.1 (Nat.le_of_eq q17.symm)
  have z22 : h9.size ≤ a15 := Nat.le_of_eq q17.symm
  have ne23 : xp ≠ a15 := Nat.ne_of_lt (by rw [q17]; exact ((A.ext B14)).lt)
  have ne24 : yn ≠ a15 := Nat.ne_of_lt (by rw [q17]; exact ((B.ext B14)).lt)
  have ne25 : a4 ≠ a15 := Nat.ne_of_lt (by rw [q17]; exact (((S6).exa.ext E12)).lt)
  have ne26 : a11 ≠ a15 := Nat.ne_of_lt (by rw [q17]; exact ((S13).exa).lt)
  have B27 : Ext h h16 := extTr B14 E18
  have B28 : Ext h9 h16 := E18
  have F29 : Fld Z h16 a15 "com/example/portunus/portunus/LockKeys" "prefix" "Ljava/lang/String;" (.null) := D20 (Or.inr (w94 hw)) (ty := (.object "java/lang/String")) (by decide)
  refine Wl.dup 137 at_136 rfl ?_
  refine Wl.aload 139 at_137 rfl rfl ?_
  refine Wl.special 142 (argsL := [.ref a4]) at_139 (w40 hw) (w41 hw) (w39 hw) (w42 hw) (show parseMethodDescriptor "(Ljava/lang/String;)V" = some ⟨[(.object "java/lang/String")], none⟩ by decide +kernel) rfl (keys_met hw hcs X19 F29 (cs := []) ((S6.ext E12).ext E18) neN neN) (allS (List.mem_of_getElem? (i := 0) rfl) (fun _ q => nomatch q)) rfl rfl rfl rfl (by decide) ⟨⟨nle rfl, nle rfl⟩, nle rfl, nle rfl⟩ ?_
  intro v30 h31 hq32 _
  obtain ⟨rfl, K33, X34, F35⟩ := hq32
  have B36 : Ext h h31 := extKeep B27 K33 (allS z21 all0)
  have B37 : Ext h9 h31 := extKeep B28 K33 (allS z22 all0)
  show WlO _ _ _ _ _ _ _ _ _ _ _ _ _ _ _ _ _ _ [.ref a15]
  refine Wl.astore 144 #[.val (.int i0), .val (.int i1), .val (.int i2), .val (.int (0 : Int32)), .val (.int (2 : Int32)), .val (.ref xp), .val (.ref yn), .val (.ref a4), .val (.ref a11), .val (.ref a15), .unset, .unset] at_142 rfl rfl ?_
  refine Wl.aload 146 at_144 rfl rfl ?_
  refine Wl.aload 148 at_146 rfl rfl ?_
  refine Wl.virtual 151 (argsL := [.ref a11]) at_148 (w95 hw) (w96 hw) (w98 hw) (w97 hw) (w39 hw) (w99 hw) (nf_sel (w98 hw) rfl) X34 (show parseMethodDescriptor "(Ljava/lang/String;)Ljava/lang/String;" = some ⟨[(.object "java/lang/String")], some (.object "java/lang/String")⟩ by decide +kernel) rfl (key_met hw hcs hfm (cs := [n0, n1]) (ps := []) F35 ((S6.ext E12).ext B37) (nle rfl) (S13.ext B37) (by simp) (nle rfl) hn0 (nle rfl)) (fun _ q => nomatch q) rfl rfl rfl (by decide) ⟨⟨nle rfl, nle rfl⟩, nle rfl, nle rfl⟩ ?_
  intro v38 h39 hq40 _
  obtain ⟨s41, rfl, E42, S43⟩ := hq40
  have S43 : Stl Z h39 s41 [(113 : Int32), (117 : Int32), (101 : Int32), (117 : Int32), (101 : Int32), (58 : Int32), (123 : Int32), n0, n1, (125 : Int32)] := S43
  have B44 : Ext h h39 := extTr B36 E42
  have B45 : Ext h9 h39 := extTr B37 E42
  show WlO _ _ _ _ _ _ _ _ _ _ _ _ _ _ _ _ _ _ [.ref s41]
  refine Wl.astore 153 #[.val (.int i0), .val (.int i1), .val (.int i2), .val (.int (0 : Int32)), .val (.int (2 : Int32)), .val (.ref xp), .val (.ref yn), .val (.ref a4), .val (.ref a11), .val (.ref a15), .val (.ref s41), .unset] at_151 rfl rfl ?_
  refine Wl.iload_n 154 at_153 rfl ?_
  refine Wl.bipush 156 (6 : Int32) at_154 (by decide) ?_
  refine Wl.iadd 157 at_156 ?_
  show WlO _ _ _ _ _ _ _ _ _ _ _ _ _ _ _ _ _ _ [.int (6 : Int32)]
  refine Wl.iconst 158 (1 : Int32) at_157 (by decide) ?_
  refine Wl.iadd 159 at_158 ?_
  show WlO _ _ _ _ _ _ _ _ _ _ _ _ _ _ _ _ _ _ [.int (7 : Int32)]
  refine Wl.iload 161 at_159 rfl ?_
  refine Wl.iadd 162 at_161 ?_
  show WlO _ _ _ _ _ _ _ _ _ _ _ _ _ _ _ _ _ _ [.int (9 : Int32)]
  refine Wl.iconst 163 (1 : Int32) at_162 (by decide) ?_
  refine Wl.iadd 164 at_163 ?_
  show WlO _ _ _ _ _ _ _ _ _ _ _ _ _ _ _ _ _ _ [.int (10 : Int32)]
  refine Wl.istore 166 #[.val (.int i0), .val (.int i1), .val (.int i2), .val (.int (0 : Int32)), .val (.int (2 : Int32)), .val (.ref xp), .val (.ref yn), .val (.ref a4), .val (.ref a11), .val (.ref a15), .val (.ref s41), .val (.int (10 : Int32))] at_164 rfl ?_
  refine Wl.aload 168 at_166 rfl rfl ?_
  refine Wl.ifnullN 171 at_168 ?_
  refine Wl.aload 173 at_171 rfl rfl ?_
  refine Wl.virtual 176 (argsL := []) at_173 (w226 hw) (w67 hw) (w69 hw) (w68 hw) (w10 hw) (w70 hw) (nf_sel (w69 hw) rfl) (S43).exa (show parseMethodDescriptor "()I" = some ⟨[], some .int⟩ by decide +kernel) rfl (len_met hw hcs S43) (fun _ q => nomatch q) rfl rfl rfl (by decide) ⟨⟨nle rfl, nle rfl⟩, nle rfl, nle rfl⟩ ?_
  intro v46 h47 hq48 _
  obtain ⟨rfl, rfl⟩ := hq48
  show WlO _ _ _ _ _ _ _ _ _ _ _ _ _ _ _ _ _ _ [.int (10 : Int32)]
  refine Wl.iload 178 at_176 rfl ?_
  refine Wl.icmpY 183 at_178 (teq (by decide)).1 ?_
  refine Wl.aload 185 at_183 rfl rfl ?_
  refine Wl.iconst 186 (0 : Int32) at_185 (by decide) ?_
  refine Wl.iload 188 at_186 rfl ?_
  refine Wl.aload 190 at_188 rfl rfl ?_
  refine Wl.iload_n 191 at_190 rfl ?_
  refine Wl.aload 193 at_191 rfl rfl ?_
  refine Wl.iload 195 at_193 rfl ?_
  refine Wl.static 198 (argsL := [.ref s41, .int (0 : Int32), .int (10 : Int32), .ref xp, .int (0 : Int32), .ref yn, .int (2 : Int32)]) at_195 (w227 hw) (w228 hw) (w3 hw) (w229 hw) (show parseMethodDescriptor "(Ljava/lang/String;II[CI[CI)Z" = some ⟨[(.object "java/lang/String"), .int, .int, (.array .char), .int, (.array .char), .int], some .boolean⟩ by decide +kernel) rfl (atA_met hw hcs hfm (rs := [(113 : Int32), (117 : Int32), (101 : Int32), (117 : Int32), (101 : Int32), (58 : Int32), (123 : Int32), n0, n1, (125 : Int32)]) (ps := [p0, p1, p2]) (ns := [n0, n1, n2, n3]) (n := 0) (j := 0) S43 (nle rfl) (by decide) (A.ext B44) (B.ext B44) (nle rfl) (nle rfl) (latC lp0 (latC lp1 (latC lp2 latN))) (latC ln0 (latC ln1 (latC ln2 (latC ln3 latN)))) (by decide) (by decide) (by decide) (nle rfl) rfl) (fun _ q => nomatch q) rfl rfl rfl (by decide) ⟨⟨nle rfl, nle rfl⟩, nle rfl, nle rfl⟩ ?_
  intro v49 h50 hq51 _
  obtain ⟨rfl, E52⟩ := hq51
  have B53 : Ext h h50 := extTr B44 E52
  have B54 : Ext h9 h50 := extTr B45 E52
  show WlO _ _ _ _ _ _ _ _ _ _ _ _ _ _ _ _ _ _ [.int (1 : Int32)]
  refine Wl.ifN 201 at_198 (feq (by decide)).1 ?_
  refine Wl.aload 203 at_201 rfl rfl ?_
  refine Wl.iconst 204 (1 : Int32) at_203 (by decide) ?_
  refine Wl.iload 206 at_204 rfl ?_
  refine Wl.aload 208 at_206 rfl rfl ?_
  refine Wl.iload_n 209 at_208 rfl ?_
  refine Wl.aload 211 at_209 rfl rfl ?_
  refine Wl.iload 213 at_211 rfl ?_
  refine Wl.static 216 (argsL := [.ref s41, .int (1 : Int32), .int (10 : Int32), .ref xp, .int (0 : Int32), .ref yn, .int (2 : Int32)]) at_213 (w227 hw) (w228 hw) (w3 hw) (w229 hw) (show parseMethodDescriptor "(Ljava/lang/String;II[CI[CI)Z" = some ⟨[(.object "java/lang/String"), .int, .int, (.array .char), .int, (.array .char), .int], some .boolean⟩ by decide +kernel) rfl (atA_met hw hcs hfm (rs := [(113 : Int32), (117 : Int32), (101 : Int32), (117 : Int32), (101 : Int32), (58 : Int32), (123 : Int32), n0, n1, (125 : Int32)]) (ps := [p0, p1, p2]) (ns := [n0, n1, n2, n3]) (n := 1) (j := 1) (S43.ext E52) (nle rfl) (by decide) (A.ext B53) (B.ext B53) (nle rfl) (nle rfl) (latC lp0 (latC lp1 (latC lp2 latN))) (latC ln0 (latC ln1 (latC ln2 (latC ln3 latN)))) (by decide) (by decide) (by decide) (nle rfl) rfl) (fun _ q => nomatch q) rfl rfl rfl (by decide) ⟨⟨nle rfl, nle rfl⟩, nle rfl, nle rfl⟩ ?_
  intro v55 h56 hq57 _
  obtain ⟨rfl, E58⟩ := hq57
  have B59 : Ext h h56 := extTr B53 E58
  have B60 : Ext h9 h56 := extTr B54 E58
  show WlO _ _ _ _ _ _ _ _ _ _ _ _ _ _ _ _ _ _ [.int (1 : Int32)]
  refine Wl.ifN 219 at_216 (feq (by decide)).1 ?_
  refine Wl.aload 221 at_219 rfl rfl ?_
  refine Wl.iconst 222 (2 : Int32) at_221 (by decide) ?_
  refine Wl.iload 224 at_222 rfl ?_
  refine Wl.aload 226 at_224 rfl rfl ?_
  refine Wl.iload_n 227 at_226 rfl ?_
  refine Wl.aload 229 at_227 rfl rfl ?_
  refine Wl.iload 231 at_229 rfl ?_
  refine Wl.static 234 (argsL := [.ref s41, .int (2 : Int32), .int (10 : Int32), .ref xp, .int (0 : Int32), .ref yn, .int (2 : Int32)]) at_231 (w227 hw) (w228 hw) (w3 hw) (w229 hw) (show parseMethodDescriptor "(Ljava/lang/String;II[CI[CI)Z" = some ⟨[(.object "java/lang/String"), .int, .int, (.array .char), .int, (.array .char), .int], some .boolean⟩ by decide +kernel) rfl (atA_met hw hcs hfm (rs := [(113 : Int32), (117 : Int32), (101 : Int32), (117 : Int32), (101 : Int32), (58 : Int32), (123 : Int32), n0, n1, (125 : Int32)]) (ps := [p0, p1, p2]) (ns := [n0, n1, n2, n3]) (n := 2) (j := 2) ((S43.ext E52).ext E58) (nle rfl) (by decide) (A.ext B59) (B.ext B59) (nle rfl) (nle rfl) (latC lp0 (latC lp1 (latC lp2 latN))) (latC ln0 (latC ln1 (latC ln2 (latC ln3 latN)))) (by decide) (by decide) (by decide) (nle rfl) rfl) (fun _ q => nomatch q) rfl rfl rfl (by decide) ⟨⟨nle rfl, nle rfl⟩, nle rfl, nle rfl⟩ ?_
  intro v61 h62 hq63 _
  obtain ⟨rfl, E64⟩ := hq63
  have B65 : Ext h h62 := extTr B59 E64
  have B66 : Ext h9 h62 := extTr B60 E64
  show WlO _ _ _ _ _ _ _ _ _ _ _ _ _ _ _ _ _ _ [.int (1 : Int32)]
  refine Wl.ifN 237 at_234 (feq (by decide)).1 ?_
  refine Wl.aload 239 at_237 rfl rfl ?_
  refine Wl.iconst 240 (3 : Int32) at_239 (by decide) ?_
  refine Wl.iload 242 at_240 rfl ?_
  refine Wl.aload 244 at_242 rfl rfl ?_
  refine Wl.iload_n 245 at_244 rfl ?_
  refine Wl.aload 247 at_245 rfl rfl ?_
  refine Wl.iload 249 at_247 rfl ?_
  refine Wl.static 252 (argsL := [.ref s41, .int (3 : Int32), .int (10 : Int32), .ref xp, .int (0 : Int32), .ref yn, .int (2 : Int32)]) at_249 (w227 hw) (w228 hw) (w3 hw) (w229 hw) (show parseMethodDescriptor "(Ljava/lang/String;II[CI[CI)Z" = some ⟨[(.object "java/lang/String"), .int, .int, (.array .char), .int, (.array .char), .int], some .boolean⟩ by decide +kernel) rfl (atA_met hw hcs hfm (rs := [(113 : Int32), (117 : Int32), (101 : Int32), (117 : Int32), (101 : Int32), (58 : Int32), (123 : Int32), n0, n1, (125 : Int32)]) (ps := [p0, p1, p2]) (ns := [n0, n1, n2, n3]) (n := 3) (j := 3) (((S43.ext E52).ext E58).ext E64) (nle rfl) (by decide) (A.ext B65) (B.ext B65) (nle rfl) (nle rfl) (latC lp0 (latC lp1 (latC lp2 latN))) (latC ln0 (latC ln1 (latC ln2 (latC ln3 latN)))) (by decide) (by decide) (by decide) (nle rfl) rfl) (fun _ q => nomatch q) rfl rfl rfl (by decide) ⟨⟨nle rfl, nle rfl⟩, nle rfl, nle rfl⟩ ?_
  intro v67 h68 hq69 _
  obtain ⟨rfl, E70⟩ := hq69
  have B71 : Ext h h68 := extTr B65 E70
  have B72 : Ext h9 h68 := extTr B66 E70
  show WlO _ _ _ _ _ _ _ _ _ _ _ _ _ _ _ _ _ _ [.int (1 : Int32)]
  refine Wl.ifN 255 at_252 (feq (by decide)).1 ?_
  refine Wl.aload 257 at_255 rfl rfl ?_
  refine Wl.iconst 258 (4 : Int32) at_257 (by decide) ?_
  refine Wl.iload 260 at_258 rfl ?_
  refine Wl.aload 262 at_260 rfl rfl ?_
  refine Wl.iload_n 263 at_262 rfl ?_
  refine Wl.aload 265 at_263 rfl rfl ?_
  refine Wl.iload 267 at_265 rfl ?_
  refine Wl.static 270 (argsL := [.ref s41, .int (4 : Int32), .int (10 : Int32), .ref xp, .int (0 : Int32), .ref yn, .int (2 : Int32)]) at_267 (w227 hw) (w228 hw) (w3 hw) (w229 hw) (show parseMethodDescriptor "(Ljava/lang/String;II[CI[CI)Z" = some ⟨[(.object "java/lang/String"), .int, .int, (.array .char), .int, (.array .char), .int], some .boolean⟩ by decide +kernel) rfl (atA_met hw hcs hfm (rs := [(113 : Int32), (117 : Int32), (101 : Int32), (117 : Int32), (101 : Int32), (58 : Int32), (123 : Int32), n0, n1, (125 : Int32)]) (ps := [p0, p1, p2]) (ns := [n0, n1, n2, n3]) (n := 4) (j := 4) ((((S43.ext E52).ext E58).ext E64).ext E70) (nle rfl) (by decide) (A.ext B71) (B.ext B71) (nle rfl) (nle rfl) (latC lp0 (latC lp1 (latC lp2 latN))) (latC ln0 (latC ln1 (latC ln2 (latC ln3 latN)))) (by decide) (by decide) (by decide) (nle rfl) rfl) (fun _ q => nomatch q) rfl rfl rfl (by decide) ⟨⟨nle rfl, nle rfl⟩, nle rfl, nle rfl⟩ ?_
  intro v73 h74 hq75 _
  obtain ⟨rfl, E76⟩ := hq75
  have B77 : Ext h h74 := extTr B71 E76
  have B78 : Ext h9 h74 := extTr B72 E76
  show WlO _ _ _ _ _ _ _ _ _ _ _ _ _ _ _ _ _ _ [.int (1 : Int32)]
  refine Wl.ifN 273 at_270 (feq (by decide)).1 ?_
  refine Wl.aload 275 at_273 rfl rfl ?_
  refine Wl.iconst 276 (5 : Int32) at_275 (by decide) ?_
  refine Wl.iload 278 at_276 rfl ?_
  refine Wl.aload 280 at_278 rfl rfl ?_
  refine Wl.iload_n 281 at_280 rfl ?_
  refine Wl.aload 283 at_281 rfl rfl ?_
  refine Wl.iload 285 at_283 rfl ?_
  refine Wl.static 288 (argsL := [.ref s41, .int (5 : Int32), .int (10 : Int32), .ref xp, .int (0 : Int32), .ref yn, .int (2 : Int32)]) at_285 (w227 hw) (w228 hw) (w3 hw) (w229 hw) (show parseMethodDescriptor "(Ljava/lang/String;II[CI[CI)Z" = some ⟨[(.object "java/lang/String"), .int, .int, (.array .char), .int, (.array .char), .int], some .boolean⟩ by decide +kernel) rfl (atA_met hw hcs hfm (rs := [(113 : Int32), (117 : Int32), (101 : Int32), (117 : Int32), (101 : Int32), (58 : Int32), (123 : Int32), n0, n1, (125 : Int32)]) (ps := [p0, p1, p2]) (ns := [n0, n1, n2, n3]) (n := 5) (j := 5) (((((S43.ext E52).ext E58).ext E64).ext E70).ext E76) (nle rfl) (by decide) (A.ext B77) (B.ext B77) (nle rfl) (nle rfl) (latC lp0 (latC lp1 (latC lp2 latN))) (latC ln0 (latC ln1 (latC ln2 (latC ln3 latN)))) (by decide) (by decide) (by decide) (nle rfl) rfl) (fun _ q => nomatch q) rfl rfl rfl (by decide) ⟨⟨nle rfl, nle rfl⟩, nle rfl, nle rfl⟩ ?_
  intro v79 h80 hq81 _
  obtain ⟨rfl, E82⟩ := hq81
  have B83 : Ext h h80 := extTr B77 E82
  have B84 : Ext h9 h80 := extTr B78 E82
  show WlO _ _ _ _ _ _ _ _ _ _ _ _ _ _ _ _ _ _ [.int (1 : Int32)]
  refine Wl.ifN 291 at_288 (feq (by decide)).1 ?_
  refine Wl.aload 293 at_291 rfl rfl ?_
  refine Wl.bipush 295 (6 : Int32) at_293 (by decide) ?_
  refine Wl.iload 297 at_295 rfl ?_
  refine Wl.aload 299 at_297 rfl rfl ?_
  refine Wl.iload_n 300 at_299 rfl ?_
  refine Wl.aload 302 at_300 rfl rfl ?_
  refine Wl.iload 304 at_302 rfl ?_
  refine Wl.static 307 (argsL := [.ref s41, .int (6 : Int32), .int (10 : Int32), .ref xp, .int (0 : Int32), .ref yn, .int (2 : Int32)]) at_304 (w227 hw) (w228 hw) (w3 hw) (w229 hw) (show parseMethodDescriptor "(Ljava/lang/String;II[CI[CI)Z" = some ⟨[(.object "java/lang/String"), .int, .int, (.array .char), .int, (.array .char), .int], some .boolean⟩ by decide +kernel) rfl (atO_met hw hcs hfm (rs := [(113 : Int32), (117 : Int32), (101 : Int32), (117 : Int32), (101 : Int32), (58 : Int32), (123 : Int32), n0, n1, (125 : Int32)]) (ps := [p0, p1, p2]) (ns := [n0, n1, n2, n3]) (n := 6) ((((((S43.ext E52).ext E58).ext E64).ext E70).ext E76).ext E82) (nle rfl) (by decide) (A.ext B83) (B.ext B83) (nle rfl) (nle rfl) (latC lp0 (latC lp1 (latC lp2 latN))) (latC ln0 (latC ln1 (latC ln2 (latC ln3 latN)))) (by decide) (by decide) (by decide) rfl) (fun _ q => nomatch q) rfl rfl rfl (by decide) ⟨⟨nle rfl, nle rfl⟩, nle rfl, nle rfl⟩ ?_
  intro v85 h86 hq87 _
  obtain ⟨rfl, rfl⟩ := hq87
  show WlO _ _ _ _ _ _ _ _ _ _ _ _ _ _ _ _ _ _ [.int (1 : Int32)]
  refine Wl.ifN 310 at_307 (feq (by decide)).1 ?_
  refine Wl.aload 312 at_310 rfl rfl ?_
  refine Wl.bipush 314 (7 : Int32) at_312 (by decide) ?_
  refine Wl.iload 316 at_314 rfl ?_
  refine Wl.aload 318 at_316 rfl rfl ?_
  refine Wl.iload_n 319 at_318 rfl ?_
  refine Wl.aload 321 at_319 rfl rfl ?_
  refine Wl.iload 323 at_321 rfl ?_
  refine Wl.static 326 (argsL := [.ref s41, .int (7 : Int32), .int (10 : Int32), .ref xp, .int (0 : Int32), .ref yn, .int (2 : Int32)]) at_323 (w227 hw) (w228 hw) (w3 hw) (w229 hw) (show parseMethodDescriptor "(Ljava/lang/String;II[CI[CI)Z" = some ⟨[(.object "java/lang/String"), .int, .int, (.array .char), .int, (.array .char), .int], some .boolean⟩ by decide +kernel) rfl (atN_met hw hcs hfm (rs := [(113 : Int32), (117 : Int32), (101 : Int32), (117 : Int32), (101 : Int32), (58 : Int32), (123 : Int32), n0, n1, (125 : Int32)]) (ps := [p0, p1, p2]) (ns := [n0, n1, n2, n3]) (n := 7) (m := 0) ((((((S43.ext E52).ext E58).ext E64).ext E70).ext E76).ext E82) (nle rfl) (by decide) (A.ext B83) (B.ext B83) (nle rfl) (nle rfl) (latC lp0 (latC lp1 (latC lp2 latN))) (latC ln0 (latC ln1 (latC ln2 (latC ln3 latN)))) (by decide) (by decide) (by decide) (by decide) (by decide) (nle rfl) rfl) (fun _ q => nomatch q) rfl rfl rfl (by decide) ⟨⟨nle rfl, nle rfl⟩, nle rfl, nle rfl⟩ ?_
  intro v88 h89 hq90 _
  obtain ⟨rfl, rfl⟩ := hq90
  show WlO _ _ _ _ _ _ _ _ _ _ _ _ _ _ _ _ _ _ [.int (1 : Int32)]
  refine Wl.ifN 329 at_326 (feq (by decide)).1 ?_
  refine Wl.aload 331 at_329 rfl rfl ?_
  refine Wl.bipush 333 (8 : Int32) at_331 (by decide) ?_
  refine Wl.iload 335 at_333 rfl ?_
  refine Wl.aload 337 at_335 rfl rfl ?_
  refine Wl.iload_n 338 at_337 rfl ?_
  refine Wl.aload 340 at_338 rfl rfl ?_
  refine Wl.iload 342 at_340 rfl ?_
  refine Wl.static 345 (argsL := [.ref s41, .int (8 : Int32), .int (10 : Int32), .ref xp, .int (0 : Int32), .ref yn, .int (2 : Int32)]) at_342 (w227 hw) (w228 hw) (w3 hw) (w229 hw) (show parseMethodDescriptor "(Ljava/lang/String;II[CI[CI)Z" = some ⟨[(.object "java/lang/String"), .int, .int, (.array .char), .int, (.array .char), .int], some .boolean⟩ by decide +kernel) rfl (atN_met hw hcs hfm (rs := [(113 : Int32), (117 : Int32), (101 : Int32), (117 : Int32), (101 : Int32), (58 : Int32), (123 : Int32), n0, n1, (125 : Int32)]) (ps := [p0, p1, p2]) (ns := [n0, n1, n2, n3]) (n := 8) (m := 1) ((((((S43.ext E52).ext E58).ext E64).ext E70).ext E76).ext E82) (nle rfl) (by decide) (A.ext B83) (B.ext B83) (nle rfl) (nle rfl) (latC lp0 (latC lp1 (latC lp2 latN))) (latC ln0 (latC ln1 (latC ln2 (latC ln3 latN)))) (by decide) (by decide) (by decide) (by decide) (by decide) (nle rfl) rfl) (fun _ q => nomatch q) rfl rfl rfl (by decide) ⟨⟨nle rfl, nle rfl⟩, nle rfl, nle rfl⟩ ?_
  intro v91 h92 hq93 _
  obtain ⟨rfl, rfl⟩ := hq93
  show WlO _ _ _ _ _ _ _ _ _ _ _ _ _ _ _ _ _ _ [.int (1 : Int32)]
  refine Wl.ifN 348 at_345 (feq (by decide)).1 ?_
  refine Wl.aload 350 at_348 rfl rfl ?_
  refine Wl.bipush 352 (9 : Int32) at_350 (by decide) ?_
  refine Wl.iload 354 at_352 rfl ?_
  refine Wl.aload 356 at_354 rfl rfl ?_
  refine Wl.iload_n 357 at_356 rfl ?_
  refine Wl.aload 359 at_357 rfl rfl ?_
  refine Wl.iload 361 at_359 rfl ?_
  refine Wl.static 364 (argsL := [.ref s41, .int (9 : Int32), .int (10 : Int32), .ref xp, .int (0 : Int32), .ref yn, .int (2 : Int32)]) at_361 (w227 hw) (w228 hw) (w3 hw) (w229 hw) (show parseMethodDescriptor "(Ljava/lang/String;II[CI[CI)Z" = some ⟨[(.object "java/lang/String"), .int, .int, (.array .char), .int, (.array .char), .int], some .boolean⟩ by decide +kernel) rfl (atE_met hw hcs hfm (rs := [(113 : Int32), (117 : Int32), (101 : Int32), (117 : Int32), (101 : Int32), (58 : Int32), (123 : Int32), n0, n1, (125 : Int32)]) (ps := [p0, p1, p2]) (ns := [n0, n1, n2, n3]) (n := 9) ((((((S43.ext E52).ext E58).ext E64).ext E70).ext E76).ext E82) (nle rfl) (by decide) (A.ext B83) (B.ext B83) (nle rfl) (nle rfl) (latC lp0 (latC lp1 (latC lp2 latN))) (latC ln0 (latC ln1 (latC ln2 (latC ln3 latN)))) (by decide) (by decide) (by decide) (by decide) rfl) (fun _ q => nomatch q) rfl rfl rfl (by decide) ⟨⟨nle rfl, nle rfl⟩, nle rfl, nle rfl⟩ ?_
  intro v94 h95 hq96 _
  obtain ⟨rfl, rfl⟩ := hq96
  show WlO _ _ _ _ _ _ _ _ _ _ _ _ _ _ _ _ _ _ [.int (1 : Int32)]
  refine Wl.ifN 367 at_364 (feq (by decide)).1 ?_
  refine Wl.aload 369 at_367 rfl rfl ?_
  refine Wl.bipush 371 (10 : Int32) at_369 (by decide) ?_
  refine Wl.iload 373 at_371 rfl ?_
  refine Wl.aload 375 at_373 rfl rfl ?_
  refine Wl.iload_n 376 at_375 rfl ?_
  refine Wl.aload 378 at_376 rfl rfl ?_
  refine Wl.iload 380 at_378 rfl ?_
  refine Wl.static 383 (argsL := [.ref s41, .int (10 : Int32), .int (10 : Int32), .ref xp, .int (0 : Int32), .ref yn, .int (2 : Int32)]) at_380 (w227 hw) (w228 hw) (w3 hw) (w229 hw) (show parseMethodDescriptor "(Ljava/lang/String;II[CI[CI)Z" = some ⟨[(.object "java/lang/String"), .int, .int, (.array .char), .int, (.array .char), .int], some .boolean⟩ by decide +kernel) rfl (atC_met hw (by decide)) (fun _ q => nomatch q) rfl rfl rfl (by decide) ⟨⟨nle rfl, nle rfl⟩, nle rfl, nle rfl⟩ ?_
  intro v97 h98 hq99 _
  obtain ⟨rfl, rfl⟩ := hq99
  show WlO _ _ _ _ _ _ _ _ _ _ _ _ _ _ _ _ _ _ [.int (1 : Int32)]
  refine Wl.ifN 386 at_383 (feq (by decide)).1 ?_
  refine Wl.aload 388 at_386 rfl rfl ?_
  refine Wl.bipush 390 (11 : Int32) at_388 (by decide) ?_
  refine Wl.iload 392 at_390 rfl ?_
  refine Wl.aload 394 at_392 rfl rfl ?_
  refine Wl.iload_n 395 at_394 rfl ?_
  refine Wl.aload 397 at_395 rfl rfl ?_
  refine Wl.iload 399 at_397 rfl ?_
  refine Wl.static 402 (argsL := [.ref s41, .int (11 : Int32), .int (10 : Int32), .ref xp, .int (0 : Int32), .ref yn, .int (2 : Int32)]) at_399 (w227 hw) (w228 hw) (w3 hw) (w229 hw) (show parseMethodDescriptor "(Ljava/lang/String;II[CI[CI)Z" = some ⟨[(.object "java/lang/String"), .int, .int, (.array .char), .int, (.array .char), .int], some .boolean⟩ by decide +kernel) rfl (atC_met hw (by decide)) (fun _ q => nomatch q) rfl rfl rfl (by decide) ⟨⟨nle rfl, nle rfl⟩, nle rfl, nle rfl⟩ ?_
  intro v100 h101 hq102 _
  obtain ⟨rfl, rfl⟩ := hq102
  show WlO _ _ _ _ _ _ _ _ _ _ _ _ _ _ _ _ _ _ [.int (1 : Int32)]
  refine Wl.ifN 405 at_402 (feq (by decide)).1 ?_
  refine Wl.aload 407 at_405 rfl rfl ?_
  refine Wl.bipush 409 (12 : Int32) at_407 (by decide) ?_
  refine Wl.iload 411 at_409 rfl ?_
  refine Wl.aload 413 at_411 rfl rfl ?_
  refine Wl.iload_n 414 at_413 rfl ?_
  refine Wl.aload 416 at_414 rfl rfl ?_
  refine Wl.iload 418 at_416 rfl ?_
  refine Wl.static 421 (argsL := [.ref s41, .int (12 : Int32), .int (10 : Int32), .ref xp, .int (0 : Int32), .ref yn, .int (2 : Int32)]) at_418 (w227 hw) (w228 hw) (w3 hw) (w229 hw) (show parseMethodDescriptor "(Ljava/lang/String;II[CI[CI)Z" = some ⟨[(.object "java/lang/String"), .int, .int, (.array .char), .int, (.array .char), .int], some .boolean⟩ by decide +kernel) rfl (atC_met hw (by decide)) (fun _ q => nomatch q) rfl rfl rfl (by decide) ⟨⟨nle rfl, nle rfl⟩, nle rfl, nle rfl⟩ ?_
  intro v103 h104 hq105 _
  obtain ⟨rfl, rfl⟩ := hq105
  show WlO _ _ _ _ _ _ _ _ _ _ _ _ _ _ _ _ _ _ [.int (1 : Int32)]
  refine Wl.ifN 424 at_421 (feq (by decide)).1 ?_
  refine Wl.aload 426 at_424 rfl rfl ?_
  refine Wl.bipush 428 (13 : Int32) at_426 (by decide) ?_
  refine Wl.iload 430 at_428 rfl ?_
  refine Wl.aload 432 at_430 rfl rfl ?_
  refine Wl.iload_n 433 at_432 rfl ?_
  refine Wl.aload 435 at_433 rfl rfl ?_
  refine Wl.iload 437 at_435 rfl ?_
  refine Wl.static 440 (argsL := [.ref s41, .int (13 : Int32), .int (10 : Int32), .ref xp, .int (0 : Int32), .ref yn, .int (2 : Int32)]) at_437 (w227 hw) (w228 hw) (w3 hw) (w229 hw) (show parseMethodDescriptor "(Ljava/lang/String;II[CI[CI)Z" = some ⟨[(.object "java/lang/String"), .int, .int, (.array .char), .int, (.array .char), .int], some .boolean⟩ by decide +kernel) rfl (atC_met hw (by decide)) (fun _ q => nomatch q) rfl rfl rfl (by decide) ⟨⟨nle rfl, nle rfl⟩, nle rfl, nle rfl⟩ ?_
  intro v106 h107 hq108 _
  obtain ⟨rfl, rfl⟩ := hq108
  show WlO _ _ _ _ _ _ _ _ _ _ _ _ _ _ _ _ _ _ [.int (1 : Int32)]
  refine Wl.ifN 443 at_440 (feq (by decide)).1 ?_
  refine Wl.aload 445 at_443 rfl rfl ?_
  refine Wl.bipush 447 (14 : Int32) at_445 (by decide) ?_
  refine Wl.iload 449 at_447 rfl ?_
  refine Wl.aload 451 at_449 rfl rfl ?_
  refine Wl.iload_n 452 at_451 rfl ?_
  refine Wl.aload 454 at_452 rfl rfl ?_
  refine Wl.iload 456 at_454 rfl ?_
  refine Wl.static 459 (argsL := [.ref s41, .int (14 : Int32), .int (10 : Int32), .ref xp, .int (0 : Int32), .ref yn, .int (2 : Int32)]) at_456 (w227 hw) (w228 hw) (w3 hw) (w229 hw) (show parseMethodDescriptor "(Ljava/lang/String;II[CI[CI)Z" = some ⟨[(.object "java/lang/String"), .int, .int, (.array .char), .int, (.array .char), .int], some .boolean⟩ by decide +kernel) rfl (atC_met hw (by decide)) (fun _ q => nomatch q) rfl rfl rfl (by decide) ⟨⟨nle rfl, nle rfl⟩, nle rfl, nle rfl⟩ ?_
  intro v109 h110 hq111 _
  obtain ⟨rfl, rfl⟩ := hq111
  show WlO _ _ _ _ _ _ _ _ _ _ _ _ _ _ _ _ _ _ [.int (1 : Int32)]
  refine Wl.ifN 462 at_459 (feq (by decide)).1 ?_
  refine Wl.iconst 463 (1 : Int32) at_462 (by decide) ?_
  refine Wl.goto 467 at_463 ?_
  exact Wl.ireturn at_467 rfl rfl (by simp) (nle rfl) (nle rfl) rfl
set_option maxRecDepth 65536 in
set_option maxHeartbeats 40000000 in
theorem law_t03 {l : Launch} {Z : State} {a0 : Array Value} (hw : ∀ d ∈ tables_1, d.before a0 Z = true) (hcs : CSon Z) (hfm : Fmt Z) {as : Array Value} {h : Heap} {i0 i1 i2 p0 p1 p2 n0 n1 n2 n3 : Int32} {xp yn : Addr} {kx ky : ClassId} (A : Arv Z h xp kx .char (3 : Int32) [.int p0, .int p1, .int p2] (.int 0)) (B : Arv Z h yn ky .char (4 : Int32) [.int n0, .int n1, .int n2, .int n3] (.int 0)) (lp0 : Lat p0) (lp1 : Lat p1) (lp2 : Lat p2) (ln0 : Lat n0) (ln1 : Lat n1) (ln2 : Lat n2) (ln3 : Lat n3) (p0123 : p0 ≠ 123) (p0125 : p0 ≠ 125) (p1123 : p1 ≠ 123) (p1125 : p1 ≠ 125) (p2123 : p2 ≠ 123) (p2125 : p2 ≠ 125) (hn0 : ¬ n0 = (125 : Int32)) :
    Wl l Z a0 consts_1 x code maxLocals ret room_1 as (fun v h' => v = some (.int 1)) [] h 2 7 116 #[.val (.int i0), .val (.int i1), .val (.int i2), .val (.int (0 : Int32)), .val (.int (3 : Int32)), .val (.ref xp), .val (.ref yn), .unset, .unset, .unset, .unset, .unset] [] := by
  refine Wl.aload 118 at_116 rfl rfl ?_
  refine Wl.iload_n 119 at_118 rfl ?_
  refine Wl.static 122 (argsL := [.ref xp, .int (0 : Int32)]) at_119 (w5 hw) (w6 hw) (w3 hw) (w7 hw) (show parseMethodDescriptor "([CI)Ljava/lang/String;" = some ⟨[(.array .char), .int], some (.object "java/lang/String")⟩ by decide +kernel) rfl (mk30_met hw hcs A lp0 lp1 lp2) (fun _ q => nomatch q) rfl rfl rfl (by decide) ⟨⟨nle rfl, nle rfl⟩, nle rfl, nle rfl⟩ ?_
  intro v1 h2 hq3 _
  obtain ⟨a4, rfl, E5, S6⟩ := hq3
  have B7 : Ext h h2 := E5
  show WlO _ _ _ _ _ _ _ _ _ _ _ _ _ _ _ _ _ _ [.ref a4]
  refine Wl.astore 124 #[.val (.int i0), .val (.int i1), .val (.int i2), .val (.int (0 : Int32)), .val (.int (3 : Int32)), .val (.ref xp), .val (.ref yn), .val (.ref a4), .unset, .unset, .unset, .unset] at_122 rfl rfl ?_
  refine Wl.aload 126 at_124 rfl rfl ?_
  refine Wl.iload 128 at_126 rfl ?_
  refine Wl.static 131 (argsL := [.ref yn, .int (3 : Int32)]) at_128 (w5 hw) (w6 hw) (w3 hw) (w7 hw) (show parseMethodDescriptor "([CI)Ljava/lang/String;" = some ⟨[(.array .char), .int], some (.object "java/lang/String")⟩ by decide +kernel) rfl (mk43_met hw hcs (B.ext E5) ln0 ln1 ln2 ln3) (fun _ q => nomatch q) rfl rfl rfl (by decide) ⟨⟨nle rfl, nle rfl⟩, nle rfl, nle rfl⟩ ?_
  intro v8 h9 hq10 _
  obtain ⟨a11, rfl, E12, S13⟩ := hq10
  have B14 : Ext h h9 := extTr B7 E12
  show WlO _ _ _ _ _ _ _ _ _ _ _ _ _ _ _ _ _ _ [.ref a11]
  refine Wl.astore 133 #[.val (.int i0), .val (.int i1), .val (.int i2), .val (.int (0 : Int32)), .val (.int (3 : Int32)), .val (.ref xp), .val (.ref yn), .val (.ref a4), .val (.ref a11), .unset, .unset, .unset] at_131 rfl rfl ?_
  refine Wl.new 136 at_133 (w37 hw) (w38 hw) (w39 hw) (nle rfl) (nle rfl) ?_
  intro a15 h16 q17 E18 X19 D20
  have z21 : h.size ≤ a15 := Nat.le_trans B14.1 (Nat.le_of_eq q17.symm)
  have z22 : h9.size ≤ a15 := Nat.le_of_eq q17.symm
  have ne23 : xp ≠ a15 := Nat.ne_of_lt (by rw [q17]; exact ((A.ext B14)).lt)
  have ne24 : yn ≠ a15 := Nat.ne_of_lt (by rw [q17]; exact ((B.ext B14)).lt)
  have ne25 : a4 ≠ a15 := Nat.ne_of_lt (by rw [q17]; exact (((S6).exa.ext E12)).lt)
  have ne26 : a11 ≠ a15 := Nat.ne_of_lt (by rw [q17]; exact ((S13).exa).lt)
  have B27 : Ext h h16 := extTr B14 E18
  have B28 : Ext h9 h16 := E18
  have F29 : Fld Z h16 a15 "com/example/portunus/portunus/LockKeys" "prefix" "Ljava/lang/String;" (.null) := D20 (Or.inr (w94 hw)) (ty := (.object "java/lang/String")) (by decide)
  refine Wl.dup 137 at_136 rfl ?_
  refine Wl.aload 139 at_137 rfl rfl ?_
  refine Wl.special 142 (argsL := [.ref a4]) at_139 (w40 hw) (w41 hw) (w39 hw) (w42 hw) (show parseMethodDescriptor "(Ljava/lang/String;)V" = some ⟨[(.object "java/lang/String")], none⟩ by decide +kernel) rfl (keys_met hw hcs X19 F29 (cs := []) ((S6.ext E12).ext E18) neN neN) (allS (List.mem_of_getElem? (i := 0) rfl) (fun _ q => nomatch q)) rfl rfl rfl rfl (by decide) ⟨⟨nle rfl, nle rfl⟩, nle rfl, nle rfl⟩ ?_
  intro v30 h31 hq32 _
  obtain ⟨rfl, K33, X34, F35⟩ := hq32
  have B36 : Ext h h31 := extKeep B27 K33 (allS z21 all0)
  have B37 : Ext h9 h31 := extKeep B28 K33 (allS z22 all0)
  show WlO _ _ _ _ _ _ _ _ _ _ _ _ _ _ _ _ _ _ [.ref a15]
  refine Wl.astore 144 #[.val (.int i0), .val (.int i1), .val (.int i2), .val (.int (0 : Int32)), .val (.int (3 : Int32)), .val (.ref xp), .val (.ref yn), .val (.ref a4), .val (.ref a11), .val (.ref a15), .unset, .unset] at_142 rfl rfl ?_
  refine Wl.aload 146 at_144 rfl rfl ?_
  refine Wl.aload 148 at_146 rfl rfl ?_
  refine Wl.virtual 151 (argsL := [.ref a11]) at_148 (w95 hw) (w96 hw) (w98 hw) (w97 hw) (w39 hw) (w99 hw) (nf_sel (w98 hw) rfl) X34 (show parseMethodDescriptor "(Ljava/lang/String;)Ljava/lang/String;" = some ⟨[(.object "java/lang/String")], some (.object "java/lang/String")⟩ by decide +kernel) rfl (key_met hw hcs hfm (cs := [n0, n1, n2]) (ps := []) F35 ((S6.ext E12).ext B37) (nle rfl) (S13.ext B37) (by simp) (nle rfl) hn0 (nle rfl)) (fun _ q => nomatch q) rfl rfl rfl (by decide) ⟨⟨nle rfl, nle rfl⟩, nle rfl, nle rfl⟩ ?_
  intro v38 h39 hq40 _
  obtain ⟨s41, rfl, E42, S43⟩ := hq40
  have S43 : Stl Z h39 s41 [(113 : Int32), (117 : Int32), (101 : Int32), (117 : Int32), (101 : Int32), (58 : Int32), (123 : Int32), n0, n1, n2, (125 : Int32)] := S43
  have B44 : Ext h h39 := extTr B36 E42
  have B45 : Ext h9 h39 := extTr B37 E42
  show WlO _ _ _ _ _ _ _ _ _ _ _ _ _ _ _ _ _ _ [.ref s41]
  refine Wl.astore 153 #[.val (.int i0), .val (.int i1), .val (.int i2), .val (.int (0 : Int32)), .val (.int (3 : Int32)), .val (.ref xp), .val (.ref yn), .val (.ref a4), .val (.ref a11), .val (.ref a15), .val (.ref s41), .unset] at_151 rfl rfl ?_
  refine Wl.iload_n 154 at_153 rfl ?_
  refine Wl.bipush 156 (6 : Int32) at_154 (by decide) ?_
  refine Wl.iadd 157 at_156 ?_
  show WlO _ _ _ _ _ _ _ _ _ _ _ _ _ _ _ _ _ _ [.int (6 : Int32)]
  refine Wl.iconst 158 (1 : Int32) at_157 (by decide) ?_
  refine Wl.iadd 159 at_158 ?_
  show WlO _ _ _ _ _ _ _ _ _ _ _ _ _ _ _ _ _ _ [.int (7 : Int32)]
  refine Wl.iload 161 at_159 rfl ?_
  refine Wl.iadd 162 at_161 ?_
  show WlO _ _ _ _ _ _ _ _ _ _ _ _ _ _ _ _ _ _ [.int (10 : Int32)]
  refine Wl.iconst 163 (1 : Int32) at_162 (by decide) ?_
  refine Wl.iadd 164 at_163 ?_
  show WlO _ _ _ _ _ _ _ _ _ _ _ _ _ _ _ _ _ _ [.int (11 : Int32)]
  refine Wl.istore 166 #[.val (.int i0), .val (.int i1), .val (.int i2), .val (.int (0 : Int32)), .val (.int (3 : Int32)), .val (.ref xp), .val (.ref yn), .val (.ref a4), .val (.ref a11), .val (.ref a15), .val (.ref s41), .val (.int (11 : Int32))] at_164 rfl ?_
  refine Wl.aload 168 at_166 rfl rfl ?_
  refine Wl.ifnullN 171 at_168 ?_
  refine Wl.aload 173 at_171 rfl rfl ?_
  refine Wl.virtual 176 (argsL := []) at_173 (w226 hw) (w67 hw) (w69 hw) (w68 hw) (w10 hw) (w70 hw) (nf_sel (w69 hw) rfl) (S43).exa (show parseMethodDescriptor "()I" = some ⟨[], some .int⟩ by decide +kernel) rfl (len_met hw hcs S43) (fun _ q => nomatch q) rfl rfl rfl (by decide) ⟨⟨nle rfl, nle rfl⟩, nle rfl, nle rfl⟩ ?_
  intro v46 h47 hq48 _
  obtain ⟨rfl, rfl⟩ := hq48
  show WlO _ _ _ _ _ _ _ _ _ _ _ _ _ _ _ _ _ _ [.int (11 : Int32)]
  refine Wl.iload 178 at_176 rfl ?_
  refine Wl.icmpY 183 at_178 (teq (by decide)).1 ?_
  refine Wl.aload 185 at_183 rfl rfl ?_
  refine Wl.iconst 186 (0 : Int32) at_185 (by decide) ?_
  refine Wl.iload 188 at_186 rfl ?_
  refine Wl.aload 190 at_188 rfl rfl ?_
  refine Wl.iload_n 191 at_190 rfl ?_
  refine Wl.aload 193 at_191 rfl rfl ?_
  refine Wl.iload 195 at_193 rfl ?_
  refine Wl.static 198 (argsL := [.ref s41, .int (0 : Int32), .int (11 : Int32), .ref xp, .int (0 : Int32), .ref yn, .int (3 : Int32)]) at_195 (w227 hw) (w228 hw) (w3 hw) (w229 hw) (show parseMethodDescriptor "(Ljava/lang/String;II[CI[CI)Z" = some ⟨[(.object "java/lang/String"), .int, .int, (.array .char), .int, (.array .char), .int], some .boolean⟩ by decide +kernel) rfl (atA_met hw hcs hfm (rs := [(113 : Int32), (117 : Int32), (101 : Int32), (117 : Int32), (101 : Int32), (58 : Int32), (123 : Int32), n0, n1, n2, (125 : Int32)]) (ps := [p0, p1, p2]) (ns := [n0, n1, n2, n3]) (n := 0) (j := 0) S43 (nle rfl) (by decide) (A.ext B44) (B.ext B44) (nle rfl) (nle rfl) (latC lp0 (latC lp1 (latC lp2 latN))) (latC ln0 (latC ln1 (latC ln2 (latC ln3 latN)))) (by decide) (by decide) (by decide) (nle rfl) rfl) (fun _ q => nomatch q) rfl rfl rfl (by decide) ⟨⟨nle rfl, nle rfl⟩, nle rfl, nle rfl⟩ ?_
  intro v49 h50 hq51 _
  obtain ⟨rfl, E52⟩ := hq51
  have B53 : Ext h h50 := extTr B44 E52
  have B54 : Ext h9 h50 := extTr B45 E52
  show WlO _ _ _ _ _ _ _ _ _ _ _ _ _ _ _ _ _ _ [.int (1 : Int32)]
  refine Wl.ifN 201 at_198 (feq (by decide)).1 ?_
  refine Wl.aload 203 at_201 rfl rfl ?_
  refine Wl.iconst 204 (1 : Int32) at_203 (by decide) ?_
  refine Wl.iload 206 at_204 rfl ?_
  refine Wl.aload 208 at_206 rfl rfl ?_
  refine Wl.iload_n 209 at_208 rfl ?_
  refine Wl.aload 211 at_209 rfl rfl ?_
  refine Wl.iload 213 at_211 rfl ?_
  refine Wl.static 216 (argsL := [.ref s41, .int (1 : Int32), .int (11 : Int32), .ref xp, .int (0 : Int32), .ref yn, .int (3 : Int32)]) at_213 (w227 hw) (w228 hw) (w3 hw) (w229 hw) (show parseMethodDescriptor "(Ljava/lang/String;II[CI[CI)Z" = some ⟨[(.object "java/lang/String"), .int, .int, (.array .char), .int, (.array .char), .int], some .boolean⟩ by decide +kernel) rfl (atA_met hw hcs hfm (rs := [(113 : Int32), (117 : Int32), (101 : Int32), (117 : Int32), (101 : Int32), (58 : Int32), (123 : Int32), n0, n1, n2, (125 : Int32)]) (ps := [p0, p1, p2]) (ns := [n0, n1, n2, n3]) (n := 1) (j := 1) (S43.ext E52) (nle rfl) (by decide) (A.ext B53) (B.ext B53) (nle rfl) (nle rfl) (latC lp0 (latC lp1 (latC lp2 latN))) (latC ln0 (latC ln1 (latC ln2 (latC ln3 latN)))) (by decide) (by decide) (by decide) (nle rfl) rfl) (fun _ q => nomatch q) rfl rfl rfl (by decide) ⟨⟨nle rfl, nle rfl⟩, nle rfl, nle rfl⟩ ?_
  intro v55 h56 hq57 _
  obtain ⟨rfl, E58⟩ := hq57
  have B59 : Ext h h56 := extTr B53 E58
  have B60 : Ext h9 h56 := extTr B54 E58
  show WlO _ _ _ _ _ _ _ _ _ _ _ _ _ _ _ _ _ _ [.int (1 : Int32)]
  refine Wl.ifN 219 at_216 (feq (by decide)).1 ?_
  refine Wl.aload 221 at_219 rfl rfl ?_
  refine Wl.iconst 222 (2 : Int32) at_221 (by decide) ?_
  refine Wl.iload 224 at_222 rfl ?_
  refine Wl.aload 226 at_224 rfl rfl ?_
  refine Wl.iload_n 227 at_226 rfl ?_
  refine Wl.aload 229 at_227 rfl rfl ?_
  refine Wl.iload 231 at_229 rfl ?_
  refine Wl.static 234 (argsL := [.ref s41, .int (2 : Int32), .int (11 : Int32), .ref xp, .int (0 : Int32), .ref yn, .int (3 : Int32)]) at_231 (w227 hw) (w228 hw) (w3 hw) (w229 hw) (show parseMethodDescriptor "(Ljava/lang/String;II[CI[CI)Z" = some ⟨[(.object "java/lang/String"), .int, .int, (.array .char), .int, (.array .char), .int], some .boolean⟩ by decide +kernel) rfl (atA_met hw hcs hfm (rs := [(113 : Int32), (117 : Int32), (101 : Int32), (117 : Int32), (101 : Int32), (58 : Int32), (123 : Int32), n0, n1, n2, (125 : Int32)]) (ps := [p0, p1, p2]) (ns := [n0, n1, n2, n3]) (n := 2) (j := 2) ((S43.ext E52).ext E58) (nle rfl) (by decide) (A.ext B59) (B.ext B59) (nle rfl) (nle rfl) (latC lp0 (latC lp1 (latC lp2 latN))) (latC ln0 (latC ln1 (latC ln2 (latC ln3 latN)))) (by decide) (by decide) (by decide) (nle rfl) rfl) (fun _ q => nomatch q) rfl rfl rfl (by decide) ⟨⟨nle rfl, nle rfl⟩, nle rfl, nle rfl⟩ ?_
  intro v61 h62 hq63 _
  obtain ⟨rfl, E64⟩ := hq63
  have B65 : Ext h h62 := extTr B59 E64
  have B66 : Ext h9 h62 := extTr B60 E64
  show WlO _ _ _ _ _ _ _ _ _ _ _ _ _ _ _ _ _ _ [.int (1 : Int32)]
  refine Wl.ifN 237 at_234 (feq (by decide)).1 ?_
  refine Wl.aload 239 at_237 rfl rfl ?_
  refine Wl.iconst 240 (3 : Int32) at_239 (by decide) ?_
  refine Wl.iload 242 at_240 rfl ?_
  refine Wl.aload 244 at_242 rfl rfl ?_
  refine Wl.iload_n 245 at_244 rfl ?_
  refine Wl.aload 247 at_245 rfl rfl ?_
  refine Wl.iload 249 at_247 rfl ?_
  refine Wl.static 252 (argsL := [.ref s41, .int (3 : Int32), .int (11 : Int32), .ref xp, .int (0 : Int32), .ref yn, .int (3 : Int32)]) at_249 (w227 hw) (w228 hw) (w3 hw) (w229 hw) (show parseMethodDescriptor "(Ljava/lang/String;II[CI[CI)Z" = some ⟨[(.object "java/lang/String"), .int, .int, (.array .char), .int, (.array .char), .int], some .boolean⟩ by decide +kernel) rfl (atA_met hw hcs hfm (rs := [(113 : Int32), (117 : Int32), (101 : Int32), (117 : Int32), (101 : Int32), (58 : Int32), (123 : Int32), n0, n1, n2, (125 : Int32)]) (ps := [p0, p1, p2]) (ns := [n0, n1, n2, n3]) (n := 3) (j := 3) (((S43.ext E52).ext E58).ext E64) (nle rfl) (by decide) (A.ext B65) (B.ext B65) (nle rfl) (nle rfl) (latC lp0 (latC lp1 (latC lp2 latN))) (latC ln0 (latC ln1 (latC ln2 (latC ln3 latN)))) (by decide) (by decide) (by decide) (nle rfl) rfl) (fun _ q => nomatch q) rfl rfl rfl (by decide) ⟨⟨nle rfl, nle rfl⟩, nle rfl, nle rfl⟩ ?_
  intro v67 h68 hq69 _
  obtain ⟨rfl, E70⟩ := hq69
  have B71 : Ext h h68 := extTr B65 E70
  have B72 : Ext h9 h68 := extTr B66 E70
  show WlO _ _ _ _ _ _ _ _ _ _ _ _ _ _ _ _ _ _ [.int (1 : Int32)]
  refine Wl.ifN 255 at_252 (feq (by decide)).1 ?_
  refine Wl.aload 257 at_255 rfl rfl ?_
  refine Wl.iconst 258 (4 : Int32) at_257 (by decide) ?_
  refine Wl.iload 260 at_258 rfl ?_
  refine Wl.aload 262 at_260 rfl rfl ?_
  refine Wl.iload_n 263 at_262 rfl ?_
  refine Wl.aload 265 at_263 rfl rfl ?_
  refine Wl.iload 267 at_265 rfl ?_
  refine Wl.static 270 (argsL := [.ref s41, .int (4 : Int32), .int (11 : Int32), .ref xp, .int (0 : Int32), .ref yn, .int (3 : Int32)]) at_267 (w227 hw) (w228 hw) (w3 hw) (w229 hw) (show parseMethodDescriptor "(Ljava/lang/String;II[CI[CI)Z" = some ⟨[(.object "java/lang/String"), .int, .int, (.array .char), .int, (.array .char), .int], some .boolean⟩ by decide +kernel) rfl (atA_met hw hcs hfm (rs := [(113 : Int32), (117 : Int32), (101 : Int32), (117 : Int32), (101 : Int32), (58 : Int32), (123 : Int32), n0, n1, n2, (125 : Int32)]) (ps := [p0, p1, p2]) (ns := [n0, n1, n2, n3]) (n := 4) (j := 4) ((((S43.ext E52).ext E58).ext E64).ext E70) (nle rfl) (by decide) (A.ext B71) (B.ext B71) (nle rfl) (nle rfl) (latC lp0 (latC lp1 (latC lp2 latN))) (latC ln0 (latC ln1 (latC ln2 (latC ln3 latN)))) (by decide) (by decide) (by decide) (nle rfl) rfl) (fun _ q => nomatch q) rfl rfl rfl (by decide) ⟨⟨nle rfl, nle rfl⟩, nle rfl, nle rfl⟩ ?_
  intro v73 h74 hq75 _
  obtain ⟨rfl, E76⟩ := hq75
  have B77 : Ext h h74 := extTr B71 E76
  have B78 : Ext h9 h74 := extTr B72 E76
  show WlO _ _ _ _ _ _ _ _ _ _ _ _ _ _ _ _ _ _ [.int (1 : Int32)]
  refine Wl.ifN 273 at_270 (feq (by decide)).1 ?_
  refine Wl.aload 275 at_273 rfl rfl ?_
  refine Wl.iconst 276 (5 : Int32) at_275 (by decide) ?_
  refine Wl.iload 278 at_276 rfl ?_
  refine Wl.aload 280 at_278 rfl rfl ?_
  refine Wl.iload_n 281 at_280 rfl ?_
  refine Wl.aload 283 at_281 rfl rfl ?_
  refine Wl.iload 285 at_283 rfl ?_
  refine Wl.static 288 (argsL := [.ref s41, .int (5 : Int32), .int (11 : Int32), .ref xp, .int (0 : Int32), .ref yn, .int (3 : Int32)]) at_285 (w227 hw) (w228 hw) (w3 hw) (w229 hw) (show parseMethodDescriptor "(Ljava/lang/String;II[CI[CI)Z" = some ⟨[(.object "java/lang/String"), .int, .int, (.array .char), .int, (.array .char), .int], some .boolean⟩ by decide +kernel) rfl (atA_met hw hcs hfm (rs := [(113 : Int32), (117 : Int32), (101 : Int32), (117 : Int32), (101 : Int32), (58 : Int32), (123 : Int32), n0, n1, n2, (125 : Int32)]) (ps := [p0, p1, p2]) (ns := [n0, n1, n2, n3]) (n := 5) (j := 5) (((((S43.ext E52).ext E58).ext E64).ext E70).ext E76) (nle rfl) (by decide) (A.ext B77) (B.ext B77) (nle rfl) (nle rfl) (latC lp0 (latC lp1 (latC lp2 latN))) (latC ln0 (latC ln1 (latC ln2 (latC ln3 latN)))) (by decide) (by decide) (by decide) (nle rfl) rfl) (fun _ q => nomatch q) rfl rfl rfl (by decide) ⟨⟨nle rfl, nle rfl⟩, nle rfl, nle rfl⟩ ?_
  intro v79 h80 hq81 _
  obtain ⟨rfl, E82⟩ := hq81
  have B83 : Ext h h80 := extTr B77 E82
  have B84 : Ext h9 h80 := extTr B78 E82
  show WlO _ _ _ _ _ _ _ _ _ _ _ _ _ _ _ _ _ _ [.int (1 : Int32)]
  refine Wl.ifN 291 at_288 (feq (by decide)).1 ?_
  refine Wl.aload 293 at_291 rfl rfl ?_
  refine Wl.bipush 295 (6 : Int32) at_293 (by decide) ?_
  refine Wl.iload 297 at_295 rfl ?_
  refine Wl.aload 299 at_297 rfl rfl ?_
  refine Wl.iload_n 300 at_299 rfl ?_
  refine Wl.aload 302 at_300 rfl rfl ?_
  refine Wl.iload 304 at_302 rfl ?_
  refine Wl.static 307 (argsL := [.ref s41, .int (6 : Int32), .int (11 : Int32), .ref xp, .int (0 : Int32), .ref yn, .int (3 : Int32)]) at_304 (w227 hw) (w228 hw) (w3 hw) (w229 hw) (show parseMethodDescriptor "(Ljava/lang/String;II[CI[CI)Z" = some ⟨[(.object "java/lang/String"), .int, .int, (.array .char), .int, (.array .char), .int], some .boolean⟩ by decide +kernel) rfl (atO_met hw hcs hfm (rs := [(113 : Int32), (117 : Int32), (101 : Int32), (117 : Int32), (101 : Int32), (58 : Int32), (123 : Int32), n0, n1, n2, (125 : Int32)]) (ps := [p0, p1, p2]) (ns := [n0, n1, n2, n3]) (n := 6) ((((((S43.ext E52).ext E58).ext E64).ext E70).ext E76).ext E82) (nle rfl) (by decide) (A.ext B83) (B.ext B83) (nle rfl) (nle rfl) (latC lp0 (latC lp1 (latC lp2 latN))) (latC ln0 (latC ln1 (latC ln2 (latC ln3 latN)))) (by decide) (by decide) (by decide) rfl) (fun _ q => nomatch q) rfl rfl rfl (by decide) ⟨⟨nle rfl, nle rfl⟩, nle rfl, nle rfl⟩ ?_
  intro v85 h86 hq87 _
  obtain ⟨rfl, rfl⟩ := hq87
  show WlO _ _ _ _ _ _ _ _ _ _ _ _ _ _ _ _ _ _ [.int (1 : Int32)]
  refine Wl.ifN 310 at_307 (feq (by decide)).1 ?_
  refine Wl.aload 312 at_310 rfl rfl ?_
  refine Wl.bipush 314 (7 : Int32) at_312 (by decide) ?_
  refine Wl.iload 316 at_314 rfl ?_
  refine Wl.aload 318 at_316 rfl rfl ?_
  refine Wl.iload_n 319 at_318 rfl ?_
  refine Wl.aload 321 at_319 rfl rfl ?_
  refine Wl.iload 323 at_321 rfl ?_
  refine Wl.static 326 (argsL := [.ref s41, .int (7 : Int32), .int (11 : Int32), .ref xp, .int (0 : Int32), .ref yn, .int (3 : Int32)]) at_323 (w227 hw) (w228 hw) (w3 hw) (w229 hw) (show parseMethodDescriptor "(Ljava/lang/String;II[CI[CI)Z" = some ⟨[(.object "java/lang/String"), .int, .int, (.array .char), .int, (.array .char), .int], some .boolean⟩ by decide +kernel) rfl (atN_met hw hcs hfm (rs := [(113 : Int32), (117 : Int32), (101 : Int32), (117 : Int32), (101 : Int32), (58 : Int32), (123 : Int32), n0, n1, n2, (125 : Int32)]) (ps := [p0, p1, p2]) (ns := [n0, n1, n2, n3]) (n := 7) (m := 0) ((((((S43.ext E52).ext E58).ext E64).ext E70).ext E76).ext E82) (nle rfl) (by decide) (A.ext B83) (B.ext B83) (nle rfl) (nle rfl) (latC lp0 (latC lp1 (latC lp2 latN))) (latC ln0 (latC ln1 (latC ln2 (latC ln3 latN)))) (by decide) (by decide) (by decide) (by decide) (by decide) (nle rfl) rfl) (fun _ q => nomatch q) rfl rfl rfl (by decide) ⟨⟨nle rfl, nle rfl⟩, nle rfl, nle rfl⟩ ?_
  intro v88 h89 hq90 _
  obtain ⟨rfl, rfl⟩ := hq90
  show WlO _ _ _ _ _ _ _ _ _ _ _ _ _ _ _ _ _ _ [.int (1 : Int32)]
  refine Wl.ifN 329 at_326 (feq (by decide)).1 ?_
  refine Wl.aload 331 at_329 rfl rfl ?_
  refine Wl.bipush 333 (8 : Int32) at_331 (by decide) ?_
  refine Wl.iload 335 at_333 rfl ?_
  refine Wl.aload 337 at_335 rfl rfl ?_
  refine Wl.iload_n 338 at_337 rfl ?_
  refine Wl.aload 340 at_338 rfl rfl ?_
  refine Wl.iload 342 at_340 rfl ?_
  refine Wl.static 345 (argsL := [.ref s41, .int (8 : Int32), .int (11 : Int32), .ref xp, .int (0 : Int32), .ref yn, .int (3 : Int32)]) at_342 (w227 hw) (w228 hw) (w3 hw) (w229 hw) (show parseMethodDescriptor "(Ljava/lang/String;II[CI[CI)Z" = some ⟨[(.object "java/lang/String"), .int, .int, (.array .char), .int, (.array .char), .int], some .boolean⟩ by decide +kernel) rfl (atN_met hw hcs hfm (rs := [(113 : Int32), (117 : Int32), (101 : Int32), (117 : Int32), (101 : Int32), (58 : Int32), (123 : Int32), n0, n1, n2, (125 : Int32)]) (ps := [p0, p1, p2]) (ns := [n0, n1, n2, n3]) (n := 8) (m := 1) ((((((S43.ext E52).ext E58).ext E64).ext E70).ext E76).ext E82) (nle rfl) (by decide) (A.ext B83) (B.ext B83) (nle rfl) (nle rfl) (latC lp0 (latC lp1 (latC lp2 latN))) (latC ln0 (latC ln1 (latC ln2 (latC ln3 latN)))) (by decide) (by decide) (by decide) (by decide) (by decide) (nle rfl) rfl) (fun _ q => nomatch q) rfl rfl rfl (by decide) ⟨⟨nle rfl, nle rfl⟩, nle rfl, nle rfl⟩ ?_
  intro v91 h92 hq93 _
  obtain ⟨rfl, rfl⟩ := hq93
  show WlO _ _ _ _ _ _ _ _ _ _ _ _ _ _ _ _ _ _ [.int (1 : Int32)]
  refine Wl.ifN 348 at_345 (feq (by decide)).1 ?_
  refine Wl.aload 350 at_348 rfl rfl ?_
  refine Wl.bipush 352 (9 : Int32) at_350 (by decide) ?_
  refine Wl.iload 354 at_352 rfl ?_
  refine Wl.aload 356 at_354 rfl rfl ?_
  refine Wl.iload_n 357 at_356 rfl ?_
  refine Wl.aload 359 at_357 rfl rfl ?_
  refine Wl.iload 361 at_359 rfl ?_
  refine Wl.static 364 (argsL := [.ref s41, .int (9 : Int32), .int (11 : Int32), .ref xp, .int (0 : Int32), .ref yn, .int (3 : Int32)]) at_361 (w227 hw) (w228 hw) (w3 hw) (w229 hw) (show parseMethodDescriptor "(Ljava/lang/String;II[CI[CI)Z" = some ⟨[(.object "java/lang/String"), .int, .int, (.array .char), .int, (.array .char), .int], some .boolean⟩ by decide +kernel) rfl (atN_met hw hcs hfm (rs := [(113 : Int32), (117 : Int32), (101 : Int32), (117 : Int32), (101 : Int32), (58 : Int32), (123 : Int32), n0, n1, n2, (125 : Int32)]) (ps := [p0, p1, p2]) (ns := [n0, n1, n2, n3]) (n := 9) (m := 2) ((((((S43.ext E52).ext E58).ext E64).ext E70).ext E76).ext E82) (nle rfl) (by decide) (A.ext B83) (B.ext B83) (nle rfl) (nle rfl) (latC lp0 (latC lp1 (latC lp2 latN))) (latC ln0 (latC ln1 (latC ln2 (latC ln3 latN)))) (by decide) (by decide) (by decide) (by decide) (by decide) (nle rfl) rfl) (fun _ q => nomatch q) rfl rfl rfl (by decide) ⟨⟨nle rfl, nle rfl⟩, nle rfl, nle rfl⟩ ?_
  intro v94 h95 hq96 _
  obtain ⟨rfl, rfl⟩ := hq96
  show WlO _ _ _ _ _ _ _ _ _ _ _ _ _ _ _ _ _ _ [.int (1 : Int32)]
  refine Wl.ifN 367 at_364 (feq (by decide)).1 ?_
  refine Wl.aload 369 at_367 rfl rfl ?_
  refine Wl.bipush 371 (10 : Int32) at_369 (by decide) ?_
  refine Wl.iload 373 at_371 rfl ?_
  refine Wl.aload 375 at_373 rfl rfl ?_
  refine Wl.iload_n 376 at_375 rfl ?_
  refine Wl.aload 378 at_376 rfl rfl ?_
  refine Wl.iload 380 at_378 rfl ?_
  refine Wl.static 383 (argsL := [.ref s41, .int (10 : Int32), .int (11 : Int32), .ref xp, .int (0 : Int32), .ref yn, .int (3 : Int32)]) at_380 (w227 hw) (w228 hw) (w3 hw) (w229 hw) (show parseMethodDescriptor "(Ljava/lang/String;II[CI[CI)Z" = some ⟨[(.object "java/lang/String"), .int, .int, (.array .char), .int, (.array .char), .int], some .boolean⟩ by decide +kernel) rfl (atE_met hw hcs hfm (rs := [(113 : Int32), (117 : Int32), (101 : Int32), (117 : Int32), (101 : Int32), (58 : Int32), (123 : Int32), n0, n1, n2, (125 : Int32)]) (ps := [p0, p1, p2]) (ns := [n0, n1, n2, n3]) (n := 10) ((((((S43.ext E52).ext E58).ext E64).ext E70).ext E76).ext E82) (nle rfl) (by decide) (A.ext B83) (B.ext B83) (nle rfl) (nle rfl) (latC lp0 (latC lp1 (latC lp2 latN))) (latC ln0 (latC ln1 (latC ln2 (latC ln3 latN)))) (by decide) (by decide) (by decide) (by decide) rfl) (fun _ q => nomatch q) rfl rfl rfl (by decide) ⟨⟨nle rfl, nle rfl⟩, nle rfl, nle rfl⟩ ?_
  intro v97 h98 hq99 _
  obtain ⟨rfl, rfl⟩ := hq99
  show WlO _ _ _ _ _ _ _ _ _ _ _ _ _ _ _ _ _ _ [.int (1 : Int32)]
  refine Wl.ifN 386 at_383 (feq (by decide)).1 ?_
  refine Wl.aload 388 at_386 rfl rfl ?_
  refine Wl.bipush 390 (11 : Int32) at_388 (by decide) ?_
  refine Wl.iload 392 at_390 rfl ?_
  refine Wl.aload 394 at_392 rfl rfl ?_
  refine Wl.iload_n 395 at_394 rfl ?_
  refine Wl.aload 397 at_395 rfl rfl ?_
  refine Wl.iload 399 at_397 rfl ?_
  refine Wl.static 402 (argsL := [.ref s41, .int (11 : Int32), .int (11 : Int32), .ref xp, .int (0 : Int32), .ref yn, .int (3 : Int32)]) at_399 (w227 hw) (w228 hw) (w3 hw) (w229 hw) (show parseMethodDescriptor "(Ljava/lang/String;II[CI[CI)Z" = some ⟨[(.object "java/lang/String"), .int, .int, (.array .char), .int, (.array .char), .int], some .boolean⟩ by decide +kernel) rfl (atC_met hw (by decide)) (fun _ q => nomatch q) rfl rfl rfl (by decide) ⟨⟨nle rfl, nle rfl⟩, nle rfl, nle rfl⟩ ?_
  intro v100 h101 hq102 _
  obtain ⟨rfl, rfl⟩ := hq102
  show WlO _ _ _ _ _ _ _ _ _ _ _ _ _ _ _ _ _ _ [.int (1 : Int32)]
  refine Wl.ifN 405 at_402 (feq (by decide)).1 ?_
  refine Wl.aload 407 at_405 rfl rfl ?_
  refine Wl.bipush 409 (12 : Int32) at_407 (by decide) ?_
  refine Wl.iload 411 at_409 rfl ?_
  refine Wl.aload 413 at_411 rfl rfl ?_
  refine Wl.iload_n 414 at_413 rfl ?_
  refine Wl.aload 416 at_414 rfl rfl ?_
  refine Wl.iload 418 at_416 rfl ?_
  refine Wl.static 421 (argsL := [.ref s41, .int (12 : Int32), .int (11 : Int32), .ref xp, .int (0 : Int32), .ref yn, .int (3 : Int32)]) at_418 (w227 hw) (w228 hw) (w3 hw) (w229 hw) (show parseMethodDescriptor "(Ljava/lang/String;II[CI[CI)Z" = some ⟨[(.object "java/lang/String"), .int, .int, (.array .char), .int, (.array .char), .int], some .boolean⟩ by decide +kernel) rfl (atC_met hw (by decide)) (fun _ q => nomatch q) rfl rfl rfl (by decide) ⟨⟨nle rfl, nle rfl⟩, nle rfl, nle rfl⟩ ?_
  intro v103 h104 hq105 _
  obtain ⟨rfl, rfl⟩ := hq105
  show WlO _ _ _ _ _ _ _ _ _ _ _ _ _ _ _ _ _ _ [.int (1 : Int32)]
  refine Wl.ifN 424 at_421 (feq (by decide)).1 ?_
  refine Wl.aload 426 at_424 rfl rfl ?_
  refine Wl.bipush 428 (13 : Int32) at_426 (by decide) ?_
  refine Wl.iload 430 at_428 rfl ?_
  refine Wl.aload 432 at_430 rfl rfl ?_
  refine Wl.iload_n 433 at_432 rfl ?_
  refine Wl.aload 435 at_433 rfl rfl ?_
  refine Wl.iload 437 at_435 rfl ?_
  refine Wl.static 440 (argsL := [.ref s41, .int (13 : Int32), .int (11 : Int32), .ref xp, .int (0 : Int32), .ref yn, .int (3 : Int32)]) at_437 (w227 hw) (w228 hw) (w3 hw) (w229 hw) (show parseMethodDescriptor "(Ljava/lang/String;II[CI[CI)Z" = some ⟨[(.object "java/lang/String"), .int, .int, (.array .char), .int, (.array .char), .int], some .boolean⟩ by decide +kernel) rfl (atC_met hw (by decide)) (fun _ q => nomatch q) rfl rfl rfl (by decide) ⟨⟨nle rfl, nle rfl⟩, nle rfl, nle rfl⟩ ?_
  intro v106 h107 hq108 _
  obtain ⟨rfl, rfl⟩ := hq108
  show WlO _ _ _ _ _ _ _ _ _ _ _ _ _ _ _ _ _ _ [.int (1 : Int32)]
  refine Wl.ifN 443 at_440 (feq (by decide)).1 ?_
  refine Wl.aload 445 at_443 rfl rfl ?_
  refine Wl.bipush 447 (14 : Int32) at_445 (by decide) ?_
  refine Wl.iload 449 at_447 rfl ?_
  refine Wl.aload 451 at_449 rfl rfl ?_
  refine Wl.iload_n 452 at_451 rfl ?_
  refine Wl.aload 454 at_452 rfl rfl ?_
  refine Wl.iload 456 at_454 rfl ?_
  refine Wl.static 459 (argsL := [.ref s41, .int (14 : Int32), .int (11 : Int32), .ref xp, .int (0 : Int32), .ref yn, .int (3 : Int32)]) at_456 (w227 hw) (w228 hw) (w3 hw) (w229 hw) (show parseMethodDescriptor "(Ljava/lang/String;II[CI[CI)Z" = some ⟨[(.object "java/lang/String"), .int, .int, (.array .char), .int, (.array .char), .int], some .boolean⟩ by decide +kernel) rfl (atC_met hw (by decide)) (fun _ q => nomatch q) rfl rfl rfl (by decide) ⟨⟨nle rfl, nle rfl⟩, nle rfl, nle rfl⟩ ?_
  intro v109 h110 hq111 _
  obtain ⟨rfl, rfl⟩ := hq111
  show WlO _ _ _ _ _ _ _ _ _ _ _ _ _ _ _ _ _ _ [.int (1 : Int32)]
  refine Wl.ifN 462 at_459 (feq (by decide)).1 ?_
  refine Wl.iconst 463 (1 : Int32) at_462 (by decide) ?_
  refine Wl.goto 467 at_463 ?_
  exact Wl.ireturn at_467 rfl rfl (by simp) (nle rfl) (nle rfl) rfl
set_option maxRecDepth 65536 in
set_option maxHeartbeats 40000000 in
theorem law_t04 {l : Launch} {Z : State} {a0 : Array Value} (hw : ∀ d ∈ tables_1, d.before a0 Z = true) (hcs : CSon Z) (hfm : Fmt Z) {as : Array Value} {h : Heap} {i0 i1 i2 p0 p1 p2 n0 n1 n2 n3 : Int32} {xp yn : Addr} {kx ky : ClassId} (A : Arv Z h xp kx .char (3 : Int32) [.int p0, .int p1, .int p2] (.int 0)) (B : Arv Z h yn ky .char (4 : Int32) [.int n0, .int n1, .int n2, .int n3] (.int 0)) (lp0 : Lat p0) (lp1 : Lat p1) (lp2 : Lat p2) (ln0 : Lat n0) (ln1 : Lat n1) (ln2 : Lat n2) (ln3 : Lat n3) (p0123 : p0 ≠ 123) (p0125 : p0 ≠ 125) (p1123 : p1 ≠ 123) (p1125 : p1 ≠ 125) (p2123 : p2 ≠ 123) (p2125 : p2 ≠ 125) (hn0 : ¬ n0 = (125 : Int32)) :
    Wl l Z a0 consts_1 x code maxLocals ret room_1 as (fun v h' => v = some (.int 1)) [] h 2 7 116 #[.val (.int i0), .val (.int i1), .val (.int i2), .val (.int (0 : Int32)), .val (.int (4 : Int32)), .val (.ref xp), .val (.ref yn), .unset, .unset, .unset, .unset, .unset] [] := by
  refine Wl.aload 118 at_116 rfl rfl ?_
  refine Wl.iload_n 119 at_118 rfl ?_
  refine Wl.static 122 (argsL := [.ref xp, .int (0 : Int32)]) at_119 (w5 hw) (w6 hw) (w3 hw) (w7 hw) (show parseMethodDescriptor "([CI)Ljava/lang/String;" = some ⟨[(.array .char), .int], some (.object "java/lang/String")⟩ by decide +kernel) rfl (mk30_met hw hcs A lp0 lp1 lp2) (fun _ q => nomatch q) rfl rfl rfl (by decide) ⟨⟨nle rfl, nle rfl⟩, nle rfl, nle rfl⟩ ?_
  intro v1 h2 hq3 _
  obtain ⟨a4, rfl, E5, S6⟩ := hq3
  have B7 : Ext h h2 := E5
  show WlO _ _ _ _ _ _ _ _ _ _ _ _ _ _ _ _ _ _ [.ref a4]
  refine Wl.astore 124 #[.val (.int i0), .val (.int i1), .val (.int i2), .val (.int (0 : Int32)), .val (.int (4 : Int32)), .val (.ref xp), .val (.ref yn), .val (.ref a4), .unset, .unset, .unset, .unset] at_122 rfl rfl ?_
  refine Wl.aload 126 at_124 rfl rfl ?_
  refine Wl.iload 128 at_126 rfl ?_
  refine Wl.static 131 (argsL := [.ref yn, .int (4 : Int32)]) at_128 (w5 hw) (w6 hw) (w3 hw) (w7 hw) (show parseMethodDescriptor "([CI)Ljava/lang/String;" = some ⟨[(.array .char), .int], some (.object "java/lang/String")⟩ by decide +kernel) rfl (mk44_met hw hcs (B.ext E5) ln0 ln1 ln2 ln3) (fun _ q => nomatch q) rfl rfl rfl (by decide) ⟨⟨nle rfl, nle rfl⟩, nle rfl, nle rfl⟩ ?_
  intro v8 h9 hq10 _
  obtain ⟨a11, rfl, E12, S13⟩ := hq10
  have B14 : Ext h h9 := extTr B7 E12
  show WlO _ _ _ _ _ _ _ _ _ _ _ _ _ _ _ _ _ _ [.ref a11]
  refine Wl.astore 133 #[.val (.int i0), .val (.int i1), .val (.int i2), .val (.int (0 : Int32)), .val (.int (4 : Int32)), .val (.ref xp), .val (.ref yn), .val (.ref a4), .val (.ref a11), .unset, .unset, .unset] at_131 rfl rfl ?_
  refine Wl.new 136 at_133 (w37 hw) (w38 hw) (w39 hw) (nle rfl) (nle rfl) ?_
  intro a15 h16 q17 E18 X19 D20
  have z21 : h.size ≤ a15 := Nat.le_trans B14.1 (Nat.le_of_eq q17.symm)
  have z22 : h9.size ≤ a15 := Nat.le_of_eq q17.symm
  have ne23 : xp ≠ a15 := Nat.ne_of_lt (by rw [q17]; exact ((A.ext B14)).lt)
  have ne24 : yn ≠ a15 := Nat.ne_of_lt (by rw [q17]; exact ((B.ext B14)).lt)
  have ne25 : a4 ≠ a15 := Nat.ne_of_lt (by rw [q17]; exact (((S6).exa.ext E12)).lt)
  have ne26 : a11 ≠ a15 := Nat.ne_of_lt (by rw [q17]; exact ((S13).exa).lt)
  have B27 : Ext h h16 := extTr B14 E18
  have B28 : Ext h9 h16 := E18
  have F29 : Fld Z h16 a15 "com/example/portunus/portunus/LockKeys" "prefix" "Ljava/lang/String;" (.null) := D20 (Or.inr (w94 hw)) (ty := (.object "java/lang/String")) (by decide)
  refine Wl.dup 137 at_136 rfl ?_
  refine Wl.aload 139 at_137 rfl rfl ?_
  refine Wl.special 142 (argsL := [.ref a4]) at_139 (w40 hw) (w41 hw) (w39 hw) (w42 hw) (show parseMethodDescriptor "(Ljava/lang/String;)V" = some ⟨[(.object "java/lang/String")], none⟩ by decide +kernel) rfl (keys_met hw hcs X19 F29 (cs := []) ((S6.ext E12).ext E18) neN neN) (allS (List.mem_of_getElem? (i := 0) rfl) (fun _ q => nomatch q)) rfl rfl rfl rfl (by decide) ⟨⟨nle rfl, nle rfl⟩, nle rfl, nle rfl⟩ ?_
  intro v30 h31 hq32 _
  obtain ⟨rfl, K33, X34, F35⟩ := hq32
  have B36 : Ext h h31 := extKeep B27 K33 (allS z21 all0)
  have B37 : Ext h9 h31 := extKeep B28 K33 (allS z22 all0)
  show WlO _ _ _ _ _ _ _ _ _ _ _ _ _ _ _ _ _ _ [.ref a15]
  refine Wl.astore 144 #[.val (.int i0), .val (.int i1), .val (.int i2), .val (.int (0 : Int32)), .val (.int (4 : Int32)), .val (.ref xp), .val (.ref yn), .val (.ref a4), .val (.ref a11), .val (.ref a15), .unset, .unset] at_142 rfl rfl ?_
  refine Wl.aload 146 at_144 rfl rfl ?_
  refine Wl.aload 148 at_146 rfl rfl ?_
  refine Wl.virtual 151 (argsL := [.ref a11]) at_148 (w95 hw) (w96 hw) (w98 hw) (w97 hw) (w39 hw) (w99 hw) (nf_sel (w98 hw) rfl) X34 (show parseMethodDescriptor "(Ljava/lang/String;)Ljava/lang/String;" = some ⟨[(.object "java/lang/String")], some (.object "java/lang/String")⟩ by decide +kernel) rfl (key_met hw hcs hfm (cs := [n0, n1, n2, n3]) (ps := []) F35 ((S6.ext E12).ext B37) (nle rfl) (S13.ext B37) (by simp) (nle rfl) hn0 (nle rfl)) (fun _ q => nomatch q) rfl rfl rfl (by decide) ⟨⟨nle rfl, nle rfl⟩, nle rfl, nle rfl⟩ ?_
  intro v38 h39 hq40 _
  obtain ⟨s41, rfl, E42, S43⟩ := hq40
  have S43 : Stl Z h39 s41 [(113 : Int32), (117 : Int32), (101 : Int32), (117 : Int32), (101 : Int32), (58 : Int32), (123 : Int32), n0, n1, n2, n3, (125 : Int32)] := S43
  have B44 : Ext h h39 := extTr B36 E42
  have B45 : Ext h9 h39 := extTr B37 E42
  show WlO _ _ _ _ _ _ _ _ _ _ _ _ _ _ _ _ _ _ [.ref s41]
  refine Wl.astore 153 #[.val (.int i0), .val (.int i1), .val (.int i2), .val (.int (0 : Int32)), .val (.int (4 : Int32)), .val (.ref xp), .val (.ref yn), .val (.ref a4), .val (.ref a11), .val (.ref a15), .val (.ref s41), .unset] at_151 rfl rfl ?_
  refine Wl.iload_n 154 at_153 rfl ?_
  refine Wl.bipush 156 (6 : Int32) at_154 (by decide) ?_
  refine Wl.iadd 157 at_156 ?_
  show WlO _ _ _ _ _ _ _ _ _ _ _ _ _ _ _ _ _ _ [.int (6 : Int32)]
  refine Wl.iconst 158 (1 : Int32) at_157 (by decide) ?_
  refine Wl.iadd 159 at_158 ?_
  show WlO _ _ _ _ _ _ _ _ _ _ _ _ _ _ _ _ _ _ [.int (7 : Int32)]
  refine Wl.iload 161 at_159 rfl ?_
  refine Wl.iadd 162 at_161 ?_
  show WlO _ _ _ _ _ _ _ _ _ _ _ _ _ _ _ _ _ _ [.int (11 : Int32)]
  refine Wl.iconst 163 (1 : Int32) at_162 (by decide) ?_
  refine Wl.iadd 164 at_163 ?_
  show WlO _ _ _ _ _ _ _ _ _ _ _ _ _ _ _ _ _ _ [.int (12 : Int32)]
  refine Wl.istore 166 #[.val (.int i0), .val (.int i1), .val (.int i2), .val (.int (0 : Int32)), .val (.int (4 : Int32)), .val (.ref xp), .val (.ref yn), .val (.ref a4), .val (.ref a11), .val (.ref a15), .val (.ref s41), .val (.int (12 : Int32))] at_164 rfl ?_
  refine Wl.aload 168 at_166 rfl rfl ?_
  refine Wl.ifnullN 171 at_168 ?_
  refine Wl.aload 173 at_171 rfl rfl ?_
  refine Wl.virtual 176 (argsL := []) at_173 (w226 hw) (w67 hw) (w69 hw) (w68 hw) (w10 hw) (w70 hw) (nf_sel (w69 hw) rfl) (S43).exa (show parseMethodDescriptor "()I" = some ⟨[], some .int⟩ by decide +kernel) rfl (len_met hw hcs S43) (fun _ q => nomatch q) rfl rfl rfl (by decide) ⟨⟨nle rfl, nle rfl⟩, nle rfl, nle rfl⟩ ?_
  intro v46 h47 hq48 _
  obtain ⟨rfl, rfl⟩ := hq48
  show WlO _ _ _ _ _ _ _ _ _ _ _ _ _ _ _ _ _ _ [.int (12 : Int32)]
  refine Wl.iload 178 at_176 rfl ?_
  refine Wl.icmpY 183 at_178 (teq (by decide)).1 ?_
  refine Wl.aload 185 at_183 rfl rfl ?_
  refine Wl.iconst 186 (0 : Int32) at_185 (by decide) ?_
  refine Wl.iload 188 at_186 rfl ?_
  refine Wl.aload 190 at_188 rfl rfl ?_
  refine Wl.iload_n 191 at_190 rfl ?_
  refine Wl.aload 193 at_191 rfl rfl ?_
  refine Wl.iload 195 at_193 rfl ?_
  refine Wl.static 198 (argsL := [.ref s41, .int (0 : Int32), .int (12 : Int32), .ref xp, .int (0 : Int32), .ref yn, .int (4 : Int32)]) at_195 (w227 hw) (w228 hw) (w3 hw) (w229 hw) (show parseMethodDescriptor "(Ljava/lang/String;II[CI[CI)Z" = some ⟨[(.object "java/lang/String"), .int, .int, (.array .char), .int, (.array .char), .int], some .boolean⟩ by decide +kernel) rfl (atA_met hw hcs hfm (rs := [(113 : Int32), (117 : Int32), (101 : Int32), (117 : Int32), (101 : Int32), (58 : Int32), (123 : Int32), n0, n1, n2, n3, (125 : Int32)]) (ps := [p0, p1, p2]) (ns := [n0, n1, n2, n3]) (n := 0) (j := 0) S43 (nle rfl) (by decide) (A.ext B44) (B.ext B44) (nle rfl) (nle rfl) (latC lp0 (latC lp1 (latC lp2 latN))) (latC ln0 (latC ln1 (latC ln2 (latC ln3 latN)))) (by decide) (by decide) (by decide) (nle rfl) rfl) (fun _ q => nomatch q) rfl rfl rfl (by decide) ⟨⟨nle rfl, nle rfl⟩, nle rfl, nle rfl⟩ ?_
  intro v49 h50 hq51 _
  obtain ⟨rfl, E52⟩ := hq51
  have B53 : Ext h h50 := extTr B44 E52
  have B54 : Ext h9 h50 := extTr B45 E52
  show WlO _ _ _ _ _ _ _ _ _ _ _ _ _ _ _ _ _ _ [.int (1 : Int32)]
  refine Wl.ifN 201 at_198 (feq (by decide)).1 ?_
  refine Wl.aload 203 at_201 rfl rfl ?_
  refine Wl.iconst 204 (1 : Int32) at_203 (by decide) ?_
  refine Wl.iload 206 at_204 rfl ?_
  refine Wl.aload 208 at_206 rfl rfl ?_
  refine Wl.iload_n 209 at_208 rfl ?_
  refine Wl.aload 211 at_209 rfl rfl ?_
  refine Wl.iload 213 at_211 rfl ?_
  refine Wl.static 216 (argsL := [.ref s41, .int (1 : Int32), .int (12 : Int32), .ref xp, .int (0 : Int32), .ref yn, .int (4 : Int32)]) at_213 (w227 hw) (w228 hw) (w3 hw) (w229 hw) (show parseMethodDescriptor "(Ljava/lang/String;II[CI[CI)Z" = some ⟨[(.object "java/lang/String"), .int, .int, (.array .char), .int, (.array .char), .int], some .boolean⟩ by decide +kernel) rfl (atA_met hw hcs hfm (rs := [(113 : Int32), (117 : Int32), (101 : Int32), (117 : Int32), (101 : Int32), (58 : Int32), (123 : Int32), n0, n1, n2, n3, (125 : Int32)]) (ps := [p0, p1, p2]) (ns := [n0, n1, n2, n3]) (n := 1) (j := 1) (S43.ext E52) (nle rfl) (by decide) (A.ext B53) (B.ext B53) (nle rfl) (nle rfl) (latC lp0 (latC lp1 (latC lp2 latN))) (latC ln0 (latC ln1 (latC ln2 (latC ln3 latN)))) (by decide) (by decide) (by decide) (nle rfl) rfl) (fun _ q => nomatch q) rfl rfl rfl (by decide) ⟨⟨nle rfl, nle rfl⟩, nle rfl, nle rfl⟩ ?_
  intro v55 h56 hq57 _
  obtain ⟨rfl, E58⟩ := hq57
  have B59 : Ext h h56 := extTr B53 E58
  have B60 : Ext h9 h56 := extTr B54 E58
  show WlO _ _ _ _ _ _ _ _ _ _ _ _ _ _ _ _ _ _ [.int (1 : Int32)]
  refine Wl.ifN 219 at_216 (feq (by decide)).1 ?_
  refine Wl.aload 221 at_219 rfl rfl ?_
  refine Wl.iconst 222 (2 : Int32) at_221 (by decide) ?_
  refine Wl.iload 224 at_222 rfl ?_
  refine Wl.aload 226 at_224 rfl rfl ?_
  refine Wl.iload_n 227 at_226 rfl ?_
  refine Wl.aload 229 at_227 rfl rfl ?_
  refine Wl.iload 231 at_229 rfl ?_
  refine Wl.static 234 (argsL := [.ref s41, .int (2 : Int32), .int (12 : Int32), .ref xp, .int (0 : Int32), .ref yn, .int (4 : Int32)]) at_231 (w227 hw) (w228 hw) (w3 hw) (w229 hw) (show parseMethodDescriptor "(Ljava/lang/String;II[CI[CI)Z" = some ⟨[(.object "java/lang/String"), .int, .int, (.array .char), .int, (.array .char), .int], some .boolean⟩ by decide +kernel) rfl (atA_met hw hcs hfm (rs := [(113 : Int32), (117 : Int32), (101 : Int32), (117 : Int32), (101 : Int32), (58 : Int32), (123 : Int32), n0, n1, n2, n3, (125 : Int32)]) (ps := [p0, p1, p2]) (ns := [n0, n1, n2, n3]) (n := 2) (j := 2) ((S43.ext E52).ext E58) (nle rfl) (by decide) (A.ext B59) (B.ext B59) (nle rfl) (nle rfl) (latC lp0 (latC lp1 (latC lp2 latN))) (latC ln0 (latC ln1 (latC ln2 (latC ln3 latN)))) (by decide) (by decide) (by decide) (nle rfl) rfl) (fun _ q => nomatch q) rfl rfl rfl (by decide) ⟨⟨nle rfl, nle rfl⟩, nle rfl, nle rfl⟩ ?_
  intro v61 h62 hq63 _
  obtain ⟨rfl, E64⟩ := hq63
  have B65 : Ext h h62 := extTr B59 E64
  have B66 : Ext h9 h62 := extTr B60 E64
  show WlO _ _ _ _ _ _ _ _ _ _ _ _ _ _ _ _ _ _ [.int (1 : Int32)]
  refine Wl.ifN 237 at_234 (feq (by decide)).1 ?_
  refine Wl.aload 239 at_237 rfl rfl ?_
  refine Wl.iconst 240 (3 : Int32) at_239 (by decide) ?_
  refine Wl.iload 242 at_240 rfl ?_
  refine Wl.aload 244 at_242 rfl rfl ?_
  refine Wl.iload_n 245 at_244 rfl ?_
  refine Wl.aload 247 at_245 rfl rfl ?_
  refine Wl.iload 249 at_247 rfl ?_
  refine Wl.static 252 (argsL := [.ref s41, .int (3 : Int32), .int (12 : Int32), .ref xp, .int (0 : Int32), .ref yn, .int (4 : Int32)]) at_249 (w227 hw) (w228 hw) (w3 hw) (w229 hw) (show parseMethodDescriptor "(Ljava/lang/String;II[CI[CI)Z" = some ⟨[(.object "java/lang/String"), .int, .int, (.array .char), .int, (.array .char), .int], some .boolean⟩ by decide +kernel) rfl (atA_met hw hcs hfm (rs := [(113 : Int32), (117 : Int32), (101 : Int32), (117 : Int32), (101 : Int32), (58 : Int32), (123 : Int32), n0, n1, n2, n3, (125 : Int32)]) (ps := [p0, p1, p2]) (ns := [n0, n1, n2, n3]) (n := 3) (j := 3) (((S43.ext E52).ext E58).ext E64) (nle rfl) (by decide) (A.ext B65) (B.ext B65) (nle rfl) (nle rfl) (latC lp0 (latC lp1 (latC lp2 latN))) (latC ln0 (latC ln1 (latC ln2 (latC ln3 latN)))) (by decide) (by decide) (by decide) (nle rfl) rfl) (fun _ q => nomatch q) rfl rfl rfl (by decide) ⟨⟨nle rfl, nle rfl⟩, nle rfl, nle rfl⟩ ?_
  intro v67 h68 hq69 _
  obtain ⟨rfl, E70⟩ := hq69
  have B71 : Ext h h68 := extTr B65 E70
  have B72 : Ext h9 h68 := extTr B66 E70
  show WlO _ _ _ _ _ _ _ _ _ _ _ _ _ _ _ _ _ _ [.int (1 : Int32)]
  refine Wl.ifN 255 at_252 (feq (by decide)).1 ?_
  refine Wl.aload 257 at_255 rfl rfl ?_
  refine Wl.iconst 258 (4 : Int32) at_257 (by decide) ?_
  refine Wl.iload 260 at_258 rfl ?_
  refine Wl.aload 262 at_260 rfl rfl ?_
  refine Wl.iload_n 263 at_262 rfl ?_
  refine Wl.aload 265 at_263 rfl rfl ?_
  refine Wl.iload 267 at_265 rfl ?_
  refine Wl.static 270 (argsL := [.ref s41, .int (4 : Int32), .int (12 : Int32), .ref xp, .int (0 : Int32), .ref yn, .int (4 : Int32)]) at_267 (w227 hw) (w228 hw) (w3 hw) (w229 hw) (show parseMethodDescriptor "(Ljava/lang/String;II[CI[CI)Z" = some ⟨[(.object "java/lang/String"), .int, .int, (.array .char), .int, (.array .char), .int], some .boolean⟩ by decide +kernel) rfl (atA_met hw hcs hfm (rs := [(113 : Int32), (117 : Int32), (101 : Int32), (117 : Int32), (101 : Int32), (58 : Int32), (123 : Int32), n0, n1, n2, n3, (125 : Int32)]) (ps := [p0, p1, p2]) (ns := [n0, n1, n2, n3]) (n := 4) (j := 4) ((((S43.ext E52).ext E58).ext E64).ext E70) (nle rfl) (by decide) (A.ext B71) (B.ext B71) (nle rfl) (nle rfl) (latC lp0 (latC lp1 (latC lp2 latN))) (latC ln0 (latC ln1 (latC ln2 (latC ln3 latN)))) (by decide) (by decide) (by decide) (nle rfl) rfl) (fun _ q => nomatch q) rfl rfl rfl (by decide) ⟨⟨nle rfl, nle rfl⟩, nle rfl, nle rfl⟩ ?_
  intro v73 h74 hq75 _
  obtain ⟨rfl, E76⟩ := hq75
  have B77 : Ext h h74 := extTr B71 E76
  have B78 : Ext h9 h74 := extTr B72 E76
  show WlO _ _ _ _ _ _ _ _ _ _ _ _ _ _ _ _ _ _ [.int (1 : Int32)]
  refine Wl.ifN 273 at_270 (feq (by decide)).1 ?_
  refine Wl.aload 275 at_273 rfl rfl ?_
  refine Wl.iconst 276 (5 : Int32) at_275 (by decide) ?_
  refine Wl.iload 278 at_276 rfl ?_
  refine Wl.aload 280 at_278 rfl rfl ?_
  refine Wl.iload_n 281 at_280 rfl ?_
  refine Wl.aload 283 at_281 rfl rfl ?_
  refine Wl.iload 285 at_283 rfl ?_
  refine Wl.static 288 (argsL := [.ref s41, .int (5 : Int32), .int (12 : Int32), .ref xp, .int (0 : Int32), .ref yn, .int (4 : Int32)]) at_285 (w227 hw) (w228 hw) (w3 hw) (w229 hw) (show parseMethodDescriptor "(Ljava/lang/String;II[CI[CI)Z" = some ⟨[(.object "java/lang/String"), .int, .int, (.array .char), .int, (.array .char), .int], some .boolean⟩ by decide +kernel) rfl (atA_met hw hcs hfm (rs := [(113 : Int32), (117 : Int32), (101 : Int32), (117 : Int32), (101 : Int32), (58 : Int32), (123 : Int32), n0, n1, n2, n3, (125 : Int32)]) (ps := [p0, p1, p2]) (ns := [n0, n1, n2, n3]) (n := 5) (j := 5) (((((S43.ext E52).ext E58).ext E64).ext E70).ext E76) (nle rfl) (by decide) (A.ext B77) (B.ext B77) (nle rfl) (nle rfl) (latC lp0 (latC lp1 (latC lp2 latN))) (latC ln0 (latC ln1 (latC ln2 (latC ln3 latN)))) (by decide) (by decide) (by decide) (nle rfl) rfl) (fun _ q => nomatch q) rfl rfl rfl (by decide) ⟨⟨nle rfl, nle rfl⟩, nle rfl, nle rfl⟩ ?_
  intro v79 h80 hq81 _
  obtain ⟨rfl, E82⟩ := hq81
  have B83 : Ext h h80 := extTr B77 E82
  have B84 : Ext h9 h80 := extTr B78 E82
  show WlO _ _ _ _ _ _ _ _ _ _ _ _ _ _ _ _ _ _ [.int (1 : Int32)]
  refine Wl.ifN 291 at_288 (feq (by decide)).1 ?_
  refine Wl.aload 293 at_291 rfl rfl ?_
  refine Wl.bipush 295 (6 : Int32) at_293 (by decide) ?_
  refine Wl.iload 297 at_295 rfl ?_
  refine Wl.aload 299 at_297 rfl rfl ?_
  refine Wl.iload_n 300 at_299 rfl ?_
  refine Wl.aload 302 at_300 rfl rfl ?_
  refine Wl.iload 304 at_302 rfl ?_
  refine Wl.static 307 (argsL := [.ref s41, .int (6 : Int32), .int (12 : Int32), .ref xp, .int (0 : Int32), .ref yn, .int (4 : Int32)]) at_304 (w227 hw) (w228 hw) (w3 hw) (w229 hw) (show parseMethodDescriptor "(Ljava/lang/String;II[CI[CI)Z" = some ⟨[(.object "java/lang/String"), .int, .int, (.array .char), .int, (.array .char), .int], some .boolean⟩ by decide +kernel) rfl (atO_met hw hcs hfm (rs := [(113 : Int32), (117 : Int32), (101 : Int32), (117 : Int32), (101 : Int32), (58 : Int32), (123 : Int32), n0, n1, n2, n3, (125 : Int32)]) (ps := [p0, p1, p2]) (ns := [n0, n1, n2, n3]) (n := 6) ((((((S43.ext E52).ext E58).ext E64).ext E70).ext E76).ext E82) (nle rfl) (by decide) (A.ext B83) (B.ext B83) (nle rfl) (nle rfl) (latC lp0 (latC lp1 (latC lp2 latN))) (latC ln0 (latC ln1 (latC ln2 (latC ln3 latN)))) (by decide) (by decide) (by decide) rfl) (fun _ q => nomatch q) rfl rfl rfl (by decide) ⟨⟨nle rfl, nle rfl⟩, nle rfl, nle rfl⟩ ?_
  intro v85 h86 hq87 _
  obtain ⟨rfl, rfl⟩ := hq87
  show WlO _ _ _ _ _ _ _ _ _ _ _ _ _ _ _ _ _ _ [.int (1 : Int32)]
  refine Wl.ifN 310 at_307 (feq (by decide)).1 ?_
  refine Wl.aload 312 at_310 rfl rfl ?_
  refine Wl.bipush 314 (7 : Int32) at_312 (by decide) ?_
  refine Wl.iload 316 at_314 rfl ?_
  refine Wl.aload 318 at_316 rfl rfl ?_
  refine Wl.iload_n 319 at_318 rfl ?_
  refine Wl.aload 321 at_319 rfl rfl ?_
  refine Wl.iload 323 at_321 rfl ?_
  refine Wl.static 326 (argsL := [.ref s41, .int (7 : Int32), .int (12 : Int32), .ref xp, .int (0 : Int32), .ref yn, .int (4 : Int32)]) at_323 (w227 hw) (w228 hw) (w3 hw) (w229 hw) (show parseMethodDescriptor "(Ljava/lang/String;II[CI[CI)Z" = some ⟨[(.object "java/lang/String"), .int, .int, (.array .char), .int, (.array .char), .int], some .boolean⟩ by decide +kernel) rfl (atN_met hw hcs hfm (rs := [(113 : Int32), (117 : Int32), (101 : Int32), (117 : Int32), (101 : Int32), (58 : Int32), (123 : Int32), n0, n1, n2, n3, (125 : Int32)]) (ps := [p0, p1, p2]) (ns := [n0, n1, n2, n3]) (n := 7) (m := 0) ((((((S43.ext E52).ext E58).ext E64).ext E70).ext E76).ext E82) (nle rfl) (by decide) (A.ext B83) (B.ext B83) (nle rfl) (nle rfl) (latC lp0 (latC lp1 (latC lp2 latN))) (latC ln0 (latC ln1 (latC ln2 (latC ln3 latN)))) (by decide) (by decide) (by decide) (by decide) (by decide) (nle rfl) rfl) (fun _ q => nomatch q) rfl rfl rfl (by decide) ⟨⟨nle rfl, nle rfl⟩, nle rfl, nle rfl⟩ ?_
  intro v88 h89 hq90 _
  obtain ⟨rfl, rfl⟩ := hq90
  show WlO _ _ _ _ _ _ _ _ _ _ _ _ _ _ _ _ _ _ [.int (1 : Int32)]
  refine Wl.ifN 329 at_326 (feq (by decide)).1 ?_
  refine Wl.aload 331 at_329 rfl rfl ?_
  refine Wl.bipush 333 (8 : Int32) at_331 (by decide) ?_
  refine Wl.iload 335 at_333 rfl ?_
  refine Wl.aload 337 at_335 rfl rfl ?_
  refine Wl.iload_n 338 at_337 rfl ?_
  refine Wl.aload 340 at_338 rfl rfl ?_
  refine Wl.iload 342 at_340 rfl ?_
  refine Wl.static 345 (argsL := [.ref s41, .int (8 : Int32), .int (12 : Int32), .ref xp, .int (0 : Int32), .ref yn, .int (4 : Int32)]) at_342 (w227 hw) (w228 hw) (w3 hw) (w229 hw) (show parseMethodDescriptor "(Ljava/lang/String;II[CI[CI)Z" = some ⟨[(.object "java/lang/String"), .int, .int, (.array .char), .int, (.array .char), .int], some .boolean⟩ by decide +kernel) rfl (atN_met hw hcs hfm (rs := [(113 : Int32), (117 : Int32), (101 : Int32), (117 : Int32), (101 : Int32), (58 : Int32), (123 : Int32), n0, n1, n2, n3, (125 : Int32)]) (ps := [p0, p1, p2]) (ns := [n0, n1, n2, n3]) (n := 8) (m := 1) ((((((S43.ext E52).ext E58).ext E64).ext E70).ext E76).ext E82) (nle rfl) (by decide) (A.ext B83) (B.ext B83) (nle rfl) (nle rfl) (latC lp0 (latC lp1 (latC lp2 latN))) (latC ln0 (latC ln1 (latC ln2 (latC ln3 latN)))) (by decide) (by decide) (by decide) (by decide) (by decide) (nle rfl) rfl) (fun _ q => nomatch q) rfl rfl rfl (by decide) ⟨⟨nle rfl, nle rfl⟩, nle rfl, nle rfl⟩ ?_
  intro v91 h92 hq93 _
  obtain ⟨rfl, rfl⟩ := hq93
  show WlO _ _ _ _ _ _ _ _ _ _ _ _ _ _ _ _ _ _ [.int (1 : Int32)]
  refine Wl.ifN 348 at_345 (feq (by decide)).1 ?_
  refine Wl.aload 350 at_348 rfl rfl ?_
  refine Wl.bipush 352 (9 : Int32) at_350 (by decide) ?_
  refine Wl.iload 354 at_352 rfl ?_
  refine Wl.aload 356 at_354 rfl rfl ?_
  refine Wl.iload_n 357 at_356 rfl ?_
  refine Wl.aload 359 at_357 rfl rfl ?_
  refine Wl.iload 361 at_359 rfl ?_
  refine Wl.static 364 (argsL := [.ref s41, .int (9 : Int32), .int (12 : Int32), .ref xp, .int (0 : Int32), .ref yn, .int (4 : Int32)]) at_361 (w227 hw) (w228 hw) (w3 hw) (w229 hw) (show parseMethodDescriptor "(Ljava/lang/String;II[CI[CI)Z" = some ⟨[(.object "java/lang/String"), .int, .int, (.array .char), .int, (.array .char), .int], some .boolean⟩ by decide +kernel) rfl (atN_met hw hcs hfm (rs := [(113 : Int32), (117 : Int32), (101 : Int32), (117 : Int32), (101 : Int32), (58 : Int32), (123 : Int32), n0, n1, n2, n3, (125 : Int32)]) (ps := [p0, p1, p2]) (ns := [n0, n1, n2, n3]) (n := 9) (m := 2) ((((((S43.ext E52).ext E58).ext E64).ext E70).ext E76).ext E82) (nle rfl) (by decide) (A.ext B83) (B.ext B83) (nle rfl) (nle rfl) (latC lp0 (latC lp1 (latC lp2 latN))) (latC ln0 (latC ln1 (latC ln2 (latC ln3 latN)))) (by decide) (by decide) (by decide) (by decide) (by decide) (nle rfl) rfl) (fun _ q => nomatch q) rfl rfl rfl (by decide) ⟨⟨nle rfl, nle rfl⟩, nle rfl, nle rfl⟩ ?_
  intro v94 h95 hq96 _
  obtain ⟨rfl, rfl⟩ := hq96
  show WlO _ _ _ _ _ _ _ _ _ _ _ _ _ _ _ _ _ _ [.int (1 : Int32)]
  refine Wl.ifN 367 at_364 (feq (by decide)).1 ?_
  refine Wl.aload 369 at_367 rfl rfl ?_
  refine Wl.bipush 371 (10 : Int32) at_369 (by decide) ?_
  refine Wl.iload 373 at_371 rfl ?_
  refine Wl.aload 375 at_373 rfl rfl ?_
  refine Wl.iload_n 376 at_375 rfl ?_
  refine Wl.aload 378 at_376 rfl rfl ?_
  refine Wl.iload 380 at_378 rfl ?_
  refine Wl.static 383 (argsL := [.ref s41, .int (10 : Int32), .int (12 : Int32), .ref xp, .int (0 : Int32), .ref yn, .int (4 : Int32)]) at_380 (w227 hw) (w228 hw) (w3 hw) (w229 hw) (show parseMethodDescriptor "(Ljava/lang/String;II[CI[CI)Z" = some ⟨[(.object "java/lang/String"), .int, .int, (.array .char), .int, (.array .char), .int], some .boolean⟩ by decide +kernel) rfl (atN_met hw hcs hfm (rs := [(113 : Int32), (117 : Int32), (101 : Int32), (117 : Int32), (101 : Int32), (58 : Int32), (123 : Int32), n0, n1, n2, n3, (125 : Int32)]) (ps := [p0, p1, p2]) (ns := [n0, n1, n2, n3]) (n := 10) (m := 3) ((((((S43.ext E52).ext E58).ext E64).ext E70).ext E76).ext E82) (nle rfl) (by decide) (A.ext B83) (B.ext B83) (nle rfl) (nle rfl) (latC lp0 (latC lp1 (latC lp2 latN))) (latC ln0 (latC ln1 (latC ln2 (latC ln3 latN)))) (by decide) (by decide) (by decide) (by decide) (by decide) (nle rfl) rfl) (fun _ q => nomatch q) rfl rfl rfl (by decide) ⟨⟨nle rfl, nle rfl⟩, nle rfl, nle rfl⟩ ?_
  intro v97 h98 hq99 _
  obtain ⟨rfl, rfl⟩ := hq99
  show WlO _ _ _ _ _ _ _ _ _ _ _ _ _ _ _ _ _ _ [.int (1 : Int32)]
  refine Wl.ifN 386 at_383 (feq (by decide)).1 ?_
  refine Wl.aload 388 at_386 rfl rfl ?_
  refine Wl.bipush 390 (11 : Int32) at_388 (by decide) ?_
  refine Wl.iload 392 at_390 rfl ?_
  refine Wl.aload 394 at_392 rfl rfl ?_
  refine Wl.iload_n 395 at_394 rfl ?_
  refine Wl.aload 397 at_395 rfl rfl ?_
  refine Wl.iload 399 at_397 rfl ?_
  refine Wl.static 402 (argsL := [.ref s41, .int (11 : Int32), .int (12 : Int32), .ref xp, .int (0 : Int32), .ref yn, .int (4 : Int32)]) at_399 (w227 hw) (w228 hw) (w3 hw) (w229 hw) (show parseMethodDescriptor "(Ljava/lang/String;II[CI[CI)Z" = some ⟨[(.object "java/lang/String"), .int, .int, (.array .char), .int, (.array .char), .int], some .boolean⟩ by decide +kernel) rfl (atE_met hw hcs hfm (rs := [(113 : Int32), (117 : Int32), (101 : Int32), (117 : Int32), (101 : Int32), (58 : Int32), (123 : Int32), n0, n1, n2, n3, (125 : Int32)]) (ps := [p0, p1, p2]) (ns := [n0, n1, n2, n3]) (n := 11) ((((((S43.ext E52).ext E58).ext E64).ext E70).ext E76).ext E82) (nle rfl) (by decide) (A.ext B83) (B.ext B83) (nle rfl) (nle rfl) (latC lp0 (latC lp1 (latC lp2 latN))) (latC ln0 (latC ln1 (latC ln2 (latC ln3 latN)))) (by decide) (by decide) (by decide) (by decide) rfl) (fun _ q => nomatch q) rfl rfl rfl (by decide) ⟨⟨nle rfl, nle rfl⟩, nle rfl, nle rfl⟩ ?_
  intro v100 h101 hq102 _
  obtain ⟨rfl, rfl⟩ := hq102
  show WlO _ _ _ _ _ _ _ _ _ _ _ _ _ _ _ _ _ _ [.int (1 : Int32)]
  refine Wl.ifN 405 at_402 (feq (by decide)).1 ?_
  refine Wl.aload 407 at_405 rfl rfl ?_
  refine Wl.bipush 409 (12 : Int32) at_407 (by decide) ?_
  refine Wl.iload 411 at_409 rfl ?_
  refine Wl.aload 413 at_411 rfl rfl ?_
  refine Wl.iload_n 414 at_413 rfl ?_
  refine Wl.aload 416 at_414 rfl rfl ?_
  refine Wl.iload 418 at_416 rfl ?_
  refine Wl.static 421 (argsL := [.ref s41, .int (12 : Int32), .int (12 : Int32), .ref xp, .int (0 : Int32), .ref yn, .int (4 : Int32)]) at_418 (w227 hw) (w228 hw) (w3 hw) (w229 hw) (show parseMethodDescriptor "(Ljava/lang/String;II[CI[CI)Z" = some ⟨[(.object "java/lang/String"), .int, .int, (.array .char), .int, (.array .char), .int], some .boolean⟩ by decide +kernel) rfl (atC_met hw (by decide)) (fun _ q => nomatch q) rfl rfl rfl (by decide) ⟨⟨nle rfl, nle rfl⟩, nle rfl, nle rfl⟩ ?_
  intro v103 h104 hq105 _
  obtain ⟨rfl, rfl⟩ := hq105
  show WlO _ _ _ _ _ _ _ _ _ _ _ _ _ _ _ _ _ _ [.int (1 : Int32)]
  refine Wl.ifN 424 at_421 (feq (by decide)).1 ?_
  refine Wl.aload 426 at_424 rfl rfl ?_
  refine Wl.bipush 428 (13 : Int32) at_426 (by decide) ?_
  refine Wl.iload 430 at_428 rfl ?_
  refine Wl.aload 432 at_430 rfl rfl ?_
  refine Wl.iload_n 433 at_432 rfl ?_
  refine Wl.aload 435 at_433 rfl rfl ?_
  refine Wl.iload 437 at_435 rfl ?_
  refine Wl.static 440 (argsL := [.ref s41, .int (13 : Int32), .int (12 : Int32), .ref xp, .int (0 : Int32), .ref yn, .int (4 : Int32)]) at_437 (w227 hw) (w228 hw) (w3 hw) (w229 hw) (show parseMethodDescriptor "(Ljava/lang/String;II[CI[CI)Z" = some ⟨[(.object "java/lang/String"), .int, .int, (.array .char), .int, (.array .char), .int], some .boolean⟩ by decide +kernel) rfl (atC_met hw (by decide)) (fun _ q => nomatch q) rfl rfl rfl (by decide) ⟨⟨nle rfl, nle rfl⟩, nle rfl, nle rfl⟩ ?_
  intro v106 h107 hq108 _
  obtain ⟨rfl, rfl⟩ := hq108
  show WlO _ _ _ _ _ _ _ _ _ _ _ _ _ _ _ _ _ _ [.int (1 : Int32)]
  refine Wl.ifN 443 at_440 (feq (by decide)).1 ?_
  refine Wl.aload 445 at_443 rfl rfl ?_
  refine Wl.bipush 447 (14 : Int32) at_445 (by decide) ?_
  refine Wl.iload 449 at_447 rfl ?_
  refine Wl.aload 451 at_449 rfl rfl ?_
  refine Wl.iload_n 452 at_451 rfl ?_
  refine Wl.aload 454 at_452 rfl rfl ?_
  refine Wl.iload 456 at_454 rfl ?_
  refine Wl.static 459 (argsL := [.ref s41, .int (14 : Int32), .int (12 : Int32), .ref xp, .int (0 : Int32), .ref yn, .int (4 : Int32)]) at_456 (w227 hw) (w228 hw) (w3 hw) (w229 hw) (show parseMethodDescriptor "(Ljava/lang/String;II[CI[CI)Z" = some ⟨[(.object "java/lang/String"), .int, .int, (.array .char), .int, (.array .char), .int], some .boolean⟩ by decide +kernel) rfl (atC_met hw (by decide)) (fun _ q => nomatch q) rfl rfl rfl (by decide) ⟨⟨nle rfl, nle rfl⟩, nle rfl, nle rfl⟩ ?_
  intro v109 h110 hq111 _
  obtain ⟨rfl, rfl⟩ := hq111
  show WlO _ _ _ _ _ _ _ _ _ _ _ _ _ _ _ _ _ _ [.int (1 : Int32)]
  refine Wl.ifN 462 at_459 (feq (by decide)).1 ?_
  refine Wl.iconst 463 (1 : Int32) at_462 (by decide) ?_
  refine Wl.goto 467 at_463 ?_
  exact Wl.ireturn at_467 rfl rfl (by simp) (nle rfl) (nle rfl) rfl
set_option maxRecDepth 65536 in
set_option maxHeartbeats 40000000 in
theorem law_t11 {l : Launch} {Z : State} {a0 : Array Value} (hw : ∀ d ∈ tables_1, d.before a0 Z = true) (hcs : CSon Z) (hfm : Fmt Z) {as : Array Value} {h : Heap} {i0 i1 i2 p0 p1 p2 n0 n1 n2 n3 : Int32} {xp yn : Addr} {kx ky : ClassId} (A : Arv Z h xp kx .char (3 : Int32) [.int p0, .int p1, .int p2] (.int 0)) (B : Arv Z h yn ky .char (4 : Int32) [.int n0, .int n1, .int n2, .int n3] (.int 0)) (lp0 : Lat p0) (lp1 : Lat p1) (lp2 : Lat p2) (ln0 : Lat n0) (ln1 : Lat n1) (ln2 : Lat n2) (ln3 : Lat n3) (p0123 : p0 ≠ 123) (p0125 : p0 ≠ 125) (p1123 : p1 ≠ 123) (p1125 : p1 ≠ 125) (p2123 : p2 ≠ 123) (p2125 : p2 ≠ 125) (hn0 : ¬ n0 = (125 : Int32)) :
    Wl l Z a0 consts_1 x code maxLocals ret room_1 as (fun v h' => v = some (.int 1)) [] h 2 7 116 #[.val (.int i0), .val (.int i1), .val (.int i2), .val (.int (1 : Int32)), .val (.int (1 : Int32)), .val (.ref xp), .val (.ref yn), .unset, .unset, .unset, .unset, .unset] [] := by
  refine Wl.aload 118 at_116 rfl rfl ?_
  refine Wl.iload_n 119 at_118 rfl ?_
  refine Wl.static 122 (argsL := [.ref xp, .int (1 : Int32)]) at_119 (w5 hw) (w6 hw) (w3 hw) (w7 hw) (show parseMethodDescriptor "([CI)Ljava/lang/String;" = some ⟨[(.array .char), .int], some (.object "java/lang/String")⟩ by decide +kernel) rfl (mk31_met hw hcs A lp0 lp1 lp2) (fun _ q => nomatch q) rfl rfl rfl (by decide) ⟨⟨nle rfl, nle rfl⟩, nle rfl, nle rfl⟩ ?_
  intro v1 h2 hq3 _
  obtain ⟨a4, rfl, E5, S6⟩ := hq3
  have B7 : Ext h h2 := E5
  show WlO _ _ _ _ _ _ _ _ _ _ _ _ _ _ _ _ _ _ [.ref a4]
  refine Wl.astore 124 #[.val (.int i0), .val (.int i1), .val (.int i2), .val (.int (1 : Int32)), .val (.int (1 : Int32)), .val (.ref xp), .val (.ref yn), .val (.ref a4), .unset, .unset, .unset, .unset] at_122 rfl rfl ?_
  refine Wl.aload 126 at_124 rfl rfl ?_
  refine Wl.iload 128 at_126 rfl ?_
  refine Wl.static 131 (argsL := [.ref yn, .int (1 : Int32)]) at_128 (w5 hw) (w6 hw) (w3 hw) (w7 hw) (show parseMethodDescriptor "([CI)Ljava/lang/String;" = some ⟨[(.array .char), .int], some (.object "java/lang/String")⟩ by decide +kernel) rfl (mk41_met hw hcs (B.ext E5) ln0 ln1 ln2 ln3) (fun _ q => nomatch q) rfl rfl rfl (by decide) ⟨⟨nle rfl, nle rfl⟩, nle rfl, nle rfl⟩ ?_
  intro v8 h9 hq10 _
  obtain ⟨a11, rfl, E12, S13⟩ := hq10
  have B14 : Ext h h9 := extTr B7 E12
  show WlO _ _ _ _ _ _ _ _ _ _ _ _ _ _ _ _ _ _ [.ref a11]
  refine Wl.astore 133 #[.val (.int i0), .val (.int i1), .val (.int i2), .val (.int (1 : Int32)), .val (.int (1 : Int32)), .val (.ref xp), .val (.ref yn), .val (.ref a4), .val (.ref a11), .unset, .unset, .unset] at_131 rfl rfl ?_
  refine Wl.new 136 at_133 (w37 hw) (w38 hw) (w39 hw) (nle rfl) (nle rfl) ?_
  intro a15 h16 q17 E18 X19 D20
  have z21 : h.size ≤ a15 := Nat.le_trans B14.1 (Nat.le_of_eq q17.symm)
  have z22 : h9.size ≤ a15 := Nat.le_of_eq q17.symm
  have ne23 : xp ≠ a15 := Nat.ne_of_lt (by rw [q17]; exact ((A.ext B14)).lt)
  have ne24 : yn ≠ a15 := Nat.ne_of_lt (by rw [q17]; exact ((B.ext B14)).lt)
  have ne25 : a4 ≠ a15 := Nat.ne_of_lt (by rw [q17]; exact (((S6).exa.ext E12)).lt)
  have ne26 : a11 ≠ a15 := Nat.ne_of_lt (by rw [q17]; exact ((S13).exa).lt)
  have B27 : Ext h h16 := extTr B14 E18
  have B28 : Ext h9 h16 := E18
  have F29 : Fld Z h16 a15 "com/example/portunus/portunus/LockKeys" "prefix" "Ljava/lang/String;" (.null) := D20 (Or.inr (w94 hw)) (ty := (.object "java/lang/String")) (by decide)
  refine Wl.dup 137 at_136 rfl ?_
  refine Wl.aload 139 at_137 rfl rfl ?_
  refine Wl.special 142 (argsL := [.ref a4]) at_139 (w40 hw) (w41 hw) (w39 hw) (w42 hw) (show parseMethodDescriptor "(Ljava/lang/String;)V" = some ⟨[(.object "java/lang/String")], none⟩ by decide +kernel) rfl (keys_met hw hcs X19 F29 (cs := [p0]) ((S6.ext E12).ext E18) (neC p0123 neN) (neC p0125 neN)) (allS (List.mem_of_getElem? (i := 0) rfl) (fun _ q => nomatch q)) rfl rfl rfl rfl (by decide) ⟨⟨nle rfl, nle rfl⟩, nle rfl, nle rfl⟩ ?_
  intro v30 h31 hq32 _
  obtain ⟨rfl, K33, X34, F35⟩ := hq32
  have B36 : Ext h h31 := extKeep B27 K33 (allS z21 all0)
  have B37 : Ext h9 h31 := extKeep B28 K33 (allS z22 all0)
  show WlO _ _ _ _ _ _ _ _ _ _ _ _ _ _ _ _ _ _ [.ref a15]
  refine Wl.astore 144 #[.val (.int i0), .val (.int i1), .val (.int i2), .val (.int (1 : Int32)), .val (.int (1 : Int32)), .val (.ref xp), .val (.ref yn), .val (.ref a4), .val (.ref a11), .val (.ref a15), .unset, .unset] at_142 rfl rfl ?_
  refine Wl.aload 146 at_144 rfl rfl ?_
  refine Wl.aload 148 at_146 rfl rfl ?_
  refine Wl.virtual 151 (argsL := [.ref a11]) at_148 (w95 hw) (w96 hw) (w98 hw) (w97 hw) (w39 hw) (w99 hw) (nf_sel (w98 hw) rfl) X34 (show parseMethodDescriptor "(Ljava/lang/String;)Ljava/lang/String;" = some ⟨[(.object "java/lang/String")], some (.object "java/lang/String")⟩ by decide +kernel) rfl (key_met hw hcs hfm (cs := [n0]) (ps := [p0]) F35 ((S6.ext E12).ext B37) (nle rfl) (S13.ext B37) (by simp) (nle rfl) hn0 (nle rfl)) (fun _ q => nomatch q) rfl rfl rfl (by decide) ⟨⟨nle rfl, nle rfl⟩, nle rfl, nle rfl⟩ ?_
  intro v38 h39 hq40 _
  obtain ⟨s41, rfl, E42, S43⟩ := hq40
  have S43 : Stl Z h39 s41 [p0, (113 : Int32), (117 : Int32), (101 : Int32), (117 : Int32), (101 : Int32), (58 : Int32), (123 : Int32), n0, (125 : Int32)] := S43
  have B44 : Ext h h39 := extTr B36 E42
  have B45 : Ext h9 h39 := extTr B37 E42
  show WlO _ _ _ _ _ _ _ _ _ _ _ _ _ _ _ _ _ _ [.ref s41]
  refine Wl.astore 153 #[.val (.int i0), .val (.int i1), .val (.int i2), .val (.int (1 : Int32)), .val (.int (1 : Int32)), .val (.ref xp), .val (.ref yn), .val (.ref a4), .val (.ref a11), .val (.ref a15), .val (.ref s41), .unset] at_151 rfl rfl ?_
  refine Wl.iload_n 154 at_153 rfl ?_
  refine Wl.bipush 156 (6 : Int32) at_154 (by decide) ?_
  refine Wl.iadd 157 at_156 ?_
  show WlO _ _ _ _ _ _ _ _ _ _ _ _ _ _ _ _ _ _ [.int (7 : Int32)]
  refine Wl.iconst 158 (1 : Int32) at_157 (by decide) ?_
  refine Wl.iadd 159 at_158 ?_
  show WlO _ _ _ _ _ _ _ _ _ _ _ _ _ _ _ _ _ _ [.int (8 : Int32)]
  refine Wl.iload 161 at_159 rfl ?_
  refine Wl.iadd 162 at_161 ?_
  show WlO _ _ _ _ _ _ _ _ _ _ _ _ _ _ _ _ _ _ [.int (9 : Int32)]
  refine Wl.iconst 163 (1 : Int32) at_162 (by decide) ?_
  refine Wl.iadd 164 at_163 ?_
  show WlO _ _ _ _ _ _ _ _ _ _ _ _ _ _ _ _ _ _ [.int (10 : Int32)]
  refine Wl.istore 166 #[.val (.int i0), .val (.int i1), .val (.int i2), .val (.int (1 : Int32)), .val (.int (1 : Int32)), .val (.ref xp), .val (.ref yn), .val (.ref a4), .val (.ref a11), .val (.ref a15), .val (.ref s41), .val (.int (10 : Int32))] at_164 rfl ?_
  refine Wl.aload 168 at_166 rfl rfl ?_
  refine Wl.ifnullN 171 at_168 ?_
  refine Wl.aload 173 at_171 rfl rfl ?_
  refine Wl.virtual 176 (argsL := []) at_173 (w226 hw) (w67 hw) (w69 hw) (w68 hw) (w10 hw) (w70 hw) (nf_sel (w69 hw) rfl) (S43).exa (show parseMethodDescriptor "()I" = some ⟨[], some .int⟩ by decide +kernel) rfl (len_met hw hcs S43) (fun _ q => nomatch q) rfl rfl rfl (by decide) ⟨⟨nle rfl, nle rfl⟩, nle rfl, nle rfl⟩ ?_
  intro v46 h47 hq48 _
  obtain ⟨rfl, rfl⟩ := hq48
  show WlO _ _ _ _ _ _ _ _ _ _ _ _ _ _ _ _ _ _ [.int (10 : Int32)]
  refine Wl.iload 178 at_176 rfl ?_
  refine Wl.icmpY 183 at_178 (teq (by decide)).1 ?_
  refine Wl.aload 185 at_183 rfl rfl ?_
  refine Wl.iconst 186 (0 : Int32) at_185 (by decide) ?_
  refine Wl.iload 188 at_186 rfl ?_
  refine Wl.aload 190 at_188 rfl rfl ?_
  refine Wl.iload_n 191 at_190 rfl ?_
  refine Wl.aload 193 at_191 rfl rfl ?_
  refine Wl.iload 195 at_193 rfl ?_
  refine Wl.static 198 (argsL := [.ref s41, .int (0 : Int32), .int (10 : Int32), .ref xp, .int (1 : Int32), .ref yn, .int (1 : Int32)]) at_195 (w227 hw) (w228 hw) (w3 hw) (w229 hw) (show parseMethodDescriptor "(Ljava/lang/String;II[CI[CI)Z" = some ⟨[(.object "java/lang/String"), .int, .int, (.array .char), .int, (.array .char), .int], some .boolean⟩ by decide +kernel) rfl (atP_met hw hcs hfm (rs := [p0, (113 : Int32), (117 : Int32), (101 : Int32), (117 : Int32), (101 : Int32), (58 : Int32), (123 : Int32), n0, (125 : Int32)]) (ps := [p0, p1, p2]) (ns := [n0, n1, n2, n3]) (n := 0) S43 (nle rfl) (by decide) (A.ext B44) (B.ext B44) (nle rfl) (nle rfl) (latC lp0 (latC lp1 (latC lp2 latN))) (latC ln0 (latC ln1 (latC ln2 (latC ln3 latN)))) (by decide) (nle rfl) rfl) (fun _ q => nomatch q) rfl rfl rfl (by decide) ⟨⟨nle rfl, nle rfl⟩, nle rfl, nle rfl⟩ ?_
  intro v49 h50 hq51 _
  obtain ⟨rfl, rfl⟩ := hq51
  show WlO _ _ _ _ _ _ _ _ _ _ _ _ _ _ _ _ _ _ [.int (1 : Int32)]
  refine Wl.ifN 201 at_198 (feq (by decide)).1 ?_
  refine Wl.aload 203 at_201 rfl rfl ?_
  refine Wl.iconst 204 (1 : Int32) at_203 (by decide) ?_
  refine Wl.iload 206 at_204 rfl ?_
  refine Wl.aload 208 at_206 rfl rfl ?_
  refine Wl.iload_n 209 at_208 rfl ?_
  refine Wl.aload 211 at_209 rfl rfl ?_
  refine Wl.iload 213 at_211 rfl ?_
  refine Wl.static 216 (argsL := [.ref s41, .int (1 : Int32), .int (10 : Int32), .ref xp, .int (1 : Int32), .ref yn, .int (1 : Int32)]) at_213 (w227 hw) (w228 hw) (w3 hw) (w229 hw) (show parseMethodDescriptor "(Ljava/lang/String;II[CI[CI)Z" = some ⟨[(.object "java/lang/String"), .int, .int, (.array .char), .int, (.array .char), .int], some .boolean⟩ by decide +kernel) rfl (atA_met hw hcs hfm (rs := [p0, (113 : Int32), (117 : Int32), (101 : Int32), (117 : Int32), (101 : Int32), (58 : Int32), (123 : Int32), n0, (125 : Int32)]) (ps := [p0, p1, p2]) (ns := [n0, n1, n2, n3]) (n := 1) (j := 0) S43 (nle rfl) (by decide) (A.ext B44) (B.ext B44) (nle rfl) (nle rfl) (latC lp0 (latC lp1 (latC lp2 latN))) (latC ln0 (latC ln1 (latC ln2 (latC ln3 latN)))) (by decide) (by decide) (by decide) (nle rfl) rfl) (fun _ q => nomatch q) rfl rfl rfl (by decide) ⟨⟨nle rfl, nle rfl⟩, nle rfl, nle rfl⟩ ?_
  intro v52 h53 hq54 _
  obtain ⟨rfl, E55⟩ := hq54
  have B56 : Ext h h53 := extTr B44 E55
  have B57 : Ext h9 h53 := extTr B45 E55
  show WlO _ _ _ _ _ _ _ _ _ _ _ _ _ _ _ _ _ _ [.int (1 : Int32)]
  refine Wl.ifN 219 at_216 (feq (by decide)).1 ?_
  refine Wl.aload 221 at_219 rfl rfl ?_
  refine Wl.iconst 222 (2 : Int32) at_221 (by decide) ?_
  refine Wl.iload 224 at_222 rfl ?_
  refine Wl.aload 226 at_224 rfl rfl ?_
  refine Wl.iload_n 227 at_226 rfl ?_
  refine Wl.aload 229 at_227 rfl rfl ?_
  refine Wl.iload 231 at_229 rfl ?_
  refine Wl.static 234 (argsL := [.ref s41, .int (2 : Int32), .int (10 : Int32), .ref xp, .int (1 : Int32), .ref yn, .int (1 : Int32)]) at_231 (w227 hw) (w228 hw) (w3 hw) (w229 hw) (show parseMethodDescriptor "(Ljava/lang/String;II[CI[CI)Z" = some ⟨[(.object "java/lang/String"), .int, .int, (.array .char), .int, (.array .char), .int], some .boolean⟩ by decide +kernel) rfl (atA_met hw hcs hfm (rs := [p0, (113 : Int32), (117 : Int32), (101 : Int32), (117 : Int32), (101 : Int32), (58 : Int32), (123 : Int32), n0, (125 : Int32)]) (ps := [p0, p1, p2]) (ns := [n0, n1, n2, n3]) (n := 2) (j := 1) (S43.ext E55) (nle rfl) (by decide) (A.ext B56) (B.ext B56) (nle rfl) (nle rfl) (latC lp0 (latC lp1 (latC lp2 latN))) (latC ln0 (latC ln1 (latC ln2 (latC ln3 latN)))) (by decide) (by decide) (by decide) (nle rfl) rfl) (fun _ q => nomatch q) rfl rfl rfl (by decide) ⟨⟨nle rfl, nle rfl⟩, nle rfl, nle rfl⟩ ?_
  intro v58 h59 hq60 _
  obtain ⟨rfl, E61⟩ := hq60
  have B62 : Ext h h59 := extTr B56 E61
  have B63 : Ext h9 h59 := extTr B57 E61
  show WlO _ _ _ _ _ _ _ _ _ _ _ _ _ _ _ _ _ _ [.int (1 : Int32)]
  refine Wl.ifN 237 at_234 (feq (by decide)).1 ?_
  refine Wl.aload 239 at_237 rfl rfl ?_
  refine Wl.iconst 240 (3 : Int32) at_239 (by decide) ?_
  refine Wl.iload 242 at_240 rfl ?_
  refine Wl.aload 244 at_242 rfl rfl ?_
  refine Wl.iload_n 245 at_244 rfl ?_
  refine Wl.aload 247 at_245 rfl rfl ?_
  refine Wl.iload 249 at_247 rfl ?_
  refine Wl.static 252 (argsL := [.ref s41, .int (3 : Int32), .int (10 : Int32), .ref xp, .int (1 : Int32), .ref yn, .int (1 : Int32)]) at_249 (w227 hw) (w228 hw) (w3 hw) (w229 hw) (show parseMethodDescriptor "(Ljava/lang/String;II[CI[CI)Z" = some ⟨[(.object "java/lang/String"), .int, .int, (.array .char), .int, (.array .char), .int], some .boolean⟩ by decide +kernel) rfl (atA_met hw hcs hfm (rs := [p0, (113 : Int32), (117 : Int32), (101 : Int32), (117 : Int32), (101 : Int32), (58 : Int32), (123 : Int32), n0, (125 : Int32)]) (ps := [p0, p1, p2]) (ns := [n0, n1, n2, n3]) (n := 3) (j := 2) ((S43.ext E55).ext E61) (nle rfl) (by decide) (A.ext B62) (B.ext B62) (nle rfl) (nle rfl) (latC lp0 (latC lp1 (latC lp2 latN))) (latC ln0 (latC ln1 (latC ln2 (latC ln3 latN)))) (by decide) (by decide) (by decide) (nle rfl) rfl) (fun _ q => nomatch q) rfl rfl rfl (by decide) ⟨⟨nle rfl, nle rfl⟩, nle rfl, nle rfl⟩ ?_
  intro v64 h65 hq66 _
  obtain ⟨rfl, E67⟩ := hq66
  have B68 : Ext h h65 := extTr B62 E67
  have B69 : Ext h9 h65 := extTr B63 E67
  show WlO _ _ _ _ _ _ _ _ _ _ _ _ _ _ _ _ _ _ [.int (1 : Int32)]
  refine Wl.ifN 255 at_252 (feq (by decide)).1 ?_
  refine Wl.aload 257 at_255 rfl rfl ?_
  refine Wl.iconst 258 (4 : Int32) at_257 (by decide) ?_
  refine Wl.iload 260 at_258 rfl ?_
  refine Wl.aload 262 at_260 rfl rfl ?_
  refine Wl.iload_n 263 at_262 rfl ?_
  refine Wl.aload 265 at_263 rfl rfl ?_
  refine Wl.iload 267 at_265 rfl ?_
  refine Wl.static 270 (argsL := [.ref s41, .int (4 : Int32), .int (10 : Int32), .ref xp, .int (1 : Int32), .ref yn, .int (1 : Int32)]) at_267 (w227 hw) (w228 hw) (w3 hw) (w229 hw) (show parseMethodDescriptor "(Ljava/lang/String;II[CI[CI)Z" = some ⟨[(.object "java/lang/String"), .int, .int, (.array .char), .int, (.array .char), .int], some .boolean⟩ by decide +kernel) rfl (atA_met hw hcs hfm (rs := [p0, (113 : Int32), (117 : Int32), (101 : Int32), (117 : Int32), (101 : Int32), (58 : Int32), (123 : Int32), n0, (125 : Int32)]) (ps := [p0, p1, p2]) (ns := [n0, n1, n2, n3]) (n := 4) (j := 3) (((S43.ext E55).ext E61).ext E67) (nle rfl) (by decide) (A.ext B68) (B.ext B68) (nle rfl) (nle rfl) (latC lp0 (latC lp1 (latC lp2 latN))) (latC ln0 (latC ln1 (latC ln2 (latC ln3 latN)))) (by decide) (by decide) (by decide) (nle rfl) rfl) (fun _ q => nomatch q) rfl rfl rfl (by decide) ⟨⟨nle rfl, nle rfl⟩, nle rfl, nle rfl⟩ ?_
  intro v70 h71 hq72 _
  obtain ⟨rfl, E73⟩ := hq72
  have B74 : Ext h h71 := extTr B68 E73
  have B75 : Ext h9 h71 := extTr B69 E73
  show WlO _ _ _ _ _ _ _ _ _ _ _ _ _ _ _ _ _ _ [.int (1 : Int32)]
  refine Wl.ifN 273 at_270 (feq (by decide)).1 ?_
  refine Wl.aload 275 at_273 rfl rfl ?_
  refine Wl.iconst 276 (5 : Int32) at_275 (by decide) ?_
  refine Wl.iload 278 at_276 rfl ?_
  refine Wl.aload 280 at_278 rfl rfl ?_
  refine Wl.iload_n 281 at_280 rfl ?_
  refine Wl.aload 283 at_281 rfl rfl ?_
  refine Wl.iload 285 at_283 rfl ?_
  refine Wl.static 288 (argsL := [.ref s41, .int (5 : Int32), .int (10 : Int32), .ref xp, .int (1 : Int32), .ref yn, .int (1 : Int32)]) at_285 (w227 hw) (w228 hw) (w3 hw) (w229 hw) (show parseMethodDescriptor "(Ljava/lang/String;II[CI[CI)Z" = some ⟨[(.object "java/lang/String"), .int, .int, (.array .char), .int, (.array .char), .int], some .boolean⟩ by decide +kernel) rfl (atA_met hw hcs hfm (rs := [p0, (113 : Int32), (117 : Int32), (101 : Int32), (117 : Int32), (101 : Int32), (58 : Int32), (123 : Int32), n0, (125 : Int32)]) (ps := [p0, p1, p2]) (ns := [n0, n1, n2, n3]) (n := 5) (j := 4) ((((S43.ext E55).ext E61).ext E67).ext E73) (nle rfl) (by decide) (A.ext B74) (B.ext B74) (nle rfl) (nle rfl) (latC lp0 (latC lp1 (latC lp2 latN))) (latC ln0 (latC ln1 (latC ln2 (latC ln3 latN)))) (by decide) (by decide) (by decide) (nle rfl) rfl) (fun _ q => nomatch q) rfl rfl rfl (by decide) ⟨⟨nle rfl, nle rfl⟩, nle rfl, nle rfl⟩ ?_
  intro v76 h77 hq78 _
  obtain ⟨rfl, E79⟩ := hq78
  have B80 : Ext h h77 := extTr B74 E79
  have B81 : Ext h9 h77 := extTr B75 E79
  show WlO _ _ _ _ _ _ _ _ _ _ _ _ _ _ _ _ _ _ [.int (1 : Int32)]
  refine Wl.ifN 291 at_288 (feq (by decide)).1 ?_
  refine Wl.aload 293 at_291 rfl rfl ?_
  refine Wl.bipush 295 (6 : Int32) at_293 (by decide) ?_
  refine Wl.iload 297 at_295 rfl ?_
  refine Wl.aload 299 at_297 rfl rfl ?_
  refine Wl.iload_n 300 at_299 rfl ?_
  refine Wl.aload 302 at_300 rfl rfl ?_
  refine Wl.iload 304 at_302 rfl ?_
  refine Wl.static 307 (argsL := [.ref s41, .int (6 : Int32), .int (10 : Int32), .ref xp, .int (1 : Int32), .ref yn, .int (1 : Int32)]) at_304 (w227 hw) (w228 hw) (w3 hw) (w229 hw) (show parseMethodDescriptor "(Ljava/lang/String;II[CI[CI)Z" = some ⟨[(.object "java/lang/String"), .int, .int, (.array .char), .int, (.array .char), .int], some .boolean⟩ by decide +kernel) rfl (atA_met hw hcs hfm (rs := [p0, (113 : Int32), (117 : Int32), (101 : Int32), (117 : Int32), (101 : Int32), (58 : Int32), (123 : Int32), n0, (125 : Int32)]) (ps := [p0, p1, p2]) (ns := [n0, n1, n2, n3]) (n := 6) (j := 5) (((((S43.ext E55).ext E61).ext E67).ext E73).ext E79) (nle rfl) (by decide) (A.ext B80) (B.ext B80) (nle rfl) (nle rfl) (latC lp0 (latC lp1 (latC lp2 latN))) (latC ln0 (latC ln1 (latC ln2 (latC ln3 latN)))) (by decide) (by decide) (by decide) (nle rfl) rfl) (fun _ q => nomatch q) rfl rfl rfl (by decide) ⟨⟨nle rfl, nle rfl⟩, nle rfl, nle rfl⟩ ?_
  intro v82 h83 hq84 _
  obtain ⟨rfl, E85⟩ := hq84
  have B86 : Ext h h83 := extTr B80 E85
  have B87 : Ext h9 h83 := extTr B81 E85
  show WlO _ _ _ _ _ _ _ _ _ _ _ _ _ _ _ _ _ _ [.int (1 : Int32)]
  refine Wl.ifN 310 at_307 (feq (by decide)).1 ?_
  refine Wl.aload 312 at_310 rfl rfl ?_
  refine Wl.bipush 314 (7 : Int32) at_312 (by decide) ?_
  refine Wl.iload 316 at_314 rfl ?_
  refine Wl.aload 318 at_316 rfl rfl ?_
  refine Wl.iload_n 319 at_318 rfl ?_
  refine Wl.aload 321 at_319 rfl rfl ?_
  refine Wl.iload 323 at_321 rfl ?_
  refine Wl.static 326 (argsL := [.ref s41, .int (7 : Int32), .int (10 : Int32), .ref xp, .int (1 : Int32), .ref yn, .int (1 : Int32)]) at_323 (w227 hw) (w228 hw) (w3 hw) (w229 hw) (show parseMethodDescriptor "(Ljava/lang/String;II[CI[CI)Z" = some ⟨[(.object "java/lang/String"), .int, .int, (.array .char), .int, (.array .char), .int], some .boolean⟩ by decide +kernel) rfl (atO_met hw hcs hfm (rs := [p0, (113 : Int32), (117 : Int32), (101 : Int32), (117 : Int32), (101 : Int32), (58 : Int32), (123 : Int32), n0, (125 : Int32)]) (ps := [p0, p1, p2]) (ns := [n0, n1, n2, n3]) (n := 7) ((((((S43.ext E55).ext E61).ext E67).ext E73).ext E79).ext E85) (nle rfl) (by decide) (A.ext B86) (B.ext B86) (nle rfl) (nle rfl) (latC lp0 (latC lp1 (latC lp2 latN))) (latC ln0 (latC ln1 (latC ln2 (latC ln3 latN)))) (by decide) (by decide) (by decide) rfl) (fun _ q => nomatch q) rfl rfl rfl (by decide) ⟨⟨nle rfl, nle rfl⟩, nle rfl, nle rfl⟩ ?_
  intro v88 h89 hq90 _
  obtain ⟨rfl, rfl⟩ := hq90
  show WlO _ _ _ _ _ _ _ _ _ _ _ _ _ _ _ _ _ _ [.int (1 : Int32)]
  refine Wl.ifN 329 at_326 (feq (by decide)).1 ?_
  refine Wl.aload 331 at_329 rfl rfl ?_
  refine Wl.bipush 333 (8 : Int32) at_331 (by decide) ?_
  refine Wl.iload 335 at_333 rfl ?_
  refine Wl.aload 337 at_335 rfl rfl ?_
  refine Wl.iload_n 338 at_337 rfl ?_
  refine Wl.aload 340 at_338 rfl rfl ?_
  refine Wl.iload 342 at_340 rfl ?_
  refine Wl.static 345 (argsL := [.ref s41, .int (8 : Int32), .int (10 : Int32), .ref xp, .int (1 : Int32), .ref yn, .int (1 : Int32)]) at_342 (w227 hw) (w228 hw) (w3 hw) (w229 hw) (show parseMethodDescriptor "(Ljava/lang/String;II[CI[CI)Z" = some ⟨[(.object "java/lang/String"), .int, .int, (.array .char), .int, (.array .char), .int], some .boolean⟩ by decide +kernel) rfl (atN_met hw hcs hfm (rs := [p0, (113 : Int32), (117 : Int32), (101 : Int32), (117 : Int32), (101 : Int32), (58 : Int32), (123 : Int32), n0, (125 : Int32)]) (ps := [p0, p1, p2]) (ns := [n0, n1, n2, n3]) (n := 8) (m := 0) ((((((S43.ext E55).ext E61).ext E67).ext E73).ext E79).ext E85) (nle rfl) (by decide) (A.ext B86) (B.ext B86) (nle rfl) (nle rfl) (latC lp0 (latC lp1 (latC lp2 latN))) (latC ln0 (latC ln1 (latC ln2 (latC ln3 latN)))) (by decide) (by decide) (by decide) (by decide) (by decide) (nle rfl) rfl) (fun _ q => nomatch q) rfl rfl rfl (by decide) ⟨⟨nle rfl, nle rfl⟩, nle rfl, nle rfl⟩ ?_
  intro v91 h92 hq93 _
  obtain ⟨rfl, rfl⟩ := hq93
  show WlO _ _ _ _ _ _ _ _ _ _ _ _ _ _ _ _ _ _ [.int (1 : Int32)]
  refine Wl.ifN 348 at_345 (feq (by decide)).1 ?_
  refine Wl.aload 350 at_348 rfl rfl ?_
  refine Wl.bipush 352 (9 : Int32) at_350 (by decide) ?_
  refine Wl.iload 354 at_352 rfl ?_
  refine Wl.aload 356 at_354 rfl rfl ?_
  refine Wl.iload_n 357 at_356 rfl ?_
  refine Wl.aload 359 at_357 rfl rfl ?_
  refine Wl.iload 361 at_359 rfl ?_
  refine Wl.static 364 (argsL := [.ref s41, .int (9 : Int32), .int (10 : Int32), .ref xp, .int (1 : Int32), .ref yn, .int (1 : Int32)]) at_361 (w227 hw) (w228 hw) (w3 hw) (w229 hw) (show parseMethodDescriptor "(Ljava/lang/String;II[CI[CI)Z" = some ⟨[(.object "java/lang/String"), .int, .int, (.array .char), .int, (.array .char), .int], some .boolean⟩ by decide +kernel) rfl (atE_met hw hcs hfm (rs := [p0, (113 : Int32), (117 : Int32), (101 : Int32), (117 : Int32), (101 : Int32), (58 : Int32), (123 : Int32), n0, (125 : Int32)]) (ps := [p0, p1, p2]) (ns := [n0, n1, n2, n3]) (n := 9) ((((((S43.ext E55).ext E61).ext E67).ext E73).ext E79).ext E85) (nle rfl) (by decide) (A.ext B86) (B.ext B86) (nle rfl) (nle rfl) (latC lp0 (latC lp1 (latC lp2 latN))) (latC ln0 (latC ln1 (latC ln2 (latC ln3 latN)))) (by decide) (by decide) (by decide) (by decide) rfl) (fun _ q => nomatch q) rfl rfl rfl (by decide) ⟨⟨nle rfl, nle rfl⟩, nle rfl, nle rfl⟩ ?_
  intro v94 h95 hq96 _
  obtain ⟨rfl, rfl⟩ := hq96
  show WlO _ _ _ _ _ _ _ _ _ _ _ _ _ _ _ _ _ _ [.int (1 : Int32)]
  refine Wl.ifN 367 at_364 (feq (by decide)).1 ?_
  refine Wl.aload 369 at_367 rfl rfl ?_
  refine Wl.bipush 371 (10 : Int32) at_369 (by decide) ?_
  refine Wl.iload 373 at_371 rfl ?_
  refine Wl.aload 375 at_373 rfl rfl ?_
  refine Wl.iload_n 376 at_375 rfl ?_
  refine Wl.aload 378 at_376 rfl rfl ?_
  refine Wl.iload 380 at_378 rfl ?_
  refine Wl.static 383 (argsL := [.ref s41, .int (10 : Int32), .int (10 : Int32), .ref xp, .int (1 : Int32), .ref yn, .int (1 : Int32)]) at_380 (w227 hw) (w228 hw) (w3 hw) (w229 hw) (show parseMethodDescriptor "(Ljava/lang/String;II[CI[CI)Z" = some ⟨[(.object "java/lang/String"), .int, .int, (.array .char), .int, (.array .char), .int], some .boolean⟩ by decide +kernel) rfl (atC_met hw (by decide)) (fun _ q => nomatch q) rfl rfl rfl (by decide) ⟨⟨nle rfl, nle rfl⟩, nle rfl, nle rfl⟩ ?_
  intro v97 h98 hq99 _
  obtain ⟨rfl, rfl⟩ := hq99
  show WlO _ _ _ _ _ _ _ _ _ _ _ _ _ _ _ _ _ _ [.int (1 : Int32)]
  refine Wl.ifN 386 at_383 (feq (by decide)).1 ?_
  refine Wl.aload 388 at_386 rfl rfl ?_
  refine Wl.bipush 390 (11 : Int32) at_388 (by decide) ?_
  refine Wl.iload 392 at_390 rfl ?_
  refine Wl.aload 394 at_392 rfl rfl ?_
  refine Wl.iload_n 395 at_394 rfl ?_
  refine Wl.aload 397 at_395 rfl rfl ?_
  refine Wl.iload 399 at_397 rfl ?_
  refine Wl.static 402 (argsL := [.ref s41, .int (11 : Int32), .int (10 : Int32), .ref xp, .int (1 : Int32), .ref yn, .int (1 : Int32)]) at_399 (w227 hw) (w228 hw) (w3 hw) (w229 hw) (show parseMethodDescriptor "(Ljava/lang/String;II[CI[CI)Z" = some ⟨[(.object "java/lang/String"), .int, .int, (.array .char), .int, (.array .char), .int], some .boolean⟩ by decide +kernel) rfl (atC_met hw (by decide)) (fun _ q => nomatch q) rfl rfl rfl (by decide) ⟨⟨nle rfl, nle rfl⟩, nle rfl, nle rfl⟩ ?_
  intro v100 h101 hq102 _
  obtain ⟨rfl, rfl⟩ := hq102
  show WlO _ _ _ _ _ _ _ _ _ _ _ _ _ _ _ _ _ _ [.int (1 : Int32)]
  refine Wl.ifN 405 at_402 (feq (by decide)).1 ?_
  refine Wl.aload 407 at_405 rfl rfl ?_
  refine Wl.bipush 409 (12 : Int32) at_407 (by decide) ?_
  refine Wl.iload 411 at_409 rfl ?_
  refine Wl.aload 413 at_411 rfl rfl ?_
  refine Wl.iload_n 414 at_413 rfl ?_
  refine Wl.aload 416 at_414 rfl rfl ?_
  refine Wl.iload 418 at_416 rfl ?_
  refine Wl.static 421 (argsL := [.ref s41, .int (12 : Int32), .int (10 : Int32), .ref xp, .int (1 : Int32), .ref yn, .int (1 : Int32)]) at_418 (w227 hw) (w228 hw) (w3 hw) (w229 hw) (show parseMethodDescriptor "(Ljava/lang/String;II[CI[CI)Z" = some ⟨[(.object "java/lang/String"), .int, .int, (.array .char), .int, (.array .char), .int], some .boolean⟩ by decide +kernel) rfl (atC_met hw (by decide)) (fun _ q => nomatch q) rfl rfl rfl (by decide) ⟨⟨nle rfl, nle rfl⟩, nle rfl, nle rfl⟩ ?_
  intro v103 h104 hq105 _
  obtain ⟨rfl, rfl⟩ := hq105
  show WlO _ _ _ _ _ _ _ _ _ _ _ _ _ _ _ _ _ _ [.int (1 : Int32)]
  refine Wl.ifN 424 at_421 (feq (by decide)).1 ?_
  refine Wl.aload 426 at_424 rfl rfl ?_
  refine Wl.bipush 428 (13 : Int32) at_426 (by decide) ?_
  refine Wl.iload 430 at_428 rfl ?_
  refine Wl.aload 432 at_430 rfl rfl ?_
  refine Wl.iload_n 433 at_432 rfl ?_
  refine Wl.aload 435 at_433 rfl rfl ?_
  refine Wl.iload 437 at_435 rfl ?_
  refine Wl.static 440 (argsL := [.ref s41, .int (13 : Int32), .int (10 : Int32), .ref xp, .int (1 : Int32), .ref yn, .int (1 : Int32)]) at_437 (w227 hw) (w228 hw) (w3 hw) (w229 hw) (show parseMethodDescriptor "(Ljava/lang/String;II[CI[CI)Z" = some ⟨[(.object "java/lang/String"), .int, .int, (.array .char), .int, (.array .char), .int], some .boolean⟩ by decide +kernel) rfl (atC_met hw (by decide)) (fun _ q => nomatch q) rfl rfl rfl (by decide) ⟨⟨nle rfl, nle rfl⟩, nle rfl, nle rfl⟩ ?_
  intro v106 h107 hq108 _
  obtain ⟨rfl, rfl⟩ := hq108
  show WlO _ _ _ _ _ _ _ _ _ _ _ _ _ _ _ _ _ _ [.int (1 : Int32)]
  refine Wl.ifN 443 at_440 (feq (by decide)).1 ?_
  refine Wl.aload 445 at_443 rfl rfl ?_
  refine Wl.bipush 447 (14 : Int32) at_445 (by decide) ?_
  refine Wl.iload 449 at_447 rfl ?_
  refine Wl.aload 451 at_449 rfl rfl ?_
  refine Wl.iload_n 452 at_451 rfl ?_
  refine Wl.aload 454 at_452 rfl rfl ?_
  refine Wl.iload 456 at_454 rfl ?_
  refine Wl.static 459 (argsL := [.ref s41, .int (14 : Int32), .int (10 : Int32), .ref xp, .int (1 : Int32), .ref yn, .int (1 : Int32)]) at_456 (w227 hw) (w228 hw) (w3 hw) (w229 hw) (show parseMethodDescriptor "(Ljava/lang/String;II[CI[CI)Z" = some ⟨[(.object "java/lang/String"), .int, .int, (.array .char), .int, (.array .char), .int], some .boolean⟩ by decide +kernel) rfl (atC_met hw (by decide)) (fun _ q => nomatch q) rfl rfl rfl (by decide) ⟨⟨nle rfl, nle rfl⟩, nle rfl, nle rfl⟩ ?_
  intro v109 h110 hq111 _
  obtain ⟨rfl, rfl⟩ := hq111
  show WlO _ _ _ _ _ _ _ _ _ _ _ _ _ _ _ _ _ _ [.int (1 : Int32)]
  refine Wl.ifN 462 at_459 (feq (by decide)).1 ?_
  refine Wl.iconst 463 (1 : Int32) at_462 (by decide) ?_
  refine Wl.goto 467 at_463 ?_
  exact Wl.ireturn at_467 rfl rfl (by simp) (nle rfl) (nle rfl) rfl
set_option maxRecDepth 65536 in
set_option maxHeartbeats 40000000 in
theorem law_t12 {l : Launch} {Z : State} {a0 : Array Value} (hw : ∀ d ∈ tables_1, d.before a0 Z = true) (hcs : CSon Z) (hfm : Fmt Z) {as : Array Value} {h : Heap} {i0 i1 i2 p0 p1 p2 n0 n1 n2 n3 : Int32} {xp yn : Addr} {kx ky : ClassId} (A : Arv Z h xp kx .char (3 : Int32) [.int p0, .int p1, .int p2] (.int 0)) (B : Arv Z h yn ky .char (4 : Int32) [.int n0, .int n1, .int n2, .int n3] (.int 0)) (lp0 : Lat p0) (lp1 : Lat p1) (lp2 : Lat p2) (ln0 : Lat n0) (ln1 : Lat n1) (ln2 : Lat n2) (ln3 : Lat n3) (p0123 : p0 ≠ 123) (p0125 : p0 ≠ 125) (p1123 : p1 ≠ 123) (p1125 : p1 ≠ 125) (p2123 : p2 ≠ 123) (p2125 : p2 ≠ 125) (hn0 : ¬ n0 = (125 : Int32)) :
    Wl l Z a0 consts_1 x code maxLocals ret room_1 as (fun v h' => v = some (.int 1)) [] h 2 7 116 #[.val (.int i0), .val (.int i1), .val (.int i2), .val (.int (1 : Int32)), .val (.int (2 : Int32)), .val (.ref xp), .val (.ref yn), .unset, .unset, .unset, .unset, .unset] [] := by
  refine Wl.aload 118 at_116 rfl rfl ?_
  refine Wl.iload_n 119 at_118 rfl ?_
  refine Wl.static 122 (argsL := [.ref xp, .int (1 : Int32)]) at_119 (w5 hw) (w6 hw) (w3 hw) (w7 hw) (show parseMethodDescriptor "([CI)Ljava/lang/String;" = some ⟨[(.array .char), .int], some (.object "java/lang/String")⟩ by decide +kernel) rfl (mk31_met hw hcs A lp0 lp1 lp2) (fun _ q => nomatch q) rfl rfl rfl (by decide) ⟨⟨nle rfl, nle rfl⟩, nle rfl, nle rfl⟩ ?_
  intro v1 h2 hq3 _
  obtain ⟨a4, rfl, E5, S6⟩ := hq3
  have B7 : Ext h h2 := E5
  show WlO _ _ _ _ _ _ _ _ _ _ _ _ _ _ _ _ _ _ [.ref a4]
  refine Wl.astore 124 #[.val (.int i0), .val (.int i1), .val (.int i2), .val (.int (1 : Int32)), .val (.int (2 : Int32)), .val (.ref xp), .val (.ref yn), .val (.ref a4), .unset, .unset, .unset, .unset] at_122 rfl rfl ?_
  refine Wl.aload 126 at_124 rfl rfl ?_
  refine Wl.iload 128 at_126 rfl ?_
  refine Wl.static 131 (argsL := [.ref yn, .int (2 : Int32)]) at_128 (w5 hw) (w6 hw) (w3 hw) (w7 hw) (show parseMethodDescriptor "([CI)Ljava/lang/String;" = some ⟨[(.array .char), .int], some (.object "java/lang/String")⟩ by decide +kernel) rfl (mk42_met hw hcs (B.ext E5) ln0 ln1 ln2 ln3) (fun _ q => nomatch q) rfl rfl rfl (by decide) ⟨⟨nle rfl, nle rfl⟩, nle rfl, nle rfl⟩ ?_
  intro v8 h9 hq10 _
  obtain ⟨a11, rfl, E12, S13⟩ := hq10
  have B14 : Ext h h9 := extTr B7 E12
  show WlO _ _ _ _ _ _ _ _ _ _ _ _ _ _ _ _ _ _ [.ref a11]
  refine Wl.astore 133 #[.val (.int i0), .val (.int i1), .val (.int i2), .val (.int (1 : Int32)), .val (.int (2 : Int32)), .val (.ref xp), .val (.ref yn), .val (.ref a4), .val (.ref a11), .unset, .unset, .unset] at_131 rfl rfl ?_
  refine Wl.new 136 at_133 (w37 hw) (w38 hw) (w39 hw) (nle rfl) (nle rfl) ?_
  intro a15 h16 q17 E18 X19 D20
  have z21 : h.size ≤ a15 := Nat.le_trans B14.1 (Nat.le_of_eq q17.symm)
  have z22 : h9.size ≤ a15 := Nat.le_of_eq q17.symm
  have ne23 : xp ≠ a15 := Nat.ne_of_lt (by rw [q17]; exact ((A.ext B14)).lt)
  have ne24 : yn ≠ a15 := Nat.ne_of_lt (by rw [q17]; exact ((B.ext B14)).lt)
  have ne25 : a4 ≠ a15 := Nat.ne_of_lt (by rw [q17]; exact (((S6).exa.ext E12)).lt)
  have ne26 : a11 ≠ a15 := Nat.ne_of_lt (by rw [q17]; exact ((S13).exa).lt)
  have B27 : Ext h h16 := extTr B14 E18
  have B28 : Ext h9 h16 := E18
  have F29 : Fld Z h16 a15 "com/example/portunus/portunus/LockKeys" "prefix" "Ljava/lang/String;" (.null) := D20 (Or.inr (w94 hw)) (ty := (.object "java/lang/String")) (by decide)
  refine Wl.dup 137 at_136 rfl ?_
  refine Wl.aload 139 at_137 rfl rfl ?_
  refine Wl.special 142 (argsL := [.ref a4]) at_139 (w40 hw) (w41 hw) (w39 hw) (w42 hw) (show parseMethodDescriptor "(Ljava/lang/String;)V" = some ⟨[(.object "java/lang/String")], none⟩ by decide +kernel) rfl (keys_met hw hcs X19 F29 (cs := [p0]) ((S6.ext E12).ext E18) (neC p0123 neN) (neC p0125 neN)) (allS (List.mem_of_getElem? (i := 0) rfl) (fun _ q => nomatch q)) rfl rfl rfl rfl (by decide) ⟨⟨nle rfl, nle rfl⟩, nle rfl, nle rfl⟩ ?_
  intro v30 h31 hq32 _
  obtain ⟨rfl, K33, X34, F35⟩ := hq32
  have B36 : Ext h h31 := extKeep B27 K33 (allS z21 all0)
  have B37 : Ext h9 h31 := extKeep B28 K33 (allS z22 all0)
  show WlO _ _ _ _ _ _ _ _ _ _ _ _ _ _ _ _ _ _ [.ref a15]
  refine Wl.astore 144 #[.val (.int i0), .val (.int i1), .val (.int i2), .val (.int (1 : Int32)), .val (.int (2 : Int32)), .val (.ref xp), .val (.ref yn), .val (.ref a4), .val (.ref a11), .val (.ref a15), .unset, .unset] at_142 rfl rfl ?_
  refine Wl.aload 146 at_144 rfl rfl ?_
  refine Wl.aload 148 at_146 rfl rfl ?_
  refine Wl.virtual 151 (argsL := [.ref a11]) at_148 (w95 hw) (w96 hw) (w98 hw) (w97 hw) (w39 hw) (w99 hw) (nf_sel (w98 hw) rfl) X34 (show parseMethodDescriptor "(Ljava/lang/String;)Ljava/lang/String;" = some ⟨[(.object "java/lang/String")], some (.object "java/lang/String")⟩ by decide +kernel) rfl (key_met hw hcs hfm (cs := [n0, n1]) (ps := [p0]) F35 ((S6.ext E12).ext B37) (nle rfl) (S13.ext B37) (by simp) (nle rfl) hn0 (nle rfl)) (fun _ q => nomatch q) rfl rfl rfl (by decide) ⟨⟨nle rfl, nle rfl⟩, nle rfl, nle rfl⟩ ?_
  intro v38 h39 hq40 _
  obtain ⟨s41, rfl, E42, S43⟩ := hq40
  have S43 : Stl Z h39 s41 [p0, (113 : Int32), (117 : Int32), (101 : Int32), (117 : Int32), (101 : Int32), (58 : Int32), (123 : Int32), n0, n1, (125 : Int32)] := S43
  have B44 : Ext h h39 := extTr B36 E42
  have B45 : Ext h9 h39 := extTr B37 E42
  show WlO _ _ _ _ _ _ _ _ _ _ _ _ _ _ _ _ _ _ [.ref s41]
  refine Wl.astore 153 #[.val (.int i0), .val (.int i1), .val (.int i2), .val (.int (1 : Int32)), .val (.int (2 : Int32)), .val (.ref xp), .val (.ref yn), .val (.ref a4), .val (.ref a11), .val (.ref a15), .val (.ref s41), .unset] at_151 rfl rfl ?_
  refine Wl.iload_n 154 at_153 rfl ?_
  refine Wl.bipush 156 (6 : Int32) at_154 (by decide) ?_
  refine Wl.iadd 157 at_156 ?_
  show WlO _ _ _ _ _ _ _ _ _ _ _ _ _ _ _ _ _ _ [.int (7 : Int32)]
  refine Wl.iconst 158 (1 : Int32) at_157 (by decide) ?_
  refine Wl.iadd 159 at_158 ?_
  show WlO _ _ _ _ _ _ _ _ _ _ _ _ _ _ _ _ _ _ [.int (8 : Int32)]
  refine Wl.iload 161 at_159 rfl ?_
  refine Wl.iadd 162 at_161 ?_
  show WlO _ _ _ _ _ _ _ _ _ _ _ _ _ _ _ _ _ _ [.int (10 : Int32)]
  refine Wl.iconst 163 (1 : Int32) at_162 (by decide) ?_
  refine Wl.iadd 164 at_163 ?_
  show WlO _ _ _ _ _ _ _ _ _ _ _ _ _ _ _ _ _ _ [.int (11 : Int32)]
  refine Wl.istore 166 #[.val (.int i0), .val (.int i1), .val (.int i2), .val (.int (1 : Int32)), .val (.int (2 : Int32)), .val (.ref xp), .val (.ref yn), .val (.ref a4), .val (.ref a11), .val (.ref a15), .val (.ref s41), .val (.int (11 : Int32))] at_164 rfl ?_
  refine Wl.aload 168 at_166 rfl rfl ?_
  refine Wl.ifnullN 171 at_168 ?_
  refine Wl.aload 173 at_171 rfl rfl ?_
  refine Wl.virtual 176 (argsL := []) at_173 (w226 hw) (w67 hw) (w69 hw) (w68 hw) (w10 hw) (w70 hw) (nf_sel (w69 hw) rfl) (S43).exa (show parseMethodDescriptor "()I" = some ⟨[], some .int⟩ by decide +kernel) rfl (len_met hw hcs S43) (fun _ q => nomatch q) rfl rfl rfl (by decide) ⟨⟨nle rfl, nle rfl⟩, nle rfl, nle rfl⟩ ?_
  intro v46 h47 hq48 _
  obtain ⟨rfl, rfl⟩ := hq48
  show WlO _ _ _ _ _ _ _ _ _ _ _ _ _ _ _ _ _ _ [.int (11 : Int32)]
  refine Wl.iload 178 at_176 rfl ?_
  refine Wl.icmpY 183 at_178 (teq (by decide)).1 ?_
  refine Wl.aload 185 at_183 rfl rfl ?_
  refine Wl.iconst 186 (0 : Int32) at_185 (by decide) ?_
  refine Wl.iload 188 at_186 rfl ?_
  refine Wl.aload 190 at_188 rfl rfl ?_
  refine Wl.iload_n 191 at_190 rfl ?_
  refine Wl.aload 193 at_191 rfl rfl ?_
  refine Wl.iload 195 at_193 rfl ?_
  refine Wl.static 198 (argsL := [.ref s41, .int (0 : Int32), .int (11 : Int32), .ref xp, .int (1 : Int32), .ref yn, .int (2 : Int32)]) at_195 (w227 hw) (w228 hw) (w3 hw) (w229 hw) (show parseMethodDescriptor "(Ljava/lang/String;II[CI[CI)Z" = some ⟨[(.object "java/lang/String"), .int, .int, (.array .char), .int, (.array .char), .int], some .boolean⟩ by decide +kernel) rfl (atP_met hw hcs hfm (rs := [p0, (113 : Int32), (117 : Int32), (101 : Int32), (117 : Int32), (101 : Int32), (58 : Int32), (123 : Int32), n0, n1, (125 : Int32)]) (ps := [p0, p1, p2]) (ns := [n0, n1, n2, n3]) (n := 0) S43 (nle rfl) (by decide) (A.ext B44) (B.ext B44) (nle rfl) (nle rfl) (latC lp0 (latC lp1 (latC lp2 latN))) (latC ln0 (latC ln1 (latC ln2 (latC ln3 latN)))) (by decide) (nle rfl) rfl) (fun _ q => nomatch q) rfl rfl rfl (by decide) ⟨⟨nle rfl, nle rfl⟩, nle rfl, nle rfl⟩ ?_
  intro v49 h50 hq51 _
  obtain ⟨rfl, rfl⟩ := hq51
  show WlO _ _ _ _ _ _ _ _ _ _ _ _ _ _ _ _ _ _ [.int (1 : Int32)]
  refine Wl.ifN 201 at_198 (feq (by decide)).1 ?_
  refine Wl.aload 203 at_201 rfl rfl ?_
  refine Wl.iconst 204 (1 : Int32) at_203 (by decide) ?_
  refine Wl.iload 206 at_204 rfl ?_
  refine Wl.aload 208 at_206 rfl rfl ?_
  refine Wl.iload_n 209 at_208 rfl ?_
  refine Wl.aload 211 at_209 rfl rfl ?_
  refine Wl.iload 213 at_211 rfl ?_
  refine Wl.static 216 (argsL := [.ref s41, .int (1 : Int32), .int (11 : Int32), .ref xp, .int (1 : Int32), .ref yn, .int (2 : Int32)]) at_213 (w227 hw) (w228 hw) (w3 hw) (w229 hw) (show parseMethodDescriptor "(Ljava/lang/String;II[CI[CI)Z" = some ⟨[(.object "java/lang/String"), .int, .int, (.array .char), .int, (.array .char), .int], some .boolean⟩ by decide +kernel) rfl (atA_met hw hcs hfm (rs := [p0, (113 : Int32), (117 : Int32), (101 : Int32), (117 : Int32), (101 : Int32), (58 : Int32), (123 : Int32), n0, n1, (125 : Int32)]) (ps := [p0, p1, p2]) (ns := [n0, n1, n2, n3]) (n := 1) (j := 0) S43 (nle rfl) (by decide) (A.ext B44) (B.ext B44) (nle rfl) (nle rfl) (latC lp0 (latC lp1 (latC lp2 latN))) (latC ln0 (latC ln1 (latC ln2 (latC ln3 latN)))) (by decide) (by decide) (by decide) (nle rfl) rfl) (fun _ q => nomatch q) rfl rfl rfl (by decide) ⟨⟨nle rfl, nle rfl⟩, nle rfl, nle rfl⟩ ?_
  intro v52 h53 hq54 _
  obtain ⟨rfl, E55⟩ := hq54
  have B56 : Ext h h53 := extTr B44 E55
  have B57 : Ext h9 h53 := extTr B45 E55
  show WlO _ _ _ _ _ _ _ _ _ _ _ _ _ _ _ _ _ _ [.int (1 : Int32)]
  refine Wl.ifN 219 at_216 (feq (by decide)).1 ?_
  refine Wl.aload 221 at_219 rfl rfl ?_
  refine Wl.iconst 222 (2 : Int32) at_221 (by decide) ?_
  refine Wl.iload 224 at_222 rfl ?_
  refine Wl.aload 226 at_224 rfl rfl ?_
  refine Wl.iload_n 227 at_226 rfl ?_
  refine Wl.aload 229 at_227 rfl rfl ?_
  refine Wl.iload 231 at_229 rfl ?_
  refine Wl.static 234 (argsL := [.ref s41, .int (2 : Int32), .int (11 : Int32), .ref xp, .int (1 : Int32), .ref yn, .int (2 : Int32)]) at_231 (w227 hw) (w228 hw) (w3 hw) (w229 hw) (show parseMethodDescriptor "(Ljava/lang/String;II[CI[CI)Z" = some ⟨[(.object "java/lang/String"), .int, .int, (.array .char), .int, (.array .char), .int], some .boolean⟩ by decide +kernel) rfl (atA_met hw hcs hfm (rs := [p0, (113 : Int32), (117 : Int32), (101 : Int32), (117 : Int32), (101 : Int32), (58 : Int32), (123 : Int32), n0, n1, (125 : Int32)]) (ps := [p0, p1, p2]) (ns := [n0, n1, n2, n3]) (n := 2) (j := 1) (S43.ext E55) (nle rfl) (by decide) (A.ext B56) (B.ext B56) (nle rfl) (nle rfl) (latC lp0 (latC lp1 (latC lp2 latN))) (latC ln0 (latC ln1 (latC ln2 (latC ln3 latN)))) (by decide) (by decide) (by decide) (nle rfl) rfl) (fun _ q => nomatch q) rfl rfl rfl (by decide) ⟨⟨nle rfl, nle rfl⟩, nle rfl, nle rfl⟩ ?_
  intro v58 h59 hq60 _
  obtain ⟨rfl, E61⟩ := hq60
  have B62 : Ext h h59 := extTr B56 E61
  have B63 : Ext h9 h59 := extTr B57 E61
  show WlO _ _ _ _ _ _ _ _ _ _ _ _ _ _ _ _ _ _ [.int (1 : Int32)]
  refine Wl.ifN 237 at_234 (feq (by decide)).1 ?_
  refine Wl.aload 239 at_237 rfl rfl ?_
  refine Wl.iconst 240 (3 : Int32) at_239 (by decide) ?_
  refine Wl.iload 242 at_240 rfl ?_
  refine Wl.aload 244 at_242 rfl rfl ?_
  refine Wl.iload_n 245 at_244 rfl ?_
  refine Wl.aload 247 at_245 rfl rfl ?_
  refine Wl.iload 249 at_247 rfl ?_
  refine Wl.static 252 (argsL := [.ref s41, .int (3 : Int32), .int (11 : Int32), .ref xp, .int (1 : Int32), .ref yn, .int (2 : Int32)]) at_249 (w227 hw) (w228 hw) (w3 hw) (w229 hw) (show parseMethodDescriptor "(Ljava/lang/String;II[CI[CI)Z" = some ⟨[(.object "java/lang/String"), .int, .int, (.array .char), .int, (.array .char), .int], some .boolean⟩ by decide +kernel) rfl (atA_met hw hcs hfm (rs := [p0, (113 : Int32), (117 : Int32), (101 : Int32), (117 : Int32), (101 : Int32), (58 : Int32), (123 : Int32), n0, n1, (125 : Int32)]) (ps := [p0, p1, p2]) (ns := [n0, n1, n2, n3]) (n := 3) (j := 2) ((S43.ext E55).ext E61) (nle rfl) (by decide) (A.ext B62) (B.ext B62) (nle rfl) (nle rfl) (latC lp0 (latC lp1 (latC lp2 latN))) (latC ln0 (latC ln1 (latC ln2 (latC ln3 latN)))) (by decide) (by decide) (by decide) (nle rfl) rfl) (fun _ q => nomatch q) rfl rfl rfl (by decide) ⟨⟨nle rfl, nle rfl⟩, nle rfl, nle rfl⟩ ?_
  intro v64 h65 hq66 _
  obtain ⟨rfl, E67⟩ := hq66
  have B68 : Ext h h65 := extTr B62 E67
  have B69 : Ext h9 h65 := extTr B63 E67
  show WlO _ _ _ _ _ _ _ _ _ _ _ _ _ _ _ _ _ _ [.int (1 : Int32)]
  refine Wl.ifN 255 at_252 (feq (by decide)).1 ?_
  refine Wl.aload 257 at_255 rfl rfl ?_
  refine Wl.iconst 258 (4 : Int32) at_257 (by decide) ?_
  refine Wl.iload 260 at_258 rfl ?_
  refine Wl.aload 262 at_260 rfl rfl ?_
  refine Wl.iload_n 263 at_262 rfl ?_
  refine Wl.aload 265 at_263 rfl rfl ?_
  refine Wl.iload 267 at_265 rfl ?_
  refine Wl.static 270 (argsL := [.ref s41, .int (4 : Int32), .int (11 : Int32), .ref xp, .int (1 : Int32), .ref yn, .int (2 : Int32)]) at_267 (w227 hw) (w228 hw) (w3 hw) (w229 hw) (show parseMethodDescriptor "(Ljava/lang/String;II[CI[CI)Z" = some ⟨[(.object "java/lang/String"), .int, .int, (.array .char), .int, (.array .char), .int], some .boolean⟩ by decide +kernel) rfl (atA_met hw hcs hfm (rs := [p0, (113 : Int32), (117 : Int32), (101 : Int32), (117 : Int32), (101 : Int32), (58 : Int32), (123 : Int32), n0, n1, (125 : Int32)]) (ps := [p0, p1, p2]) (ns := [n0, n1, n2, n3]) (n := 4) (j := 3) (((S43.ext E55).ext E61).ext E67) (nle rfl) (by decide) (A.ext B68) (B.ext B68) (nle rfl) (nle rfl) (latC lp0 (latC lp1 (latC lp2 latN))) (latC ln0 (latC ln1 (latC ln2 (latC ln3 latN)))) (by decide) (by decide) (by decide) (nle rfl) rfl) (fun _ q => nomatch q) rfl rfl rfl (by decide) ⟨⟨nle rfl, nle rfl⟩, nle rfl, nle rfl⟩ ?_
  intro v70 h71 hq72 _
  obtain ⟨rfl, E73⟩ := hq72
  have B74 : Ext h h71 := extTr B68 E73
  have B75 : Ext h9 h71 := extTr B69 E73
  show WlO _ _ _ _ _ _ _ _ _ _ _ _ _ _ _ _ _ _ [.int (1 : Int32)]
  refine Wl.ifN 273 at_270 (feq (by decide)).1 ?_
  refine Wl.aload 275 at_273 rfl rfl ?_
  refine Wl.iconst 276 (5 : Int32) at_275 (by decide) ?_
  refine Wl.iload 278 at_276 rfl ?_
  refine Wl.aload 280 at_278 rfl rfl ?_
  refine Wl.iload_n 281 at_280 rfl ?_
  refine Wl.aload 283 at_281 rfl rfl ?_
  refine Wl.iload 285 at_283 rfl ?_
  refine Wl.static 288 (argsL := [.ref s41, .int (5 : Int32), .int (11 : Int32), .ref xp, .int (1 : Int32), .ref yn, .int (2 : Int32)]) at_285 (w227 hw) (w228 hw) (w3 hw) (w229 hw) (show parseMethodDescriptor "(Ljava/lang/String;II[CI[CI)Z" = some ⟨[(.object "java/lang/String"), .int, .int, (.array .char), .int, (.array .char), .int], some .boolean⟩ by decide +kernel) rfl (atA_met hw hcs hfm (rs := [p0, (113 : Int32), (117 : Int32), (101 : Int32), (117 : Int32), (101 : Int32), (58 : Int32), (123 : Int32), n0, n1, (125 : Int32)]) (ps := [p0, p1, p2]) (ns := [n0, n1, n2, n3]) (n := 5) (j := 4) ((((S43.ext E55).ext E61).ext E67).ext E73) (nle rfl) (by decide) (A.ext B74) (B.ext B74) (nle rfl) (nle rfl) (latC lp0 (latC lp1 (latC lp2 latN))) (latC ln0 (latC ln1 (latC ln2 (latC ln3 latN)))) (by decide) (by decide) (by decide) (nle rfl) rfl) (fun _ q => nomatch q) rfl rfl rfl (by decide) ⟨⟨nle rfl, nle rfl⟩, nle rfl, nle rfl⟩ ?_
  intro v76 h77 hq78 _
  obtain ⟨rfl, E79⟩ := hq78
  have B80 : Ext h h77 := extTr B74 E79
  have B81 : Ext h9 h77 := extTr B75 E79
  show WlO _ _ _ _ _ _ _ _ _ _ _ _ _ _ _ _ _ _ [.int (1 : Int32)]
  refine Wl.ifN 291 at_288 (feq (by decide)).1 ?_
  refine Wl.aload 293 at_291 rfl rfl ?_
  refine Wl.bipush 295 (6 : Int32) at_293 (by decide) ?_
  refine Wl.iload 297 at_295 rfl ?_
  refine Wl.aload 299 at_297 rfl rfl ?_
  refine Wl.iload_n 300 at_299 rfl ?_
  refine Wl.aload 302 at_300 rfl rfl ?_
  refine Wl.iload 304 at_302 rfl ?_
  refine Wl.static 307 (argsL := [.ref s41, .int (6 : Int32), .int (11 : Int32), .ref xp, .int (1 : Int32), .ref yn, .int (2 : Int32)]) at_304 (w227 hw) (w228 hw) (w3 hw) (w229 hw) (show parseMethodDescriptor "(Ljava/lang/String;II[CI[CI)Z" = some ⟨[(.object "java/lang/String"), .int, .int, (.array .char), .int, (.array .char), .int], some .boolean⟩ by decide +kernel) rfl (atA_met hw hcs hfm (rs := [p0, (113 : Int32), (117 : Int32), (101 : Int32), (117 : Int32), (101 : Int32), (58 : Int32), (123 : Int32), n0, n1, (125 : Int32)]) (ps := [p0, p1, p2]) (ns := [n0, n1, n2, n3]) (n := 6) (j := 5) (((((S43.ext E55).ext E61).ext E67).ext E73).ext E79) (nle rfl) (by decide) (A.ext B80) (B.ext B80) (nle rfl) (nle rfl) (latC lp0 (latC lp1 (latC lp2 latN))) (latC ln0 (latC ln1 (latC ln2 (latC ln3 latN)))) (by decide) (by decide) (by decide) (nle rfl) rfl) (fun _ q => nomatch q) rfl rfl rfl (by decide) ⟨⟨nle rfl, nle rfl⟩, nle rfl, nle rfl⟩ ?_
  intro v82 h83 hq84 _
  obtain ⟨rfl, E85⟩ := hq84
  have B86 : Ext h h83 := extTr B80 E85
  have B87 : Ext h9 h83 := extTr B81 E85
  show WlO _ _ _ _ _ _ _ _ _ _ _ _ _ _ _ _ _ _ [.int (1 : Int32)]
  refine Wl.ifN 310 at_307 (feq (by decide)).1 ?_
  refine Wl.aload 312 at_310 rfl rfl ?_
  refine Wl.bipush 314 (7 : Int32) at_312 (by decide) ?_
  refine Wl.iload 316 at_314 rfl ?_
  refine Wl.aload 318 at_316 rfl rfl ?_
  refine Wl.iload_n 319 at_318 rfl ?_
  refine Wl.aload 321 at_319 rfl rfl ?_
  refine Wl.iload 323 at_321 rfl ?_
  refine Wl.static 326 (argsL := [.ref s41, .int (7 : Int32), .int (11 : Int32), .ref xp, .int (1 : Int32), .ref yn, .int (2 : Int32)]) at_323 (w227 hw) (w228 hw) (w3 hw) (w229 hw) (show parseMethodDescriptor "(Ljava/lang/String;II[CI[CI)Z" = some ⟨[(.object "java/lang/String"), .int, .int, (.array .char), .int, (.array .char), .int], some .boolean⟩ by decide +kernel) rfl (atO_met hw hcs hfm (rs := [p0, (113 : Int32), (117 : Int32), (101 : Int32), (117 : Int32), (101 : Int32), (58 : Int32), (123 : Int32), n0, n1, (125 : Int32)]) (ps := [p0, p1, p2]) (ns := [n0, n1, n2, n3]) (n := 7) ((((((S43.ext E55).ext E61).ext E67).ext E73).ext E79).ext E85) (nle rfl) (by decide) (A.ext B86) (B.ext B86) (nle rfl) (nle rfl) (latC lp0 (latC lp1 (latC lp2 latN))) (latC ln0 (latC ln1 (latC ln2 (latC ln3 latN)))) (by decide) (by decide) (by decide) rfl) (fun _ q => nomatch q) rfl rfl rfl (by decide) ⟨⟨nle rfl, nle rfl⟩, nle rfl, nle rfl⟩ ?_
  intro v88 h89 hq90 _
  obtain ⟨rfl, rfl⟩ := hq90
  show WlO _ _ _ _ _ _ _ _ _ _ _ _ _ _ _ _ _ _ [.int (1 : Int32)]
  refine Wl.ifN 329 at_326 (feq (by decide)).1 ?_
  refine Wl.aload 331 at_329 rfl rfl ?_
  refine Wl.bipush 333 (8 : Int32) at_331 (by decide) ?_
  refine Wl.iload 335 at_333 rfl ?_
  refine Wl.aload 337 at_335 rfl rfl ?_
  refine Wl.iload_n 338 at_337 rfl ?_
  refine Wl.aload 340 at_338 rfl rfl ?_
  refine Wl.iload 342 at_340 rfl ?_
  refine Wl.static 345 (argsL := [.ref s41, .int (8 : Int32), .int (11 : Int32), .ref xp, .int (1 : Int32), .ref yn, .int (2 : Int32)]) at_342 (w227 hw) (w228 hw) (w3 hw) (w229 hw) (show parseMethodDescriptor "(Ljava/lang/String;II[CI[CI)Z" = some ⟨[(.object "java/lang/String"), .int, .int, (.array .char), .int, (.array .char), .int], some .boolean⟩ by decide +kernel) rfl (atN_met hw hcs hfm (rs := [p0, (113 : Int32), (117 : Int32), (101 : Int32), (117 : Int32), (101 : Int32), (58 : Int32), (123 : Int32), n0, n1, (125 : Int32)]) (ps := [p0, p1, p2]) (ns := [n0, n1, n2, n3]) (n := 8) (m := 0) ((((((S43.ext E55).ext E61).ext E67).ext E73).ext E79).ext E85) (nle rfl) (by decide) (A.ext B86) (B.ext B86) (nle rfl) (nle rfl) (latC lp0 (latC lp1 (latC lp2 latN))) (latC ln0 (latC ln1 (latC ln2 (latC ln3 latN)))) (by decide) (by decide) (by decide) (by decide) (by decide) (nle rfl) rfl) (fun _ q => nomatch q) rfl rfl rfl (by decide) ⟨⟨nle rfl, nle rfl⟩, nle rfl, nle rfl⟩ ?_
  intro v91 h92 hq93 _
  obtain ⟨rfl, rfl⟩ := hq93
  show WlO _ _ _ _ _ _ _ _ _ _ _ _ _ _ _ _ _ _ [.int (1 : Int32)]
  refine Wl.ifN 348 at_345 (feq (by decide)).1 ?_
  refine Wl.aload 350 at_348 rfl rfl ?_
  refine Wl.bipush 352 (9 : Int32) at_350 (by decide) ?_
  refine Wl.iload 354 at_352 rfl ?_
  refine Wl.aload 356 at_354 rfl rfl ?_
  refine Wl.iload_n 357 at_356 rfl ?_
  refine Wl.aload 359 at_357 rfl rfl ?_
  refine Wl.iload 361 at_359 rfl ?_
  refine Wl.static 364 (argsL := [.ref s41, .int (9 : Int32), .int (11 : Int32), .ref xp, .int (1 : Int32), .ref yn, .int (2 : Int32)]) at_361 (w227 hw) (w228 hw) (w3 hw) (w229 hw) (show parseMethodDescriptor "(Ljava/lang/String;II[CI[CI)Z" = some ⟨[(.object "java/lang/String"), .int, .int, (.array .char), .int, (.array .char), .int], some .boolean⟩ by decide +kernel) rfl (atN_met hw hcs hfm (rs := [p0, (113 : Int32), (117 : Int32), (101 : Int32), (117 : Int32), (101 : Int32), (58 : Int32), (123 : Int32), n0, n1, (125 : Int32)]) (ps := [p0, p1, p2]) (ns := [n0, n1, n2, n3]) (n := 9) (m := 1) ((((((S43.ext E55).ext E61).ext E67).ext E73).ext E79).ext E85) (nle rfl) (by decide) (A.ext B86) (B.ext B86) (nle rfl) (nle rfl) (latC lp0 (latC lp1 (latC lp2 latN))) (latC ln0 (latC ln1 (latC ln2 (latC ln3 latN)))) (by decide) (by decide) (by decide) (by decide) (by decide) (nle rfl) rfl) (fun _ q => nomatch q) rfl rfl rfl (by decide) ⟨⟨nle rfl, nle rfl⟩, nle rfl, nle rfl⟩ ?_
  intro v94 h95 hq96 _
  obtain ⟨rfl, rfl⟩ := hq96
  show WlO _ _ _ _ _ _ _ _ _ _ _ _ _ _ _ _ _ _ [.int (1 : Int32)]
  refine Wl.ifN 367 at_364 (feq (by decide)).1 ?_
  refine Wl.aload 369 at_367 rfl rfl ?_
  refine Wl.bipush 371 (10 : Int32) at_369 (by decide) ?_
  refine Wl.iload 373 at_371 rfl ?_
  refine Wl.aload 375 at_373 rfl rfl ?_
  refine Wl.iload_n 376 at_375 rfl ?_
  refine Wl.aload 378 at_376 rfl rfl ?_
  refine Wl.iload 380 at_378 rfl ?_
  refine Wl.static 383 (argsL := [.ref s41, .int (10 : Int32), .int (11 : Int32), .ref xp, .int (1 : Int32), .ref yn, .int (2 : Int32)]) at_380 (w227 hw) (w228 hw) (w3 hw) (w229 hw) (show parseMethodDescriptor "(Ljava/lang/String;II[CI[CI)Z" = some ⟨[(.object "java/lang/String"), .int, .int, (.array .char), .int, (.array .char), .int], some .boolean⟩ by decide +kernel) rfl (atE_met hw hcs hfm (rs := [p0, (113 : Int32), (117 : Int32), (101 : Int32), (117 : Int32), (101 : Int32), (58 : Int32), (123 : Int32), n0, n1, (125 : Int32)]) (ps := [p0, p1, p2]) (ns := [n0, n1, n2, n3]) (n := 10) ((((((S43.ext E55).ext E61).ext E67).ext E73).ext E79).ext E85) (nle rfl) (by decide) (A.ext B86) (B.ext B86) (nle rfl) (nle rfl) (latC lp0 (latC lp1 (latC lp2 latN))) (latC ln0 (latC ln1 (latC ln2 (latC ln3 latN)))) (by decide) (by decide) (by decide) (by decide) rfl) (fun _ q => nomatch q) rfl rfl rfl (by decide) ⟨⟨nle rfl, nle rfl⟩, nle rfl, nle rfl⟩ ?_
  intro v97 h98 hq99 _
  obtain ⟨rfl, rfl⟩ := hq99
  show WlO _ _ _ _ _ _ _ _ _ _ _ _ _ _ _ _ _ _ [.int (1 : Int32)]
  refine Wl.ifN 386 at_383 (feq (by decide)).1 ?_
  refine Wl.aload 388 at_386 rfl rfl ?_
  refine Wl.bipush 390 (11 : Int32) at_388 (by decide) ?_
  refine Wl.iload 392 at_390 rfl ?_
  refine Wl.aload 394 at_392 rfl rfl ?_
  refine Wl.iload_n 395 at_394 rfl ?_
  refine Wl.aload 397 at_395 rfl rfl ?_
  refine Wl.iload 399 at_397 rfl ?_
  refine Wl.static 402 (argsL := [.ref s41, .int (11 : Int32), .int (11 : Int32), .ref xp, .int (1 : Int32), .ref yn, .int (2 : Int32)]) at_399 (w227 hw) (w228 hw) (w3 hw) (w229 hw) (show parseMethodDescriptor "(Ljava/lang/String;II[CI[CI)Z" = some ⟨[(.object "java/lang/String"), .int, .int, (.array .char), .int, (.array .char), .int], some .boolean⟩ by decide +kernel) rfl (atC_met hw (by decide)) (fun _ q => nomatch q) rfl rfl rfl (by decide) ⟨⟨nle rfl, nle rfl⟩, nle rfl, nle rfl⟩ ?_
  intro v100 h101 hq102 _
  obtain ⟨rfl, rfl⟩ := hq102
  show WlO _ _ _ _ _ _ _ _ _ _ _ _ _ _ _ _ _ _ [.int (1 : Int32)]
  refine Wl.ifN 405 at_402 (feq (by decide)).1 ?_
  refine Wl.aload 407 at_405 rfl rfl ?_
  refine Wl.bipush 409 (12 : Int32) at_407 (by decide) ?_
  refine Wl.iload 411 at_409 rfl ?_
  refine Wl.aload 413 at_411 rfl rfl ?_
  refine Wl.iload_n 414 at_413 rfl ?_
  refine Wl.aload 416 at_414 rfl rfl ?_
  refine Wl.iload 418 at_416 rfl ?_
  refine Wl.static 421 (argsL := [.ref s41, .int (12 : Int32), .int (11 : Int32), .ref xp, .int (1 : Int32), .ref yn, .int (2 : Int32)]) at_418 (w227 hw) (w228 hw) (w3 hw) (w229 hw) (show parseMethodDescriptor "(Ljava/lang/String;II[CI[CI)Z" = some ⟨[(.object "java/lang/String"), .int, .int, (.array .char), .int, (.array .char), .int], some .boolean⟩ by decide +kernel) rfl (atC_met hw (by decide)) (fun _ q => nomatch q) rfl rfl rfl (by decide) ⟨⟨nle rfl, nle rfl⟩, nle rfl, nle rfl⟩ ?_
  intro v103 h104 hq105 _
  obtain ⟨rfl, rfl⟩ := hq105
  show WlO _ _ _ _ _ _ _ _ _ _ _ _ _ _ _ _ _ _ [.int (1 : Int32)]
  refine Wl.ifN 424 at_421 (feq (by decide)).1 ?_
  refine Wl.aload 426 at_424 rfl rfl ?_
  refine Wl.bipush 428 (13 : Int32) at_426 (by decide) ?_
  refine Wl.iload 430 at_428 rfl ?_
  refine Wl.aload 432 at_430 rfl rfl ?_
  refine Wl.iload_n 433 at_432 rfl ?_
  refine Wl.aload 435 at_433 rfl rfl ?_
  refine Wl.iload 437 at_435 rfl ?_
  refine Wl.static 440 (argsL := [.ref s41, .int (13 : Int32), .int (11 : Int32), .ref xp, .int (1 : Int32), .ref yn, .int (2 : Int32)]) at_437 (w227 hw) (w228 hw) (w3 hw) (w229 hw) (show parseMethodDescriptor "(Ljava/lang/String;II[CI[CI)Z" = some ⟨[(.object "java/lang/String"), .int, .int, (.array .char), .int, (.array .char), .int], some .boolean⟩ by decide +kernel) rfl (atC_met hw (by decide)) (fun _ q => nomatch q) rfl rfl rfl (by decide) ⟨⟨nle rfl, nle rfl⟩, nle rfl, nle rfl⟩ ?_
  intro v106 h107 hq108 _
  obtain ⟨rfl, rfl⟩ := hq108
  show WlO _ _ _ _ _ _ _ _ _ _ _ _ _ _ _ _ _ _ [.int (1 : Int32)]
  refine Wl.ifN 443 at_440 (feq (by decide)).1 ?_
  refine Wl.aload 445 at_443 rfl rfl ?_
  refine Wl.bipush 447 (14 : Int32) at_445 (by decide) ?_
  refine Wl.iload 449 at_447 rfl ?_
  refine Wl.aload 451 at_449 rfl rfl ?_
  refine Wl.iload_n 452 at_451 rfl ?_
  refine Wl.aload 454 at_452 rfl rfl ?_
  refine Wl.iload 456 at_454 rfl ?_
  refine Wl.static 459 (argsL := [.ref s41, .int (14 : Int32), .int (11 : Int32), .ref xp, .int (1 : Int32), .ref yn, .int (2 : Int32)]) at_456 (w227 hw) (w228 hw) (w3 hw) (w229 hw) (show parseMethodDescriptor "(Ljava/lang/String;II[CI[CI)Z" = some ⟨[(.object "java/lang/String"), .int, .int, (.array .char), .int, (.array .char), .int], some .boolean⟩ by decide +kernel) rfl (atC_met hw (by decide)) (fun _ q => nomatch q) rfl rfl rfl (by decide) ⟨⟨nle rfl, nle rfl⟩, nle rfl, nle rfl⟩ ?_
  intro v109 h110 hq111 _
  obtain ⟨rfl, rfl⟩ := hq111
  show WlO _ _ _ _ _ _ _ _ _ _ _ _ _ _ _ _ _ _ [.int (1 : Int32)]
  refine Wl.ifN 462 at_459 (feq (by decide)).1 ?_
  refine Wl.iconst 463 (1 : Int32) at_462 (by decide) ?_
  refine Wl.goto 467 at_463 ?_
  exact Wl.ireturn at_467 rfl rfl (by simp) (nle rfl) (nle rfl) rfl
set_option maxRecDepth 65536 in
set_option maxHeartbeats 40000000 in
theorem law_t13 {l : Launch} {Z : State} {a0 : Array Value} (hw : ∀ d ∈ tables_1, d.before a0 Z = true) (hcs : CSon Z) (hfm : Fmt Z) {as : Array Value} {h : Heap} {i0 i1 i2 p0 p1 p2 n0 n1 n2 n3 : Int32} {xp yn : Addr} {kx ky : ClassId} (A : Arv Z h xp kx .char (3 : Int32) [.int p0, .int p1, .int p2] (.int 0)) (B : Arv Z h yn ky .char (4 : Int32) [.int n0, .int n1, .int n2, .int n3] (.int 0)) (lp0 : Lat p0) (lp1 : Lat p1) (lp2 : Lat p2) (ln0 : Lat n0) (ln1 : Lat n1) (ln2 : Lat n2) (ln3 : Lat n3) (p0123 : p0 ≠ 123) (p0125 : p0 ≠ 125) (p1123 : p1 ≠ 123) (p1125 : p1 ≠ 125) (p2123 : p2 ≠ 123) (p2125 : p2 ≠ 125) (hn0 : ¬ n0 = (125 : Int32)) :
    Wl l Z a0 consts_1 x code maxLocals ret room_1 as (fun v h' => v = some (.int 1)) [] h 2 7 116 #[.val (.int i0), .val (.int i1), .val (.int i2), .val (.int (1 : Int32)), .val (.int (3 : Int32)), .val (.ref xp), .val (.ref yn), .unset, .unset, .unset, .unset, .unset] [] := by
  refine Wl.aload 118 at_116 rfl rfl ?_
  refine Wl.iload_n 119 at_118 rfl ?_
  refine Wl.static 122 (argsL := [.ref xp, .int (1 : Int32)]) at_119 (w5 hw) (w6 hw) (w3 hw) (w7 hw) (show parseMethodDescriptor "([CI)Ljava/lang/String;" = some ⟨[(.array .char), .int], some (.object "java/lang/String")⟩ by decide +kernel) rfl (mk31_met hw hcs A lp0 lp1 lp2) (fun _ q => nomatch q) rfl rfl rfl (by decide) ⟨⟨nle rfl, nle rfl⟩, nle rfl, nle rfl⟩ ?_
  intro v1 h2 hq3 _
  obtain ⟨a4, rfl, E5, S6⟩ := hq3
  have B7 : Ext h h2 := E5
  show WlO _ _ _ _ _ _ _ _ _ _ _ _ _ _ _ _ _ _ [.ref a4]
  refine Wl.astore 124 #[.val (.int i0), .val (.int i1), .val (.int i2), .val (.int (1 : Int32)), .val (.int (3 : Int32)), .val (.ref xp), .val (.ref yn), .val (.ref a4), .unset, .unset, .unset, .unset] at_122 rfl rfl ?_
  refine Wl.aload 126 at_124 rfl rfl ?_
  refine Wl.iload 128 at_126 rfl ?_
  refine Wl.static 131 (argsL := [.ref yn, .int (3 : Int32)]) at_128 (w5 hw) (w6 hw) (w3 hw) (w7 hw) (show parseMethodDescriptor "([CI)Ljava/lang/String;" = some ⟨[(.array .char), .int], some (.object "java/lang/String")⟩ by decide +kernel) rfl (mk43_met hw hcs (B.ext E5) ln0 ln1 ln2 ln3) (fun _ q => nomatch q) rfl rfl rfl (by decide) ⟨⟨nle rfl, nle rfl⟩, nle rfl, nle rfl⟩ ?_
  intro v8 h9 hq10 _
  obtain ⟨a11, rfl, E12, S13⟩ := hq10
  have B14 : Ext h h9 := extTr B7 E12
  show WlO _ _ _ _ _ _ _ _ _ _ _ _ _ _ _ _ _ _ [.ref a11]
  refine Wl.astore 133 #[.val (.int i0), .val (.int i1), .val (.int i2), .val (.int (1 : Int32)), .val (.int (3 : Int32)), .val (.ref xp), .val (.ref yn), .val (.ref a4), .val (.ref a11), .unset, .unset, .unset] at_131 rfl rfl ?_
  refine Wl.new 136 at_133 (w37 hw) (w38 hw) (w39 hw) (nle rfl) (nle rfl) ?_
  intro a15 h16 q17 E18 X19 D20
  have z21 : h.size ≤ a15 := Nat.le_trans B14.1 (Nat.le_of_eq q17.symm)
  have z22 : h9.size ≤ a15 := Nat.le_of_eq q17.symm
  have ne23 : xp ≠ a15 := Nat.ne_of_lt (by rw [q17]; exact ((A.ext B14)).lt)
  have ne24 : yn ≠ a15 := Nat.ne_of_lt (by rw [q17]; exact ((B.ext B14)).lt)
  have ne25 : a4 ≠ a15 := Nat.ne_of_lt (by rw [q17]; exact (((S6).exa.ext E12)).lt)
  have ne26 : a11 ≠ a15 := Nat.ne_of_lt (by rw [q17]; exact ((S13).exa).lt)
  have B27 : Ext h h16 := extTr B14 E18
  have B28 : Ext h9 h16 := E18
  have F29 : Fld Z h16 a15 "com/example/portunus/portunus/LockKeys" "prefix" "Ljava/lang/String;" (.null) := D20 (Or.inr (w94 hw)) (ty := (.object "java/lang/String")) (by decide)
  refine Wl.dup 137 at_136 rfl ?_
  refine Wl.aload 139 at_137 rfl rfl ?_
  refine Wl.special 142 (argsL := [.ref a4]) at_139 (w40 hw) (w41 hw) (w39 hw) (w42 hw) (show parseMethodDescriptor "(Ljava/lang/String;)V" = some ⟨[(.object "java/lang/String")], none⟩ by decide +kernel) rfl (keys_met hw hcs X19 F29 (cs := [p0]) ((S6.ext E12).ext E18) (neC p0123 neN) (neC p0125 neN)) (allS (List.mem_of_getElem? (i := 0) rfl) (fun _ q => nomatch q)) rfl rfl rfl rfl (by decide) ⟨⟨nle rfl, nle rfl⟩, nle rfl, nle rfl⟩ ?_
  intro v30 h31 hq32 _
  obtain ⟨rfl, K33, X34, F35⟩ := hq32
  have B36 : Ext h h31 := extKeep B27 K33 (allS z21 all0)
  have B37 : Ext h9 h31 := extKeep B28 K33 (allS z22 all0)
  show WlO _ _ _ _ _ _ _ _ _ _ _ _ _ _ _ _ _ _ [.ref a15]
  refine Wl.astore 144 #[.val (.int i0), .val (.int i1), .val (.int i2), .val (.int (1 : Int32)), .val (.int (3 : Int32)), .val (.ref xp), .val (.ref yn), .val (.ref a4), .val (.ref a11), .val (.ref a15), .unset, .unset] at_142 rfl rfl ?_
  refine Wl.aload 146 at_144 rfl rfl ?_
  refine Wl.aload 148 at_146 rfl rfl ?_
  refine Wl.virtual 151 (argsL := [.ref a11]) at_148 (w95 hw) (w96 hw) (w98 hw) (w97 hw) (w39 hw) (w99 hw) (nf_sel (w98 hw) rfl) X34 (show parseMethodDescriptor "(Ljava/lang/String;)Ljava/lang/String;" = some ⟨[(.object "java/lang/String")], some (.object "java/lang/String")⟩ by decide +kernel) rfl (key_met hw hcs hfm (cs := [n0, n1, n2]) (ps := [p0]) F35 ((S6.ext E12).ext B37) (nle rfl) (S13.ext B37) (by simp) (nle rfl) hn0 (nle rfl)) (fun _ q => nomatch q) rfl rfl rfl (by decide) ⟨⟨nle rfl, nle rfl⟩, nle rfl, nle rfl⟩ ?_
  intro v38 h39 hq40 _
  obtain ⟨s41, rfl, E42, S43⟩ := hq40
  have S43 : Stl Z h39 s41 [p0, (113 : Int32), (117 : Int32), (101 : Int32), (117 : Int32), (101 : Int32), (58 : Int32), (123 : Int32), n0, n1, n2, (125 : Int32)] := S43
  have B44 : Ext h h39 := extTr B36 E42
  have B45 : Ext h9 h39 := extTr B37 E42
  show WlO _ _ _ _ _ _ _ _ _ _ _ _ _ _ _ _ _ _ [.ref s41]
  refine Wl.astore 153 #[.val (.int i0), .val (.int i1), .val (.int i2), .val (.int (1 : Int32)), .val (.int (3 : Int32)), .val (.ref xp), .val (.ref yn), .val (.ref a4), .val (.ref a11), .val (.ref a15), .val (.ref s41), .unset] at_151 rfl rfl ?_
  refine Wl.iload_n 154 at_153 rfl ?_
  refine Wl.bipush 156 (6 : Int32) at_154 (by decide) ?_
  refine Wl.iadd 157 at_156 ?_
  show WlO _ _ _ _ _ _ _ _ _ _ _ _ _ _ _ _ _ _ [.int (7 : Int32)]
  refine Wl.iconst 158 (1 : Int32) at_157 (by decide) ?_
  refine Wl.iadd 159 at_158 ?_
  show WlO _ _ _ _ _ _ _ _ _ _ _ _ _ _ _ _ _ _ [.int (8 : Int32)]
  refine Wl.iload 161 at_159 rfl ?_
  refine Wl.iadd 162 at_161 ?_
  show WlO _ _ _ _ _ _ _ _ _ _ _ _ _ _ _ _ _ _ [.int (11 : Int32)]
  refine Wl.iconst 163 (1 : Int32) at_162 (by decide) ?_
  refine Wl.iadd 164 at_163 ?_
  show WlO _ _ _ _ _ _ _ _ _ _ _ _ _ _ _ _ _ _ [.int (12 : Int32)]
  refine Wl.istore 166 #[.val (.int i0), .val (.int i1), .val (.int i2), .val (.int (1 : Int32)), .val (.int (3 : Int32)), .val (.ref xp), .val (.ref yn), .val (.ref a4), .val (.ref a11), .val (.ref a15), .val (.ref s41), .val (.int (12 : Int32))] at_164 rfl ?_
  refine Wl.aload 168 at_166 rfl rfl ?_
  refine Wl.ifnullN 171 at_168 ?_
  refine Wl.aload 173 at_171 rfl rfl ?_
  refine Wl.virtual 176 (argsL := []) at_173 (w226 hw) (w67 hw) (w69 hw) (w68 hw) (w10 hw) (w70 hw) (nf_sel (w69 hw) rfl) (S43).exa (show parseMethodDescriptor "()I" = some ⟨[], some .int⟩ by decide +kernel) rfl (len_met hw hcs S43) (fun _ q => nomatch q) rfl rfl rfl (by decide) ⟨⟨nle rfl, nle rfl⟩, nle rfl, nle rfl⟩ ?_
  intro v46 h47 hq48 _
  obtain ⟨rfl, rfl⟩ := hq48
  show WlO _ _ _ _ _ _ _ _ _ _ _ _ _ _ _ _ _ _ [.int (12 : Int32)]
  refine Wl.iload 178 at_176 rfl ?_
  refine Wl.icmpY 183 at_178 (teq (by decide)).1 ?_
  refine Wl.aload 185 at_183 rfl rfl ?_
  refine Wl.iconst 186 (0 : Int32) at_185 (by decide) ?_
  refine Wl.iload 188 at_186 rfl ?_
  refine Wl.aload 190 at_188 rfl rfl ?_
  refine Wl.iload_n 191 at_190 rfl ?_
  refine Wl.aload 193 at_191 rfl rfl ?_
  refine Wl.iload 195 at_193 rfl ?_
  refine Wl.static 198 (argsL := [.ref s41, .int (0 : Int32), .int (12 : Int32), .ref xp, .int (1 : Int32), .ref yn, .int (3 : Int32)]) at_195 (w227 hw) (w228 hw) (w3 hw) (w229 hw) (show parseMethodDescriptor "(Ljava/lang/String;II[CI[CI)Z" = some ⟨[(.object "java/lang/String"), .int, .int, (.array .char), .int, (.array .char), .int], some .boolean⟩ by decide +kernel) rfl (atP_met hw hcs hfm (rs := [p0, (113 : Int32), (117 : Int32), (101 : Int32), (117 : Int32), (101 : Int32), (58 : Int32), (123 : Int32), n0, n1, n2, (125 : Int32)]) (ps := [p0, p1, p2]) (ns := [n0, n1, n2, n3]) (n := 0) S43 (nle rfl) (by decide) (A.ext B44) (B.ext B44) (nle rfl) (nle rfl) (latC lp0 (latC lp1 (latC lp2 latN))) (latC ln0 (latC ln1 (latC ln2 (latC ln3 latN)))) (by decide) (nle rfl) rfl) (fun _ q => nomatch q) rfl rfl rfl (by decide) ⟨⟨nle rfl, nle rfl⟩, nle rfl, nle rfl⟩ ?_
  intro v49 h50 hq51 _
  obtain ⟨rfl, rfl⟩ := hq51
  show WlO _ _ _ _ _ _ _ _ _ _ _ _ _ _ _ _ _ _ [.int (1 : Int32)]
  refine Wl.ifN 201 at_198 (feq (by decide)).1 ?_
  refine Wl.aload 203 at_201 rfl rfl ?_
  refine Wl.iconst 204 (1 : Int32) at_203 (by decide) ?_
  refine Wl.iload 206 at_204 rfl ?_
  refine Wl.aload 208 at_206 rfl rfl ?_
  refine Wl.iload_n 209 at_208 rfl ?_
  refine Wl.aload 211 at_209 rfl rfl ?_
  refine Wl.iload 213 at_211 rfl ?_
  refine Wl.static 216 (argsL := [.ref s41, .int (1 : Int32), .int (12 : Int32), .ref xp, .int (1 : Int32), .ref yn, .int (3 : Int32)]) at_213 (w227 hw) (w228 hw) (w3 hw) (w229 hw) (show parseMethodDescriptor "(Ljava/lang/String;II[CI[CI)Z" = some ⟨[(.object "java/lang/String"), .int, .int, (.array .char), .int, (.array .char), .int], some .boolean⟩ by decide +kernel) rfl (atA_met hw hcs hfm (rs := [p0, (113 : Int32), (117 : Int32), (101 : Int32), (117 : Int32), (101 : Int32), (58 : Int32), (123 : Int32), n0, n1, n2, (125 : Int32)]) (ps := [p0, p1, p2]) (ns := [n0, n1, n2, n3]) (n := 1) (j := 0) S43 (nle rfl) (by decide) (A.ext B44) (B.ext B44) (nle rfl) (nle rfl) (latC lp0 (latC lp1 (latC lp2 latN))) (latC ln0 (latC ln1 (latC ln2 (latC ln3 latN)))) (by decide) (by decide) (by decide) (nle rfl) rfl) (fun _ q => nomatch q) rfl rfl rfl (by decide) ⟨⟨nle rfl, nle rfl⟩, nle rfl, nle rfl⟩ ?_
  intro v52 h53 hq54 _
  obtain ⟨rfl, E55⟩ := hq54
  have B56 : Ext h h53 := extTr B44 E55
  have B57 : Ext h9 h53 := extTr B45 E55
  show WlO _ _ _ _ _ _ _ _ _ _ _ _ _ _ _ _ _ _ [.int (1 : Int32)]
  refine Wl.ifN 219 at_216 (feq (by decide)).1 ?_
  refine Wl.aload 221 at_219 rfl rfl ?_
  refine Wl.iconst 222 (2 : Int32) at_221 (by decide) ?_
  refine Wl.iload 224 at_222 rfl ?_
  refine Wl.aload 226 at_224 rfl rfl ?_
  refine Wl.iload_n 227 at_226 rfl ?_
  refine Wl.aload 229 at_227 rfl rfl ?_
  refine Wl.iload 231 at_229 rfl ?_
  refine Wl.static 234 (argsL := [.ref s41, .int (2 : Int32), .int (12 : Int32), .ref xp, .int (1 : Int32), .ref yn, .int (3 : Int32)]) at_231 (w227 hw) (w228 hw) (w3 hw) (w229 hw) (show parseMethodDescriptor "(Ljava/lang/String;II[CI[CI)Z" = some ⟨[(.object "java/lang/String"), .int, .int, (.array .char), .int, (.array .char), .int], some .boolean⟩ by decide +kernel) rfl (atA_met hw hcs hfm (rs := [p0, (113 : Int32), (117 : Int32), (101 : Int32), (117 : Int32), (101 : Int32), (58 : Int32), (123 : Int32), n0, n1, n2, (125 : Int32)]) (ps := [p0, p1, p2]) (ns := [n0, n1, n2, n3]) (n := 2) (j := 1) (S43.ext E55) (nle rfl) (by decide) (A.ext B56) (B.ext B56) (nle rfl) (nle rfl) (latC lp0 (latC lp1 (latC lp2 latN))) (latC ln0 (latC ln1 (latC ln2 (latC ln3 latN)))) (by decide) (by decide) (by decide) (nle rfl) rfl) (fun _ q => nomatch q) rfl rfl rfl (by decide) ⟨⟨nle rfl, nle rfl⟩, nle rfl, nle rfl⟩ ?_
  intro v58 h59 hq60 _
  obtain ⟨rfl, E61⟩ := hq60
  have B62 : Ext h h59 := extTr B56 E61
  have B63 : Ext h9 h59 := extTr B57 E61
  show WlO _ _ _ _ _ _ _ _ _ _ _ _ _ _ _ _ _ _ [.int (1 : Int32)]
  refine Wl.ifN 237 at_234 (feq (by decide)).1 ?_
  refine Wl.aload 239 at_237 rfl rfl ?_
  refine Wl.iconst 240 (3 : Int32) at_239 (by decide) ?_
  refine Wl.iload 242 at_240 rfl ?_
  refine Wl.aload 244 at_242 rfl rfl ?_
  refine Wl.iload_n 245 at_244 rfl ?_
  refine Wl.aload 247 at_245 rfl rfl ?_
  refine Wl.iload 249 at_247 rfl ?_
  refine Wl.static 252 (argsL := [.ref s41, .int (3 : Int32), .int (12 : Int32), .ref xp, .int (1 : Int32), .ref yn, .int (3 : Int32)]) at_249 (w227 hw) (w228 hw) (w3 hw) (w229 hw) (show parseMethodDescriptor "(Ljava/lang/String;II[CI[CI)Z" = some ⟨[(.object "java/lang/String"), .int, .int, (.array .char), .int, (.array .char), .int], some .boolean⟩ by decide +kernel) rfl (atA_met hw hcs hfm (rs := [p0, (113 : Int32), (117 : Int32), (101 : Int32), (117 : Int32), (101 : Int32), (58 : Int32), (123 : Int32), n0, n1, n2, (125 : Int32)]) (ps := [p0, p1, p2]) (ns := [n0, n1, n2, n3]) (n := 3) (j := 2) ((S43.ext E55).ext E61) (nle rfl) (by decide) (A.ext B62) (B.ext B62) (nle rfl) (nle rfl) (latC lp0 (latC lp1 (latC lp2 latN))) (latC ln0 (latC ln1 (latC ln2 (latC ln3 latN)))) (by decide) (by decide) (by decide) (nle rfl) rfl) (fun _ q => nomatch q) rfl rfl rfl (by decide) ⟨⟨nle rfl, nle rfl⟩, nle rfl, nle rfl⟩ ?_
  intro v64 h65 hq66 _
  obtain ⟨rfl, E67⟩ := hq66
  have B68 : Ext h h65 := extTr B62 E67
  have B69 : Ext h9 h65 := extTr B63 E67
  show WlO _ _ _ _ _ _ _ _ _ _ _ _ _ _ _ _ _ _ [.int (1 : Int32)]
  refine Wl.ifN 255 at_252 (feq (by decide)).1 ?_
  refine Wl.aload 257 at_255 rfl rfl ?_
  refine Wl.iconst 258 (4 : Int32) at_257 (by decide) ?_
  refine Wl.iload 260 at_258 rfl ?_
  refine Wl.aload 262 at_260 rfl rfl ?_
  refine Wl.iload_n 263 at_262 rfl ?_
  refine Wl.aload 265 at_263 rfl rfl ?_
  refine Wl.iload 267 at_265 rfl ?_
  refine Wl.static 270 (argsL := [.ref s41, .int (4 : Int32), .int (12 : Int32), .ref xp, .int (1 : Int32), .ref yn, .int (3 : Int32)]) at_267 (w227 hw) (w228 hw) (w3 hw) (w229 hw) (show parseMethodDescriptor "(Ljava/lang/String;II[CI[CI)Z" = some ⟨[(.object "java/lang/String"), .int, .int, (.array .char), .int, (.array .char), .int], some .boolean⟩ by decide +kernel) rfl (atA_met hw hcs hfm (rs := [p0, (113 : Int32), (117 : Int32), (101 : Int32), (117 : Int32), (101 : Int32), (58 : Int32), (123 : Int32), n0, n1, n2, (125 : Int32)]) (ps := [p0, p1, p2]) (ns := [n0, n1, n2, n3]) (n := 4) (j := 3) (((S43.ext E55).ext E61).ext E67) (nle rfl) (by decide) (A.ext B68) (B.ext B68) (nle rfl) (nle rfl) (latC lp0 (latC lp1 (latC lp2 latN))) (latC ln0 (latC ln1 (latC ln2 (latC ln3 latN)))) (by decide) (by decide) (by decide) (nle rfl) rfl) (fun _ q => nomatch q) rfl rfl rfl (by decide) ⟨⟨nle rfl, nle rfl⟩, nle rfl, nle rfl⟩ ?_
  intro v70 h71 hq72 _
  obtain ⟨rfl, E73⟩ := hq72
  have B74 : Ext h h71 := extTr B68 E73
  have B75 : Ext h9 h71 := extTr B69 E73
  show WlO _ _ _ _ _ _ _ _ _ _ _ _ _ _ _ _ _ _ [.int (1 : Int32)]
  refine Wl.ifN 273 at_270 (feq (by decide)).1 ?_
  refine Wl.aload 275 at_273 rfl rfl ?_
  refine Wl.iconst 276 (5 : Int32) at_275 (by decide) ?_
  refine Wl.iload 278 at_276 rfl ?_
  refine Wl.aload 280 at_278 rfl rfl ?_
  refine Wl.iload_n 281 at_280 rfl ?_
  refine Wl.aload 283 at_281 rfl rfl ?_
  refine Wl.iload 285 at_283 rfl ?_
  refine Wl.static 288 (argsL := [.ref s41, .int (5 : Int32), .int (12 : Int32), .ref xp, .int (1 : Int32), .ref yn, .int (3 : Int32)]) at_285 (w227 hw) (w228 hw) (w3 hw) (w229 hw) (show parseMethodDescriptor "(Ljava/lang/String;II[CI[CI)Z" = some ⟨[(.object "java/lang/String"), .int, .int, (.array .char), .int, (.array .char), .int], some .boolean⟩ by decide +kernel) rfl (atA_met hw hcs hfm (rs := [p0, (113 : Int32), (117 : Int32), (101 : Int32), (117 : Int32), (101 : Int32), (58 : Int32), (123 : Int32), n0, n1, n2, (125 : Int32)]) (ps := [p0, p1, p2]) (ns := [n0, n1, n2, n3]) (n := 5) (j := 4) ((((S43.ext E55).ext E61).ext E67).ext E73) (nle rfl) (by decide) (A.ext B74) (B.ext B74) (nle rfl) (nle rfl) (latC lp0 (latC lp1 (latC lp2 latN))) (latC ln0 (latC ln1 (latC ln2 (latC ln3 latN)))) (by decide) (by decide) (by decide) (nle rfl) rfl) (fun _ q => nomatch q) rfl rfl rfl (by decide) ⟨⟨nle rfl, nle rfl⟩, nle rfl, nle rfl⟩ ?_
  intro v76 h77 hq78 _
  obtain ⟨rfl, E79⟩ := hq78
  have B80 : Ext h h77 := extTr B74 E79
  have B81 : Ext h9 h77 := extTr B75 E79
  show WlO _ _ _ _ _ _ _ _ _ _ _ _ _ _ _ _ _ _ [.int (1 : Int32)]
  refine Wl.ifN 291 at_288 (feq (by decide)).1 ?_
  refine Wl.aload 293 at_291 rfl rfl ?_
  refine Wl.bipush 295 (6 : Int32) at_293 (by decide) ?_
  refine Wl.iload 297 at_295 rfl ?_
  refine Wl.aload 299 at_297 rfl rfl ?_
  refine Wl.iload_n 300 at_299 rfl ?_
  refine Wl.aload 302 at_300 rfl rfl ?_
  refine Wl.iload 304 at_302 rfl ?_
  refine Wl.static 307 (argsL := [.ref s41, .int (6 : Int32), .int (12 : Int32), .ref xp, .int (1 : Int32), .ref yn, .int (3 : Int32)]) at_304 (w227 hw) (w228 hw) (w3 hw) (w229 hw) (show parseMethodDescriptor "(Ljava/lang/String;II[CI[CI)Z" = some ⟨[(.object "java/lang/String"), .int, .int, (.array .char), .int, (.array .char), .int], some .boolean⟩ by decide +kernel) rfl (atA_met hw hcs hfm (rs := [p0, (113 : Int32), (117 : Int32), (101 : Int32), (117 : Int32), (101 : Int32), (58 : Int32), (123 : Int32), n0, n1, n2, (125 : Int32)]) (ps := [p0, p1, p2]) (ns := [n0, n1, n2, n3]) (n := 6) (j := 5) (((((S43.ext E55).ext E61).ext E67).ext E73).ext E79) (nle rfl) (by decide) (A.ext B80) (B.ext B80) (nle rfl) (nle rfl) (latC lp0 (latC lp1 (latC lp2 latN))) (latC ln0 (latC ln1 (latC ln2 (latC ln3 latN)))) (by decide) (by decide) (by decide) (nle rfl) rfl) (fun _ q => nomatch q) rfl rfl rfl (by decide) ⟨⟨nle rfl, nle rfl⟩, nle rfl, nle rfl⟩ ?_
  intro v82 h83 hq84 _
  obtain ⟨rfl, E85⟩ := hq84
  have B86 : Ext h h83 := extTr B80 E85
  have B87 : Ext h9 h83 := extTr B81 E85
  show WlO _ _ _ _ _ _ _ _ _ _ _ _ _ _ _ _ _ _ [.int (1 : Int32)]
  refine Wl.ifN 310 at_307 (feq (by decide)).1 ?_
  refine Wl.aload 312 at_310 rfl rfl ?_
  refine Wl.bipush 314 (7 : Int32) at_312 (by decide) ?_
  refine Wl.iload 316 at_314 rfl ?_
  refine Wl.aload 318 at_316 rfl rfl ?_
  refine Wl.iload_n 319 at_318 rfl ?_
  refine Wl.aload 321 at_319 rfl rfl ?_
  refine Wl.iload 323 at_321 rfl ?_
  refine Wl.static 326 (argsL := [.ref s41, .int (7 : Int32), .int (12 : Int32), .ref xp, .int (1 : Int32), .ref yn, .int (3 : Int32)]) at_323 (w227 hw) (w228 hw) (w3 hw) (w229 hw) (show parseMethodDescriptor "(Ljava/lang/String;II[CI[CI)Z" = some ⟨[(.object "java/lang/String"), .int, .int, (.array .char), .int, (.array .char), .int], some .boolean⟩ by decide +kernel) rfl (atO_met hw hcs hfm (rs := [p0, (113 : Int32), (117 : Int32), (101 : Int32), (117 : Int32), (101 : Int32), (58 : Int32), (123 : Int32), n0, n1, n2, (125 : Int32)]) (ps := [p0, p1, p2]) (ns := [n0, n1, n2, n3]) (n := 7) ((((((S43.ext E55).ext E61).ext E67).ext E73).ext E79).ext E85) (nle rfl) (by decide) (A.ext B86) (B.ext B86) (nle rfl) (nle rfl) (latC lp0 (latC lp1 (latC lp2 latN))) (latC ln0 (latC ln1 (latC ln2 (latC ln3 latN)))) (by decide) (by decide) (by decide) rfl) (fun _ q => nomatch q) rfl rfl rfl (by decide) ⟨⟨nle rfl, nle rfl⟩, nle rfl, nle rfl⟩ ?_
  intro v88 h89 hq90 _
  obtain ⟨rfl, rfl⟩ := hq90
  show WlO _ _ _ _ _ _ _ _ _ _ _ _ _ _ _ _ _ _ [.int (1 : Int32)]
  refine Wl.ifN 329 at_326 (feq (by decide)).1 ?_
  refine Wl.aload 331 at_329 rfl rfl ?_
  refine Wl.bipush 333 (8 : Int32) at_331 (by decide) ?_
  refine Wl.iload 335 at_333 rfl ?_
  refine Wl.aload 337 at_335 rfl rfl ?_
  refine Wl.iload_n 338 at_337 rfl ?_
  refine Wl.aload 340 at_338 rfl rfl ?_
  refine Wl.iload 342 at_340 rfl ?_
  refine Wl.static 345 (argsL := [.ref s41, .int (8 : Int32), .int (12 : Int32), .ref xp, .int (1 : Int32), .ref yn, .int (3 : Int32)]) at_342 (w227 hw) (w228 hw) (w3 hw) (w229 hw) (show parseMethodDescriptor "(Ljava/lang/String;II[CI[CI)Z" = some ⟨[(.object "java/lang/String"), .int, .int, (.array .char), .int, (.array .char), .int], some .boolean⟩ by decide +kernel) rfl (atN_met hw hcs hfm (rs := [p0, (113 : Int32), (117 : Int32), (101 : Int32), (117 : Int32), (101 : Int32), (58 : Int32), (123 : Int32), n0, n1, n2, (125 : Int32)]) (ps := [p0, p1, p2]) (ns := [n0, n1, n2, n3]) (n := 8) (m := 0) ((((((S43.ext E55).ext E61).ext E67).ext E73).ext E79).ext E85) (nle rfl) (by decide) (A.ext B86) (B.ext B86) (nle rfl) (nle rfl) (latC lp0 (latC lp1 (latC lp2 latN))) (latC ln0 (latC ln1 (latC ln2 (latC ln3 latN)))) (by decide) (by decide) (by decide) (by decide) (by decide) (nle rfl) rfl) (fun _ q => nomatch q) rfl rfl rfl (by decide) ⟨⟨nle rfl, nle rfl⟩, nle rfl, nle rfl⟩ ?_
  intro v91 h92 hq93 _
  obtain ⟨rfl, rfl⟩ := hq93
  show WlO _ _ _ _ _ _ _ _ _ _ _ _ _ _ _ _ _ _ [.int (1 : Int32)]
  refine Wl.ifN 348 at_345 (feq (by decide)).1 ?_
  refine Wl.aload 350 at_348 rfl rfl ?_
  refine Wl.bipush 352 (9 : Int32) at_350 (by decide) ?_
  refine Wl.iload 354 at_352 rfl ?_
  refine Wl.aload 356 at_354 rfl rfl ?_
  refine Wl.iload_n 357 at_356 rfl ?_
  refine Wl.aload 359 at_357 rfl rfl ?_
  refine Wl.iload 361 at_359 rfl ?_
  refine Wl.static 364 (argsL := [.ref s41, .int (9 : Int32), .int (12 : Int32), .ref xp, .int (1 : Int32), .ref yn, .int (3 : Int32)]) at_361 (w227 hw) (w228 hw) (w3 hw) (w229 hw) (show parseMethodDescriptor "(Ljava/lang/String;II[CI[CI)Z" = some ⟨[(.object "java/lang/String"), .int, .int, (.array .char), .int, (.array .char), .int], some .boolean⟩ by decide +kernel) rfl (atN_met hw hcs hfm (rs := [p0, (113 : Int32), (117 : Int32), (101 : Int32), (117 : Int32), (101 : Int32), (58 : Int32), (123 : Int32), n0, n1, n2, (125 : Int32)]) (ps := [p0, p1, p2]) (ns := [n0, n1, n2, n3]) (n := 9) (m := 1) ((((((S43.ext E55).ext E61).ext E67).ext E73).ext E79).ext E85) (nle rfl) (by decide) (A.ext B86) (B.ext B86) (nle rfl) (nle rfl) (latC lp0 (latC lp1 (latC lp2 latN))) (latC ln0 (latC ln1 (latC ln2 (latC ln3 latN)))) (by decide) (by decide) (by decide) (by decide) (by decide) (nle rfl) rfl) (fun _ q => nomatch q) rfl rfl rfl (by decide) ⟨⟨nle rfl, nle rfl⟩, nle rfl, nle rfl⟩ ?_
  intro v94 h95 hq96 _
  obtain ⟨rfl, rfl⟩ := hq96
  show WlO _ _ _ _ _ _ _ _ _ _ _ _ _ _ _ _ _ _ [.int (1 : Int32)]
  refine Wl.ifN 367 at_364 (feq (by decide)).1 ?_
  refine Wl.aload 369 at_367 rfl rfl ?_
  refine Wl.bipush 371 (10 : Int32) at_369 (by decide) ?_
  refine Wl.iload 373 at_371 rfl ?_
  refine Wl.aload 375 at_373 rfl rfl ?_
  refine Wl.iload_n 376 at_375 rfl ?_
  refine Wl.aload 378 at_376 rfl rfl ?_
  refine Wl.iload 380 at_378 rfl ?_
  refine Wl.static 383 (argsL := [.ref s41, .int (10 : Int32), .int (12 : Int32), .ref xp, .int (1 : Int32), .ref yn, .int (3 : Int32)]) at_380 (w227 hw) (w228 hw) (w3 hw) (w229 hw) (show parseMethodDescriptor "(Ljava/lang/String;II[CI[CI)Z" = some ⟨[(.object "java/lang/String"), .int, .int, (.array .char), .int, (.array .char), .int], some .boolean⟩ by decide +kernel) rfl (atN_met hw hcs hfm (rs := [p0, (113 : Int32), (117 : Int32), (101 : Int32), (117 : Int32), (101 : Int32), (58 : Int32), (123 : Int32), n0, n1, n2, (125 : Int32)]) (ps := [p0, p1, p2]) (ns := [n0, n1, n2, n3]) (n := 10) (m := 2) ((((((S43.ext E55).ext E61).ext E67).ext E73).ext E79).ext E85) (nle rfl) (by decide) (A.ext B86) (B.ext B86) (nle rfl) (nle rfl) (latC lp0 (latC lp1 (latC lp2 latN))) (latC ln0 (latC ln1 (latC ln2 (latC ln3 latN)))) (by decide) (by decide) (by decide) (by decide) (by decide) (nle rfl) rfl) (fun _ q => nomatch q) rfl rfl rfl (by decide) ⟨⟨nle rfl, nle rfl⟩, nle rfl, nle rfl⟩ ?_
  intro v97 h98 hq99 _
  obtain ⟨rfl, rfl⟩ := hq99
  show WlO _ _ _ _ _ _ _ _ _ _ _ _ _ _ _ _ _ _ [.int (1 : Int32)]
  refine Wl.ifN 386 at_383 (feq (by decide)).1 ?_
  refine Wl.aload 388 at_386 rfl rfl ?_
  refine Wl.bipush 390 (11 : Int32) at_388 (by decide) ?_
  refine Wl.iload 392 at_390 rfl ?_
  refine Wl.aload 394 at_392 rfl rfl ?_
  refine Wl.iload_n 395 at_394 rfl ?_
  refine Wl.aload 397 at_395 rfl rfl ?_
  refine Wl.iload 399 at_397 rfl ?_
  refine Wl.static 402 (argsL := [.ref s41, .int (11 : Int32), .int (12 : Int32), .ref xp, .int (1 : Int32), .ref yn, .int (3 : Int32)]) at_399 (w227 hw) (w228 hw) (w3 hw) (w229 hw) (show parseMethodDescriptor "(Ljava/lang/String;II[CI[CI)Z" = some ⟨[(.object "java/lang/String"), .int, .int, (.array .char), .int, (.array .char), .int], some .boolean⟩ by decide +kernel) rfl (atE_met hw hcs hfm (rs := [p0, (113 : Int32), (117 : Int32), (101 : Int32), (117 : Int32), (101 : Int32), (58 : Int32), (123 : Int32), n0, n1, n2, (125 : Int32)]) (ps := [p0, p1, p2]) (ns := [n0, n1, n2, n3]) (n := 11) ((((((S43.ext E55).ext E61).ext E67).ext E73).ext E79).ext E85) (nle rfl) (by decide) (A.ext B86) (B.ext B86) (nle rfl) (nle rfl) (latC lp0 (latC lp1 (latC lp2 latN))) (latC ln0 (latC ln1 (latC ln2 (latC ln3 latN)))) (by decide) (by decide) (by decide) (by decide) rfl) (fun _ q => nomatch q) rfl rfl rfl (by decide) ⟨⟨nle rfl, nle rfl⟩, nle rfl, nle rfl⟩ ?_
  intro v100 h101 hq102 _
  obtain ⟨rfl, rfl⟩ := hq102
  show WlO _ _ _ _ _ _ _ _ _ _ _ _ _ _ _ _ _ _ [.int (1 : Int32)]
  refine Wl.ifN 405 at_402 (feq (by decide)).1 ?_
  refine Wl.aload 407 at_405 rfl rfl ?_
  refine Wl.bipush 409 (12 : Int32) at_407 (by decide) ?_
  refine Wl.iload 411 at_409 rfl ?_
  refine Wl.aload 413 at_411 rfl rfl ?_
  refine Wl.iload_n 414 at_413 rfl ?_
  refine Wl.aload 416 at_414 rfl rfl ?_
  refine Wl.iload 418 at_416 rfl ?_
  refine Wl.static 421 (argsL := [.ref s41, .int (12 : Int32), .int (12 : Int32), .ref xp, .int (1 : Int32), .ref yn, .int (3 : Int32)]) at_418 (w227 hw) (w228 hw) (w3 hw) (w229 hw) (show parseMethodDescriptor "(Ljava/lang/String;II[CI[CI)Z" = some ⟨[(.object "java/lang/String"), .int, .int, (.array .char), .int, (.array .char), .int], some .boolean⟩ by decide +kernel) rfl (atC_met hw (by decide)) (fun _ q => nomatch q) rfl rfl rfl (by decide) ⟨⟨nle rfl, nle rfl⟩, nle rfl, nle rfl⟩ ?_
  intro v103 h104 hq105 _
  obtain ⟨rfl, rfl⟩ := hq105
  show WlO _ _ _ _ _ _ _ _ _ _ _ _ _ _ _ _ _ _ [.int (1 : Int32)]
  refine Wl.ifN 424 at_421 (feq (by decide)).1 ?_
  refine Wl.aload 426 at_424 rfl rfl ?_
  refine Wl.bipush 428 (13 : Int32) at_426 (by decide) ?_
  refine Wl.iload 430 at_428 rfl ?_
  refine Wl.aload 432 at_430 rfl rfl ?_
  refine Wl.iload_n 433 at_432 rfl ?_
  refine Wl.aload 435 at_433 rfl rfl ?_
  refine Wl.iload 437 at_435 rfl ?_
  refine Wl.static 440 (argsL := [.ref s41, .int (13 : Int32), .int (12 : Int32), .ref xp, .int (1 : Int32), .ref yn, .int (3 : Int32)]) at_437 (w227 hw) (w228 hw) (w3 hw) (w229 hw) (show parseMethodDescriptor "(Ljava/lang/String;II[CI[CI)Z" = some ⟨[(.object "java/lang/String"), .int, .int, (.array .char), .int, (.array .char), .int], some .boolean⟩ by decide +kernel) rfl (atC_met hw (by decide)) (fun _ q => nomatch q) rfl rfl rfl (by decide) ⟨⟨nle rfl, nle rfl⟩, nle rfl, nle rfl⟩ ?_
  intro v106 h107 hq108 _
  obtain ⟨rfl, rfl⟩ := hq108
  show WlO _ _ _ _ _ _ _ _ _ _ _ _ _ _ _ _ _ _ [.int (1 : Int32)]
  refine Wl.ifN 443 at_440 (feq (by decide)).1 ?_
  refine Wl.aload 445 at_443 rfl rfl ?_
  refine Wl.bipush 447 (14 : Int32) at_445 (by decide) ?_
  refine Wl.iload 449 at_447 rfl ?_
  refine Wl.aload 451 at_449 rfl rfl ?_
  refine Wl.iload_n 452 at_451 rfl ?_
  refine Wl.aload 454 at_452 rfl rfl ?_
  refine Wl.iload 456 at_454 rfl ?_
  refine Wl.static 459 (argsL := [.ref s41, .int (14 : Int32), .int (12 : Int32), .ref xp, .int (1 : Int32), .ref yn, .int (3 : Int32)]) at_456 (w227 hw) (w228 hw) (w3 hw) (w229 hw) (show parseMethodDescriptor "(Ljava/lang/String;II[CI[CI)Z" = some ⟨[(.object "java/lang/String"), .int, .int, (.array .char), .int, (.array .char), .int], some .boolean⟩ by decide +kernel) rfl (atC_met hw (by decide)) (fun _ q => nomatch q) rfl rfl rfl (by decide) ⟨⟨nle rfl, nle rfl⟩, nle rfl, nle rfl⟩ ?_
  intro v109 h110 hq111 _
  obtain ⟨rfl, rfl⟩ := hq111
  show WlO _ _ _ _ _ _ _ _ _ _ _ _ _ _ _ _ _ _ [.int (1 : Int32)]
  refine Wl.ifN 462 at_459 (feq (by decide)).1 ?_
  refine Wl.iconst 463 (1 : Int32) at_462 (by decide) ?_
  refine Wl.goto 467 at_463 ?_
  exact Wl.ireturn at_467 rfl rfl (by simp) (nle rfl) (nle rfl) rfl
set_option maxRecDepth 65536 in
set_option maxHeartbeats 40000000 in
theorem law_t14 {l : Launch} {Z : State} {a0 : Array Value} (hw : ∀ d ∈ tables_1, d.before a0 Z = true) (hcs : CSon Z) (hfm : Fmt Z) {as : Array Value} {h : Heap} {i0 i1 i2 p0 p1 p2 n0 n1 n2 n3 : Int32} {xp yn : Addr} {kx ky : ClassId} (A : Arv Z h xp kx .char (3 : Int32) [.int p0, .int p1, .int p2] (.int 0)) (B : Arv Z h yn ky .char (4 : Int32) [.int n0, .int n1, .int n2, .int n3] (.int 0)) (lp0 : Lat p0) (lp1 : Lat p1) (lp2 : Lat p2) (ln0 : Lat n0) (ln1 : Lat n1) (ln2 : Lat n2) (ln3 : Lat n3) (p0123 : p0 ≠ 123) (p0125 : p0 ≠ 125) (p1123 : p1 ≠ 123) (p1125 : p1 ≠ 125) (p2123 : p2 ≠ 123) (p2125 : p2 ≠ 125) (hn0 : ¬ n0 = (125 : Int32)) :
    Wl l Z a0 consts_1 x code maxLocals ret room_1 as (fun v h' => v = some (.int 1)) [] h 2 7 116 #[.val (.int i0), .val (.int i1), .val (.int i2), .val (.int (1 : Int32)), .val (.int (4 : Int32)), .val (.ref xp), .val (.ref yn), .unset, .unset, .unset, .unset, .unset] [] := by
  refine Wl.aload 118 at_116 rfl rfl ?_
  refine Wl.iload_n 119 at_118 rfl ?_
  refine Wl.static 122 (argsL := [.ref xp, .int (1 : Int32)]) at_119 (w5 hw) (w6 hw) (w3 hw) (w7 hw) (show parseMethodDescriptor "([CI)Ljava/lang/String;" = some ⟨[(.array .char), .int], some (.object "java/lang/String")⟩ by decide +kernel) rfl (mk31_met hw hcs A lp0 lp1 lp2) (fun _ q => nomatch q) rfl rfl rfl (by decide) ⟨⟨nle rfl, nle rfl⟩, nle rfl, nle rfl⟩ ?_
  intro v1 h2 hq3 _
  obtain ⟨a4, rfl, E5, S6⟩ := hq3
  have B7 : Ext h h2 := E5
  show WlO _ _ _ _ _ _ _ _ _ _ _ _ _ _ _ _ _ _ [.ref a4]
  refine Wl.astore 124 #[.val (.int i0), .val (.int i1), .val (.int i2), .val (.int (1 : Int32)), .val (.int (4 : Int32)), .val (.ref xp), .val (.ref yn), .val (.ref a4), .unset, .unset, .unset, .unset] at_122 rfl rfl ?_
  refine Wl.aload 126 at_124 rfl rfl ?_
  refine Wl.iload 128 at_126 rfl ?_
  refine Wl.static 131 (argsL := [.ref yn, .int (4 : Int32)]) at_128 (w5 hw) (w6 hw) (w3 hw) (w7 hw) (show parseMethodDescriptor "([CI)Ljava/lang/String;" = some ⟨[(.array .char), .int], some (.object "java/lang/String")⟩ by decide +kernel) rfl (mk44_met hw hcs (B.ext E5) ln0 ln1 ln2 ln3) (fun _ q => nomatch q) rfl rfl rfl (by decide) ⟨⟨nle rfl, nle rfl⟩, nle rfl, nle rfl⟩ ?_
  intro v8 h9 hq10 _
  obtain ⟨a11, rfl, E12, S13⟩ := hq10
  have B14 : Ext h h9 := extTr B7 E12
  show WlO _ _ _ _ _ _ _ _ _ _ _ _ _ _ _ _ _ _ [.ref a11]
  refine Wl.astore 133 #[.val (.int i0), .val (.int i1), .val (.int i2), .val (.int (1 : Int32)), .val (.int (4 : Int32)), .val (.ref xp), .val (.ref yn), .val (.ref a4), .val (.ref a11), .unset, .unset, .unset] at_131 rfl rfl ?_
  refine Wl.new 136 at_133 (w37 hw) (w38 hw) (w39 hw) (nle rfl) (nle rfl) ?_
  intro a15 h16 q17 E18 X19 D20
  have z21 : h.size ≤ a15 := Nat.le_trans B14.1 (Nat.le_of_eq q17.symm)
  have z22 : h9.size ≤ a15 := Nat.le_of_eq q17.symm
  have ne23 : xp ≠ a15 := Nat.ne_of_lt (by rw [q17]; exact ((A.ext B14)).lt)
  have ne24 : yn ≠ a15 := Nat.ne_of_lt (by rw [q17]; exact ((B.ext B14)).lt)
  have ne25 : a4 ≠ a15 := Nat.ne_of_lt (by rw [q17]; exact (((S6).exa.ext E12)).lt)
  have ne26 : a11 ≠ a15 := Nat.ne_of_lt (by rw [q17]; exact ((S13).exa).lt)
  have B27 : Ext h h16 := extTr B14 E18
  have B28 : Ext h9 h16 := E18
  have F29 : Fld Z h16 a15 "com/example/portunus/portunus/LockKeys" "prefix" "Ljava/lang/String;" (.null) := D20 (Or.inr (w94 hw)) (ty := (.object "java/lang/String")) (by decide)
  refine Wl.dup 137 at_136 rfl ?_
  refine Wl.aload 139 at_137 rfl rfl ?_
  refine Wl.special 142 (argsL := [.ref a4]) at_139 (w40 hw) (w41 hw) (w39 hw) (w42 hw) (show parseMethodDescriptor "(Ljava/lang/String;)V" = some ⟨[(.object "java/lang/String")], none⟩ by decide +kernel) rfl (keys_met hw hcs X19 F29 (cs := [p0]) ((S6.ext E12).ext E18) (neC p0123 neN) (neC p0125 neN)) (allS (List.mem_of_getElem? (i := 0) rfl) (fun _ q => nomatch q)) rfl rfl rfl rfl (by decide) ⟨⟨nle rfl, nle rfl⟩, nle rfl, nle rfl⟩ ?_
  intro v30 h31 hq32 _
  obtain ⟨rfl, K33, X34, F35⟩ := hq32
  have B36 : Ext h h31 := extKeep B27 K33 (allS z21 all0)
  have B37 : Ext h9 h31 := extKeep B28 K33 (allS z22 all0)
  show WlO _ _ _ _ _ _ _ _ _ _ _ _ _ _ _ _ _ _ [.ref a15]
  refine Wl.astore 144 #[.val (.int i0), .val (.int i1), .val (.int i2), .val (.int (1 : Int32)), .val (.int (4 : Int32)), .val (.ref xp), .val (.ref yn), .val (.ref a4), .val (.ref a11), .val (.ref a15), .unset, .unset] at_142 rfl rfl ?_
  refine Wl.aload 146 at_144 rfl rfl ?_
  refine Wl.aload 148 at_146 rfl rfl ?_
  refine Wl.virtual 151 (argsL := [.ref a11]) at_148 (w95 hw) (w96 hw) (w98 hw) (w97 hw) (w39 hw) (w99 hw) (nf_sel (w98 hw) rfl) X34 (show parseMethodDescriptor "(Ljava/lang/String;)Ljava/lang/String;" = some ⟨[(.object "java/lang/String")], some (.object "java/lang/String")⟩ by decide +kernel) rfl (key_met hw hcs hfm (cs := [n0, n1, n2, n3]) (ps := [p0]) F35 ((S6.ext E12).ext B37) (nle rfl) (S13.ext B37) (by simp) (nle rfl) hn0 (nle rfl)) (fun _ q => nomatch q) rfl rfl rfl (by decide) ⟨⟨nle rfl, nle rfl⟩, nle rfl, nle rfl⟩ ?_
  intro v38 h39 hq40 _
  obtain ⟨s41, rfl, E42, S43⟩ := hq40
  have S43 : Stl Z h39 s41 [p0, (113 : Int32), (117 : Int32), (101 : Int32), (117 : Int32), (101 : Int32), (58 : Int32), (123 : Int32), n0, n1, n2, n3, (125 : Int32)] := S43
  have B44 : Ext h h39 := extTr B36 E42
  have B45 : Ext h9 h39 := extTr B37 E42
  show WlO _ _ _ _ _ _ _ _ _ _ _ _ _ _ _ _ _ _ [.ref s41]
  refine Wl.astore 153 #[.val (.int i0), .val (.int i1), .val (.int i2), .val (.int (1 : Int32)), .val (.int (4 : Int32)), .val (.ref xp), .val (.ref yn), .val (.ref a4), .val (.ref a11), .val (.ref a15), .val (.ref s41), .unset] at_151 rfl rfl ?_
  refine Wl.iload_n 154 at_153 rfl ?_
  refine Wl.bipush 156 (6 : Int32) at_154 (by decide) ?_
  refine Wl.iadd 157 at_156 ?_
  show WlO _ _ _ _ _ _ _ _ _ _ _ _ _ _ _ _ _ _ [.int (7 : Int32)]
  refine Wl.iconst 158 (1 : Int32) at_157 (by decide) ?_
  refine Wl.iadd 159 at_158 ?_
  show WlO _ _ _ _ _ _ _ _ _ _ _ _ _ _ _ _ _ _ [.int (8 : Int32)]
  refine Wl.iload 161 at_159 rfl ?_
  refine Wl.iadd 162 at_161 ?_
  show WlO _ _ _ _ _ _ _ _ _ _ _ _ _ _ _ _ _ _ [.int (12 : Int32)]
  refine Wl.iconst 163 (1 : Int32) at_162 (by decide) ?_
  refine Wl.iadd 164 at_163 ?_
  show WlO _ _ _ _ _ _ _ _ _ _ _ _ _ _ _ _ _ _ [.int (13 : Int32)]
  refine Wl.istore 166 #[.val (.int i0), .val (.int i1), .val (.int i2), .val (.int (1 : Int32)), .val (.int (4 : Int32)), .val (.ref xp), .val (.ref yn), .val (.ref a4), .val (.ref a11), .val (.ref a15), .val (.ref s41), .val (.int (13 : Int32))] at_164 rfl ?_
  refine Wl.aload 168 at_166 rfl rfl ?_
  refine Wl.ifnullN 171 at_168 ?_
  refine Wl.aload 173 at_171 rfl rfl ?_
  refine Wl.virtual 176 (argsL := []) at_173 (w226 hw) (w67 hw) (w69 hw) (w68 hw) (w10 hw) (w70 hw) (nf_sel (w69 hw) rfl) (S43).exa (show parseMethodDescriptor "()I" = some ⟨[], some .int⟩ by decide +kernel) rfl (len_met hw hcs S43) (fun _ q => nomatch q) rfl rfl rfl (by decide) ⟨⟨nle rfl, nle rfl⟩, nle rfl, nle rfl⟩ ?_
  intro v46 h47 hq48 _
  obtain ⟨rfl, rfl⟩ := hq48
  show WlO _ _ _ _ _ _ _ _ _ _ _ _ _ _ _ _ _ _ [.int (13 : Int32)]
  refine Wl.iload 178 at_176 rfl ?_
  refine Wl.icmpY 183 at_178 (teq (by decide)).1 ?_
  refine Wl.aload 185 at_183 rfl rfl ?_
  refine Wl.iconst 186 (0 : Int32) at_185 (by decide) ?_
  refine Wl.iload 188 at_186 rfl ?_
  refine Wl.aload 190 at_188 rfl rfl ?_
  refine Wl.iload_n 191 at_190 rfl ?_
  refine Wl.aload 193 at_191 rfl rfl ?_
  refine Wl.iload 195 at_193 rfl ?_
  refine Wl.static 198 (argsL := [.ref s41, .int (0 : Int32), .int (13 : Int32), .ref xp, .int (1 : Int32), .ref yn, .int (4 : Int32)]) at_195 (w227 hw) (w228 hw) (w3 hw) (w229 hw) (show parseMethodDescriptor "(Ljava/lang/String;II[CI[CI)Z" = some ⟨[(.object "java/lang/String"), .int, .int, (.array .char), .int, (.array .char), .int], some .boolean⟩ by decide +kernel) rfl (atP_met hw hcs hfm (rs := [p0, (113 : Int32), (117 : Int32), (101 : Int32), (117 : Int32), (101 : Int32), (58 : Int32), (123 : Int32), n0, n1, n2, n3, (125 : Int32)]) (ps := [p0, p1, p2]) (ns := [n0, n1, n2, n3]) (n := 0) S43 (nle rfl) (by decide) (A.ext B44) (B.ext B44) (nle rfl) (nle rfl) (latC lp0 (latC lp1 (latC lp2 latN))) (latC ln0 (latC ln1 (latC ln2 (latC ln3 latN)))) (by decide) (nle rfl) rfl) (fun _ q => nomatch q) rfl rfl rfl (by decide) ⟨⟨nle rfl, nle rfl⟩, nle rfl, nle rfl⟩ ?_
  intro v49 h50 hq51 _
  obtain ⟨rfl, rfl⟩ := hq51
  show WlO _ _ _ _ _ _ _ _ _ _ _ _ _ _ _ _ _ _ [.int (1 : Int32)]
  refine Wl.ifN 201 at_198 (feq (by decide)).1 ?_
  refine Wl.aload 203 at_201 rfl rfl ?_
  refine Wl.iconst 204 (1 : Int32) at_203 (by decide) ?_
  refine Wl.iload 206 at_204 rfl ?_
  refine Wl.aload 208 at_206 rfl rfl ?_
  refine Wl.iload_n 209 at_208 rfl ?_
  refine Wl.aload 211 at_209 rfl rfl ?_
  refine Wl.iload 213 at_211 rfl ?_
  refine Wl.static 216 (argsL := [.ref s41, .int (1 : Int32), .int (13 : Int32), .ref xp, .int (1 : Int32), .ref yn, .int (4 : Int32)]) at_213 (w227 hw) (w228 hw) (w3 hw) (w229 hw) (show parseMethodDescriptor "(Ljava/lang/String;II[CI[CI)Z" = some ⟨[(.object "java/lang/String"), .int, .int, (.array .char), .int, (.array .char), .int], some .boolean⟩ by decide +kernel) rfl (atA_met hw hcs hfm (rs := [p0, (113 : Int32), (117 : Int32), (101 : Int32), (117 : Int32), (101 : Int32), (58 : Int32), (123 : Int32), n0, n1, n2, n3, (125 : Int32)]) (ps := [p0, p1, p2]) (ns := [n0, n1, n2, n3]) (n := 1) (j := 0) S43 (nle rfl) (by decide) (A.ext B44) (B.ext B44) (nle rfl) (nle rfl) (latC lp0 (latC lp1 (latC lp2 latN))) (latC ln0 (latC ln1 (latC ln2 (latC ln3 latN)))) (by decide) (by decide) (by decide) (nle rfl) rfl) (fun _ q => nomatch q) rfl rfl rfl (by decide) ⟨⟨nle rfl, nle rfl⟩, nle rfl, nle rfl⟩ ?_
  intro v52 h53 hq54 _
  obtain ⟨rfl, E55⟩ := hq54
  have B56 : Ext h h53 := extTr B44 E55
  have B57 : Ext h9 h53 := extTr B45 E55
  show WlO _ _ _ _ _ _ _ _ _ _ _ _ _ _ _ _ _ _ [.int (1 : Int32)]
  refine Wl.ifN 219 at_216 (feq (by decide)).1 ?_
  refine Wl.aload 221 at_219 rfl rfl ?_
  refine Wl.iconst 222 (2 : Int32) at_221 (by decide) ?_
  refine Wl.iload 224 at_222 rfl ?_
  refine Wl.aload 226 at_224 rfl rfl ?_
  refine Wl.iload_n 227 at_226 rfl ?_
  refine Wl.aload 229 at_227 rfl rfl ?_
  refine Wl.iload 231 at_229 rfl ?_
  refine Wl.static 234 (argsL := [.ref s41, .int (2 : Int32), .int (13 : Int32), .ref xp, .int (1 : Int32), .ref yn, .int (4 : Int32)]) at_231 (w227 hw) (w228 hw) (w3 hw) (w229 hw) (show parseMethodDescriptor "(Ljava/lang/String;II[CI[CI)Z" = some ⟨[(.object "java/lang/String"), .int, .int, (.array .char), .int, (.array .char), .int], some .boolean⟩ by decide +kernel) rfl (atA_met hw hcs hfm (rs := [p0, (113 : Int32), (117 : Int32), (101 : Int32), (117 : Int32), (101 : Int32), (58 : Int32), (123 : Int32), n0, n1, n2, n3, (125 : Int32)]) (ps := [p0, p1, p2]) (ns := [n0, n1, n2, n3]) (n := 2) (j := 1) (S43.ext E55) (nle rfl) (by decide) (A.ext B56) (B.ext B56) (nle rfl) (nle rfl) (latC lp0 (latC lp1 (latC lp2 latN))) (latC ln0 (latC ln1 (latC ln2 (latC ln3 latN)))) (by decide) (by decide) (by decide) (nle rfl) rfl) (fun _ q => nomatch q) rfl rfl rfl (by decide) ⟨⟨nle rfl, nle rfl⟩, nle rfl, nle rfl⟩ ?_
  intro v58 h59 hq60 _
  obtain ⟨rfl, E61⟩ := hq60
  have B62 : Ext h h59 := extTr B56 E61
  have B63 : Ext h9 h59 := extTr B57 E61
  show WlO _ _ _ _ _ _ _ _ _ _ _ _ _ _ _ _ _ _ [.int (1 : Int32)]
  refine Wl.ifN 237 at_234 (feq (by decide)).1 ?_
  refine Wl.aload 239 at_237 rfl rfl ?_
  refine Wl.iconst 240 (3 : Int32) at_239 (by decide) ?_
  refine Wl.iload 242 at_240 rfl ?_
  refine Wl.aload 244 at_242 rfl rfl ?_
  refine Wl.iload_n 245 at_244 rfl ?_
  refine Wl.aload 247 at_245 rfl rfl ?_
  refine Wl.iload 249 at_247 rfl ?_
  refine Wl.static 252 (argsL := [.ref s41, .int (3 : Int32), .int (13 : Int32), .ref xp, .int (1 : Int32), .ref yn, .int (4 : Int32)]) at_249 (w227 hw) (w228 hw) (w3 hw) (w229 hw) (show parseMethodDescriptor "(Ljava/lang/String;II[CI[CI)Z" = some ⟨[(.object "java/lang/String"), .int, .int, (.array .char), .int, (.array .char), .int], some .boolean⟩ by decide +kernel) rfl (atA_met hw hcs hfm (rs := [p0, (113 : Int32), (117 : Int32), (101 : Int32), (117 : Int32), (101 : Int32), (58 : Int32), (123 : Int32), n0, n1, n2, n3, (125 : Int32)]) (ps := [p0, p1, p2]) (ns := [n0, n1, n2, n3]) (n := 3) (j := 2) ((S43.ext E55).ext E61) (nle rfl) (by decide) (A.ext B62) (B.ext B62) (nle rfl) (nle rfl) (latC lp0 (latC lp1 (latC lp2 latN))) (latC ln0 (latC ln1 (latC ln2 (latC ln3 latN)))) (by decide) (by decide) (by decide) (nle rfl) rfl) (fun _ q => nomatch q) rfl rfl rfl (by decide) ⟨⟨nle rfl, nle rfl⟩, nle rfl, nle rfl⟩ ?_
  intro v64 h65 hq66 _
  obtain ⟨rfl, E67⟩ := hq66
  have B68 : Ext h h65 := extTr B62 E67
  have B69 : Ext h9 h65 := extTr B63 E67
  show WlO _ _ _ _ _ _ _ _ _ _ _ _ _ _ _ _ _ _ [.int (1 : Int32)]
  refine Wl.ifN 255 at_252 (feq (by decide)).1 ?_
  refine Wl.aload 257 at_255 rfl rfl ?_
  refine Wl.iconst 258 (4 : Int32) at_257 (by decide) ?_
  refine Wl.iload 260 at_258 rfl ?_
  refine Wl.aload 262 at_260 rfl rfl ?_
  refine Wl.iload_n 263 at_262 rfl ?_
  refine Wl.aload 265 at_263 rfl rfl ?_
  refine Wl.iload 267 at_265 rfl ?_
  refine Wl.static 270 (argsL := [.ref s41, .int (4 : Int32), .int (13 : Int32), .ref xp, .int (1 : Int32), .ref yn, .int (4 : Int32)]) at_267 (w227 hw) (w228 hw) (w3 hw) (w229 hw) (show parseMethodDescriptor "(Ljava/lang/String;II[CI[CI)Z" = some ⟨[(.object "java/lang/String"), .int, .int, (.array .char), .int, (.array .char), .int], some .boolean⟩ by decide +kernel) rfl (atA_met hw hcs hfm (rs := [p0, (113 : Int32), (117 : Int32), (101 : Int32), (117 : Int32), (101 : Int32), (58 : Int32), (123 : Int32), n0, n1, n2, n3, (125 : Int32)]) (ps := [p0, p1, p2]) (ns := [n0, n1, n2, n3]) (n := 4) (j := 3) (((S43.ext E55).ext E61).ext E67) (nle rfl) (by decide) (A.ext B68) (B.ext B68) (nle rfl) (nle rfl) (latC lp0 (latC lp1 (latC lp2 latN))) (latC ln0 (latC ln1 (latC ln2 (latC ln3 latN)))) (by decide) (by decide) (by decide) (nle rfl) rfl) (fun _ q => nomatch q) rfl rfl rfl (by decide) ⟨⟨nle rfl, nle rfl⟩, nle rfl, nle rfl⟩ ?_
  intro v70 h71 hq72 _
  obtain ⟨rfl, E73⟩ := hq72
  have B74 : Ext h h71 := extTr B68 E73
  have B75 : Ext h9 h71 := extTr B69 E73
  show WlO _ _ _ _ _ _ _ _ _ _ _ _ _ _ _ _ _ _ [.int (1 : Int32)]
  refine Wl.ifN 273 at_270 (feq (by decide)).1 ?_
  refine Wl.aload 275 at_273 rfl rfl ?_
  refine Wl.iconst 276 (5 : Int32) at_275 (by decide) ?_
  refine Wl.iload 278 at_276 rfl ?_
  refine Wl.aload 280 at_278 rfl rfl ?_
  refine Wl.iload_n 281 at_280 rfl ?_
  refine Wl.aload 283 at_281 rfl rfl ?_
  refine Wl.iload 285 at_283 rfl ?_
  refine Wl.static 288 (argsL := [.ref s41, .int (5 : Int32), .int (13 : Int32), .ref xp, .int (1 : Int32), .ref yn, .int (4 : Int32)]) at_285 (w227 hw) (w228 hw) (w3 hw) (w229 hw) (show parseMethodDescriptor "(Ljava/lang/String;II[CI[CI)Z" = some ⟨[(.object "java/lang/String"), .int, .int, (.array .char), .int, (.array .char), .int], some .boolean⟩ by decide +kernel) rfl (atA_met hw hcs hfm (rs := [p0, (113 : Int32), (117 : Int32), (101 : Int32), (117 : Int32), (101 : Int32), (58 : Int32), (123 : Int32), n0, n1, n2, n3, (125 : Int32)]) (ps := [p0, p1, p2]) (ns := [n0, n1, n2, n3]) (n := 5) (j := 4) ((((S43.ext E55).ext E61).ext E67).ext E73) (nle rfl) (by decide) (A.ext B74) (B.ext B74) (nle rfl) (nle rfl) (latC lp0 (latC lp1 (latC lp2 latN))) (latC ln0 (latC ln1 (latC ln2 (latC ln3 latN)))) (by decide) (by decide) (by decide) (nle rfl) rfl) (fun _ q => nomatch q) rfl rfl rfl (by decide) ⟨⟨nle rfl, nle rfl⟩, nle rfl, nle rfl⟩ ?_
  intro v76 h77 hq78 _
  obtain ⟨rfl, E79⟩ := hq78
  have B80 : Ext h h77 := extTr B74 E79
  have B81 : Ext h9 h77 := extTr B75 E79
  show WlO _ _ _ _ _ _ _ _ _ _ _ _ _ _ _ _ _ _ [.int (1 : Int32)]
  refine Wl.ifN 291 at_288 (feq (by decide)).1 ?_
  refine Wl.aload 293 at_291 rfl rfl ?_
  refine Wl.bipush 295 (6 : Int32) at_293 (by decide) ?_
  refine Wl.iload 297 at_295 rfl ?_
  refine Wl.aload 299 at_297 rfl rfl ?_
  refine Wl.iload_n 300 at_299 rfl ?_
  refine Wl.aload 302 at_300 rfl rfl ?_
  refine Wl.iload 304 at_302 rfl ?_
  refine Wl.static 307 (argsL := [.ref s41, .int (6 : Int32), .int (13 : Int32), .ref xp, .int (1 : Int32), .ref yn, .int (4 : Int32)]) at_304 (w227 hw) (w228 hw) (w3 hw) (w229 hw) (show parseMethodDescriptor "(Ljava/lang/String;II[CI[CI)Z" = some ⟨[(.object "java/lang/String"), .int, .int, (.array .char), .int, (.array .char), .int], some .boolean⟩ by decide +kernel) rfl (atA_met hw hcs hfm (rs := [p0, (113 : Int32), (117 : Int32), (101 : Int32), (117 : Int32), (101 : Int32), (58 : Int32), (123 : Int32), n0, n1, n2, n3, (125 : Int32)]) (ps := [p0, p1, p2]) (ns := [n0, n1, n2, n3]) (n := 6) (j := 5) (((((S43.ext E55).ext E61).ext E67).ext E73).ext E79) (nle rfl) (by decide) (A.ext B80) (B.ext B80) (nle rfl) (nle rfl) (latC lp0 (latC lp1 (latC lp2 latN))) (latC ln0 (latC ln1 (latC ln2 (latC ln3 latN)))) (by decide) (by decide) (by decide) (nle rfl) rfl) (fun _ q => nomatch q) rfl rfl rfl (by decide) ⟨⟨nle rfl, nle rfl⟩, nle rfl, nle rfl⟩ ?_
  intro v82 h83 hq84 _
  obtain ⟨rfl, E85⟩ := hq84
  have B86 : Ext h h83 := extTr B80 E85
  have B87 : Ext h9 h83 := extTr B81 E85
  show WlO _ _ _ _ _ _ _ _ _ _ _ _ _ _ _ _ _ _ [.int (1 : Int32)]
  refine Wl.ifN 310 at_307 (feq (by decide)).1 ?_
  refine Wl.aload 312 at_310 rfl rfl ?_
  refine Wl.bipush 314 (7 : Int32) at_312 (by decide) ?_
  refine Wl.iload 316 at_314 rfl ?_
  refine Wl.aload 318 at_316 rfl rfl ?_
  refine Wl.iload_n 319 at_318 rfl ?_
  refine Wl.aload 321 at_319 rfl rfl ?_
  refine Wl.iload 323 at_321 rfl ?_
  refine Wl.static 326 (argsL := [.ref s41, .int (7 : Int32), .int (13 : Int32), .ref xp, .int (1 : Int32), .ref yn, .int (4 : Int32)]) at_323 (w227 hw) (w228 hw) (w3 hw) (w229 hw) (show parseMethodDescriptor "(Ljava/lang/String;II[CI[CI)Z" = some ⟨[(.object "java/lang/String"), .int, .int, (.array .char), .int, (.array .char), .int], some .boolean⟩ by decide +kernel) rfl (atO_met hw hcs hfm (rs := [p0, (113 : Int32), (117 : Int32), (101 : Int32), (117 : Int32), (101 : Int32), (58 : Int32), (123 : Int32), n0, n1, n2, n3, (125 : Int32)]) (ps := [p0, p1, p2]) (ns := [n0, n1, n2, n3]) (n := 7) ((((((S43.ext E55).ext E61).ext E67).ext E73).ext E79).ext E85) (nle rfl) (by decide) (A.ext B86) (B.ext B86) (nle rfl) (nle rfl) (latC lp0 (latC lp1 (latC lp2 latN))) (latC ln0 (latC ln1 (latC ln2 (latC ln3 latN)))) (by decide) (by decide) (by decide) rfl) (fun _ q => nomatch q) rfl rfl rfl (by decide) ⟨⟨nle rfl, nle rfl⟩, nle rfl, nle rfl⟩ ?_
  intro v88 h89 hq90 _
  obtain ⟨rfl, rfl⟩ := hq90
  show WlO _ _ _ _ _ _ _ _ _ _ _ _ _ _ _ _ _ _ [.int (1 : Int32)]
  refine Wl.ifN 329 at_326 (feq (by decide)).1 ?_
  refine Wl.aload 331 at_329 rfl rfl ?_
  refine Wl.bipush 333 (8 : Int32) at_331 (by decide) ?_
  refine Wl.iload 335 at_333 rfl ?_
  refine Wl.aload 337 at_335 rfl rfl ?_
  refine Wl.iload_n 338 at_337 rfl ?_
  refine Wl.aload 340 at_338 rfl rfl ?_
  refine Wl.iload 342 at_340 rfl ?_
  refine Wl.static 345 (argsL := [.ref s41, .int (8 : Int32), .int (13 : Int32), .ref xp, .int (1 : Int32), .ref yn, .int (4 : Int32)]) at_342 (w227 hw) (w228 hw) (w3 hw) (w229 hw) (show parseMethodDescriptor "(Ljava/lang/String;II[CI[CI)Z" = some ⟨[(.object "java/lang/String"), .int, .int, (.array .char), .int, (.array .char), .int], some .boolean⟩ by decide +kernel) rfl (atN_met hw hcs hfm (rs := [p0, (113 : Int32), (117 : Int32), (101 : Int32), (117 : Int32), (101 : Int32), (58 : Int32), (123 : Int32), n0, n1, n2, n3, (125 : Int32)]) (ps := [p0, p1, p2]) (ns := [n0, n1, n2, n3]) (n := 8) (m := 0) ((((((S43.ext E55).ext E61).ext E67).ext E73).ext E79).ext E85) (nle rfl) (by decide) (A.ext B86) (B.ext B86) (nle rfl) (nle rfl) (latC lp0 (latC lp1 (latC lp2 latN))) (latC ln0 (latC ln1 (latC ln2 (latC ln3 latN)))) (by decide) (by decide) (by decide) (by decide) (by decide) (nle rfl) rfl) (fun _ q => nomatch q) rfl rfl rfl (by decide) ⟨⟨nle rfl, nle rfl⟩, nle rfl, nle rfl⟩ ?_
  intro v91 h92 hq93 _
  obtain ⟨rfl, rfl⟩ := hq93
  show WlO _ _ _ _ _ _ _ _ _ _ _ _ _ _ _ _ _ _ [.int (1 : Int32)]
  refine Wl.ifN 348 at_345 (feq (by decide)).1 ?_
  refine Wl.aload 350 at_348 rfl rfl ?_
  refine Wl.bipush 352 (9 : Int32) at_350 (by decide) ?_
  refine Wl.iload 354 at_352 rfl ?_
  refine Wl.aload 356 at_354 rfl rfl ?_
  refine Wl.iload_n 357 at_356 rfl ?_
  refine Wl.aload 359 at_357 rfl rfl ?_
  refine Wl.iload 361 at_359 rfl ?_
  refine Wl.static 364 (argsL := [.ref s41, .int (9 : Int32), .int (13 : Int32), .ref xp, .int (1 : Int32), .ref yn, .int (4 : Int32)]) at_361 (w227 hw) (w228 hw) (w3 hw) (w229 hw) (show parseMethodDescriptor "(Ljava/lang/String;II[CI[CI)Z" = some ⟨[(.object "java/lang/String"), .int, .int, (.array .char), .int, (.array .char), .int], some .boolean⟩ by decide +kernel) rfl (atN_met hw hcs hfm (rs := [p0, (113 : Int32), (117 : Int32), (101 : Int32), (117 : Int32), (101 : Int32), (58 : Int32), (123 : Int32), n0, n1, n2, n3, (125 : Int32)]) (ps := [p0, p1, p2]) (ns := [n0, n1, n2, n3]) (n := 9) (m := 1) ((((((S43.ext E55).ext E61).ext E67).ext E73).ext E79).ext E85) (nle rfl) (by decide) (A.ext B86) (B.ext B86) (nle rfl) (nle rfl) (latC lp0 (latC lp1 (latC lp2 latN))) (latC ln0 (latC ln1 (latC ln2 (latC ln3 latN)))) (by decide) (by decide) (by decide) (by decide) (by decide) (nle rfl) rfl) (fun _ q => nomatch q) rfl rfl rfl (by decide) ⟨⟨nle rfl, nle rfl⟩, nle rfl, nle rfl⟩ ?_
  intro v94 h95 hq96 _
  obtain ⟨rfl, rfl⟩ := hq96
  show WlO _ _ _ _ _ _ _ _ _ _ _ _ _ _ _ _ _ _ [.int (1 : Int32)]
  refine Wl.ifN 367 at_364 (feq (by decide)).1 ?_
  refine Wl.aload 369 at_367 rfl rfl ?_
  refine Wl.bipush 371 (10 : Int32) at_369 (by decide) ?_
  refine Wl.iload 373 at_371 rfl ?_
  refine Wl.aload 375 at_373 rfl rfl ?_
  refine Wl.iload_n 376 at_375 rfl ?_
  refine Wl.aload 378 at_376 rfl rfl ?_
  refine Wl.iload 380 at_378 rfl ?_
  refine Wl.static 383 (argsL := [.ref s41, .int (10 : Int32), .int (13 : Int32), .ref xp, .int (1 : Int32), .ref yn, .int (4 : Int32)]) at_380 (w227 hw) (w228 hw) (w3 hw) (w229 hw) (show parseMethodDescriptor "(Ljava/lang/String;II[CI[CI)Z" = some ⟨[(.object "java/lang/String"), .int, .int, (.array .char), .int, (.array .char), .int], some .boolean⟩ by decide +kernel) rfl (atN_met hw hcs hfm (rs := [p0, (113 : Int32), (117 : Int32), (101 : Int32), (117 : Int32), (101 : Int32), (58 : Int32), (123 : Int32), n0, n1, n2, n3, (125 : Int32)]) (ps := [p0, p1, p2]) (ns := [n0, n1, n2, n3]) (n := 10) (m := 2) ((((((S43.ext E55).ext E61).ext E67).ext E73).ext E79).ext E85) (nle rfl) (by decide) (A.ext B86) (B.ext B86) (nle rfl) (nle rfl) (latC lp0 (latC lp1 (latC lp2 latN))) (latC ln0 (latC ln1 (latC ln2 (latC ln3 latN)))) (by decide) (by decide) (by decide) (by decide) (by decide) (nle rfl) rfl) (fun _ q => nomatch q) rfl rfl rfl (by decide) ⟨⟨nle rfl, nle rfl⟩, nle rfl, nle rfl⟩ ?_
  intro v97 h98 hq99 _
  obtain ⟨rfl, rfl⟩ := hq99
  show WlO _ _ _ _ _ _ _ _ _ _ _ _ _ _ _ _ _ _ [.int (1 : Int32)]
  refine Wl.ifN 386 at_383 (feq (by decide)).1 ?_
  refine Wl.aload 388 at_386 rfl rfl ?_
  refine Wl.bipush 390 (11 : Int32) at_388 (by decide) ?_
  refine Wl.iload 392 at_390 rfl ?_
  refine Wl.aload 394 at_392 rfl rfl ?_
  refine Wl.iload_n 395 at_394 rfl ?_
  refine Wl.aload 397 at_395 rfl rfl ?_
  refine Wl.iload 399 at_397 rfl ?_
  refine Wl.static 402 (argsL := [.ref s41, .int (11 : Int32), .int (13 : Int32), .ref xp, .int (1 : Int32), .ref yn, .int (4 : Int32)]) at_399 (w227 hw) (w228 hw) (w3 hw) (w229 hw) (show parseMethodDescriptor "(Ljava/lang/String;II[CI[CI)Z" = some ⟨[(.object "java/lang/String"), .int, .int, (.array .char), .int, (.array .char), .int], some .boolean⟩ by decide +kernel) rfl (atN_met hw hcs hfm (rs := [p0, (113 : Int32), (117 : Int32), (101 : Int32), (117 : Int32), (101 : Int32), (58 : Int32), (123 : Int32), n0, n1, n2, n3, (125 : Int32)]) (ps := [p0, p1, p2]) (ns := [n0, n1, n2, n3]) (n := 11) (m := 3) ((((((S43.ext E55).ext E61).ext E67).ext E73).ext E79).ext E85) (nle rfl) (by decide) (A.ext B86) (B.ext B86) (nle rfl) (nle rfl) (latC lp0 (latC lp1 (latC lp2 latN))) (latC ln0 (latC ln1 (latC ln2 (latC ln3 latN)))) (by decide) (by decide) (by decide) (by decide) (by decide) (nle rfl) rfl) (fun _ q => nomatch q) rfl rfl rfl (by decide) ⟨⟨nle rfl, nle rfl⟩, nle rfl, nle rfl⟩ ?_
  intro v100 h101 hq102 _
  obtain ⟨rfl, rfl⟩ := hq102
  show WlO _ _ _ _ _ _ _ _ _ _ _ _ _ _ _ _ _ _ [.int (1 : Int32)]
  refine Wl.ifN 405 at_402 (feq (by decide)).1 ?_
  refine Wl.aload 407 at_405 rfl rfl ?_
  refine Wl.bipush 409 (12 : Int32) at_407 (by decide) ?_
  refine Wl.iload 411 at_409 rfl ?_
  refine Wl.aload 413 at_411 rfl rfl ?_
  refine Wl.iload_n 414 at_413 rfl ?_
  refine Wl.aload 416 at_414 rfl rfl ?_
  refine Wl.iload 418 at_416 rfl ?_
  refine Wl.static 421 (argsL := [.ref s41, .int (12 : Int32), .int (13 : Int32), .ref xp, .int (1 : Int32), .ref yn, .int (4 : Int32)]) at_418 (w227 hw) (w228 hw) (w3 hw) (w229 hw) (show parseMethodDescriptor "(Ljava/lang/String;II[CI[CI)Z" = some ⟨[(.object "java/lang/String"), .int, .int, (.array .char), .int, (.array .char), .int], some .boolean⟩ by decide +kernel) rfl (atE_met hw hcs hfm (rs := [p0, (113 : Int32), (117 : Int32), (101 : Int32), (117 : Int32), (101 : Int32), (58 : Int32), (123 : Int32), n0, n1, n2, n3, (125 : Int32)]) (ps := [p0, p1, p2]) (ns := [n0, n1, n2, n3]) (n := 12) ((((((S43.ext E55).ext E61).ext E67).ext E73).ext E79).ext E85) (nle rfl) (by decide) (A.ext B86) (B.ext B86) (nle rfl) (nle rfl) (latC lp0 (latC lp1 (latC lp2 latN))) (latC ln0 (latC ln1 (latC ln2 (latC ln3 latN)))) (by decide) (by decide) (by decide) (by decide) rfl) (fun _ q => nomatch q) rfl rfl rfl (by decide) ⟨⟨nle rfl, nle rfl⟩, nle rfl, nle rfl⟩ ?_
  intro v103 h104 hq105 _
  obtain ⟨rfl, rfl⟩ := hq105
  show WlO _ _ _ _ _ _ _ _ _ _ _ _ _ _ _ _ _ _ [.int (1 : Int32)]
  refine Wl.ifN 424 at_421 (feq (by decide)).1 ?_
  refine Wl.aload 426 at_424 rfl rfl ?_
  refine Wl.bipush 428 (13 : Int32) at_426 (by decide) ?_
  refine Wl.iload 430 at_428 rfl ?_
  refine Wl.aload 432 at_430 rfl rfl ?_
  refine Wl.iload_n 433 at_432 rfl ?_
  refine Wl.aload 435 at_433 rfl rfl ?_
  refine Wl.iload 437 at_435 rfl ?_
  refine Wl.static 440 (argsL := [.ref s41, .int (13 : Int32), .int (13 : Int32), .ref xp, .int (1 : Int32), .ref yn, .int (4 : Int32)]) at_437 (w227 hw) (w228 hw) (w3 hw) (w229 hw) (show parseMethodDescriptor "(Ljava/lang/String;II[CI[CI)Z" = some ⟨[(.object "java/lang/String"), .int, .int, (.array .char), .int, (.array .char), .int], some .boolean⟩ by decide +kernel) rfl (atC_met hw (by decide)) (fun _ q => nomatch q) rfl rfl rfl (by decide) ⟨⟨nle rfl, nle rfl⟩, nle rfl, nle rfl⟩ ?_
  intro v106 h107 hq108 _
  obtain ⟨rfl, rfl⟩ := hq108
  show WlO _ _ _ _ _ _ _ _ _ _ _ _ _ _ _ _ _ _ [.int (1 : Int32)]
  refine Wl.ifN 443 at_440 (feq (by decide)).1 ?_
  refine Wl.aload 445 at_443 rfl rfl ?_
  refine Wl.bipush 447 (14 : Int32) at_445 (by decide) ?_
  refine Wl.iload 449 at_447 rfl ?_
  refine Wl.aload 451 at_449 rfl rfl ?_
  refine Wl.iload_n 452 at_451 rfl ?_
  refine Wl.aload 454 at_452 rfl rfl ?_
  refine Wl.iload 456 at_454 rfl ?_
  refine Wl.static 459 (argsL := [.ref s41, .int (14 : Int32), .int (13 : Int32), .ref xp, .int (1 : Int32), .ref yn, .int (4 : Int32)]) at_456 (w227 hw) (w228 hw) (w3 hw) (w229 hw) (show parseMethodDescriptor "(Ljava/lang/String;II[CI[CI)Z" = some ⟨[(.object "java/lang/String"), .int, .int, (.array .char), .int, (.array .char), .int], some .boolean⟩ by decide +kernel) rfl (atC_met hw (by decide)) (fun _ q => nomatch q) rfl rfl rfl (by decide) ⟨⟨nle rfl, nle rfl⟩, nle rfl, nle rfl⟩ ?_
  intro v109 h110 hq111 _
  obtain ⟨rfl, rfl⟩ := hq111
  show WlO _ _ _ _ _ _ _ _ _ _ _ _ _ _ _ _ _ _ [.int (1 : Int32)]
  refine Wl.ifN 462 at_459 (feq (by decide)).1 ?_
  refine Wl.iconst 463 (1 : Int32) at_462 (by decide) ?_
  refine Wl.goto 467 at_463 ?_
  exact Wl.ireturn at_467 rfl rfl (by simp) (nle rfl) (nle rfl) rfl
set_option maxRecDepth 65536 in
set_option maxHeartbeats 40000000 in
theorem law_t21 {l : Launch} {Z : State} {a0 : Array Value} (hw : ∀ d ∈ tables_1, d.before a0 Z = true) (hcs : CSon Z) (hfm : Fmt Z) {as : Array Value} {h : Heap} {i0 i1 i2 p0 p1 p2 n0 n1 n2 n3 : Int32} {xp yn : Addr} {kx ky : ClassId} (A : Arv Z h xp kx .char (3 : Int32) [.int p0, .int p1, .int p2] (.int 0)) (B : Arv Z h yn ky .char (4 : Int32) [.int n0, .int n1, .int n2, .int n3] (.int 0)) (lp0 : Lat p0) (lp1 : Lat p1) (lp2 : Lat p2) (ln0 : Lat n0) (ln1 : Lat n1) (ln2 : Lat n2) (ln3 : Lat n3) (p0123 : p0 ≠ 123) (p0125 : p0 ≠ 125) (p1123 : p1 ≠ 123) (p1125 : p1 ≠ 125) (p2123 : p2 ≠ 123) (p2125 : p2 ≠ 125) (hn0 : ¬ n0 = (125 : Int32)) :
    Wl l Z a0 consts_1 x code maxLocals ret room_1 as (fun v h' => v = some (.int 1)) [] h 2 7 116 #[.val (.int i0), .val (.int i1), .val (.int i2), .val (.int (2 : Int32)), .val (.int (1 : Int32)), .val (.ref xp), .val (.ref yn), .unset, .unset, .unset, .unset, .unset] [] := by
  refine Wl.aload 118 at_116 rfl rfl ?_
  refine Wl.iload_n 119 at_118 rfl ?_
  refine Wl.static 122 (argsL := [.ref xp, .int (2 : Int32)]) at_119 (w5 hw) (w6 hw) (w3 hw) (w7 hw) (show parseMethodDescriptor "([CI)Ljava/lang/String;" = some ⟨[(.array .char), .int], some (.object "java/lang/String")⟩ by decide +kernel) rfl (mk32_met hw hcs A lp0 lp1 lp2) (fun _ q => nomatch q) rfl rfl rfl (by decide) ⟨⟨nle rfl, nle rfl⟩, nle rfl, nle rfl⟩ ?_
  intro v1 h2 hq3 _
  obtain ⟨a4, rfl, E5, S6⟩ := hq3
  have B7 : Ext h h2 := E5
  show WlO _ _ _ _ _ _ _ _ _ _ _ _ _ _ _ _ _ _ [.ref a4]
  refine Wl.astore 124 #[.val (.int i0), .val (.int i1), .val (.int i2), .val (.int (2 : Int32)), .val (.int (1 : Int32)), .val (.ref xp), .val (.ref yn), .val (.ref a4), .unset, .unset, .unset, .unset] at_122 rfl rfl ?_
  refine Wl.aload 126 at_124 rfl rfl ?_
  refine Wl.iload 128 at_126 rfl ?_
  refine Wl.static 131 (argsL := [.ref yn, .int (1 : Int32)]) at_128 (w5 hw) (w6 hw) (w3 hw) (w7 hw) (show parseMethodDescriptor "([CI)Ljava/lang/String;" = some ⟨[(.array .char), .int], some (.object "java/lang/String")⟩ by decide +kernel) rfl (mk41_met hw hcs (B.ext E5) ln0 ln1 ln2 ln3) (fun _ q => nomatch q) rfl rfl rfl (by decide) ⟨⟨nle rfl, nle rfl⟩, nle rfl, nle rfl⟩ ?_
  intro v8 h9 hq10 _
  obtain ⟨a11, rfl, E12, S13⟩ := hq10
  have B14 : Ext h h9 := extTr B7 E12
  show WlO _ _ _ _ _ _ _ _ _ _ _ _ _ _ _ _ _ _ [.ref a11]
  refine Wl.astore 133 #[.val (.int i0), .val (.int i1), .val (.int i2), .val (.int (2 : Int32)), .val (.int (1 : Int32)), .val (.ref xp), .val (.ref yn), .val (.ref a4), .val (.ref a11), .unset, .unset, .unset] at_131 rfl rfl ?_
  refine Wl.new 136 at_133 (w37 hw) (w38 hw) (w39 hw) (nle rfl) (nle rfl) ?_
  intro a15 h16 q17 E18 X19 D20
  have z21 : h.size ≤ a15 := Nat.le_trans B14.1 (Nat.le_of_eq q17.symm)
  have z22 : h9.size ≤ a15 := Nat.le_of_eq q17.symm
  have ne23 : xp ≠ a15 := Nat.ne_of_lt (by rw [q17]; exact ((A.ext B14)).lt)
  have ne24 : yn ≠ a15 := Nat.ne_of_lt (by rw [q17]; exact ((B.ext B14)).lt)
  have ne25 : a4 ≠ a15 := Nat.ne_of_lt (by rw [q17]; exact (((S6).exa.ext E12)).lt)
  have ne26 : a11 ≠ a15 := Nat.ne_of_lt (by rw [q17]; exact ((S13).exa).lt)
  have B27 : Ext h h16 := extTr B14 E18
  have B28 : Ext h9 h16 := E18
  have F29 : Fld Z h16 a15 "com/example/portunus/portunus/LockKeys" "prefix" "Ljava/lang/String;" (.null) := D20 (Or.inr (w94 hw)) (ty := (.object "java/lang/String")) (by decide)
  refine Wl.dup 137 at_136 rfl ?_
  refine Wl.aload 139 at_137 rfl rfl ?_
  refine Wl.special 142 (argsL := [.ref a4]) at_139 (w40 hw) (w41 hw) (w39 hw) (w42 hw) (show parseMethodDescriptor "(Ljava/lang/String;)V" = some ⟨[(.object "java/lang/String")], none⟩ by decide +kernel) rfl (keys_met hw hcs X19 F29 (cs := [p0, p1]) ((S6.ext E12).ext E18) (neC p0123 (neC p1123 neN)) (neC p0125 (neC p1125 neN))) (allS (List.mem_of_getElem? (i := 0) rfl) (fun _ q => nomatch q)) rfl rfl rfl rfl (by decide) ⟨⟨nle rfl, nle rfl⟩, nle rfl, nle rfl⟩ ?_
  intro v30 h31 hq32 _
  obtain ⟨rfl, K33, X34, F35⟩ := hq32
  have B36 : Ext h h31 := extKeep B27 K33 (allS z21 all0)
  have B37 : Ext h9 h31 := extKeep B28 K33 (allS z22 all0)
  show WlO _ _ _ _ _ _ _ _ _ _ _ _ _ _ _ _ _ _ [.ref a15]
  refine Wl.astore 144 #[.val (.int i0), .val (.int i1), .val (.int i2), .val (.int (2 : Int32)), .val (.int (1 : Int32)), .val (.ref xp), .val (.ref yn), .val (.ref a4), .val (.ref a11), .val (.ref a15), .unset, .unset] at_142 rfl rfl ?_
  refine Wl.aload 146 at_144 rfl rfl ?_
  refine Wl.aload 148 at_146 rfl rfl ?_
  refine Wl.virtual 151 (argsL := [.ref a11]) at_148 (w95 hw) (w96 hw) (w98 hw) (w97 hw) (w39 hw) (w99 hw) (nf_sel (w98 hw) rfl) X34 (show parseMethodDescriptor "(Ljava/lang/String;)Ljava/lang/String;" = some ⟨[(.object "java/lang/String")], some (.object "java/lang/String")⟩ by decide +kernel) rfl (key_met hw hcs hfm (cs := [n0]) (ps := [p0, p1]) F35 ((S6.ext E12).ext B37) (nle rfl) (S13.ext B37) (by simp) (nle rfl) hn0 (nle rfl)) (fun _ q => nomatch q) rfl rfl rfl (by decide) ⟨⟨nle rfl, nle rfl⟩, nle rfl, nle rfl⟩ ?_
  intro v38 h39 hq40 _
  obtain ⟨s41, rfl, E42, S43⟩ := hq40
  have S43 : Stl Z h39 s41 [p0, p1, (113 : Int32), (117 : Int32), (101 : Int32), (117 : Int32), (101 : Int32), (58 : Int32), (123 : Int32), n0, (125 : Int32)] := S43
  have B44 : Ext h h39 := extTr B36 E42
  have B45 : Ext h9 h39 := extTr B37 E42
  show WlO _ _ _ _ _ _ _ _ _ _ _ _ _ _ _ _ _ _ [.ref s41]
  refine Wl.astore 153 #[.val (.int i0), .val (.int i1), .val (.int i2), .val (.int (2 : Int32)), .val (.int (1 : Int32)), .val (.ref xp), .val (.ref yn), .val (.ref a4), .val (.ref a11), .val (.ref a15), .val (.ref s41), .unset] at_151 rfl rfl ?_
  refine Wl.iload_n 154 at_153 rfl ?_
  refine Wl.bipush 156 (6 : Int32) at_154 (by decide) ?_
  refine Wl.iadd 157 at_156 ?_
  show WlO _ _ _ _ _ _ _ _ _ _ _ _ _ _ _ _ _ _ [.int (8 : Int32)]
  refine Wl.iconst 158 (1 : Int32) at_157 (by decide) ?_
  refine Wl.iadd 159 at_158 ?_
  show WlO _ _ _ _ _ _ _ _ _ _ _ _ _ _ _ _ _ _ [.int (9 : Int32)]
  refine Wl.iload 161 at_159 rfl ?_
  refine Wl.iadd 162 at_161 ?_
  show WlO _ _ _ _ _ _ _ _ _ _ _ _ _ _ _ _ _ _ [.int (10 : Int32)]
  refine Wl.iconst 163 (1 : Int32) at_162 (by decide) ?_
  refine Wl.iadd 164 at_163 ?_
  show WlO _ _ _ _ _ _ _ _ _ _ _ _ _ _ _ _ _ _ [.int (11 : Int32)]
  refine Wl.istore 166 #[.val (.int i0), .val (.int i1), .val (.int i2), .val (.int (2 : Int32)), .val (.int (1 : Int32)), .val (.ref xp), .val (.ref yn), .val (.ref a4), .val (.ref a11), .val (.ref a15), .val (.ref s41), .val (.int (11 : Int32))] at_164 rfl ?_
  refine Wl.aload 168 at_166 rfl rfl ?_
  refine Wl.ifnullN 171 at_168 ?_
  refine Wl.aload 173 at_171 rfl rfl ?_
  refine Wl.virtual 176 (argsL := []) at_173 (w226 hw) (w67 hw) (w69 hw) (w68 hw) (w10 hw) (w70 hw) (nf_sel (w69 hw) rfl) (S43).exa (show parseMethodDescriptor "()I" = some ⟨[], some .int⟩ by decide +kernel) rfl (len_met hw hcs S43) (fun _ q => nomatch q) rfl rfl rfl (by decide) ⟨⟨nle rfl, nle rfl⟩, nle rfl, nle rfl⟩ ?_
  intro v46 h47 hq48 _
  obtain ⟨rfl, rfl⟩ := hq48
  show WlO _ _ _ _ _ _ _ _ _ _ _ _ _ _ _ _ _ _ [.int (11 : Int32)]
  refine Wl.iload 178 at_176 rfl ?_
  refine Wl.icmpY 183 at_178 (teq (by decide)).1 ?_
  refine Wl.aload 185 at_183 rfl rfl ?_
  refine Wl.iconst 186 (0 : Int32) at_185 (by decide) ?_
  refine Wl.iload 188 at_186 rfl ?_
  refine Wl.aload 190 at_188 rfl rfl ?_
  refine Wl.iload_n 191 at_190 rfl ?_
  refine Wl.aload 193 at_191 rfl rfl ?_
  refine Wl.iload 195 at_193 rfl ?_
  refine Wl.static 198 (argsL := [.ref s41, .int (0 : Int32), .int (11 : Int32), .ref xp, .int (2 : Int32), .ref yn, .int (1 : Int32)]) at_195 (w227 hw) (w228 hw) (w3 hw) (w229 hw) (show parseMethodDescriptor "(Ljava/lang/String;II[CI[CI)Z" = some ⟨[(.object "java/lang/String"), .int, .int, (.array .char), .int, (.array .char), .int], some .boolean⟩ by decide +kernel) rfl (atP_met hw hcs hfm (rs := [p0, p1, (113 : Int32), (117 : Int32), (101 : Int32), (117 : Int32), (101 : Int32), (58 : Int32), (123 : Int32), n0, (125 : Int32)]) (ps := [p0, p1, p2]) (ns := [n0, n1, n2, n3]) (n := 0) S43 (nle rfl) (by decide) (A.ext B44) (B.ext B44) (nle rfl) (nle rfl) (latC lp0 (latC lp1 (latC lp2 latN))) (latC ln0 (latC ln1 (latC ln2 (latC ln3 latN)))) (by decide) (nle rfl) rfl) (fun _ q => nomatch q) rfl rfl rfl (by decide) ⟨⟨nle rfl, nle rfl⟩, nle rfl, nle rfl⟩ ?_
  intro v49 h50 hq51 _
  obtain ⟨rfl, rfl⟩ := hq51
  show WlO _ _ _ _ _ _ _ _ _ _ _ _ _ _ _ _ _ _ [.int (1 : Int32)]
  refine Wl.ifN 201 at_198 (feq (by decide)).1 ?_
  refine Wl.aload 203 at_201 rfl rfl ?_
  refine Wl.iconst 204 (1 : Int32) at_203 (by decide) ?_
  refine Wl.iload 206 at_204 rfl ?_
  refine Wl.aload 208 at_206 rfl rfl ?_
  refine Wl.iload_n 209 at_208 rfl ?_
  refine Wl.aload 211 at_209 rfl rfl ?_
  refine Wl.iload 213 at_211 rfl ?_
  refine Wl.static 216 (argsL := [.ref s41, .int (1 : Int32), .int (11 : Int32), .ref xp, .int (2 : Int32), .ref yn, .int (1 : Int32)]) at_213 (w227 hw) (w228 hw) (w3 hw) (w229 hw) (show parseMethodDescriptor "(Ljava/lang/String;II[CI[CI)Z" = some ⟨[(.object "java/lang/String"), .int, .int, (.array .char), .int, (.array .char), .int], some .boolean⟩ by decide +kernel) rfl (atP_met hw hcs hfm (rs := [p0, p1, (113 : Int32), (117 : Int32), (101 : Int32), (117 : Int32), (101 : Int32), (58 : Int32), (123 : Int32), n0, (125 : Int32)]) (ps := [p0, p1, p2]) (ns := [n0, n1, n2, n3]) (n := 1) S43 (nle rfl) (by decide) (A.ext B44) (B.ext B44) (nle rfl) (nle rfl) (latC lp0 (latC lp1 (latC lp2 latN))) (latC ln0 (latC ln1 (latC ln2 (latC ln3 latN)))) (by decide) (nle rfl) rfl) (fun _ q => nomatch q) rfl rfl rfl (by decide) ⟨⟨nle rfl, nle rfl⟩, nle rfl, nle rfl⟩ ?_
  intro v52 h53 hq54 _
  obtain ⟨rfl, rfl⟩ := hq54
  show WlO _ _ _ _ _ _ _ _ _ _ _ _ _ _ _ _ _ _ [.int (1 : Int32)]
  refine Wl.ifN 219 at_216 (feq (by decide)).1 ?_
  refine Wl.aload 221 at_219 rfl rfl ?_
  refine Wl.iconst 222 (2 : Int32) at_221 (by decide) ?_
  refine Wl.iload 224 at_222 rfl ?_
  refine Wl.aload 226 at_224 rfl rfl ?_
  refine Wl.iload_n 227 at_226 rfl ?_
  refine Wl.aload 229 at_227 rfl rfl ?_
  refine Wl.iload 231 at_229 rfl ?_
  refine Wl.static 234 (argsL := [.ref s41, .int (2 : Int32), .int (11 : Int32), .ref xp, .int (2 : Int32), .ref yn, .int (1 : Int32)]) at_231 (w227 hw) (w228 hw) (w3 hw) (w229 hw) (show parseMethodDescriptor "(Ljava/lang/String;II[CI[CI)Z" = some ⟨[(.object "java/lang/String"), .int, .int, (.array .char), .int, (.array .char), .int], some .boolean⟩ by decide +kernel) rfl (atA_met hw hcs hfm (rs := [p0, p1, (113 : Int32), (117 : Int32), (101 : Int32), (117 : Int32), (101 : Int32), (58 : Int32), (123 : Int32), n0, (125 : Int32)]) (ps := [p0, p1, p2]) (ns := [n0, n1, n2, n3]) (n := 2) (j := 0) S43 (nle rfl) (by decide) (A.ext B44) (B.ext B44) (nle rfl) (nle rfl) (latC lp0 (latC lp1 (latC lp2 latN))) (latC ln0 (latC ln1 (latC ln2 (latC ln3 latN)))) (by decide) (by decide) (by decide) (nle rfl) rfl) (fun _ q => nomatch q) rfl rfl rfl (by decide) ⟨⟨nle rfl, nle rfl⟩, nle rfl, nle rfl⟩ ?_
  intro v55 h56 hq57 _
  obtain ⟨rfl, E58⟩ := hq57
  have B59 : Ext h h56 := extTr B44 E58
  have B60 : Ext h9 h56 := extTr B45 E58
  show WlO _ _ _ _ _ _ _ _ _ _ _ _ _ _ _ _ _ _ [.int (1 : Int32)]
  refine Wl.ifN 237 at_234 (feq (by decide)).1 ?_
  refine Wl.aload 239 at_237 rfl rfl ?_
  refine Wl.iconst 240 (3 : Int32) at_239 (by decide) ?_
  refine Wl.iload 242 at_240 rfl ?_
  refine Wl.aload 244 at_242 rfl rfl ?_
  refine Wl.iload_n 245 at_244 rfl ?_
  refine Wl.aload 247 at_245 rfl rfl ?_
  refine Wl.iload 249 at_247 rfl ?_
  refine Wl.static 252 (argsL := [.ref s41, .int (3 : Int32), .int (11 : Int32), .ref xp, .int (2 : Int32), .ref yn, .int (1 : Int32)]) at_249 (w227 hw) (w228 hw) (w3 hw) (w229 hw) (show parseMethodDescriptor "(Ljava/lang/String;II[CI[CI)Z" = some ⟨[(.object "java/lang/String"), .int, .int, (.array .char), .int, (.array .char), .int], some .boolean⟩ by decide +kernel) rfl (atA_met hw hcs hfm (rs := [p0, p1, (113 : Int32), (117 : Int32), (101 : Int32), (117 : Int32), (101 : Int32), (58 : Int32), (123 : Int32), n0, (125 : Int32)]) (ps := [p0, p1, p2]) (ns := [n0, n1, n2, n3]) (n := 3) (j := 1) (S43.ext E58) (nle rfl) (by decide) (A.ext B59) (B.ext B59) (nle rfl) (nle rfl) (latC lp0 (latC lp1 (latC lp2 latN))) (latC ln0 (latC ln1 (latC ln2 (latC ln3 latN)))) (by decide) (by decide) (by decide) (nle rfl) rfl) (fun _ q => nomatch q) rfl rfl rfl (by decide) ⟨⟨nle rfl, nle rfl⟩, nle rfl, nle rfl⟩ ?_
  intro v61 h62 hq63 _
  obtain ⟨rfl, E64⟩ := hq63
  have B65 : Ext h h62 := extTr B59 E64
  have B66 : Ext h9 h62 := extTr B60 E64
  show WlO _ _ _ _ _ _ _ _ _ _ _ _ _ _ _ _ _ _ [.int (1 : Int32)]
  refine Wl.ifN 255 at_252 (feq (by decide)).1 ?_
  refine Wl.aload 257 at_255 rfl rfl ?_
  refine Wl.iconst 258 (4 : Int32) at_257 (by decide) ?_
  refine Wl.iload 260 at_258 rfl ?_
  refine Wl.aload 262 at_260 rfl rfl ?_
  refine Wl.iload_n 263 at_262 rfl ?_
  refine Wl.aload 265 at_263 rfl rfl ?_
  refine Wl.iload 267 at_265 rfl ?_
  refine Wl.static 270 (argsL := [.ref s41, .int (4 : Int32), .int (11 : Int32), .ref xp, .int (2 : Int32), .ref yn, .int (1 : Int32)]) at_267 (w227 hw) (w228 hw) (w3 hw) (w229 hw) (show parseMethodDescriptor "(Ljava/lang/String;II[CI[CI)Z" = some ⟨[(.object "java/lang/String"), .int, .int, (.array .char), .int, (.array .char), .int], some .boolean⟩ by decide +kernel) rfl (atA_met hw hcs hfm (rs := [p0, p1, (113 : Int32), (117 : Int32), (101 : Int32), (117 : Int32), (101 : Int32), (58 : Int32), (123 : Int32), n0, (125 : Int32)]) (ps := [p0, p1, p2]) (ns := [n0, n1, n2, n3]) (n := 4) (j := 2) ((S43.ext E58).ext E64) (nle rfl) (by decide) (A.ext B65) (B.ext B65) (nle rfl) (nle rfl) (latC lp0 (latC lp1 (latC lp2 latN))) (latC ln0 (latC ln1 (latC ln2 (latC ln3 latN)))) (by decide) (by decide) (by decide) (nle rfl) rfl) (fun _ q => nomatch q) rfl rfl rfl (by decide) ⟨⟨nle rfl, nle rfl⟩, nle rfl, nle rfl⟩ ?_
  intro v67 h68 hq69 _
  obtain ⟨rfl, E70⟩ := hq69
  have B71 : Ext h h68 := extTr B65 E70
  have B72 : Ext h9 h68 := extTr B66 E70
  show WlO _ _ _ _ _ _ _ _ _ _ _ _ _ _ _ _ _ _ [.int (1 : Int32)]
  refine Wl.ifN 273 at_270 (feq (by decide)).1 ?_
  refine Wl.aload 275 at_273 rfl rfl ?_
  refine Wl.iconst 276 (5 : Int32) at_275 (by decide) ?_
  refine Wl.iload 278 at_276 rfl ?_
  refine Wl.aload 280 at_278 rfl rfl ?_
  refine Wl.iload_n 281 at_280 rfl ?_
  refine Wl.aload 283 at_281 rfl rfl ?_
  refine Wl.iload 285 at_283 rfl ?_
  refine Wl.static 288 (argsL := [.ref s41, .int (5 : Int32), .int (11 : Int32), .ref xp, .int (2 : Int32), .ref yn, .int (1 : Int32)]) at_285 (w227 hw) (w228 hw) (w3 hw) (w229 hw) (show parseMethodDescriptor "(Ljava/lang/String;II[CI[CI)Z" = some ⟨[(.object "java/lang/String"), .int, .int, (.array .char), .int, (.array .char), .int], some .boolean⟩ by decide +kernel) rfl (atA_met hw hcs hfm (rs := [p0, p1, (113 : Int32), (117 : Int32), (101 : Int32), (117 : Int32), (101 : Int32), (58 : Int32), (123 : Int32), n0, (125 : Int32)]) (ps := [p0, p1, p2]) (ns := [n0, n1, n2, n3]) (n := 5) (j := 3) (((S43.ext E58).ext E64).ext E70) (nle rfl) (by decide) (A.ext B71) (B.ext B71) (nle rfl) (nle rfl) (latC lp0 (latC lp1 (latC lp2 latN))) (latC ln0 (latC ln1 (latC ln2 (latC ln3 latN)))) (by decide) (by decide) (by decide) (nle rfl) rfl) (fun _ q => nomatch q) rfl rfl rfl (by decide) ⟨⟨nle rfl, nle rfl⟩, nle rfl, nle rfl⟩ ?_
  intro v73 h74 hq75 _
  obtain ⟨rfl, E76⟩ := hq75
  have B77 : Ext h h74 := extTr B71 E76
  have B78 : Ext h9 h74 := extTr B72 E76
  show WlO _ _ _ _ _ _ _ _ _ _ _ _ _ _ _ _ _ _ [.int (1 : Int32)]
  refine Wl.ifN 291 at_288 (feq (by decide)).1 ?_
  refine Wl.aload 293 at_291 rfl rfl ?_
  refine Wl.bipush 295 (6 : Int32) at_293 (by decide) ?_
  refine Wl.iload 297 at_295 rfl ?_
  refine Wl.aload 299 at_297 rfl rfl ?_
  refine Wl.iload_n 300 at_299 rfl ?_
  refine Wl.aload 302 at_300 rfl rfl ?_
  refine Wl.iload 304 at_302 rfl ?_
  refine Wl.static 307 (argsL := [.ref s41, .int (6 : Int32), .int (11 : Int32), .ref xp, .int (2 : Int32), .ref yn, .int (1 : Int32)]) at_304 (w227 hw) (w228 hw) (w3 hw) (w229 hw) (show parseMethodDescriptor "(Ljava/lang/String;II[CI[CI)Z" = some ⟨[(.object "java/lang/String"), .int, .int, (.array .char), .int, (.array .char), .int], some .boolean⟩ by decide +kernel) rfl (atA_met hw hcs hfm (rs := [p0, p1, (113 : Int32), (117 : Int32), (101 : Int32), (117 : Int32), (101 : Int32), (58 : Int32), (123 : Int32), n0, (125 : Int32)]) (ps := [p0, p1, p2]) (ns := [n0, n1, n2, n3]) (n := 6) (j := 4) ((((S43.ext E58).ext E64).ext E70).ext E76) (nle rfl) (by decide) (A.ext B77) (B.ext B77) (nle rfl) (nle rfl) (latC lp0 (latC lp1 (latC lp2 latN))) (latC ln0 (latC ln1 (latC ln2 (latC ln3 latN)))) (by decide) (by decide) (by decide) (nle rfl) rfl) (fun _ q => nomatch q) rfl rfl rfl (by decide) ⟨⟨nle rfl, nle rfl⟩, nle rfl, nle rfl⟩ ?_
  intro v79 h80 hq81 _
  obtain ⟨rfl, E82⟩ := hq81
  have B83 : Ext h h80 := extTr B77 E82
  have B84 : Ext h9 h80 := extTr B78 E82
  show WlO _ _ _ _ _ _ _ _ _ _ _ _ _ _ _ _ _ _ [.int (1 : Int32)]
  refine Wl.ifN 310 at_307 (feq (by decide)).1 ?_
  refine Wl.aload 312 at_310 rfl rfl ?_
  refine Wl.bipush 314 (7 : Int32) at_312 (by decide) ?_
  refine Wl.iload 316 at_314 rfl ?_
  refine Wl.aload 318 at_316 rfl rfl ?_
  refine Wl.iload_n 319 at_318 rfl ?_
  refine Wl.aload 321 at_319 rfl rfl ?_
  refine Wl.iload 323 at_321 rfl ?_
  refine Wl.static 326 (argsL := [.ref s41, .int (7 : Int32), .int (11 : Int32), .ref xp, .int (2 : Int32), .ref yn, .int (1 : Int32)]) at_323 (w227 hw) (w228 hw) (w3 hw) (w229 hw) (show parseMethodDescriptor "(Ljava/lang/String;II[CI[CI)Z" = some ⟨[(.object "java/lang/String"), .int, .int, (.array .char), .int, (.array .char), .int], some .boolean⟩ by decide +kernel) rfl (atA_met hw hcs hfm (rs := [p0, p1, (113 : Int32), (117 : Int32), (101 : Int32), (117 : Int32), (101 : Int32), (58 : Int32), (123 : Int32), n0, (125 : Int32)]) (ps := [p0, p1, p2]) (ns := [n0, n1, n2, n3]) (n := 7) (j := 5) (((((S43.ext E58).ext E64).ext E70).ext E76).ext E82) (nle rfl) (by decide) (A.ext B83) (B.ext B83) (nle rfl) (nle rfl) (latC lp0 (latC lp1 (latC lp2 latN))) (latC ln0 (latC ln1 (latC ln2 (latC ln3 latN)))) (by decide) (by decide) (by decide) (nle rfl) rfl) (fun _ q => nomatch q) rfl rfl rfl (by decide) ⟨⟨nle rfl, nle rfl⟩, nle rfl, nle rfl⟩ ?_
  intro v85 h86 hq87 _
  obtain ⟨rfl, E88⟩ := hq87
  have B89 : Ext h h86 := extTr B83 E88
  have B90 : Ext h9 h86 := extTr B84 E88
  show WlO _ _ _ _ _ _ _ _ _ _ _ _ _ _ _ _ _ _ [.int (1 : Int32)]
  refine Wl.ifN 329 at_326 (feq (by decide)).1 ?_
  refine Wl.aload 331 at_329 rfl rfl ?_
  refine Wl.bipush 333 (8 : Int32) at_331 (by decide) ?_
  refine Wl.iload 335 at_333 rfl ?_
  refine Wl.aload 337 at_335 rfl rfl ?_
  refine Wl.iload_n 338 at_337 rfl ?_
  refine Wl.aload 340 at_338 rfl rfl ?_
  refine Wl.iload 342 at_340 rfl ?_
  refine Wl.static 345 (argsL := [.ref s41, .int (8 : Int32), .int (11 : Int32), .ref xp, .int (2 : Int32), .ref yn, .int (1 : Int32)]) at_342 (w227 hw) (w228 hw) (w3 hw) (w229 hw) (show parseMethodDescriptor "(Ljava/lang/String;II[CI[CI)Z" = some ⟨[(.object "java/lang/String"), .int, .int, (.array .char), .int, (.array .char), .int], some .boolean⟩ by decide +kernel) rfl (atO_met hw hcs hfm (rs := [p0, p1, (113 : Int32), (117 : Int32), (101 : Int32), (117 : Int32), (101 : Int32), (58 : Int32), (123 : Int32), n0, (125 : Int32)]) (ps := [p0, p1, p2]) (ns := [n0, n1, n2, n3]) (n := 8) ((((((S43.ext E58).ext E64).ext E70).ext E76).ext E82).ext E88) (nle rfl) (by decide) (A.ext B89) (B.ext B89) (nle rfl) (nle rfl) (latC lp0 (latC lp1 (latC lp2 latN))) (latC ln0 (latC ln1 (latC ln2 (latC ln3 latN)))) (by decide) (by decide) (by decide) rfl) (fun _ q => nomatch q) rfl rfl rfl (by decide) ⟨⟨nle rfl, nle rfl⟩, nle rfl, nle rfl⟩ ?_
  intro v91 h92 hq93 _
  obtain ⟨rfl, rfl⟩ := hq93
  show WlO _ _ _ _ _ _ _ _ _ _ _ _ _ _ _ _ _ _ [.int (1 : Int32)]
  refine Wl.ifN 348 at_345 (feq (by decide)).1 ?_
  refine Wl.aload 350 at_348 rfl rfl ?_
  refine Wl.bipush 352 (9 : Int32) at_350 (by decide) ?_
  refine Wl.iload 354 at_352 rfl ?_
  refine Wl.aload 356 at_354 rfl rfl ?_
  refine Wl.iload_n 357 at_356 rfl ?_
  refine Wl.aload 359 at_357 rfl rfl ?_
  refine Wl.iload 361 at_359 rfl ?_
  refine Wl.static 364 (argsL := [.ref s41, .int (9 : Int32), .int (11 : Int32), .ref xp, .int (2 : Int32), .ref yn, .int (1 : Int32)]) at_361 (w227 hw) (w228 hw) (w3 hw) (w229 hw) (show parseMethodDescriptor "(Ljava/lang/String;II[CI[CI)Z" = some ⟨[(.object "java/lang/String"), .int, .int, (.array .char), .int, (.array .char), .int], some .boolean⟩ by decide +kernel) rfl (atN_met hw hcs hfm (rs := [p0, p1, (113 : Int32), (117 : Int32), (101 : Int32), (117 : Int32), (101 : Int32), (58 : Int32), (123 : Int32), n0, (125 : Int32)]) (ps := [p0, p1, p2]) (ns := [n0, n1, n2, n3]) (n := 9) (m := 0) ((((((S43.ext E58).ext E64).ext E70).ext E76).ext E82).ext E88) (nle rfl) (by decide) (A.ext B89) (B.ext B89) (nle rfl) (nle rfl) (latC lp0 (latC lp1 (latC lp2 latN))) (latC ln0 (latC ln1 (latC ln2 (latC ln3 latN)))) (by decide) (by decide) (by decide) (by decide) (by decide) (nle rfl) rfl) (fun _ q => nomatch q) rfl rfl rfl (by decide) ⟨⟨nle rfl, nle rfl⟩, nle rfl, nle rfl⟩ ?_
  intro v94 h95 hq96 _
  obtain ⟨rfl, rfl⟩ := hq96
  show WlO _ _ _ _ _ _ _ _ _ _ _ _ _ _ _ _ _ _ [.int (1 : Int32)]
  refine Wl.ifN 367 at_364 (feq (by decide)).1 ?_
  refine Wl.aload 369 at_367 rfl rfl ?_
  refine Wl.bipush 371 (10 : Int32) at_369 (by decide) ?_
  refine Wl.iload 373 at_371 rfl ?_
  refine Wl.aload 375 at_373 rfl rfl ?_
  refine Wl.iload_n 376 at_375 rfl ?_
  refine Wl.aload 378 at_376 rfl rfl ?_
  refine Wl.iload 380 at_378 rfl ?_
  refine Wl.static 383 (argsL := [.ref s41, .int (10 : Int32), .int (11 : Int32), .ref xp, .int (2 : Int32), .ref yn, .int (1 : Int32)]) at_380 (w227 hw) (w228 hw) (w3 hw) (w229 hw) (show parseMethodDescriptor "(Ljava/lang/String;II[CI[CI)Z" = some ⟨[(.object "java/lang/String"), .int, .int, (.array .char), .int, (.array .char), .int], some .boolean⟩ by decide +kernel) rfl (atE_met hw hcs hfm (rs := [p0, p1, (113 : Int32), (117 : Int32), (101 : Int32), (117 : Int32), (101 : Int32), (58 : Int32), (123 : Int32), n0, (125 : Int32)]) (ps := [p0, p1, p2]) (ns := [n0, n1, n2, n3]) (n := 10) ((((((S43.ext E58).ext E64).ext E70).ext E76).ext E82).ext E88) (nle rfl) (by decide) (A.ext B89) (B.ext B89) (nle rfl) (nle rfl) (latC lp0 (latC lp1 (latC lp2 latN))) (latC ln0 (latC ln1 (latC ln2 (latC ln3 latN)))) (by decide) (by decide) (by decide) (by decide) rfl) (fun _ q => nomatch q) rfl rfl rfl (by decide) ⟨⟨nle rfl, nle rfl⟩, nle rfl, nle rfl⟩ ?_
  intro v97 h98 hq99 _
  obtain ⟨rfl, rfl⟩ := hq99
  show WlO _ _ _ _ _ _ _ _ _ _ _ _ _ _ _ _ _ _ [.int (1 : Int32)]
  refine Wl.ifN 386 at_383 (feq (by decide)).1 ?_
  refine Wl.aload 388 at_386 rfl rfl ?_
  refine Wl.bipush 390 (11 : Int32) at_388 (by decide) ?_
  refine Wl.iload 392 at_390 rfl ?_
  refine Wl.aload 394 at_392 rfl rfl ?_
  refine Wl.iload_n 395 at_394 rfl ?_
  refine Wl.aload 397 at_395 rfl rfl ?_
  refine Wl.iload 399 at_397 rfl ?_
  refine Wl.static 402 (argsL := [.ref s41, .int (11 : Int32), .int (11 : Int32), .ref xp, .int (2 : Int32), .ref yn, .int (1 : Int32)]) at_399 (w227 hw) (w228 hw) (w3 hw) (w229 hw) (show parseMethodDescriptor "(Ljava/lang/String;II[CI[CI)Z" = some ⟨[(.object "java/lang/String"), .int, .int, (.array .char), .int, (.array .char), .int], some .boolean⟩ by decide +kernel) rfl (atC_met hw (by decide)) (fun _ q => nomatch q) rfl rfl rfl (by decide) ⟨⟨nle rfl, nle rfl⟩, nle rfl, nle rfl⟩ ?_
  intro v100 h101 hq102 _
  obtain ⟨rfl, rfl⟩ := hq102
  show WlO _ _ _ _ _ _ _ _ _ _ _ _ _ _ _ _ _ _ [.int (1 : Int32)]
  refine Wl.ifN 405 at_402 (feq (by decide)).1 ?_
  refine Wl.aload 407 at_405 rfl rfl ?_
  refine Wl.bipush 409 (12 : Int32) at_407 (by decide) ?_
  refine Wl.iload 411 at_409 rfl ?_
  refine Wl.aload 413 at_411 rfl rfl ?_
  refine Wl.iload_n 414 at_413 rfl ?_
  refine Wl.aload 416 at_414 rfl rfl ?_
  refine Wl.iload 418 at_416 rfl ?_
  refine Wl.static 421 (argsL := [.ref s41, .int (12 : Int32), .int (11 : Int32), .ref xp, .int (2 : Int32), .ref yn, .int (1 : Int32)]) at_418 (w227 hw) (w228 hw) (w3 hw) (w229 hw) (show parseMethodDescriptor "(Ljava/lang/String;II[CI[CI)Z" = some ⟨[(.object "java/lang/String"), .int, .int, (.array .char), .int, (.array .char), .int], some .boolean⟩ by decide +kernel) rfl (atC_met hw (by decide)) (fun _ q => nomatch q) rfl rfl rfl (by decide) ⟨⟨nle rfl, nle rfl⟩, nle rfl, nle rfl⟩ ?_
  intro v103 h104 hq105 _
  obtain ⟨rfl, rfl⟩ := hq105
  show WlO _ _ _ _ _ _ _ _ _ _ _ _ _ _ _ _ _ _ [.int (1 : Int32)]
  refine Wl.ifN 424 at_421 (feq (by decide)).1 ?_
  refine Wl.aload 426 at_424 rfl rfl ?_
  refine Wl.bipush 428 (13 : Int32) at_426 (by decide) ?_
  refine Wl.iload 430 at_428 rfl ?_
  refine Wl.aload 432 at_430 rfl rfl ?_
  refine Wl.iload_n 433 at_432 rfl ?_
  refine Wl.aload 435 at_433 rfl rfl ?_
  refine Wl.iload 437 at_435 rfl ?_
  refine Wl.static 440 (argsL := [.ref s41, .int (13 : Int32), .int (11 : Int32), .ref xp, .int (2 : Int32), .ref yn, .int (1 : Int32)]) at_437 (w227 hw) (w228 hw) (w3 hw) (w229 hw) (show parseMethodDescriptor "(Ljava/lang/String;II[CI[CI)Z" = some ⟨[(.object "java/lang/String"), .int, .int, (.array .char), .int, (.array .char), .int], some .boolean⟩ by decide +kernel) rfl (atC_met hw (by decide)) (fun _ q => nomatch q) rfl rfl rfl (by decide) ⟨⟨nle rfl, nle rfl⟩, nle rfl, nle rfl⟩ ?_
  intro v106 h107 hq108 _
  obtain ⟨rfl, rfl⟩ := hq108
  show WlO _ _ _ _ _ _ _ _ _ _ _ _ _ _ _ _ _ _ [.int (1 : Int32)]
  refine Wl.ifN 443 at_440 (feq (by decide)).1 ?_
  refine Wl.aload 445 at_443 rfl rfl ?_
  refine Wl.bipush 447 (14 : Int32) at_445 (by decide) ?_
  refine Wl.iload 449 at_447 rfl ?_
  refine Wl.aload 451 at_449 rfl rfl ?_
  refine Wl.iload_n 452 at_451 rfl ?_
  refine Wl.aload 454 at_452 rfl rfl ?_
  refine Wl.iload 456 at_454 rfl ?_
  refine Wl.static 459 (argsL := [.ref s41, .int (14 : Int32), .int (11 : Int32), .ref xp, .int (2 : Int32), .ref yn, .int (1 : Int32)]) at_456 (w227 hw) (w228 hw) (w3 hw) (w229 hw) (show parseMethodDescriptor "(Ljava/lang/String;II[CI[CI)Z" = some ⟨[(.object "java/lang/String"), .int, .int, (.array .char), .int, (.array .char), .int], some .boolean⟩ by decide +kernel) rfl (atC_met hw (by decide)) (fun _ q => nomatch q) rfl rfl rfl (by decide) ⟨⟨nle rfl, nle rfl⟩, nle rfl, nle rfl⟩ ?_
  intro v109 h110 hq111 _
  obtain ⟨rfl, rfl⟩ := hq111
  show WlO _ _ _ _ _ _ _ _ _ _ _ _ _ _ _ _ _ _ [.int (1 : Int32)]
  refine Wl.ifN 462 at_459 (feq (by decide)).1 ?_
  refine Wl.iconst 463 (1 : Int32) at_462 (by decide) ?_
  refine Wl.goto 467 at_463 ?_
  exact Wl.ireturn at_467 rfl rfl (by simp) (nle rfl) (nle rfl) rfl
set_option maxRecDepth 65536 in
set_option maxHeartbeats 40000000 in
theorem law_t22 {l : Launch} {Z : State} {a0 : Array Value} (hw : ∀ d ∈ tables_1, d.before a0 Z = true) (hcs : CSon Z) (hfm : Fmt Z) {as : Array Value} {h : Heap} {i0 i1 i2 p0 p1 p2 n0 n1 n2 n3 : Int32} {xp yn : Addr} {kx ky : ClassId} (A : Arv Z h xp kx .char (3 : Int32) [.int p0, .int p1, .int p2] (.int 0)) (B : Arv Z h yn ky .char (4 : Int32) [.int n0, .int n1, .int n2, .int n3] (.int 0)) (lp0 : Lat p0) (lp1 : Lat p1) (lp2 : Lat p2) (ln0 : Lat n0) (ln1 : Lat n1) (ln2 : Lat n2) (ln3 : Lat n3) (p0123 : p0 ≠ 123) (p0125 : p0 ≠ 125) (p1123 : p1 ≠ 123) (p1125 : p1 ≠ 125) (p2123 : p2 ≠ 123) (p2125 : p2 ≠ 125) (hn0 : ¬ n0 = (125 : Int32)) :
    Wl l Z a0 consts_1 x code maxLocals ret room_1 as (fun v h' => v = some (.int 1)) [] h 2 7 116 #[.val (.int i0), .val (.int i1), .val (.int i2), .val (.int (2 : Int32)), .val (.int (2 : Int32)), .val (.ref xp), .val (.ref yn), .unset, .unset, .unset, .unset, .unset] [] := by
  refine Wl.aload 118 at_116 rfl rfl ?_
  refine Wl.iload_n 119 at_118 rfl ?_
  refine Wl.static 122 (argsL := [.ref xp, .int (2 : Int32)]) at_119 (w5 hw) (w6 hw) (w3 hw) (w7 hw) (show parseMethodDescriptor "([CI)Ljava/lang/String;" = some ⟨[(.array .char), .int], some (.object "java/lang/String")⟩ by decide +kernel) rfl (mk32_met hw hcs A lp0 lp1 lp2) (fun _ q => nomatch q) rfl rfl rfl (by decide) ⟨⟨nle rfl, nle rfl⟩, nle rfl, nle rfl⟩ ?_
  intro v1 h2 hq3 _
  obtain ⟨a4, rfl, E5, S6⟩ := hq3
  have B7 : Ext h h2 := E5
  show WlO _ _ _ _ _ _ _ _ _ _ _ _ _ _ _ _ _ _ [.ref a4]
  refine Wl.astore 124 #[.val (.int i0), .val (.int i1), .val (.int i2), .val (.int (2 : Int32)), .val (.int (2 : Int32)), .val (.ref xp), .val (.ref yn), .val (.ref a4), .unset, .unset, .unset, .unset] at_122 rfl rfl ?_
  refine Wl.aload 126 at_124 rfl rfl ?_
  refine Wl.iload 128 at_126 rfl ?_
  refine Wl.static 131 (argsL := [.ref yn, .int (2 : Int32)]) at_128 (w5 hw) (w6 hw) (w3 hw) (w7 hw) (show parseMethodDescriptor "([CI)Ljava/lang/String;" = some ⟨[(.array .char), .int], some (.object "java/lang/String")⟩ by decide +kernel) rfl (mk42_met hw hcs (B.ext E5) ln0 ln1 ln2 ln3) (fun _ q => nomatch q) rfl rfl rfl (by decide) ⟨⟨nle rfl, nle rfl⟩, nle rfl, nle rfl⟩ ?_
  intro v8 h9 hq10 _
  obtain ⟨a11, rfl, E12, S13⟩ := hq10
  have B14 : Ext h h9 := extTr B7 E12
  show WlO _ _ _ _ _ _ _ _ _ _ _ _ _ _ _ _ _ _ [.ref a11]
  refine Wl.astore 133 #[.val (.int i0), .val (.int i1), .val (.int i2), .val (.int (2 : Int32)), .val (.int (2 : Int32)), .val (.ref xp), .val (.ref yn), .val (.ref a4), .val (.ref a11), .unset, .unset, .unset] at_131 rfl rfl ?_
  refine Wl.new 136 at_133 (w37 hw) (w38 hw) (w39 hw) (nle rfl) (nle rfl) ?_
  intro a15 h16 q17 E18 X19 D20
  have z21 : h.size ≤ a15 := Nat.le_trans B14.1 (Nat.le_of_eq q17.symm)
  have z22 : h9.size ≤ a15 := Nat.le_of_eq q17.symm
  have ne23 : xp ≠ a15 := Nat.ne_of_lt (by rw [q17]; exact ((A.ext B14)).lt)
  have ne24 : yn ≠ a15 := Nat.ne_of_lt (by rw [q17]; exact ((B.ext B14)).lt)
  have ne25 : a4 ≠ a15 := Nat.ne_of_lt (by rw [q17]; exact (((S6).exa.ext E12)).lt)
  have ne26 : a11 ≠ a15 := Nat.ne_of_lt (by rw [q17]; exact ((S13).exa).lt)
  have B27 : Ext h h16 := extTr B14 E18
  have B28 : Ext h9 h16 := E18
  have F29 : Fld Z h16 a15 "com/example/portunus/portunus/LockKeys" "prefix" "Ljava/lang/String;" (.null) := D20 (Or.inr (w94 hw)) (ty := (.object "java/lang/String")) (by decide)
  refine Wl.dup 137 at_136 rfl ?_
  refine Wl.aload 139 at_137 rfl rfl ?_
  refine Wl.special 142 (argsL := [.ref a4]) at_139 (w40 hw) (w41 hw) (w39 hw) (w42 hw) (show parseMethodDescriptor "(Ljava/lang/String;)V" = some ⟨[(.object "java/lang/String")], none⟩ by decide +kernel) rfl (keys_met hw hcs X19 F29 (cs := [p0, p1]) ((S6.ext E12).ext E18) (neC p0123 (neC p1123 neN)) (neC p0125 (neC p1125 neN))) (allS (List.mem_of_getElem? (i := 0) rfl) (fun _ q => nomatch q)) rfl rfl rfl rfl (by decide) ⟨⟨nle rfl, nle rfl⟩, nle rfl, nle rfl⟩ ?_
  intro v30 h31 hq32 _
  obtain ⟨rfl, K33, X34, F35⟩ := hq32
  have B36 : Ext h h31 := extKeep B27 K33 (allS z21 all0)
  have B37 : Ext h9 h31 := extKeep B28 K33 (allS z22 all0)
  show WlO _ _ _ _ _ _ _ _ _ _ _ _ _ _ _ _ _ _ [.ref a15]
  refine Wl.astore 144 #[.val (.int i0), .val (.int i1), .val (.int i2), .val (.int (2 : Int32)), .val (.int (2 : Int32)), .val (.ref xp), .val (.ref yn), .val (.ref a4), .val (.ref a11), .val (.ref a15), .unset, .unset] at_142 rfl rfl ?_
  refine Wl.aload 146 at_144 rfl rfl ?_
  refine Wl.aload 148 at_146 rfl rfl ?_
  refine Wl.virtual 151 (argsL := [.ref a11]) at_148 (w95 hw) (w96 hw) (w98 hw) (w97 hw) (w39 hw) (w99 hw) (nf_sel (w98 hw) rfl) X34 (show parseMethodDescriptor "(Ljava/lang/String;)Ljava/lang/String;" = some ⟨[(.object "java/lang/String")], some (.object "java/lang/String")⟩ by decide +kernel) rfl (key_met hw hcs hfm (cs := [n0, n1]) (ps := [p0, p1]) F35 ((S6.ext E12).ext B37) (nle rfl) (S13.ext B37) (by simp) (nle rfl) hn0 (nle rfl)) (fun _ q => nomatch q) rfl rfl rfl (by decide) ⟨⟨nle rfl, nle rfl⟩, nle rfl, nle rfl⟩ ?_
  intro v38 h39 hq40 _
  obtain ⟨s41, rfl, E42, S43⟩ := hq40
  have S43 : Stl Z h39 s41 [p0, p1, (113 : Int32), (117 : Int32), (101 : Int32), (117 : Int32), (101 : Int32), (58 : Int32), (123 : Int32), n0, n1, (125 : Int32)] := S43
  have B44 : Ext h h39 := extTr B36 E42
  have B45 : Ext h9 h39 := extTr B37 E42
  show WlO _ _ _ _ _ _ _ _ _ _ _ _ _ _ _ _ _ _ [.ref s41]
  refine Wl.astore 153 #[.val (.int i0), .val (.int i1), .val (.int i2), .val (.int (2 : Int32)), .val (.int (2 : Int32)), .val (.ref xp), .val (.ref yn), .val (.ref a4), .val (.ref a11), .val (.ref a15), .val (.ref s41), .unset] at_151 rfl rfl ?_
  refine Wl.iload_n 154 at_153 rfl ?_
  refine Wl.bipush 156 (6 : Int32) at_154 (by decide) ?_
  refine Wl.iadd 157 at_156 ?_
  show WlO _ _ _ _ _ _ _ _ _ _ _ _ _ _ _ _ _ _ [.int (8 : Int32)]
  refine Wl.iconst 158 (1 : Int32) at_157 (by decide) ?_
  refine Wl.iadd 159 at_158 ?_
  show WlO _ _ _ _ _ _ _ _ _ _ _ _ _ _ _ _ _ _ [.int (9 : Int32)]
  refine Wl.iload 161 at_159 rfl ?_
  refine Wl.iadd 162 at_161 ?_
  show WlO _ _ _ _ _ _ _ _ _ _ _ _ _ _ _ _ _ _ [.int (11 : Int32)]
  refine Wl.iconst 163 (1 : Int32) at_162 (by decide) ?_
  refine Wl.iadd 164 at_163 ?_
  show WlO _ _ _ _ _ _ _ _ _ _ _ _ _ _ _ _ _ _ [.int (12 : Int32)]
  refine Wl.istore 166 #[.val (.int i0), .val (.int i1), .val (.int i2), .val (.int (2 : Int32)), .val (.int (2 : Int32)), .val (.ref xp), .val (.ref yn), .val (.ref a4), .val (.ref a11), .val (.ref a15), .val (.ref s41), .val (.int (12 : Int32))] at_164 rfl ?_
  refine Wl.aload 168 at_166 rfl rfl ?_
  refine Wl.ifnullN 171 at_168 ?_
  refine Wl.aload 173 at_171 rfl rfl ?_
  refine Wl.virtual 176 (argsL := []) at_173 (w226 hw) (w67 hw) (w69 hw) (w68 hw) (w10 hw) (w70 hw) (nf_sel (w69 hw) rfl) (S43).exa (show parseMethodDescriptor "()I" = some ⟨[], some .int⟩ by decide +kernel) rfl (len_met hw hcs S43) (fun _ q => nomatch q) rfl rfl rfl (by decide) ⟨⟨nle rfl, nle rfl⟩, nle rfl, nle rfl⟩ ?_
  intro v46 h47 hq48 _
  obtain ⟨rfl, rfl⟩ := hq48
  show WlO _ _ _ _ _ _ _ _ _ _ _ _ _ _ _ _ _ _ [.int (12 : Int32)]
  refine Wl.iload 178 at_176 rfl ?_
  refine Wl.icmpY 183 at_178 (teq (by decide)).1 ?_
  refine Wl.aload 185 at_183 rfl rfl ?_
  refine Wl.iconst 186 (0 : Int32) at_185 (by decide) ?_
  refine Wl.iload 188 at_186 rfl ?_
  refine Wl.aload 190 at_188 rfl rfl ?_
  refine Wl.iload_n 191 at_190 rfl ?_
  refine Wl.aload 193 at_191 rfl rfl ?_
  refine Wl.iload 195 at_193 rfl ?_
  refine Wl.static 198 (argsL := [.ref s41, .int (0 : Int32), .int (12 : Int32), .ref xp, .int (2 : Int32), .ref yn, .int (2 : Int32)]) at_195 (w227 hw) (w228 hw) (w3 hw) (w229 hw) (show parseMethodDescriptor "(Ljava/lang/String;II[CI[CI)Z" = some ⟨[(.object "java/lang/String"), .int, .int, (.array .char), .int, (.array .char), .int], some .boolean⟩ by decide +kernel) rfl (atP_met hw hcs hfm (rs := [p0, p1, (113 : Int32), (117 : Int32), (101 : Int32), (117 : Int32), (101 : Int32), (58 : Int32), (123 : Int32), n0, n1, (125 : Int32)]) (ps := [p0, p1, p2]) (ns := [n0, n1, n2, n3]) (n := 0) S43 (nle rfl) (by decide) (A.ext B44) (B.ext B44) (nle rfl) (nle rfl) (latC lp0 (latC lp1 (latC lp2 latN))) (latC ln0 (latC ln1 (latC ln2 (latC ln3 latN)))) (by decide) (nle rfl) rfl) (fun _ q => nomatch q) rfl rfl rfl (by decide) ⟨⟨nle rfl, nle rfl⟩, nle rfl, nle rfl⟩ ?_
  intro v49 h50 hq51 _
  obtain ⟨rfl, rfl⟩ := hq51
  show WlO _ _ _ _ _ _ _ _ _ _ _ _ _ _ _ _ _ _ [.int (1 : Int32)]
  refine Wl.ifN 201 at_198 (feq (by decide)).1 ?_
  refine Wl.aload 203 at_201 rfl rfl ?_
  refine Wl.iconst 204 (1 : Int32) at_203 (by decide) ?_
  refine Wl.iload 206 at_204 rfl ?_
  refine Wl.aload 208 at_206 rfl rfl ?_
  refine Wl.iload_n 209 at_208 rfl ?_
  refine Wl.aload 211 at_209 rfl rfl ?_
  refine Wl.iload 213 at_211 rfl ?_
  refine Wl.static 216 (argsL := [.ref s41, .int (1 : Int32), .int (12 : Int32), .ref xp, .int (2 : Int32), .ref yn, .int (2 : Int32)]) at_213 (w227 hw) (w228 hw) (w3 hw) (w229 hw) (show parseMethodDescriptor "(Ljava/lang/String;II[CI[CI)Z" = some ⟨[(.object "java/lang/String"), .int, .int, (.array .char), .int, (.array .char), .int], some .boolean⟩ by decide +kernel) rfl (atP_met hw hcs hfm (rs := [p0, p1, (113 : Int32), (117 : Int32), (101 : Int32), (117 : Int32), (101 : Int32), (58 : Int32), (123 : Int32), n0, n1, (125 : Int32)]) (ps := [p0, p1, p2]) (ns := [n0, n1, n2, n3]) (n := 1) S43 (nle rfl) (by decide) (A.ext B44) (B.ext B44) (nle rfl) (nle rfl) (latC lp0 (latC lp1 (latC lp2 latN))) (latC ln0 (latC ln1 (latC ln2 (latC ln3 latN)))) (by decide) (nle rfl) rfl) (fun _ q => nomatch q) rfl rfl rfl (by decide) ⟨⟨nle rfl, nle rfl⟩, nle rfl, nle rfl⟩ ?_
  intro v52 h53 hq54 _
  obtain ⟨rfl, rfl⟩ := hq54
  show WlO _ _ _ _ _ _ _ _ _ _ _ _ _ _ _ _ _ _ [.int (1 : Int32)]
  refine Wl.ifN 219 at_216 (feq (by decide)).1 ?_
  refine Wl.aload 221 at_219 rfl rfl ?_
  refine Wl.iconst 222 (2 : Int32) at_221 (by decide) ?_
  refine Wl.iload 224 at_222 rfl ?_
  refine Wl.aload 226 at_224 rfl rfl ?_
  refine Wl.iload_n 227 at_226 rfl ?_
  refine Wl.aload 229 at_227 rfl rfl ?_
  refine Wl.iload 231 at_229 rfl ?_
  refine Wl.static 234 (argsL := [.ref s41, .int (2 : Int32), .int (12 : Int32), .ref xp, .int (2 : Int32), .ref yn, .int (2 : Int32)]) at_231 (w227 hw) (w228 hw) (w3 hw) (w229 hw) (show parseMethodDescriptor "(Ljava/lang/String;II[CI[CI)Z" = some ⟨[(.object "java/lang/String"), .int, .int, (.array .char), .int, (.array .char), .int], some .boolean⟩ by decide +kernel) rfl (atA_met hw hcs hfm (rs := [p0, p1, (113 : Int32), (117 : Int32), (101 : Int32), (117 : Int32), (101 : Int32), (58 : Int32), (123 : Int32), n0, n1, (125 : Int32)]) (ps := [p0, p1, p2]) (ns := [n0, n1, n2, n3]) (n := 2) (j := 0) S43 (nle rfl) (by decide) (A.ext B44) (B.ext B44) (nle rfl) (nle rfl) (latC lp0 (latC lp1 (latC lp2 latN))) (latC ln0 (latC ln1 (latC ln2 (latC ln3 latN)))) (by decide) (by decide) (by decide) (nle rfl) rfl) (fun _ q => nomatch q) rfl rfl rfl (by decide) ⟨⟨nle rfl, nle rfl⟩, nle rfl, nle rfl⟩ ?_
  intro v55 h56 hq57 _
  obtain ⟨rfl, E58⟩ := hq57
  have B59 : Ext h h56 := extTr B44 E58
  have B60 : Ext h9 h56 := extTr B45 E58
  show WlO _ _ _ _ _ _ _ _ _ _ _ _ _ _ _ _ _ _ [.int (1 : Int32)]
  refine Wl.ifN 237 at_234 (feq (by decide)).1 ?_
  refine Wl.aload 239 at_237 rfl rfl ?_
  refine Wl.iconst 240 (3 : Int32) at_239 (by decide) ?_
  refine Wl.iload 242 at_240 rfl ?_
  refine Wl.aload 244 at_242 rfl rfl ?_
  refine Wl.iload_n 245 at_244 rfl ?_
  refine Wl.aload 247 at_245 rfl rfl ?_
  refine Wl.iload 249 at_247 rfl ?_
  refine Wl.static 252 (argsL := [.ref s41, .int (3 : Int32), .int (12 : Int32), .ref xp, .int (2 : Int32), .ref yn, .int (2 : Int32)]) at_249 (w227 hw) (w228 hw) (w3 hw) (w229 hw) (show parseMethodDescriptor "(Ljava/lang/String;II[CI[CI)Z" = some ⟨[(.object "java/lang/String"), .int, .int, (.array .char), .int, (.array .char), .int], some .boolean⟩ by decide +kernel) rfl (atA_met hw hcs hfm (rs := [p0, p1, (113 : Int32), (117 : Int32), (101 : Int32), (117 : Int32), (101 : Int32), (58 : Int32), (123 : Int32), n0, n1, (125 : Int32)]) (ps := [p0, p1, p2]) (ns := [n0, n1, n2, n3]) (n := 3) (j := 1) (S43.ext E58) (nle rfl) (by decide) (A.ext B59) (B.ext B59) (nle rfl) (nle rfl) (latC lp0 (latC lp1 (latC lp2 latN))) (latC ln0 (latC ln1 (latC ln2 (latC ln3 latN)))) (by decide) (by decide) (by decide) (nle rfl) rfl) (fun _ q => nomatch q) rfl rfl rfl (by decide) ⟨⟨nle rfl, nle rfl⟩, nle rfl, nle rfl⟩ ?_
  intro v61 h62 hq63 _
  obtain ⟨rfl, E64⟩ := hq63
  have B65 : Ext h h62 := extTr B59 E64
  have B66 : Ext h9 h62 := extTr B60 E64
  show WlO _ _ _ _ _ _ _ _ _ _ _ _ _ _ _ _ _ _ [.int (1 : Int32)]
  refine Wl.ifN 255 at_252 (feq (by decide)).1 ?_
  refine Wl.aload 257 at_255 rfl rfl ?_
  refine Wl.iconst 258 (4 : Int32) at_257 (by decide) ?_
  refine Wl.iload 260 at_258 rfl ?_
  refine Wl.aload 262 at_260 rfl rfl ?_
  refine Wl.iload_n 263 at_262 rfl ?_
  refine Wl.aload 265 at_263 rfl rfl ?_
  refine Wl.iload 267 at_265 rfl ?_
  refine Wl.static 270 (argsL := [.ref s41, .int (4 : Int32), .int (12 : Int32), .ref xp, .int (2 : Int32), .ref yn, .int (2 : Int32)]) at_267 (w227 hw) (w228 hw) (w3 hw) (w229 hw) (show parseMethodDescriptor "(Ljava/lang/String;II[CI[CI)Z" = some ⟨[(.object "java/lang/String"), .int, .int, (.array .char), .int, (.array .char), .int], some .boolean⟩ by decide +kernel) rfl (atA_met hw hcs hfm (rs := [p0, p1, (113 : Int32), (117 : Int32), (101 : Int32), (117 : Int32), (101 : Int32), (58 : Int32), (123 : Int32), n0, n1, (125 : Int32)]) (ps := [p0, p1, p2]) (ns := [n0, n1, n2, n3]) (n := 4) (j := 2) ((S43.ext E58).ext E64) (nle rfl) (by decide) (A.ext B65) (B.ext B65) (nle rfl) (nle rfl) (latC lp0 (latC lp1 (latC lp2 latN))) (latC ln0 (latC ln1 (latC ln2 (latC ln3 latN)))) (by decide) (by decide) (by decide) (nle rfl) rfl) (fun _ q => nomatch q) rfl rfl rfl (by decide) ⟨⟨nle rfl, nle rfl⟩, nle rfl, nle rfl⟩ ?_
  intro v67 h68 hq69 _
  obtain ⟨rfl, E70⟩ := hq69
  have B71 : Ext h h68 := extTr B65 E70
  have B72 : Ext h9 h68 := extTr B66 E70
  show WlO _ _ _ _ _ _ _ _ _ _ _ _ _ _ _ _ _ _ [.int (1 : Int32)]
  refine Wl.ifN 273 at_270 (feq (by decide)).1 ?_
  refine Wl.aload 275 at_273 rfl rfl ?_
  refine Wl.iconst 276 (5 : Int32) at_275 (by decide) ?_
  refine Wl.iload 278 at_276 rfl ?_
  refine Wl.aload 280 at_278 rfl rfl ?_
  refine Wl.iload_n 281 at_280 rfl ?_
  refine Wl.aload 283 at_281 rfl rfl ?_
  refine Wl.iload 285 at_283 rfl ?_
  refine Wl.static 288 (argsL := [.ref s41, .int (5 : Int32), .int (12 : Int32), .ref xp, .int (2 : Int32), .ref yn, .int (2 : Int32)]) at_285 (w227 hw) (w228 hw) (w3 hw) (w229 hw) (show parseMethodDescriptor "(Ljava/lang/String;II[CI[CI)Z" = some ⟨[(.object "java/lang/String"), .int, .int, (.array .char), .int, (.array .char), .int], some .boolean⟩ by decide +kernel) rfl (atA_met hw hcs hfm (rs := [p0, p1, (113 : Int32), (117 : Int32), (101 : Int32), (117 : Int32), (101 : Int32), (58 : Int32), (123 : Int32), n0, n1, (125 : Int32)]) (ps := [p0, p1, p2]) (ns := [n0, n1, n2, n3]) (n := 5) (j := 3) (((S43.ext E58).ext E64).ext E70) (nle rfl) (by decide) (A.ext B71) (B.ext B71) (nle rfl) (nle rfl) (latC lp0 (latC lp1 (latC lp2 latN))) (latC ln0 (latC ln1 (latC ln2 (latC ln3 latN)))) (by decide) (by decide) (by decide) (nle rfl) rfl) (fun _ q => nomatch q) rfl rfl rfl (by decide) ⟨⟨nle rfl, nle rfl⟩, nle rfl, nle rfl⟩ ?_
  intro v73 h74 hq75 _
  obtain ⟨rfl, E76⟩ := hq75
  have B77 : Ext h h74 := extTr B71 E76
  have B78 : Ext h9 h74 := extTr B72 E76
  show WlO _ _ _ _ _ _ _ _ _ _ _ _ _ _ _ _ _ _ [.int (1 : Int32)]
  refine Wl.ifN 291 at_288 (feq (by decide)).1 ?_
  refine Wl.aload 293 at_291 rfl rfl ?_
  refine Wl.bipush 295 (6 : Int32) at_293 (by decide) ?_
  refine Wl.iload 297 at_295 rfl ?_
  refine Wl.aload 299 at_297 rfl rfl ?_
  refine Wl.iload_n 300 at_299 rfl ?_
  refine Wl.aload 302 at_300 rfl rfl ?_
  refine Wl.iload 304 at_302 rfl ?_
  refine Wl.static 307 (argsL := [.ref s41, .int (6 : Int32), .int (12 : Int32), .ref xp, .int (2 : Int32), .ref yn, .int (2 : Int32)]) at_304 (w227 hw) (w228 hw) (w3 hw) (w229 hw) (show parseMethodDescriptor "(Ljava/lang/String;II[CI[CI)Z" = some ⟨[(.object "java/lang/String"), .int, .int, (.array .char), .int, (.array .char), .int], some .boolean⟩ by decide +kernel) rfl (atA_met hw hcs hfm (rs := [p0, p1, (113 : Int32), (117 : Int32), (101 : Int32), (117 : Int32), (101 : Int32), (58 : Int32), (123 : Int32), n0, n1, (125 : Int32)]) (ps := [p0, p1, p2]) (ns := [n0, n1, n2, n3]) (n := 6) (j := 4) ((((S43.ext E58).ext E64).ext E70).ext E76) (nle rfl) (by decide) (A.ext B77) (B.ext B77) (nle rfl) (nle rfl) (latC lp0 (latC lp1 (latC lp2 latN))) (latC ln0 (latC ln1 (latC ln2 (latC ln3 latN)))) (by decide) (by decide) (by decide) (nle rfl) rfl) (fun _ q => nomatch q) rfl rfl rfl (by decide) ⟨⟨nle rfl, nle rfl⟩, nle rfl, nle rfl⟩ ?_
  intro v79 h80 hq81 _
  obtain ⟨rfl, E82⟩ := hq81
  have B83 : Ext h h80 := extTr B77 E82
  have B84 : Ext h9 h80 := extTr B78 E82
  show WlO _ _ _ _ _ _ _ _ _ _ _ _ _ _ _ _ _ _ [.int (1 : Int32)]
  refine Wl.ifN 310 at_307 (feq (by decide)).1 ?_
  refine Wl.aload 312 at_310 rfl rfl ?_
  refine Wl.bipush 314 (7 : Int32) at_312 (by decide) ?_
  refine Wl.iload 316 at_314 rfl ?_
  refine Wl.aload 318 at_316 rfl rfl ?_
  refine Wl.iload_n 319 at_318 rfl ?_
  refine Wl.aload 321 at_319 rfl rfl ?_
  refine Wl.iload 323 at_321 rfl ?_
  refine Wl.static 326 (argsL := [.ref s41, .int (7 : Int32), .int (12 : Int32), .ref xp, .int (2 : Int32), .ref yn, .int (2 : Int32)]) at_323 (w227 hw) (w228 hw) (w3 hw) (w229 hw) (show parseMethodDescriptor "(Ljava/lang/String;II[CI[CI)Z" = some ⟨[(.object "java/lang/String"), .int, .int, (.array .char), .int, (.array .char), .int], some .boolean⟩ by decide +kernel) rfl (atA_met hw hcs hfm (rs := [p0, p1, (113 : Int32), (117 : Int32), (101 : Int32), (117 : Int32), (101 : Int32), (58 : Int32), (123 : Int32), n0, n1, (125 : Int32)]) (ps := [p0, p1, p2]) (ns := [n0, n1, n2, n3]) (n := 7) (j := 5) (((((S43.ext E58).ext E64).ext E70).ext E76).ext E82) (nle rfl) (by decide) (A.ext B83) (B.ext B83) (nle rfl) (nle rfl) (latC lp0 (latC lp1 (latC lp2 latN))) (latC ln0 (latC ln1 (latC ln2 (latC ln3 latN)))) (by decide) (by decide) (by decide) (nle rfl) rfl) (fun _ q => nomatch q) rfl rfl rfl (by decide) ⟨⟨nle rfl, nle rfl⟩, nle rfl, nle rfl⟩ ?_
  intro v85 h86 hq87 _
  obtain ⟨rfl, E88⟩ := hq87
  have B89 : Ext h h86 := extTr B83 E88
  have B90 : Ext h9 h86 := extTr B84 E88
  show WlO _ _ _ _ _ _ _ _ _ _ _ _ _ _ _ _ _ _ [.int (1 : Int32)]
  refine Wl.ifN 329 at_326 (feq (by decide)).1 ?_
  refine Wl.aload 331 at_329 rfl rfl ?_
  refine Wl.bipush 333 (8 : Int32) at_331 (by decide) ?_
  refine Wl.iload 335 at_333 rfl ?_
  refine Wl.aload 337 at_335 rfl rfl ?_
  refine Wl.iload_n 338 at_337 rfl ?_
  refine Wl.aload 340 at_338 rfl rfl ?_
  refine Wl.iload 342 at_340 rfl ?_
  refine Wl.static 345 (argsL := [.ref s41, .int (8 : Int32), .int (12 : Int32), .ref xp, .int (2 : Int32), .ref yn, .int (2 : Int32)]) at_342 (w227 hw) (w228 hw) (w3 hw) (w229 hw) (show parseMethodDescriptor "(Ljava/lang/String;II[CI[CI)Z" = some ⟨[(.object "java/lang/String"), .int, .int, (.array .char), .int, (.array .char), .int], some .boolean⟩ by decide +kernel) rfl (atO_met hw hcs hfm (rs := [p0, p1, (113 : Int32), (117 : Int32), (101 : Int32), (117 : Int32), (101 : Int32), (58 : Int32), (123 : Int32), n0, n1, (125 : Int32)]) (ps := [p0, p1, p2]) (ns := [n0, n1, n2, n3]) (n := 8) ((((((S43.ext E58).ext E64).ext E70).ext E76).ext E82).ext E88) (nle rfl) (by decide) (A.ext B89) (B.ext B89) (nle rfl) (nle rfl) (latC lp0 (latC lp1 (latC lp2 latN))) (latC ln0 (latC ln1 (latC ln2 (latC ln3 latN)))) (by decide) (by decide) (by decide) rfl) (fun _ q => nomatch q) rfl rfl rfl (by decide) ⟨⟨nle rfl, nle rfl⟩, nle rfl, nle rfl⟩ ?_
  intro v91 h92 hq93 _
  obtain ⟨rfl, rfl⟩ := hq93
  show WlO _ _ _ _ _ _ _ _ _ _ _ _ _ _ _ _ _ _ [.int (1 : Int32)]
  refine Wl.ifN 348 at_345 (feq (by decide)).1 ?_
  refine Wl.aload 350 at_348 rfl rfl ?_
  refine Wl.bipush 352 (9 : Int32) at_350 (by decide) ?_
  refine Wl.iload 354 at_352 rfl ?_
  refine Wl.aload 356 at_354 rfl rfl ?_
  refine Wl.iload_n 357 at_356 rfl ?_
  refine Wl.aload 359 at_357 rfl rfl ?_
  refine Wl.iload 361 at_359 rfl ?_
  refine Wl.static 364 (argsL := [.ref s41, .int (9 : Int32), .int (12 : Int32), .ref xp, .int (2 : Int32), .ref yn, .int (2 : Int32)]) at_361 (w227 hw) (w228 hw) (w3 hw) (w229 hw) (show parseMethodDescriptor "(Ljava/lang/String;II[CI[CI)Z" = some ⟨[(.object "java/lang/String"), .int, .int, (.array .char), .int, (.array .char), .int], some .boolean⟩ by decide +kernel) rfl (atN_met hw hcs hfm (rs := [p0, p1, (113 : Int32), (117 : Int32), (101 : Int32), (117 : Int32), (101 : Int32), (58 : Int32), (123 : Int32), n0, n1, (125 : Int32)]) (ps := [p0, p1, p2]) (ns := [n0, n1, n2, n3]) (n := 9) (m := 0) ((((((S43.ext E58).ext E64).ext E70).ext E76).ext E82).ext E88) (nle rfl) (by decide) (A.ext B89) (B.ext B89) (nle rfl) (nle rfl) (latC lp0 (latC lp1 (latC lp2 latN))) (latC ln0 (latC ln1 (latC ln2 (latC ln3 latN)))) (by decide) (by decide) (by decide) (by decide) (by decide) (nle rfl) rfl) (fun _ q => nomatch q) rfl rfl rfl (by decide) ⟨⟨nle rfl, nle rfl⟩, nle rfl, nle rfl⟩ ?_
  intro v94 h95 hq96 _
  obtain ⟨rfl, rfl⟩ := hq96
  show WlO _ _ _ _ _ _ _ _ _ _ _ _ _ _ _ _ _ _ [.int (1 : Int32)]
  refine Wl.ifN 367 at_364 (feq (by decide)).1 ?_
  refine Wl.aload 369 at_367 rfl rfl ?_
  refine Wl.bipush 371 (10 : Int32) at_369 (by decide) ?_
  refine Wl.iload 373 at_371 rfl ?_
  refine Wl.aload 375 at_373 rfl rfl ?_
  refine Wl.iload_n 376 at_375 rfl ?_
  refine Wl.aload 378 at_376 rfl rfl ?_
  refine Wl.iload 380 at_378 rfl ?_
  refine Wl.static 383 (argsL := [.ref s41, .int (10 : Int32), .int (12 : Int32), .ref xp, .int (2 : Int32), .ref yn, .int (2 : Int32)]) at_380 (w227 hw) (w228 hw) (w3 hw) (w229 hw) (show parseMethodDescriptor "(Ljava/lang/String;II[CI[CI)Z" = some ⟨[(.object "java/lang/String"), .int, .int, (.array .char), .int, (.array .char), .int], some .boolean⟩ by decide +kernel) rfl (atN_met hw hcs hfm (rs := [p0, p1, (113 : Int32), (117 : Int32), (101 : Int32), (117 : Int32), (101 : Int32), (58 : Int32), (123 : Int32), n0, n1, (125 : Int32)]) (ps := [p0, p1, p2]) (ns := [n0, n1, n2, n3]) (n := 10) (m := 1) ((((((S43.ext E58).ext E64).ext E70).ext E76).ext E82).ext E88) (nle rfl) (by decide) (A.ext B89) (B.ext B89) (nle rfl) (nle rfl) (latC lp0 (latC lp1 (latC lp2 latN))) (latC ln0 (latC ln1 (latC ln2 (latC ln3 latN)))) (by decide) (by decide) (by decide) (by decide) (by decide) (nle rfl) rfl) (fun _ q => nomatch q) rfl rfl rfl (by decide) ⟨⟨nle rfl, nle rfl⟩, nle rfl, nle rfl⟩ ?_
  intro v97 h98 hq99 _
  obtain ⟨rfl, rfl⟩ := hq99
  show WlO _ _ _ _ _ _ _ _ _ _ _ _ _ _ _ _ _ _ [.int (1 : Int32)]
  refine Wl.ifN 386 at_383 (feq (by decide)).1 ?_
  refine Wl.aload 388 at_386 rfl rfl ?_
  refine Wl.bipush 390 (11 : Int32) at_388 (by decide) ?_
  refine Wl.iload 392 at_390 rfl ?_
  refine Wl.aload 394 at_392 rfl rfl ?_
  refine Wl.iload_n 395 at_394 rfl ?_
  refine Wl.aload 397 at_395 rfl rfl ?_
  refine Wl.iload 399 at_397 rfl ?_
  refine Wl.static 402 (argsL := [.ref s41, .int (11 : Int32), .int (12 : Int32), .ref xp, .int (2 : Int32), .ref yn, .int (2 : Int32)]) at_399 (w227 hw) (w228 hw) (w3 hw) (w229 hw) (show parseMethodDescriptor "(Ljava/lang/String;II[CI[CI)Z" = some ⟨[(.object "java/lang/String"), .int, .int, (.array .char), .int, (.array .char), .int], some .boolean⟩ by decide +kernel) rfl (atE_met hw hcs hfm (rs := [p0, p1, (113 : Int32), (117 : Int32), (101 : Int32), (117 : Int32), (101 : Int32), (58 : Int32), (123 : Int32), n0, n1, (125 : Int32)]) (ps := [p0, p1, p2]) (ns := [n0, n1, n2, n3]) (n := 11) ((((((S43.ext E58).ext E64).ext E70).ext E76).ext E82).ext E88) (nle rfl) (by decide) (A.ext B89) (B.ext B89) (nle rfl) (nle rfl) (latC lp0 (latC lp1 (latC lp2 latN))) (latC ln0 (latC ln1 (latC ln2 (latC ln3 latN)))) (by decide) (by decide) (by decide) (by decide) rfl) (fun _ q => nomatch q) rfl rfl rfl (by decide) ⟨⟨nle rfl, nle rfl⟩, nle rfl, nle rfl⟩ ?_
  intro v100 h101 hq102 _
  obtain ⟨rfl, rfl⟩ := hq102
  show WlO _ _ _ _ _ _ _ _ _ _ _ _ _ _ _ _ _ _ [.int (1 : Int32)]
  refine Wl.ifN 405 at_402 (feq (by decide)).1 ?_
  refine Wl.aload 407 at_405 rfl rfl ?_
  refine Wl.bipush 409 (12 : Int32) at_407 (by decide) ?_
  refine Wl.iload 411 at_409 rfl ?_
  refine Wl.aload 413 at_411 rfl rfl ?_
  refine Wl.iload_n 414 at_413 rfl ?_
  refine Wl.aload 416 at_414 rfl rfl ?_
  refine Wl.iload 418 at_416 rfl ?_
  refine Wl.static 421 (argsL := [.ref s41, .int (12 : Int32), .int (12 : Int32), .ref xp, .int (2 : Int32), .ref yn, .int (2 : Int32)]) at_418 (w227 hw) (w228 hw) (w3 hw) (w229 hw) (show parseMethodDescriptor "(Ljava/lang/String;II[CI[CI)Z" = some ⟨[(.object "java/lang/String"), .int, .int, (.array .char), .int, (.array .char), .int], some .boolean⟩ by decide +kernel) rfl (atC_met hw (by decide)) (fun _ q => nomatch q) rfl rfl rfl (by decide) ⟨⟨nle rfl, nle rfl⟩, nle rfl, nle rfl⟩ ?_
  intro v103 h104 hq105 _
  obtain ⟨rfl, rfl⟩ := hq105
  show WlO _ _ _ _ _ _ _ _ _ _ _ _ _ _ _ _ _ _ [.int (1 : Int32)]
  refine Wl.ifN 424 at_421 (feq (by decide)).1 ?_
  refine Wl.aload 426 at_424 rfl rfl ?_
  refine Wl.bipush 428 (13 : Int32) at_426 (by decide) ?_
  refine Wl.iload 430 at_428 rfl ?_
  refine Wl.aload 432 at_430 rfl rfl ?_
  refine Wl.iload_n 433 at_432 rfl ?_
  refine Wl.aload 435 at_433 rfl rfl ?_
  refine Wl.iload 437 at_435 rfl ?_
  refine Wl.static 440 (argsL := [.ref s41, .int (13 : Int32), .int (12 : Int32), .ref xp, .int (2 : Int32), .ref yn, .int (2 : Int32)]) at_437 (w227 hw) (w228 hw) (w3 hw) (w229 hw) (show parseMethodDescriptor "(Ljava/lang/String;II[CI[CI)Z" = some ⟨[(.object "java/lang/String"), .int, .int, (.array .char), .int, (.array .char), .int], some .boolean⟩ by decide +kernel) rfl (atC_met hw (by decide)) (fun _ q => nomatch q) rfl rfl rfl (by decide) ⟨⟨nle rfl, nle rfl⟩, nle rfl, nle rfl⟩ ?_
  intro v106 h107 hq108 _
  obtain ⟨rfl, rfl⟩ := hq108
  show WlO _ _ _ _ _ _ _ _ _ _ _ _ _ _ _ _ _ _ [.int (1 : Int32)]
  refine Wl.ifN 443 at_440 (feq (by decide)).1 ?_
  refine Wl.aload 445 at_443 rfl rfl ?_
  refine Wl.bipush 447 (14 : Int32) at_445 (by decide) ?_
  refine Wl.iload 449 at_447 rfl ?_
  refine Wl.aload 451 at_449 rfl rfl ?_
  refine Wl.iload_n 452 at_451 rfl ?_
  refine Wl.aload 454 at_452 rfl rfl ?_
  refine Wl.iload 456 at_454 rfl ?_
  refine Wl.static 459 (argsL := [.ref s41, .int (14 : Int32), .int (12 : Int32), .ref xp, .int (2 : Int32), .ref yn, .int (2 : Int32)]) at_456 (w227 hw) (w228 hw) (w3 hw) (w229 hw) (show parseMethodDescriptor "(Ljava/lang/String;II[CI[CI)Z" = some ⟨[(.object "java/lang/String"), .int, .int, (.array .char), .int, (.array .char), .int], some .boolean⟩ by decide +kernel) rfl (atC_met hw (by decide)) (fun _ q => nomatch q) rfl rfl rfl (by decide) ⟨⟨nle rfl, nle rfl⟩, nle rfl, nle rfl⟩ ?_
  intro v109 h110 hq111 _
  obtain ⟨rfl, rfl⟩ := hq111
  show WlO _ _ _ _ _ _ _ _ _ _ _ _ _ _ _ _ _ _ [.int (1 : Int32)]
  refine Wl.ifN 462 at_459 (feq (by decide)).1 ?_
  refine Wl.iconst 463 (1 : Int32) at_462 (by decide) ?_
  refine Wl.goto 467 at_463 ?_
  exact Wl.ireturn at_467 rfl rfl (by simp) (nle rfl) (nle rfl) rfl
set_option maxRecDepth 65536 in
set_option maxHeartbeats 40000000 in
theorem law_t23 {l : Launch} {Z : State} {a0 : Array Value} (hw : ∀ d ∈ tables_1, d.before a0 Z = true) (hcs : CSon Z) (hfm : Fmt Z) {as : Array Value} {h : Heap} {i0 i1 i2 p0 p1 p2 n0 n1 n2 n3 : Int32} {xp yn : Addr} {kx ky : ClassId} (A : Arv Z h xp kx .char (3 : Int32) [.int p0, .int p1, .int p2] (.int 0)) (B : Arv Z h yn ky .char (4 : Int32) [.int n0, .int n1, .int n2, .int n3] (.int 0)) (lp0 : Lat p0) (lp1 : Lat p1) (lp2 : Lat p2) (ln0 : Lat n0) (ln1 : Lat n1) (ln2 : Lat n2) (ln3 : Lat n3) (p0123 : p0 ≠ 123) (p0125 : p0 ≠ 125) (p1123 : p1 ≠ 123) (p1125 : p1 ≠ 125) (p2123 : p2 ≠ 123) (p2125 : p2 ≠ 125) (hn0 : ¬ n0 = (125 : Int32)) :
    Wl l Z a0 consts_1 x code maxLocals ret room_1 as (fun v h' => v = some (.int 1)) [] h 2 7 116 #[.val (.int i0), .val (.int i1), .val (.int i2), .val (.int (2 : Int32)), .val (.int (3 : Int32)), .val (.ref xp), .val (.ref yn), .unset, .unset, .unset, .unset, .unset] [] := by
  refine Wl.aload 118 at_116 rfl rfl ?_
  refine Wl.iload_n 119 at_118 rfl ?_
  refine Wl.static 122 (argsL := [.ref xp, .int (2 : Int32)]) at_119 (w5 hw) (w6 hw) (w3 hw) (w7 hw) (show parseMethodDescriptor "([CI)Ljava/lang/String;" = some ⟨[(.array .char), .int], some (.object "java/lang/String")⟩ by decide +kernel) rfl (mk32_met hw hcs A lp0 lp1 lp2) (fun _ q => nomatch q) rfl rfl rfl (by decide) ⟨⟨nle rfl, nle rfl⟩, nle rfl, nle rfl⟩ ?_
  intro v1 h2 hq3 _
  obtain ⟨a4, rfl, E5, S6⟩ := hq3
  have B7 : Ext h h2 := E5
  show WlO _ _ _ _ _ _ _ _ _ _ _ _ _ _ _ _ _ _ [.ref a4]
  refine Wl.astore 124 #[.val (.int i0), .val (.int i1), .val (.int i2), .val (.int (2 : Int32)), .val (.int (3 : Int32)), .val (.ref xp), .val (.ref yn), .val (.ref a4), .unset, .unset, .unset, .unset] at_122 rfl rfl ?_
  refine Wl.aload 126 at_124 rfl rfl ?_
  refine Wl.iload 128 at_126 rfl ?_
  refine Wl.static 131 (argsL := [.ref yn, .int (3 : Int32)]) at_128 (w5 hw) (w6 hw) (w3 hw) (w7 hw) (show parseMethodDescriptor "([CI)Ljava/lang/String;" = some ⟨[(.array .char), .int], some (.object "java/lang/String")⟩ by decide +kernel) rfl (mk43_met hw hcs (B.ext E5) ln0 ln1 ln2 ln3) (fun _ q => nomatch q) rfl rfl rfl (by decide) ⟨⟨nle rfl, nle rfl⟩, nle rfl, nle rfl⟩ ?_
  intro v8 h9 hq10 _
  obtain ⟨a11, rfl, E12, S13⟩ := hq10
  have B14 : Ext h h9 := extTr B7 E12
  show WlO _ _ _ _ _ _ _ _ _ _ _ _ _ _ _ _ _ _ [.ref a11]
  refine Wl.astore 133 #[.val (.int i0), .val (.int i1), .val (.int i2), .val (.int (2 : Int32)), .val (.int (3 : Int32)), .val (.ref xp), .val (.ref yn), .val (.ref a4), .val (.ref a11), .unset, .unset, .unset] at_131 rfl rfl ?_
  refine Wl.new 136 at_133 (w37 hw) (w38 hw) (w39 hw) (nle rfl) (nle rfl) ?_
  intro a15 h16 q17 E18 X19 D20
  have z21 : h.size ≤ a15 := Nat.le_trans B14.1 (Nat.le_of_eq q17.symm)
  have z22 : h9.size ≤ a15 := Nat.le_of_eq q17.symm
  have ne23 : xp ≠ a15 := Nat.ne_of_lt (by rw [q17]; exact ((A.ext B14)).lt)
  have ne24 : yn ≠ a15 := Nat.ne_of_lt (by rw [q17]; exact ((B.ext B14)).lt)
  have ne25 : a4 ≠ a15 := Nat.ne_of_lt (by rw [q17]; exact (((S6).exa.ext E12)).lt)
  have ne26 : a11 ≠ a15 := Nat.ne_of_lt (by rw [q17]; exact ((S13).exa).lt)
  have B27 : Ext h h16 := extTr B14 E18
  have B28 : Ext h9 h16 := E18
  have F29 : Fld Z h16 a15 "com/example/portunus/portunus/LockKeys" "prefix" "Ljava/lang/String;" (.null) := D20 (Or.inr (w94 hw)) (ty := (.object "java/lang/String")) (by decide)
  refine Wl.dup 137 at_136 rfl ?_
  refine Wl.aload 139 at_137 rfl rfl ?_
  refine Wl.special 142 (argsL := [.ref a4]) at_139 (w40 hw) (w41 hw) (w39 hw) (w42 hw) (show parseMethodDescriptor "(Ljava/lang/String;)V" = some ⟨[(.object "java/lang/String")], none⟩ by decide +kernel) rfl (keys_met hw hcs X19 F29 (cs := [p0, p1]) ((S6.ext E12).ext E18) (neC p0123 (neC p1123 neN)) (neC p0125 (neC p1125 neN))) (allS (List.mem_of_getElem? (i := 0) rfl) (fun _ q => nomatch q)) rfl rfl rfl rfl (by decide) ⟨⟨nle rfl, nle rfl⟩, nle rfl, nle rfl⟩ ?_
  intro v30 h31 hq32 _
  obtain ⟨rfl, K33, X34, F35⟩ := hq32
  have B36 : Ext h h31 := extKeep B27 K33 (allS z21 all0)
  have B37 : Ext h9 h31 := extKeep B28 K33 (allS z22 all0)
  show WlO _ _ _ _ _ _ _ _ _ _ _ _ _ _ _ _ _ _ [.ref a15]
  refine Wl.astore 144 #[.val (.int i0), .val (.int i1), .val (.int i2), .val (.int (2 : Int32)), .val (.int (3 : Int32)), .val (.ref xp), .val (.ref yn), .val (.ref a4), .val (.ref a11), .val (.ref a15), .unset, .unset] at_142 rfl rfl ?_
  refine Wl.aload 146 at_144 rfl rfl ?_
  refine Wl.aload 148 at_146 rfl rfl ?_
  refine Wl.virtual 151 (argsL := [.ref a11]) at_148 (w95 hw) (w96 hw) (w98 hw) (w97 hw) (w39 hw) (w99 hw) (nf_sel (w98 hw) rfl) X34 (show parseMethodDescriptor "(Ljava/lang/String;)Ljava/lang/String;" = some ⟨[(.object "java/lang/String")], some (.object "java/lang/String")⟩ by decide +kernel) rfl (key_met hw hcs hfm (cs := [n0, n1, n2]) (ps := [p0, p1]) F35 ((S6.ext E12).ext B37) (nle rfl) (S13.ext B37) (by simp) (nle rfl) hn0 (nle rfl)) (fun _ q => nomatch q) rfl rfl rfl (by decide) ⟨⟨nle rfl, nle rfl⟩, nle rfl, nle rfl⟩ ?_
  intro v38 h39 hq40 _
  obtain ⟨s41, rfl, E42, S43⟩ := hq40
  have S43 : Stl Z h39 s41 [p0, p1, (113 : Int32), (117 : Int32), (101 : Int32), (117 : Int32), (101 : Int32), (58 : Int32), (123 : Int32), n0, n1, n2, (125 : Int32)] := S43
  have B44 : Ext h h39 := extTr B36 E42
  have B45 : Ext h9 h39 := extTr B37 E42
  show WlO _ _ _ _ _ _ _ _ _ _ _ _ _ _ _ _ _ _ [.ref s41]
  refine Wl.astore 153 #[.val (.int i0), .val (.int i1), .val (.int i2), .val (.int (2 : Int32)), .val (.int (3 : Int32)), .val (.ref xp), .val (.ref yn), .val (.ref a4), .val (.ref a11), .val (.ref a15), .val (.ref s41), .unset] at_151 rfl rfl ?_
  refine Wl.iload_n 154 at_153 rfl ?_
  refine Wl.bipush 156 (6 : Int32) at_154 (by decide) ?_
  refine Wl.iadd 157 at_156 ?_
  show WlO _ _ _ _ _ _ _ _ _ _ _ _ _ _ _ _ _ _ [.int (8 : Int32)]
  refine Wl.iconst 158 (1 : Int32) at_157 (by decide) ?_
  refine Wl.iadd 159 at_158 ?_
  show WlO _ _ _ _ _ _ _ _ _ _ _ _ _ _ _ _ _ _ [.int (9 : Int32)]
  refine Wl.iload 161 at_159 rfl ?_
  refine Wl.iadd 162 at_161 ?_
  show WlO _ _ _ _ _ _ _ _ _ _ _ _ _ _ _ _ _ _ [.int (12 : Int32)]
  refine Wl.iconst 163 (1 : Int32) at_162 (by decide) ?_
  refine Wl.iadd 164 at_163 ?_
  show WlO _ _ _ _ _ _ _ _ _ _ _ _ _ _ _ _ _ _ [.int (13 : Int32)]
  refine Wl.istore 166 #[.val (.int i0), .val (.int i1), .val (.int i2), .val (.int (2 : Int32)), .val (.int (3 : Int32)), .val (.ref xp), .val (.ref yn), .val (.ref a4), .val (.ref a11), .val (.ref a15), .val (.ref s41), .val (.int (13 : Int32))] at_164 rfl ?_
  refine Wl.aload 168 at_166 rfl rfl ?_
  refine Wl.ifnullN 171 at_168 ?_
  refine Wl.aload 173 at_171 rfl rfl ?_
  refine Wl.virtual 176 (argsL := []) at_173 (w226 hw) (w67 hw) (w69 hw) (w68 hw) (w10 hw) (w70 hw) (nf_sel (w69 hw) rfl) (S43).exa (show parseMethodDescriptor "()I" = some ⟨[], some .int⟩ by decide +kernel) rfl (len_met hw hcs S43) (fun _ q => nomatch q) rfl rfl rfl (by decide) ⟨⟨nle rfl, nle rfl⟩, nle rfl, nle rfl⟩ ?_
  intro v46 h47 hq48 _
  obtain ⟨rfl, rfl⟩ := hq48
  show WlO _ _ _ _ _ _ _ _ _ _ _ _ _ _ _ _ _ _ [.int (13 : Int32)]
  refine Wl.iload 178 at_176 rfl ?_
  refine Wl.icmpY 183 at_178 (teq (by decide)).1 ?_
  refine Wl.aload 185 at_183 rfl rfl ?_
  refine Wl.iconst 186 (0 : Int32) at_185 (by decide) ?_
  refine Wl.iload 188 at_186 rfl ?_
  refine Wl.aload 190 at_188 rfl rfl ?_
  refine Wl.iload_n 191 at_190 rfl ?_
  refine Wl.aload 193 at_191 rfl rfl ?_
  refine Wl.iload 195 at_193 rfl ?_
  refine Wl.static 198 (argsL := [.ref s41, .int (0 : Int32), .int (13 : Int32), .ref xp, .int (2 : Int32), .ref yn, .int (3 : Int32)]) at_195 (w227 hw) (w228 hw) (w3 hw) (w229 hw) (show parseMethodDescriptor "(Ljava/lang/String;II[CI[CI)Z" = some ⟨[(.object "java/lang/String"), .int, .int, (.array .char), .int, (.array .char), .int], some .boolean⟩ by decide +kernel) rfl (atP_met hw hcs hfm (rs := [p0, p1, (113 : Int32), (117 : Int32), (101 : Int32), (117 : Int32), (101 : Int32), (58 : Int32), (123 : Int32), n0, n1, n2, (125 : Int32)]) (ps := [p0, p1, p2]) (ns := [n0, n1, n2, n3]) (n := 0) S43 (nle rfl) (by decide) (A.ext B44) (B.ext B44) (nle rfl) (nle rfl) (latC lp0 (latC lp1 (latC lp2 latN))) (latC ln0 (latC ln1 (latC ln2 (latC ln3 latN)))) (by decide) (nle rfl) rfl) (fun _ q => nomatch q) rfl rfl rfl (by decide) ⟨⟨nle rfl, nle rfl⟩, nle rfl, nle rfl⟩ ?_
  intro v49 h50 hq51 _
  obtain ⟨rfl, rfl⟩ := hq51
  show WlO _ _ _ _ _ _ _ _ _ _ _ _ _ _ _ _ _ _ [.int (1 : Int32)]
  refine Wl.ifN 201 at_198 (feq (by decide)).1 ?_
  refine Wl.aload 203 at_201 rfl rfl ?_
  refine Wl.iconst 204 (1 : Int32) at_203 (by decide) ?_
  refine Wl.iload 206 at_204 rfl ?_
  refine Wl.aload 208 at_206 rfl rfl ?_
  refine Wl.iload_n 209 at_208 rfl ?_
  refine Wl.aload 211 at_209 rfl rfl ?_
  refine Wl.iload 213 at_211 rfl ?_
  refine Wl.static 216 (argsL := [.ref s41, .int (1 : Int32), .int (13 : Int32), .ref xp, .int (2 : Int32), .ref yn, .int (3 : Int32)]) at_213 (w227 hw) (w228 hw) (w3 hw) (w229 hw) (show parseMethodDescriptor "(Ljava/lang/String;II[CI[CI)Z" = some ⟨[(.object "java/lang/String"), .int, .int, (.array .char), .int, (.array .char), .int], some .boolean⟩ by decide +kernel) rfl (atP_met hw hcs hfm (rs := [p0, p1, (113 : Int32), (117 : Int32), (101 : Int32), (117 : Int32), (101 : Int32), (58 : Int32), (123 : Int32), n0, n1, n2, (125 : Int32)]) (ps := [p0, p1, p2]) (ns := [n0, n1, n2, n3]) (n := 1) S43 (nle rfl) (by decide) (A.ext B44) (B.ext B44) (nle rfl) (nle rfl) (latC lp0 (latC lp1 (latC lp2 latN))) (latC ln0 (latC ln1 (latC ln2 (latC ln3 latN)))) (by decide) (nle rfl) rfl) (fun _ q => nomatch q) rfl rfl rfl (by decide) ⟨⟨nle rfl, nle rfl⟩, nle rfl, nle rfl⟩ ?_
  intro v52 h53 hq54 _
  obtain ⟨rfl, rfl⟩ := hq54
  show WlO _ _ _ _ _ _ _ _ _ _ _ _ _ _ _ _ _ _ [.int (1 : Int32)]
  refine Wl.ifN 219 at_216 (feq (by decide)).1 ?_
  refine Wl.aload 221 at_219 rfl rfl ?_
  refine Wl.iconst 222 (2 : Int32) at_221 (by decide) ?_
  refine Wl.iload 224 at_222 rfl ?_
  refine Wl.aload 226 at_224 rfl rfl ?_
  refine Wl.iload_n 227 at_226 rfl ?_
  refine Wl.aload 229 at_227 rfl rfl ?_
  refine Wl.iload 231 at_229 rfl ?_
  refine Wl.static 234 (argsL := [.ref s41, .int (2 : Int32), .int (13 : Int32), .ref xp, .int (2 : Int32), .ref yn, .int (3 : Int32)]) at_231 (w227 hw) (w228 hw) (w3 hw) (w229 hw) (show parseMethodDescriptor "(Ljava/lang/String;II[CI[CI)Z" = some ⟨[(.object "java/lang/String"), .int, .int, (.array .char), .int, (.array .char), .int], some .boolean⟩ by decide +kernel) rfl (atA_met hw hcs hfm (rs := [p0, p1, (113 : Int32), (117 : Int32), (101 : Int32), (117 : Int32), (101 : Int32), (58 : Int32), (123 : Int32), n0, n1, n2, (125 : Int32)]) (ps := [p0, p1, p2]) (ns := [n0, n1, n2, n3]) (n := 2) (j := 0) S43 (nle rfl) (by decide) (A.ext B44) (B.ext B44) (nle rfl) (nle rfl) (latC lp0 (latC lp1 (latC lp2 latN))) (latC ln0 (latC ln1 (latC ln2 (latC ln3 latN)))) (by decide) (by decide) (by decide) (nle rfl) rfl) (fun _ q => nomatch q) rfl rfl rfl (by decide) ⟨⟨nle rfl, nle rfl⟩, nle rfl, nle rfl⟩ ?_
  intro v55 h56 hq57 _
  obtain ⟨rfl, E58⟩ := hq57
  have B59 : Ext h h56 := extTr B44 E58
  have B60 : Ext h9 h56 := extTr B45 E58
  show WlO _ _ _ _ _ _ _ _ _ _ _ _ _ _ _ _ _ _ [.int (1 : Int32)]
  refine Wl.ifN 237 at_234 (feq (by decide)).1 ?_
  refine Wl.aload 239 at_237 rfl rfl ?_
  refine Wl.iconst 240 (3 : Int32) at_239 (by decide) ?_
  refine Wl.iload 242 at_240 rfl ?_
  refine Wl.aload 244 at_242 rfl rfl ?_
  refine Wl.iload_n 245 at_244 rfl ?_
  refine Wl.aload 247 at_245 rfl rfl ?_
  refine Wl.iload 249 at_247 rfl ?_
  refine Wl.static 252 (argsL := [.ref s41, .int (3 : Int32), .int (13 : Int32), .ref xp, .int (2 : Int32), .ref yn, .int (3 : Int32)]) at_249 (w227 hw) (w228 hw) (w3 hw) (w229 hw) (show parseMethodDescriptor "(Ljava/lang/String;II[CI[CI)Z" = some ⟨[(.object "java/lang/String"), .int, .int, (.array .char), .int, (.array .char), .int], some .boolean⟩ by decide +kernel) rfl (atA_met hw hcs hfm (rs := [p0, p1, (113 : Int32), (117 : Int32), (101 : Int32), (117 : Int32), (101 : Int32), (58 : Int32), (123 : Int32), n0, n1, n2, (125 : Int32)]) (ps := [p0, p1, p2]) (ns := [n0, n1, n2, n3]) (n := 3) (j := 1) (S43.ext E58) (nle rfl) (by decide) (A.ext B59) (B.ext B59) (nle rfl) (nle rfl) (latC lp0 (latC lp1 (latC lp2 latN))) (latC ln0 (latC ln1 (latC ln2 (latC ln3 latN)))) (by decide) (by decide) (by decide) (nle rfl) rfl) (fun _ q => nomatch q) rfl rfl rfl (by decide) ⟨⟨nle rfl, nle rfl⟩, nle rfl, nle rfl⟩ ?_
  intro v61 h62 hq63 _
  obtain ⟨rfl, E64⟩ := hq63
  have B65 : Ext h h62 := extTr B59 E64
  have B66 : Ext h9 h62 := extTr B60 E64
  show WlO _ _ _ _ _ _ _ _ _ _ _ _ _ _ _ _ _ _ [.int (1 : Int32)]
  refine Wl.ifN 255 at_252 (feq (by decide)).1 ?_
  refine Wl.aload 257 at_255 rfl rfl ?_
  refine Wl.iconst 258 (4 : Int32) at_257 (by decide) ?_
  refine Wl.iload 260 at_258 rfl ?_
  refine Wl.aload 262 at_260 rfl rfl ?_
  refine Wl.iload_n 263 at_262 rfl ?_
  refine Wl.aload 265 at_263 rfl rfl ?_
  refine Wl.iload 267 at_265 rfl ?_
  refine Wl.static 270 (argsL := [.ref s41, .int (4 : Int32), .int (13 : Int32), .ref xp, .int (2 : Int32), .ref yn, .int (3 : Int32)]) at_267 (w227 hw) (w228 hw) (w3 hw) (w229 hw) (show parseMethodDescriptor "(Ljava/lang/String;II[CI[CI)Z" = some ⟨[(.object "java/lang/String"), .int, .int, (.array .char), .int, (.array .char), .int], some .boolean⟩ by decide +kernel) rfl (atA_met hw hcs hfm (rs := [p0, p1, (113 : Int32), (117 : Int32), (101 : Int32), (117 : Int32), (101 : Int32), (58 : Int32), (123 : Int32), n0, n1, n2, (125 : Int32)]) (ps := [p0, p1, p2]) (ns := [n0, n1, n2, n3]) (n := 4) (j := 2) ((S43.ext E58).ext E64) (nle rfl) (by decide) (A.ext B65) (B.ext B65) (nle rfl) (nle rfl) (latC lp0 (latC lp1 (latC lp2 latN))) (latC ln0 (latC ln1 (latC ln2 (latC ln3 latN)))) (by decide) (by decide) (by decide) (nle rfl) rfl) (fun _ q => nomatch q) rfl rfl rfl (by decide) ⟨⟨nle rfl, nle rfl⟩, nle rfl, nle rfl⟩ ?_
  intro v67 h68 hq69 _
  obtain ⟨rfl, E70⟩ := hq69
  have B71 : Ext h h68 := extTr B65 E70
  have B72 : Ext h9 h68 := extTr B66 E70
  show WlO _ _ _ _ _ _ _ _ _ _ _ _ _ _ _ _ _ _ [.int (1 : Int32)]
  refine Wl.ifN 273 at_270 (feq (by decide)).1 ?_
  refine Wl.aload 275 at_273 rfl rfl ?_
  refine Wl.iconst 276 (5 : Int32) at_275 (by decide) ?_
  refine Wl.iload 278 at_276 rfl ?_
  refine Wl.aload 280 at_278 rfl rfl ?_
  refine Wl.iload_n 281 at_280 rfl ?_
  refine Wl.aload 283 at_281 rfl rfl ?_
  refine Wl.iload 285 at_283 rfl ?_
  refine Wl.static 288 (argsL := [.ref s41, .int (5 : Int32), .int (13 : Int32), .ref xp, .int (2 : Int32), .ref yn, .int (3 : Int32)]) at_285 (w227 hw) (w228 hw) (w3 hw) (w229 hw) (show parseMethodDescriptor "(Ljava/lang/String;II[CI[CI)Z" = some ⟨[(.object "java/lang/String"), .int, .int, (.array .char), .int, (.array .char), .int], some .boolean⟩ by decide +kernel) rfl (atA_met hw hcs hfm (rs := [p0, p1, (113 : Int32), (117 : Int32), (101 : Int32), (117 : Int32), (101 : Int32), (58 : Int32), (123 : Int32), n0, n1, n2, (125 : Int32)]) (ps := [p0, p1, p2]) (ns := [n0, n1, n2, n3]) (n := 5) (j := 3) (((S43.ext E58).ext E64).ext E70) (nle rfl) (by decide) (A.ext B71) (B.ext B71) (nle rfl) (nle rfl) (latC lp0 (latC lp1 (latC lp2 latN))) (latC ln0 (latC ln1 (latC ln2 (latC ln3 latN)))) (by decide) (by decide) (by decide) (nle rfl) rfl) (fun _ q => nomatch q) rfl rfl rfl (by decide) ⟨⟨nle rfl, nle rfl⟩, nle rfl, nle rfl⟩ ?_
  intro v73 h74 hq75 _
  obtain ⟨rfl, E76⟩ := hq75
  have B77 : Ext h h74 := extTr B71 E76
  have B78 : Ext h9 h74 := extTr B72 E76
  show WlO _ _ _ _ _ _ _ _ _ _ _ _ _ _ _ _ _ _ [.int (1 : Int32)]
  refine Wl.ifN 291 at_288 (feq (by decide)).1 ?_
  refine Wl.aload 293 at_291 rfl rfl ?_
  refine Wl.bipush 295 (6 : Int32) at_293 (by decide) ?_
  refine Wl.iload 297 at_295 rfl ?_
  refine Wl.aload 299 at_297 rfl rfl ?_
  refine Wl.iload_n 300 at_299 rfl ?_
  refine Wl.aload 302 at_300 rfl rfl ?_
  refine Wl.iload 304 at_302 rfl ?_
  refine Wl.static 307 (argsL := [.ref s41, .int (6 : Int32), .int (13 : Int32), .ref xp, .int (2 : Int32), .ref yn, .int (3 : Int32)]) at_304 (w227 hw) (w228 hw) (w3 hw) (w229 hw) (show parseMethodDescriptor "(Ljava/lang/String;II[CI[CI)Z" = some ⟨[(.object "java/lang/String"), .int, .int, (.array .char), .int, (.array .char), .int], some .boolean⟩ by decide +kernel) rfl (atA_met hw hcs hfm (rs := [p0, p1, (113 : Int32), (117 : Int32), (101 : Int32), (117 : Int32), (101 : Int32), (58 : Int32), (123 : Int32), n0, n1, n2, (125 : Int32)]) (ps := [p0, p1, p2]) (ns := [n0, n1, n2, n3]) (n := 6) (j := 4) ((((S43.ext E58).ext E64).ext E70).ext E76) (nle rfl) (by decide) (A.ext B77) (B.ext B77) (nle rfl) (nle rfl) (latC lp0 (latC lp1 (latC lp2 latN))) (latC ln0 (latC ln1 (latC ln2 (latC ln3 latN)))) (by decide) (by decide) (by decide) (nle rfl) rfl) (fun _ q => nomatch q) rfl rfl rfl (by decide) ⟨⟨nle rfl, nle rfl⟩, nle rfl, nle rfl⟩ ?_
  intro v79 h80 hq81 _
  obtain ⟨rfl, E82⟩ := hq81
  have B83 : Ext h h80 := extTr B77 E82
  have B84 : Ext h9 h80 := extTr B78 E82
  show WlO _ _ _ _ _ _ _ _ _ _ _ _ _ _ _ _ _ _ [.int (1 : Int32)]
  refine Wl.ifN 310 at_307 (feq (by decide)).1 ?_
  refine Wl.aload 312 at_310 rfl rfl ?_
  refine Wl.bipush 314 (7 : Int32) at_312 (by decide) ?_
  refine Wl.iload 316 at_314 rfl ?_
  refine Wl.aload 318 at_316 rfl rfl ?_
  refine Wl.iload_n 319 at_318 rfl ?_
  refine Wl.aload 321 at_319 rfl rfl ?_
  refine Wl.iload 323 at_321 rfl ?_
  refine Wl.static 326 (argsL := [.ref s41, .int (7 : Int32), .int (13 : Int32), .ref xp, .int (2 : Int32), .ref yn, .int (3 : Int32)]) at_323 (w227 hw) (w228 hw) (w3 hw) (w229 hw) (show parseMethodDescriptor "(Ljava/lang/String;II[CI[CI)Z" = some ⟨[(.object "java/lang/String"), .int, .int, (.array .char), .int, (.array .char), .int], some .boolean⟩ by decide +kernel) rfl (atA_met hw hcs hfm (rs := [p0, p1, (113 : Int32), (117 : Int32), (101 : Int32), (117 : Int32), (101 : Int32), (58 : Int32), (123 : Int32), n0, n1, n2, (125 : Int32)]) (ps := [p0, p1, p2]) (ns := [n0, n1, n2, n3]) (n := 7) (j := 5) (((((S43.ext E58).ext E64).ext E70).ext E76).ext E82) (nle rfl) (by decide) (A.ext B83) (B.ext B83) (nle rfl) (nle rfl) (latC lp0 (latC lp1 (latC lp2 latN))) (latC ln0 (latC ln1 (latC ln2 (latC ln3 latN)))) (by decide) (by decide) (by decide) (nle rfl) rfl) (fun _ q => nomatch q) rfl rfl rfl (by decide) ⟨⟨nle rfl, nle rfl⟩, nle rfl, nle rfl⟩ ?_
  intro v85 h86 hq87 _
  obtain ⟨rfl, E88⟩ := hq87
  have B89 : Ext h h86 := extTr B83 E88
  have B90 : Ext h9 h86 := extTr B84 E88
  show WlO _ _ _ _ _ _ _ _ _ _ _ _ _ _ _ _ _ _ [.int (1 : Int32)]
  refine Wl.ifN 329 at_326 (feq (by decide)).1 ?_
  refine Wl.aload 331 at_329 rfl rfl ?_
  refine Wl.bipush 333 (8 : Int32) at_331 (by decide) ?_
  refine Wl.iload 335 at_333 rfl ?_
  refine Wl.aload 337 at_335 rfl rfl ?_
  refine Wl.iload_n 338 at_337 rfl ?_
  refine Wl.aload 340 at_338 rfl rfl ?_
  refine Wl.iload 342 at_340 rfl ?_
  refine Wl.static 345 (argsL := [.ref s41, .int (8 : Int32), .int (13 : Int32), .ref xp, .int (2 : Int32), .ref yn, .int (3 : Int32)]) at_342 (w227 hw) (w228 hw) (w3 hw) (w229 hw) (show parseMethodDescriptor "(Ljava/lang/String;II[CI[CI)Z" = some ⟨[(.object "java/lang/String"), .int, .int, (.array .char), .int, (.array .char), .int], some .boolean⟩ by decide +kernel) rfl (atO_met hw hcs hfm (rs := [p0, p1, (113 : Int32), (117 : Int32), (101 : Int32), (117 : Int32), (101 : Int32), (58 : Int32), (123 : Int32), n0, n1, n2, (125 : Int32)]) (ps := [p0, p1, p2]) (ns := [n0, n1, n2, n3]) (n := 8) ((((((S43.ext E58).ext E64).ext E70).ext E76).ext E82).ext E88) (nle rfl) (by decide) (A.ext B89) (B.ext B89) (nle rfl) (nle rfl) (latC lp0 (latC lp1 (latC lp2 latN))) (latC ln0 (latC ln1 (latC ln2 (latC ln3 latN)))) (by decide) (by decide) (by decide) rfl) (fun _ q => nomatch q) rfl rfl rfl (by decide) ⟨⟨nle rfl, nle rfl⟩, nle rfl, nle rfl⟩ ?_
  intro v91 h92 hq93 _
  obtain ⟨rfl, rfl⟩ := hq93
  show WlO _ _ _ _ _ _ _ _ _ _ _ _ _ _ _ _ _ _ [.int (1 : Int32)]
  refine Wl.ifN 348 at_345 (feq (by decide)).1 ?_
  refine Wl.aload 350 at_348 rfl rfl ?_
  refine Wl.bipush 352 (9 : Int32) at_350 (by decide) ?_
  refine Wl.iload 354 at_352 rfl ?_
  refine Wl.aload 356 at_354 rfl rfl ?_
  refine Wl.iload_n 357 at_356 rfl ?_
  refine Wl.aload 359 at_357 rfl rfl ?_
  refine Wl.iload 361 at_359 rfl ?_
  refine Wl.static 364 (argsL := [.ref s41, .int (9 : Int32), .int (13 : Int32), .ref xp, .int (2 : Int32), .ref yn, .int (3 : Int32)]) at_361 (w227 hw) (w228 hw) (w3 hw) (w229 hw) (show parseMethodDescriptor "(Ljava/lang/String;II[CI[CI)Z" = some ⟨[(.object "java/lang/String"), .int, .int, (.array .char), .int, (.array .char), .int], some .boolean⟩ by decide +kernel) rfl (atN_met hw hcs hfm (rs := [p0, p1, (113 : Int32), (117 : Int32), (101 : Int32), (117 : Int32), (101 : Int32), (58 : Int32), (123 : Int32), n0, n1, n2, (125 : Int32)]) (ps := [p0, p1, p2]) (ns := [n0, n1, n2, n3]) (n := 9) (m := 0) ((((((S43.ext E58).ext E64).ext E70).ext E76).ext E82).ext E88) (nle rfl) (by decide) (A.ext B89) (B.ext B89) (nle rfl) (nle rfl) (latC lp0 (latC lp1 (latC lp2 latN))) (latC ln0 (latC ln1 (latC ln2 (latC ln3 latN)))) (by decide) (by decide) (by decide) (by decide) (by decide) (nle rfl) rfl) (fun _ q => nomatch q) rfl rfl rfl (by decide) ⟨⟨nle rfl, nle rfl⟩, nle rfl, nle rfl⟩ ?_
  intro v94 h95 hq96 _
  obtain ⟨rfl, rfl⟩ := hq96
  show WlO _ _ _ _ _ _ _ _ _ _ _ _ _ _ _ _ _ _ [.int (1 : Int32)]
  refine Wl.ifN 367 at_364 (feq (by decide)).1 ?_
  refine Wl.aload 369 at_367 rfl rfl ?_
  refine Wl.bipush 371 (10 : Int32) at_369 (by decide) ?_
  refine Wl.iload 373 at_371 rfl ?_
  refine Wl.aload 375 at_373 rfl rfl ?_
  refine Wl.iload_n 376 at_375 rfl ?_
  refine Wl.aload 378 at_376 rfl rfl ?_
  refine Wl.iload 380 at_378 rfl ?_
  refine Wl.static 383 (argsL := [.ref s41, .int (10 : Int32), .int (13 : Int32), .ref xp, .int (2 : Int32), .ref yn, .int (3 : Int32)]) at_380 (w227 hw) (w228 hw) (w3 hw) (w229 hw) (show parseMethodDescriptor "(Ljava/lang/String;II[CI[CI)Z" = some ⟨[(.object "java/lang/String"), .int, .int, (.array .char), .int, (.array .char), .int], some .boolean⟩ by decide +kernel) rfl (atN_met hw hcs hfm (rs := [p0, p1, (113 : Int32), (117 : Int32), (101 : Int32), (117 : Int32), (101 : Int32), (58 : Int32), (123 : Int32), n0, n1, n2, (125 : Int32)]) (ps := [p0, p1, p2]) (ns := [n0, n1, n2, n3]) (n := 10) (m := 1) ((((((S43.ext E58).ext E64).ext E70).ext E76).ext E82).ext E88) (nle rfl) (by decide) (A.ext B89) (B.ext B89) (nle rfl) (nle rfl) (latC lp0 (latC lp1 (latC lp2 latN))) (latC ln0 (latC ln1 (latC ln2 (latC ln3 latN)))) (by decide) (by decide) (by decide) (by decide) (by decide) (nle rfl) rfl) (fun _ q => nomatch q) rfl rfl rfl (by decide) ⟨⟨nle rfl, nle rfl⟩, nle rfl, nle rfl⟩ ?_
  intro v97 h98 hq99 _
  obtain ⟨rfl, rfl⟩ := hq99
  show WlO _ _ _ _ _ _ _ _ _ _ _ _ _ _ _ _ _ _ [.int (1 : Int32)]
  refine Wl.ifN 386 at_383 (feq (by decide)).1 ?_
  refine Wl.aload 388 at_386 rfl rfl ?_
  refine Wl.bipush 390 (11 : Int32) at_388 (by decide) ?_
  refine Wl.iload 392 at_390 rfl ?_
  refine Wl.aload 394 at_392 rfl rfl ?_
  refine Wl.iload_n 395 at_394 rfl ?_
  refine Wl.aload 397 at_395 rfl rfl ?_
  refine Wl.iload 399 at_397 rfl ?_
  refine Wl.static 402 (argsL := [.ref s41, .int (11 : Int32), .int (13 : Int32), .ref xp, .int (2 : Int32), .ref yn, .int (3 : Int32)]) at_399 (w227 hw) (w228 hw) (w3 hw) (w229 hw) (show parseMethodDescriptor "(Ljava/lang/String;II[CI[CI)Z" = some ⟨[(.object "java/lang/String"), .int, .int, (.array .char), .int, (.array .char), .int], some .boolean⟩ by decide +kernel) rfl (atN_met hw hcs hfm (rs := [p0, p1, (113 : Int32), (117 : Int32), (101 : Int32), (117 : Int32), (101 : Int32), (58 : Int32), (123 : Int32), n0, n1, n2, (125 : Int32)]) (ps := [p0, p1, p2]) (ns := [n0, n1, n2, n3]) (n := 11) (m := 2) ((((((S43.ext E58).ext E64).ext E70).ext E76).ext E82).ext E88) (nle rfl) (by decide) (A.ext B89) (B.ext B89) (nle rfl) (nle rfl) (latC lp0 (latC lp1 (latC lp2 latN))) (latC ln0 (latC ln1 (latC ln2 (latC ln3 latN)))) (by decide) (by decide) (by decide) (by decide) (by decide) (nle rfl) rfl) (fun _ q => nomatch q) rfl rfl rfl (by decide) ⟨⟨nle rfl, nle rfl⟩, nle rfl, nle rfl⟩ ?_
  intro v100 h101 hq102 _
  obtain ⟨rfl, rfl⟩ := hq102
  show WlO _ _ _ _ _ _ _ _ _ _ _ _ _ _ _ _ _ _ [.int (1 : Int32)]
  refine Wl.ifN 405 at_402 (feq (by decide)).1 ?_
  refine Wl.aload 407 at_405 rfl rfl ?_
  refine Wl.bipush 409 (12 : Int32) at_407 (by decide) ?_
  refine Wl.iload 411 at_409 rfl ?_
  refine Wl.aload 413 at_411 rfl rfl ?_
  refine Wl.iload_n 414 at_413 rfl ?_
  refine Wl.aload 416 at_414 rfl rfl ?_
  refine Wl.iload 418 at_416 rfl ?_
  refine Wl.static 421 (argsL := [.ref s41, .int (12 : Int32), .int (13 : Int32), .ref xp, .int (2 : Int32), .ref yn, .int (3 : Int32)]) at_418 (w227 hw) (w228 hw) (w3 hw) (w229 hw) (show parseMethodDescriptor "(Ljava/lang/String;II[CI[CI)Z" = some ⟨[(.object "java/lang/String"), .int, .int, (.array .char), .int, (.array .char), .int], some .boolean⟩ by decide +kernel) rfl (atE_met hw hcs hfm (rs := [p0, p1, (113 : Int32), (117 : Int32), (101 : Int32), (117 : Int32), (101 : Int32), (58 : Int32), (123 : Int32), n0, n1, n2, (125 : Int32)]) (ps := [p0, p1, p2]) (ns := [n0, n1, n2, n3]) (n := 12) ((((((S43.ext E58).ext E64).ext E70).ext E76).ext E82).ext E88) (nle rfl) (by decide) (A.ext B89) (B.ext B89) (nle rfl) (nle rfl) (latC lp0 (latC lp1 (latC lp2 latN))) (latC ln0 (latC ln1 (latC ln2 (latC ln3 latN)))) (by decide) (by decide) (by decide) (by decide) rfl) (fun _ q => nomatch q) rfl rfl rfl (by decide) ⟨⟨nle rfl, nle rfl⟩, nle rfl, nle rfl⟩ ?_
  intro v103 h104 hq105 _
  obtain ⟨rfl, rfl⟩ := hq105
  show WlO _ _ _ _ _ _ _ _ _ _ _ _ _ _ _ _ _ _ [.int (1 : Int32)]
  refine Wl.ifN 424 at_421 (feq (by decide)).1 ?_
  refine Wl.aload 426 at_424 rfl rfl ?_
  refine Wl.bipush 428 (13 : Int32) at_426 (by decide) ?_
  refine Wl.iload 430 at_428 rfl ?_
  refine Wl.aload 432 at_430 rfl rfl ?_
  refine Wl.iload_n 433 at_432 rfl ?_
  refine Wl.aload 435 at_433 rfl rfl ?_
  refine Wl.iload 437 at_435 rfl ?_
  refine Wl.static 440 (argsL := [.ref s41, .int (13 : Int32), .int (13 : Int32), .ref xp, .int (2 : Int32), .ref yn, .int (3 : Int32)]) at_437 (w227 hw) (w228 hw) (w3 hw) (w229 hw) (show parseMethodDescriptor "(Ljava/lang/String;II[CI[CI)Z" = some ⟨[(.object "java/lang/String"), .int, .int, (.array .char), .int, (.array .char), .int], some .boolean⟩ by decide +kernel) rfl (atC_met hw (by decide)) (fun _ q => nomatch q) rfl rfl rfl (by decide) ⟨⟨nle rfl, nle rfl⟩, nle rfl, nle rfl⟩ ?_
  intro v106 h107 hq108 _
  obtain ⟨rfl, rfl⟩ := hq108
  show WlO _ _ _ _ _ _ _ _ _ _ _ _ _ _ _ _ _ _ [.int (1 : Int32)]
  refine Wl.ifN 443 at_440 (feq (by decide)).1 ?_
  refine Wl.aload 445 at_443 rfl rfl ?_
  refine Wl.bipush 447 (14 : Int32) at_445 (by decide) ?_
  refine Wl.iload 449 at_447 rfl ?_
  refine Wl.aload 451 at_449 rfl rfl ?_
  refine Wl.iload_n 452 at_451 rfl ?_
  refine Wl.aload 454 at_452 rfl rfl ?_
  refine Wl.iload 456 at_454 rfl ?_
  refine Wl.static 459 (argsL := [.ref s41, .int (14 : Int32), .int (13 : Int32), .ref xp, .int (2 : Int32), .ref yn, .int (3 : Int32)]) at_456 (w227 hw) (w228 hw) (w3 hw) (w229 hw) (show parseMethodDescriptor "(Ljava/lang/String;II[CI[CI)Z" = some ⟨[(.object "java/lang/String"), .int, .int, (.array .char), .int, (.array .char), .int], some .boolean⟩ by decide +kernel) rfl (atC_met hw (by decide)) (fun _ q => nomatch q) rfl rfl rfl (by decide) ⟨⟨nle rfl, nle rfl⟩, nle rfl, nle rfl⟩ ?_
  intro v109 h110 hq111 _
  obtain ⟨rfl, rfl⟩ := hq111
  show WlO _ _ _ _ _ _ _ _ _ _ _ _ _ _ _ _ _ _ [.int (1 : Int32)]
  refine Wl.ifN 462 at_459 (feq (by decide)).1 ?_
  refine Wl.iconst 463 (1 : Int32) at_462 (by decide) ?_
  refine Wl.goto 467 at_463 ?_
  exact Wl.ireturn at_467 rfl rfl (by simp) (nle rfl) (nle rfl) rfl
set_option maxRecDepth 65536 in
set_option maxHeartbeats 40000000 in
theorem law_t24 {l : Launch} {Z : State} {a0 : Array Value} (hw : ∀ d ∈ tables_1, d.before a0 Z = true) (hcs : CSon Z) (hfm : Fmt Z) {as : Array Value} {h : Heap} {i0 i1 i2 p0 p1 p2 n0 n1 n2 n3 : Int32} {xp yn : Addr} {kx ky : ClassId} (A : Arv Z h xp kx .char (3 : Int32) [.int p0, .int p1, .int p2] (.int 0)) (B : Arv Z h yn ky .char (4 : Int32) [.int n0, .int n1, .int n2, .int n3] (.int 0)) (lp0 : Lat p0) (lp1 : Lat p1) (lp2 : Lat p2) (ln0 : Lat n0) (ln1 : Lat n1) (ln2 : Lat n2) (ln3 : Lat n3) (p0123 : p0 ≠ 123) (p0125 : p0 ≠ 125) (p1123 : p1 ≠ 123) (p1125 : p1 ≠ 125) (p2123 : p2 ≠ 123) (p2125 : p2 ≠ 125) (hn0 : ¬ n0 = (125 : Int32)) :
    Wl l Z a0 consts_1 x code maxLocals ret room_1 as (fun v h' => v = some (.int 1)) [] h 2 7 116 #[.val (.int i0), .val (.int i1), .val (.int i2), .val (.int (2 : Int32)), .val (.int (4 : Int32)), .val (.ref xp), .val (.ref yn), .unset, .unset, .unset, .unset, .unset] [] := by
  refine Wl.aload 118 at_116 rfl rfl ?_
  refine Wl.iload_n 119 at_118 rfl ?_
  refine Wl.static 122 (argsL := [.ref xp, .int (2 : Int32)]) at_119 (w5 hw) (w6 hw) (w3 hw) (w7 hw) (show parseMethodDescriptor "([CI)Ljava/lang/String;" = some ⟨[(.array .char), .int], some (.object "java/lang/String")⟩ by decide +kernel) rfl (mk32_met hw hcs A lp0 lp1 lp2) (fun _ q => nomatch q) rfl rfl rfl (by decide) ⟨⟨nle rfl, nle rfl⟩, nle rfl, nle rfl⟩ ?_
  intro v1 h2 hq3 _
  obtain ⟨a4, rfl, E5, S6⟩ := hq3
  have B7 : Ext h h2 := E5
  show WlO _ _ _ _ _ _ _ _ _ _ _ _ _ _ _ _ _ _ [.ref a4]
  refine Wl.astore 124 #[.val (.int i0), .val (.int i1), .val (.int i2), .val (.int (2 : Int32)), .val (.int (4 : Int32)), .val (.ref xp), .val (.ref yn), .val (.ref a4), .unset, .unset, .unset, .unset] at_122 rfl rfl ?_
  refine Wl.aload 126 at_124 rfl rfl ?_
  refine Wl.iload 128 at_126 rfl ?_
  refine Wl.static 131 (argsL := [.ref yn, .int (4 : Int32)]) at_128 (w5 hw) (w6 hw) (w3 hw) (w7 hw) (show parseMethodDescriptor "([CI)Ljava/lang/String;" = some ⟨[(.array .char), .int], some (.object "java/lang/String")⟩ by decide +kernel) rfl (mk44_met hw hcs (B.ext E5) ln0 ln1 ln2 ln3) (fun _ q => nomatch q) rfl rfl rfl (by decide) ⟨⟨nle rfl, nle rfl⟩, nle rfl, nle rfl⟩ ?_
  intro v8 h9 hq10 _
  obtain ⟨a11, rfl, E12, S13⟩ := hq10
  have B14 : Ext h h9 := extTr B7 E12
  show WlO _ _ _ _ _ _ _ _ _ _ _ _ _ _ _ _ _ _ [.ref a11]
  refine Wl.astore 133 #[.val (.int i0), .val (.int i1), .val (.int i2), .val (.int (2 : Int32)), .val (.int (4 : Int32)), .val (.ref xp), .val (.ref yn), .val (.ref a4), .val (.ref a11), .unset, .unset, .unset] at_131 rfl rfl ?_
  refine Wl.new 136 at_133 (w37 hw) (w38 hw) (w39 hw) (nle rfl) (nle rfl) ?_
  intro a15 h16 q17 E18 X19 D20
  have z21 : h.size ≤ a15 := Nat.le_trans B14.1 (Nat.le_of_eq q17.symm)
  have z22 : h9.size ≤ a15 := Nat.le_of_eq q17.symm
  have ne23 : xp ≠ a15 := Nat.ne_of_lt (by rw [q17]; exact ((A.ext B14)).lt)
  have ne24 : yn ≠ a15 := Nat.ne_of_lt (by rw [q17]; exact ((B.ext B14)).lt)
  have ne25 : a4 ≠ a15 := Nat.ne_of_lt (by rw [q17]; exact (((S6).exa.ext E12)).lt)
  have ne26 : a11 ≠ a15 := Nat.ne_of_lt (by rw [q17]; exact ((S13).exa).lt)
  have B27 : Ext h h16 := extTr B14 E18
  have B28 : Ext h9 h16 := E18
  have F29 : Fld Z h16 a15 "com/example/portunus/portunus/LockKeys" "prefix" "Ljava/lang/String;" (.null) := D20 (Or.inr (w94 hw)) (ty := (.object "java/lang/String")) (by decide)
  refine Wl.dup 137 at_136 rfl ?_
  refine Wl.aload 139 at_137 rfl rfl ?_
  refine Wl.special 142 (argsL := [.ref a4]) at_139 (w40 hw) (w41 hw) (w39 hw) (w42 hw) (show parseMethodDescriptor "(Ljava/lang/String;)V" = some ⟨[(.object "java/lang/String")], none⟩ by decide +kernel) rfl (keys_met hw hcs X19 F29 (cs := [p0, p1]) ((S6.ext E12).ext E18) (neC p0123 (neC p1123 neN)) (neC p0125 (neC p1125 neN))) (allS (List.mem_of_getElem? (i := 0) rfl) (fun _ q => nomatch q)) rfl rfl rfl rfl (by decide) ⟨⟨nle rfl, nle rfl⟩, nle rfl, nle rfl⟩ ?_
  intro v30 h31 hq32 _
  obtain ⟨rfl, K33, X34, F35⟩ := hq32
  have B36 : Ext h h31 := extKeep B27 K33 (allS z21 all0)
  have B37 : Ext h9 h31 := extKeep B28 K33 (allS z22 all0)
  show WlO _ _ _ _ _ _ _ _ _ _ _ _ _ _ _ _ _ _ [.ref a15]
  refine Wl.astore 144 #[.val (.int i0), .val (.int i1), .val (.int i2), .val (.int (2 : Int32)), .val (.int (4 : Int32)), .val (.ref xp), .val (.ref yn), .val (.ref a4), .val (.ref a11), .val (.ref a15), .unset, .unset] at_142 rfl rfl ?_
  refine Wl.aload 146 at_144 rfl rfl ?_
  refine Wl.aload 148 at_146 rfl rfl ?_
  refine Wl.virtual 151 (argsL := [.ref a11]) at_148 (w95 hw) (w96 hw) (w98 hw) (w97 hw) (w39 hw) (w99 hw) (nf_sel (w98 hw) rfl) X34 (show parseMethodDescriptor "(Ljava/lang/String;)Ljava/lang/String;" = some ⟨[(.object "java/lang/String")], some (.object "java/lang/String")⟩ by decide +kernel) rfl (key_met hw hcs hfm (cs := [n0, n1, n2, n3]) (ps := [p0, p1]) F35 ((S6.ext E12).ext B37) (nle rfl) (S13.ext B37) (by simp) (nle rfl) hn0 (nle rfl)) (fun _ q => nomatch q) rfl rfl rfl (by decide) ⟨⟨nle rfl, nle rfl⟩, nle rfl, nle rfl⟩ ?_
  intro v38 h39 hq40 _
  obtain ⟨s41, rfl, E42, S43⟩ := hq40
  have S43 : Stl Z h39 s41 [p0, p1, (113 : Int32), (117 : Int32), (101 : Int32), (117 : Int32), (101 : Int32), (58 : Int32), (123 : Int32), n0, n1, n2, n3, (125 : Int32)] := S43
  have B44 : Ext h h39 := extTr B36 E42
  have B45 : Ext h9 h39 := extTr B37 E42
  show WlO _ _ _ _ _ _ _ _ _ _ _ _ _ _ _ _ _ _ [.ref s41]
  refine Wl.astore 153 #[.val (.int i0), .val (.int i1), .val (.int i2), .val (.int (2 : Int32)), .val (.int (4 : Int32)), .val (.ref xp), .val (.ref yn), .val (.ref a4), .val (.ref a11), .val (.ref a15), .val (.ref s41), .unset] at_151 rfl rfl ?_
  refine Wl.iload_n 154 at_153 rfl ?_
  refine Wl.bipush 156 (6 : Int32) at_154 (by decide) ?_
  refine Wl.iadd 157 at_156 ?_
  show WlO _ _ _ _ _ _ _ _ _ _ _ _ _ _ _ _ _ _ [.int (8 : Int32)]
  refine Wl.iconst 158 (1 : Int32) at_157 (by decide) ?_
  refine Wl.iadd 159 at_158 ?_
  show WlO _ _ _ _ _ _ _ _ _ _ _ _ _ _ _ _ _ _ [.int (9 : Int32)]
  refine Wl.iload 161 at_159 rfl ?_
  refine Wl.iadd 162 at_161 ?_
  show WlO _ _ _ _ _ _ _ _ _ _ _ _ _ _ _ _ _ _ [.int (13 : Int32)]
  refine Wl.iconst 163 (1 : Int32) at_162 (by decide) ?_
  refine Wl.iadd 164 at_163 ?_
  show WlO _ _ _ _ _ _ _ _ _ _ _ _ _ _ _ _ _ _ [.int (14 : Int32)]
  refine Wl.istore 166 #[.val (.int i0), .val (.int i1), .val (.int i2), .val (.int (2 : Int32)), .val (.int (4 : Int32)), .val (.ref xp), .val (.ref yn), .val (.ref a4), .val (.ref a11), .val (.ref a15), .val (.ref s41), .val (.int (14 : Int32))] at_164 rfl ?_
  refine Wl.aload 168 at_166 rfl rfl ?_
  refine Wl.ifnullN 171 at_168 ?_
  refine Wl.aload 173 at_171 rfl rfl ?_
  refine Wl.virtual 176 (argsL := []) at_173 (w226 hw) (w67 hw) (w69 hw) (w68 hw) (w10 hw) (w70 hw) (nf_sel (w69 hw) rfl) (S43).exa (show parseMethodDescriptor "()I" = some ⟨[], some .int⟩ by decide +kernel) rfl (len_met hw hcs S43) (fun _ q => nomatch q) rfl rfl rfl (by decide) ⟨⟨nle rfl, nle rfl⟩, nle rfl, nle rfl⟩ ?_
  intro v46 h47 hq48 _
  obtain ⟨rfl, rfl⟩ := hq48
  show WlO _ _ _ _ _ _ _ _ _ _ _ _ _ _ _ _ _ _ [.int (14 : Int32)]
  refine Wl.iload 178 at_176 rfl ?_
  refine Wl.icmpY 183 at_178 (teq (by decide)).1 ?_
  refine Wl.aload 185 at_183 rfl rfl ?_
  refine Wl.iconst 186 (0 : Int32) at_185 (by decide) ?_
  refine Wl.iload 188 at_186 rfl ?_
  refine Wl.aload 190 at_188 rfl rfl ?_
  refine Wl.iload_n 191 at_190 rfl ?_
  refine Wl.aload 193 at_191 rfl rfl ?_
  refine Wl.iload 195 at_193 rfl ?_
  refine Wl.static 198 (argsL := [.ref s41, .int (0 : Int32), .int (14 : Int32), .ref xp, .int (2 : Int32), .ref yn, .int (4 : Int32)]) at_195 (w227 hw) (w228 hw) (w3 hw) (w229 hw) (show parseMethodDescriptor "(Ljava/lang/String;II[CI[CI)Z" = some ⟨[(.object "java/lang/String"), .int, .int, (.array .char), .int, (.array .char), .int], some .boolean⟩ by decide +kernel) rfl (atP_met hw hcs hfm (rs := [p0, p1, (113 : Int32), (117 : Int32), (101 : Int32), (117 : Int32), (101 : Int32), (58 : Int32), (123 : Int32), n0, n1, n2, n3, (125 : Int32)]) (ps := [p0, p1, p2]) (ns := [n0, n1, n2, n3]) (n := 0) S43 (nle rfl) (by decide) (A.ext B44) (B.ext B44) (nle rfl) (nle rfl) (latC lp0 (latC lp1 (latC lp2 latN))) (latC ln0 (latC ln1 (latC ln2 (latC ln3 latN)))) (by decide) (nle rfl) rfl) (fun _ q => nomatch q) rfl rfl rfl (by decide) ⟨⟨nle rfl, nle rfl⟩, nle rfl, nle rfl⟩ ?_
  intro v49 h50 hq51 _
  obtain ⟨rfl, rfl⟩ := hq51
  show WlO _ _ _ _ _ _ _ _ _ _ _ _ _ _ _ _ _ _ [.int (1 : Int32)]
  refine Wl.ifN 201 at_198 (feq (by decide)).1 ?_
  refine Wl.aload 203 at_201 rfl rfl ?_
  refine Wl.iconst 204 (1 : Int32) at_203 (by decide) ?_
  refine Wl.iload 206 at_204 rfl ?_
  refine Wl.aload 208 at_206 rfl rfl ?_
  refine Wl.iload_n 209 at_208 rfl ?_
  refine Wl.aload 211 at_209 rfl rfl ?_
  refine Wl.iload 213 at_211 rfl ?_
  refine Wl.static 216 (argsL := [.ref s41, .int (1 : Int32), .int (14 : Int32), .ref xp, .int (2 : Int32), .ref yn, .int (4 : Int32)]) at_213 (w227 hw) (w228 hw) (w3 hw) (w229 hw) (show parseMethodDescriptor "(Ljava/lang/String;II[CI[CI)Z" = some ⟨[(.object "java/lang/String"), .int, .int, (.array .char), .int, (.array .char), .int], some .boolean⟩ by decide +kernel) rfl (atP_met hw hcs hfm (rs := [p0, p1, (113 : Int32), (117 : Int32), (101 : Int32), (117 : Int32), (101 : Int32), (58 : Int32), (123 : Int32), n0, n1, n2, n3, (125 : Int32)]) (ps := [p0, p1, p2]) (ns := [n0, n1, n2, n3]) (n := 1) S43 (nle rfl) (by decide) (A.ext B44) (B.ext B44) (nle rfl) (nle rfl) (latC lp0 (latC lp1 (latC lp2 latN))) (latC ln0 (latC ln1 (latC ln2 (latC ln3 latN)))) (by decide) (nle rfl) rfl) (fun _ q => nomatch q) rfl rfl rfl (by decide) ⟨⟨nle rfl, nle rfl⟩, nle rfl, nle rfl⟩ ?_
  intro v52 h53 hq54 _
  obtain ⟨rfl, rfl⟩ := hq54
  show WlO _ _ _ _ _ _ _ _ _ _ _ _ _ _ _ _ _ _ [.int (1 : Int32)]
  refine Wl.ifN 219 at_216 (feq (by decide)).1 ?_
  refine Wl.aload 221 at_219 rfl rfl ?_
  refine Wl.iconst 222 (2 : Int32) at_221 (by decide) ?_
  refine Wl.iload 224 at_222 rfl ?_
  refine Wl.aload 226 at_224 rfl rfl ?_
  refine Wl.iload_n 227 at_226 rfl ?_
  refine Wl.aload 229 at_227 rfl rfl ?_
  refine Wl.iload 231 at_229 rfl ?_
  refine Wl.static 234 (argsL := [.ref s41, .int (2 : Int32), .int (14 : Int32), .ref xp, .int (2 : Int32), .ref yn, .int (4 : Int32)]) at_231 (w227 hw) (w228 hw) (w3 hw) (w229 hw) (show parseMethodDescriptor "(Ljava/lang/String;II[CI[CI)Z" = some ⟨[(.object "java/lang/String"), .int, .int, (.array .char), .int, (.array .char), .int], some .boolean⟩ by decide +kernel) rfl (atA_met hw hcs hfm (rs := [p0, p1, (113 : Int32), (117 : Int32), (101 : Int32), (117 : Int32), (101 : Int32), (58 : Int32), (123 : Int32), n0, n1, n2, n3, (125 : Int32)]) (ps := [p0, p1, p2]) (ns := [n0, n1, n2, n3]) (n := 2) (j := 0) S43 (nle rfl) (by decide) (A.ext B44) (B.ext B44) (nle rfl) (nle rfl) (latC lp0 (latC lp1 (latC lp2 latN))) (latC ln0 (latC ln1 (latC ln2 (latC ln3 latN)))) (by decide) (by decide) (by decide) (nle rfl) rfl) (fun _ q => nomatch q) rfl rfl rfl (by decide) ⟨⟨nle rfl, nle rfl⟩, nle rfl, nle rfl⟩ ?_
  intro v55 h56 hq57 _
  obtain ⟨rfl, E58⟩ := hq57
  have B59 : Ext h h56 := extTr B44 E58
  have B60 : Ext h9 h56 := extTr B45 E58
  show WlO _ _ _ _ _ _ _ _ _ _ _ _ _ _ _ _ _ _ [.int (1 : Int32)]
  refine Wl.ifN 237 at_234 (feq (by decide)).1 ?_
  refine Wl.aload 239 at_237 rfl rfl ?_
  refine Wl.iconst 240 (3 : Int32) at_239 (by decide) ?_
  refine Wl.iload 242 at_240 rfl ?_
  refine Wl.aload 244 at_242 rfl rfl ?_
  refine Wl.iload_n 245 at_244 rfl ?_
  refine Wl.aload 247 at_245 rfl rfl ?_
  refine Wl.iload 249 at_247 rfl ?_
  refine Wl.static 252 (argsL := [.ref s41, .int (3 : Int32), .int (14 : Int32), .ref xp, .int (2 : Int32), .ref yn, .int (4 : Int32)]) at_249 (w227 hw) (w228 hw) (w3 hw) (w229 hw) (show parseMethodDescriptor "(Ljava/lang/String;II[CI[CI)Z" = some ⟨[(.object "java/lang/String"), .int, .int, (.array .char), .int, (.array .char), .int], some .boolean⟩ by decide +kernel) rfl (atA_met hw hcs hfm (rs := [p0, p1, (113 : Int32), (117 : Int32), (101 : Int32), (117 : Int32), (101 : Int32), (58 : Int32), (123 : Int32), n0, n1, n2, n3, (125 : Int32)]) (ps := [p0, p1, p2]) (ns := [n0, n1, n2, n3]) (n := 3) (j := 1) (S43.ext E58) (nle rfl) (by decide) (A.ext B59) (B.ext B59) (nle rfl) (nle rfl) (latC lp0 (latC lp1 (latC lp2 latN))) (latC ln0 (latC ln1 (latC ln2 (latC ln3 latN)))) (by decide) (by decide) (by decide) (nle rfl) rfl) (fun _ q => nomatch q) rfl rfl rfl (by decide) ⟨⟨nle rfl, nle rfl⟩, nle rfl, nle rfl⟩ ?_
  intro v61 h62 hq63 _
  obtain ⟨rfl, E64⟩ := hq63
  have B65 : Ext h h62 := extTr B59 E64
  have B66 : Ext h9 h62 := extTr B60 E64
  show WlO _ _ _ _ _ _ _ _ _ _ _ _ _ _ _ _ _ _ [.int (1 : Int32)]
  refine Wl.ifN 255 at_252 (feq (by decide)).1 ?_
  refine Wl.aload 257 at_255 rfl rfl ?_
  refine Wl.iconst 258 (4 : Int32) at_257 (by decide) ?_
  refine Wl.iload 260 at_258 rfl ?_
  refine Wl.aload 262 at_260 rfl rfl ?_
  refine Wl.iload_n 263 at_262 rfl ?_
  refine Wl.aload 265 at_263 rfl rfl ?_
  refine Wl.iload 267 at_265 rfl ?_
  refine Wl.static 270 (argsL := [.ref s41, .int (4 : Int32), .int (14 : Int32), .ref xp, .int (2 : Int32), .ref yn, .int (4 : Int32)]) at_267 (w227 hw) (w228 hw) (w3 hw) (w229 hw) (show parseMethodDescriptor "(Ljava/lang/String;II[CI[CI)Z" = some ⟨[(.object "java/lang/String"), .int, .int, (.array .char), .int, (.array .char), .int], some .boolean⟩ by decide +kernel) rfl (atA_met hw hcs hfm (rs := [p0, p1, (113 : Int32), (117 : Int32), (101 : Int32), (117 : Int32), (101 : Int32), (58 : Int32), (123 : Int32), n0, n1, n2, n3, (125 : Int32)]) (ps := [p0, p1, p2]) (ns := [n0, n1, n2, n3]) (n := 4) (j := 2) ((S43.ext E58).ext E64) (nle rfl) (by decide) (A.ext B65) (B.ext B65) (nle rfl) (nle rfl) (latC lp0 (latC lp1 (latC lp2 latN))) (latC ln0 (latC ln1 (latC ln2 (latC ln3 latN)))) (by decide) (by decide) (by decide) (nle rfl) rfl) (fun _ q => nomatch q) rfl rfl rfl (by decide) ⟨⟨nle rfl, nle rfl⟩, nle rfl, nle rfl⟩ ?_
  intro v67 h68 hq69 _
  obtain ⟨rfl, E70⟩ := hq69
  have B71 : Ext h h68 := extTr B65 E70
  have B72 : Ext h9 h68 := extTr B66 E70
  show WlO _ _ _ _ _ _ _ _ _ _ _ _ _ _ _ _ _ _ [.int (1 : Int32)]
  refine Wl.ifN 273 at_270 (feq (by decide)).1 ?_
  refine Wl.aload 275 at_273 rfl rfl ?_
  refine Wl.iconst 276 (5 : Int32) at_275 (by decide) ?_
  refine Wl.iload 278 at_276 rfl ?_
  refine Wl.aload 280 at_278 rfl rfl ?_
  refine Wl.iload_n 281 at_280 rfl ?_
  refine Wl.aload 283 at_281 rfl rfl ?_
  refine Wl.iload 285 at_283 rfl ?_
  refine Wl.static 288 (argsL := [.ref s41, .int (5 : Int32), .int (14 : Int32), .ref xp, .int (2 : Int32), .ref yn, .int (4 : Int32)]) at_285 (w227 hw) (w228 hw) (w3 hw) (w229 hw) (show parseMethodDescriptor "(Ljava/lang/String;II[CI[CI)Z" = some ⟨[(.object "java/lang/String"), .int, .int, (.array .char), .int, (.array .char), .int], some .boolean⟩ by decide +kernel) rfl (atA_met hw hcs hfm (rs := [p0, p1, (113 : Int32), (117 : Int32), (101 : Int32), (117 : Int32), (101 : Int32), (58 : Int32), (123 : Int32), n0, n1, n2, n3, (125 : Int32)]) (ps := [p0, p1, p2]) (ns := [n0, n1, n2, n3]) (n := 5) (j := 3) (((S43.ext E58).ext E64).ext E70) (nle rfl) (by decide) (A.ext B71) (B.ext B71) (nle rfl) (nle rfl) (latC lp0 (latC lp1 (latC lp2 latN))) (latC ln0 (latC ln1 (latC ln2 (latC ln3 latN)))) (by decide) (by decide) (by decide) (nle rfl) rfl) (fun _ q => nomatch q) rfl rfl rfl (by decide) ⟨⟨nle rfl, nle rfl⟩, nle rfl, nle rfl⟩ ?_
  intro v73 h74 hq75 _
  obtain ⟨rfl, E76⟩ := hq75
  have B77 : Ext h h74 := extTr B71 E76
  have B78 : Ext h9 h74 := extTr B72 E76
  show WlO _ _ _ _ _ _ _ _ _ _ _ _ _ _ _ _ _ _ [.int (1 : Int32)]
  refine Wl.ifN 291 at_288 (feq (by decide)).1 ?_
  refine Wl.aload 293 at_291 rfl rfl ?_
  refine Wl.bipush 295 (6 : Int32) at_293 (by decide) ?_
  refine Wl.iload 297 at_295 rfl ?_
  refine Wl.aload 299 at_297 rfl rfl ?_
  refine Wl.iload_n 300 at_299 rfl ?_
  refine Wl.aload 302 at_300 rfl rfl ?_
  refine Wl.iload 304 at_302 rfl ?_
  refine Wl.static 307 (argsL := [.ref s41, .int (6 : Int32), .int (14 : Int32), .ref xp, .int (2 : Int32), .ref yn, .int (4 : Int32)]) at_304 (w227 hw) (w228 hw) (w3 hw) (w229 hw) (show parseMethodDescriptor "(Ljava/lang/String;II[CI[CI)Z" = some ⟨[(.object "java/lang/String"), .int, .int, (.array .char), .int, (.array .char), .int], some .boolean⟩ by decide +kernel) rfl (atA_met hw hcs hfm (rs := [p0, p1, (113 : Int32), (117 : Int32), (101 : Int32), (117 : Int32), (101 : Int32), (58 : Int32), (123 : Int32), n0, n1, n2, n3, (125 : Int32)]) (ps := [p0, p1, p2]) (ns := [n0, n1, n2, n3]) (n := 6) (j := 4) ((((S43.ext E58).ext E64).ext E70).ext E76) (nle rfl) (by decide) (A.ext B77) (B.ext B77) (nle rfl) (nle rfl) (latC lp0 (latC lp1 (latC lp2 latN))) (latC ln0 (latC ln1 (latC ln2 (latC ln3 latN)))) (by decide) (by decide) (by decide) (nle rfl) rfl) (fun _ q => nomatch q) rfl rfl rfl (by decide) ⟨⟨nle rfl, nle rfl⟩, nle rfl, nle rfl⟩ ?_
  intro v79 h80 hq81 _
  obtain ⟨rfl, E82⟩ := hq81
  have B83 : Ext h h80 := extTr B77 E82
  have B84 : Ext h9 h80 := extTr B78 E82
  show WlO _ _ _ _ _ _ _ _ _ _ _ _ _ _ _ _ _ _ [.int (1 : Int32)]
  refine Wl.ifN 310 at_307 (feq (by decide)).1 ?_
  refine Wl.aload 312 at_310 rfl rfl ?_
  refine Wl.bipush 314 (7 : Int32) at_312 (by decide) ?_
  refine Wl.iload 316 at_314 rfl ?_
  refine Wl.aload 318 at_316 rfl rfl ?_
  refine Wl.iload_n 319 at_318 rfl ?_
  refine Wl.aload 321 at_319 rfl rfl ?_
  refine Wl.iload 323 at_321 rfl ?_
  refine Wl.static 326 (argsL := [.ref s41, .int (7 : Int32), .int (14 : Int32), .ref xp, .int (2 : Int32), .ref yn, .int (4 : Int32)]) at_323 (w227 hw) (w228 hw) (w3 hw) (w229 hw) (show parseMethodDescriptor "(Ljava/lang/String;II[CI[CI)Z" = some ⟨[(.object "java/lang/String"), .int, .int, (.array .char), .int, (.array .char), .int], some .boolean⟩ by decide +kernel) rfl (atA_met hw hcs hfm (rs := [p0, p1, (113 : Int32), (117 : Int32), (101 : Int32), (117 : Int32), (101 : Int32), (58 : Int32), (123 : Int32), n0, n1, n2, n3, (125 : Int32)]) (ps := [p0, p1, p2]) (ns := [n0, n1, n2, n3]) (n := 7) (j := 5) (((((S43.ext E58).ext E64).ext E70).ext E76).ext E82) (nle rfl) (by decide) (A.ext B83) (B.ext B83) (nle rfl) (nle rfl) (latC lp0 (latC lp1 (latC lp2 latN))) (latC ln0 (latC ln1 (latC ln2 (latC ln3 latN)))) (by decide) (by decide) (by decide) (nle rfl) rfl) (fun _ q => nomatch q) rfl rfl rfl (by decide) ⟨⟨nle rfl, nle rfl⟩, nle rfl, nle rfl⟩ ?_
  intro v85 h86 hq87 _
  obtain ⟨rfl, E88⟩ := hq87
  have B89 : Ext h h86 := extTr B83 E88
  have B90 : Ext h9 h86 := extTr B84 E88
  show WlO _ _ _ _ _ _ _ _ _ _ _ _ _ _ _ _ _ _ [.int (1 : Int32)]
  refine Wl.ifN 329 at_326 (feq (by decide)).1 ?_
  refine Wl.aload 331 at_329 rfl rfl ?_
  refine Wl.bipush 333 (8 : Int32) at_331 (by decide) ?_
  refine Wl.iload 335 at_333 rfl ?_
  refine Wl.aload 337 at_335 rfl rfl ?_
  refine Wl.iload_n 338 at_337 rfl ?_
  refine Wl.aload 340 at_338 rfl rfl ?_
  refine Wl.iload 342 at_340 rfl ?_
  refine Wl.static 345 (argsL := [.ref s41, .int (8 : Int32), .int (14 : Int32), .ref xp, .int (2 : Int32), .ref yn, .int (4 : Int32)]) at_342 (w227 hw) (w228 hw) (w3 hw) (w229 hw) (show parseMethodDescriptor "(Ljava/lang/String;II[CI[CI)Z" = some ⟨[(.object "java/lang/String"), .int, .int, (.array .char), .int, (.array .char), .int], some .boolean⟩ by decide +kernel) rfl (atO_met hw hcs hfm (rs := [p0, p1, (113 : Int32), (117 : Int32), (101 : Int32), (117 : Int32), (101 : Int32), (58 : Int32), (123 : Int32), n0, n1, n2, n3, (125 : Int32)]) (ps := [p0, p1, p2]) (ns := [n0, n1, n2, n3]) (n := 8) ((((((S43.ext E58).ext E64).ext E70).ext E76).ext E82).ext E88) (nle rfl) (by decide) (A.ext B89) (B.ext B89) (nle rfl) (nle rfl) (latC lp0 (latC lp1 (latC lp2 latN))) (latC ln0 (latC ln1 (latC ln2 (latC ln3 latN)))) (by decide) (by decide) (by decide) rfl) (fun _ q => nomatch q) rfl rfl rfl (by decide) ⟨⟨nle rfl, nle rfl⟩, nle rfl, nle rfl⟩ ?_
  intro v91 h92 hq93 _
  obtain ⟨rfl, rfl⟩ := hq93
  show WlO _ _ _ _ _ _ _ _ _ _ _ _ _ _ _ _ _ _ [.int (1 : Int32)]
  refine Wl.ifN 348 at_345 (feq (by decide)).1 ?_
  refine Wl.aload 350 at_348 rfl rfl ?_
  refine Wl.bipush 352 (9 : Int32) at_350 (by decide) ?_
  refine Wl.iload 354 at_352 rfl ?_
  refine Wl.aload 356 at_354 rfl rfl ?_
  refine Wl.iload_n 357 at_356 rfl ?_
  refine Wl.aload 359 at_357 rfl rfl ?_
  refine Wl.iload 361 at_359 rfl ?_
  refine Wl.static 364 (argsL := [.ref s41, .int (9 : Int32), .int (14 : Int32), .ref xp, .int (2 : Int32), .ref yn, .int (4 : Int32)]) at_361 (w227 hw) (w228 hw) (w3 hw) (w229 hw) (show parseMethodDescriptor "(Ljava/lang/String;II[CI[CI)Z" = some ⟨[(.object "java/lang/String"), .int, .int, (.array .char), .int, (.array .char), .int], some .boolean⟩ by decide +kernel) rfl (atN_met hw hcs hfm (rs := [p0, p1, (113 : Int32), (117 : Int32), (101 : Int32), (117 : Int32), (101 : Int32), (58 : Int32), (123 : Int32), n0, n1, n2, n3, (125 : Int32)]) (ps := [p0, p1, p2]) (ns := [n0, n1, n2, n3]) (n := 9) (m := 0) ((((((S43.ext E58).ext E64).ext E70).ext E76).ext E82).ext E88) (nle rfl) (by decide) (A.ext B89) (B.ext B89) (nle rfl) (nle rfl) (latC lp0 (latC lp1 (latC lp2 latN))) (latC ln0 (latC ln1 (latC ln2 (latC ln3 latN)))) (by decide) (by decide) (by decide) (by decide) (by decide) (nle rfl) rfl) (fun _ q => nomatch q) rfl rfl rfl (by decide) ⟨⟨nle rfl, nle rfl⟩, nle rfl, nle rfl⟩ ?_
  intro v94 h95 hq96 _
  obtain ⟨rfl, rfl⟩ := hq96
  show WlO _ _ _ _ _ _ _ _ _ _ _ _ _ _ _ _ _ _ [.int (1 : Int32)]
  refine Wl.ifN 367 at_364 (feq (by decide)).1 ?_
  refine Wl.aload 369 at_367 rfl rfl ?_
  refine Wl.bipush 371 (10 : Int32) at_369 (by decide) ?_
  refine Wl.iload 373 at_371 rfl ?_
  refine Wl.aload 375 at_373 rfl rfl ?_
  refine Wl.iload_n 376 at_375 rfl ?_
  refine Wl.aload 378 at_376 rfl rfl ?_
  refine Wl.iload 380 at_378 rfl ?_
  refine Wl.static 383 (argsL := [.ref s41, .int (10 : Int32), .int (14 : Int32), .ref xp, .int (2 : Int32), .ref yn, .int (4 : Int32)]) at_380 (w227 hw) (w228 hw) (w3 hw) (w229 hw) (show parseMethodDescriptor "(Ljava/lang/String;II[CI[CI)Z" = some ⟨[(.object "java/lang/String"), .int, .int, (.array .char), .int, (.array .char), .int], some .boolean⟩ by decide +kernel) rfl (atN_met hw hcs hfm (rs := [p0, p1, (113 : Int32), (117 : Int32), (101 : Int32), (117 : Int32), (101 : Int32), (58 : Int32), (123 : Int32), n0, n1, n2, n3, (125 : Int32)]) (ps := [p0, p1, p2]) (ns := [n0, n1, n2, n3]) (n := 10) (m := 1) ((((((S43.ext E58).ext E64).ext E70).ext E76).ext E82).ext E88) (nle rfl) (by decide) (A.ext B89) (B.ext B89) (nle rfl) (nle rfl) (latC lp0 (latC lp1 (latC lp2 latN))) (latC ln0 (latC ln1 (latC ln2 (latC ln3 latN)))) (by decide) (by decide) (by decide) (by decide) (by decide) (nle rfl) rfl) (fun _ q => nomatch q) rfl rfl rfl (by decide) ⟨⟨nle rfl, nle rfl⟩, nle rfl, nle rfl⟩ ?_
  intro v97 h98 hq99 _
  obtain ⟨rfl, rfl⟩ := hq99
  show WlO _ _ _ _ _ _ _ _ _ _ _ _ _ _ _ _ _ _ [.int (1 : Int32)]
  refine Wl.ifN 386 at_383 (feq (by decide)).1 ?_
  refine Wl.aload 388 at_386 rfl rfl ?_
  refine Wl.bipush 390 (11 : Int32) at_388 (by decide) ?_
  refine Wl.iload 392 at_390 rfl ?_
  refine Wl.aload 394 at_392 rfl rfl ?_
  refine Wl.iload_n 395 at_394 rfl ?_
  refine Wl.aload 397 at_395 rfl rfl ?_
  refine Wl.iload 399 at_397 rfl ?_
  refine Wl.static 402 (argsL := [.ref s41, .int (11 : Int32), .int (14 : Int32), .ref xp, .int (2 : Int32), .ref yn, .int (4 : Int32)]) at_399 (w227 hw) (w228 hw) (w3 hw) (w229 hw) (show parseMethodDescriptor "(Ljava/lang/String;II[CI[CI)Z" = some ⟨[(.object "java/lang/String"), .int, .int, (.array .char), .int, (.array .char), .int], some .boolean⟩ by decide +kernel) rfl (atN_met hw hcs hfm (rs := [p0, p1, (113 : Int32), (117 : Int32), (101 : Int32), (117 : Int32), (101 : Int32), (58 : Int32), (123 : Int32), n0, n1, n2, n3, (125 : Int32)]) (ps := [p0, p1, p2]) (ns := [n0, n1, n2, n3]) (n := 11) (m := 2) ((((((S43.ext E58).ext E64).ext E70).ext E76).ext E82).ext E88) (nle rfl) (by decide) (A.ext B89) (B.ext B89) (nle rfl) (nle rfl) (latC lp0 (latC lp1 (latC lp2 latN))) (latC ln0 (latC ln1 (latC ln2 (latC ln3 latN)))) (by decide) (by decide) (by decide) (by decide) (by decide) (nle rfl) rfl) (fun _ q => nomatch q) rfl rfl rfl (by decide) ⟨⟨nle rfl, nle rfl⟩, nle rfl, nle rfl⟩ ?_
  intro v100 h101 hq102 _
  obtain ⟨rfl, rfl⟩ := hq102
  show WlO _ _ _ _ _ _ _ _ _ _ _ _ _ _ _ _ _ _ [.int (1 : Int32)]
  refine Wl.ifN 405 at_402 (feq (by decide)).1 ?_
  refine Wl.aload 407 at_405 rfl rfl ?_
  refine Wl.bipush 409 (12 : Int32) at_407 (by decide) ?_
  refine Wl.iload 411 at_409 rfl ?_
  refine Wl.aload 413 at_411 rfl rfl ?_
  refine Wl.iload_n 414 at_413 rfl ?_
  refine Wl.aload 416 at_414 rfl rfl ?_
  refine Wl.iload 418 at_416 rfl ?_
  refine Wl.static 421 (argsL := [.ref s41, .int (12 : Int32), .int (14 : Int32), .ref xp, .int (2 : Int32), .ref yn, .int (4 : Int32)]) at_418 (w227 hw) (w228 hw) (w3 hw) (w229 hw) (show parseMethodDescriptor "(Ljava/lang/String;II[CI[CI)Z" = some ⟨[(.object "java/lang/String"), .int, .int, (.array .char), .int, (.array .char), .int], some .boolean⟩ by decide +kernel) rfl (atN_met hw hcs hfm (rs := [p0, p1, (113 : Int32), (117 : Int32), (101 : Int32), (117 : Int32), (101 : Int32), (58 : Int32), (123 : Int32), n0, n1, n2, n3, (125 : Int32)]) (ps := [p0, p1, p2]) (ns := [n0, n1, n2, n3]) (n := 12) (m := 3) ((((((S43.ext E58).ext E64).ext E70).ext E76).ext E82).ext E88) (nle rfl) (by decide) (A.ext B89) (B.ext B89) (nle rfl) (nle rfl) (latC lp0 (latC lp1 (latC lp2 latN))) (latC ln0 (latC ln1 (latC ln2 (latC ln3 latN)))) (by decide) (by decide) (by decide) (by decide) (by decide) (nle rfl) rfl) (fun _ q => nomatch q) rfl rfl rfl (by decide) ⟨⟨nle rfl, nle rfl⟩, nle rfl, nle rfl⟩ ?_
  intro v103 h104 hq105 _
  obtain ⟨rfl, rfl⟩ := hq105
  show WlO _ _ _ _ _ _ _ _ _ _ _ _ _ _ _ _ _ _ [.int (1 : Int32)]
  refine Wl.ifN 424 at_421 (feq (by decide)).1 ?_
  refine Wl.aload 426 at_424 rfl rfl ?_
  refine Wl.bipush 428 (13 : Int32) at_426 (by decide) ?_
  refine Wl.iload 430 at_428 rfl ?_
  refine Wl.aload 432 at_430 rfl rfl ?_
  refine Wl.iload_n 433 at_432 rfl ?_
  refine Wl.aload 435 at_433 rfl rfl ?_
  refine Wl.iload 437 at_435 rfl ?_
  refine Wl.static 440 (argsL := [.ref s41, .int (13 : Int32), .int (14 : Int32), .ref xp, .int (2 : Int32), .ref yn, .int (4 : Int32)]) at_437 (w227 hw) (w228 hw) (w3 hw) (w229 hw) (show parseMethodDescriptor "(Ljava/lang/String;II[CI[CI)Z" = some ⟨[(.object "java/lang/String"), .int, .int, (.array .char), .int, (.array .char), .int], some .boolean⟩ by decide +kernel) rfl (atE_met hw hcs hfm (rs := [p0, p1, (113 : Int32), (117 : Int32), (101 : Int32), (117 : Int32), (101 : Int32), (58 : Int32), (123 : Int32), n0, n1, n2, n3, (125 : Int32)]) (ps := [p0, p1, p2]) (ns := [n0, n1, n2, n3]) (n := 13) ((((((S43.ext E58).ext E64).ext E70).ext E76).ext E82).ext E88) (nle rfl) (by decide) (A.ext B89) (B.ext B89) (nle rfl) (nle rfl) (latC lp0 (latC lp1 (latC lp2 latN))) (latC ln0 (latC ln1 (latC ln2 (latC ln3 latN)))) (by decide) (by decide) (by decide) (by decide) rfl) (fun _ q => nomatch q) rfl rfl rfl (by decide) ⟨⟨nle rfl, nle rfl⟩, nle rfl, nle rfl⟩ ?_
  intro v106 h107 hq108 _
  obtain ⟨rfl, rfl⟩ := hq108
  show WlO _ _ _ _ _ _ _ _ _ _ _ _ _ _ _ _ _ _ [.int (1 : Int32)]
  refine Wl.ifN 443 at_440 (feq (by decide)).1 ?_
  refine Wl.aload 445 at_443 rfl rfl ?_
  refine Wl.bipush 447 (14 : Int32) at_445 (by decide) ?_
  refine Wl.iload 449 at_447 rfl ?_
  refine Wl.aload 451 at_449 rfl rfl ?_
  refine Wl.iload_n 452 at_451 rfl ?_
  refine Wl.aload 454 at_452 rfl rfl ?_
  refine Wl.iload 456 at_454 rfl ?_
  refine Wl.static 459 (argsL := [.ref s41, .int (14 : Int32), .int (14 : Int32), .ref xp, .int (2 : Int32), .ref yn, .int (4 : Int32)]) at_456 (w227 hw) (w228 hw) (w3 hw) (w229 hw) (show parseMethodDescriptor "(Ljava/lang/String;II[CI[CI)Z" = some ⟨[(.object "java/lang/String"), .int, .int, (.array .char), .int, (.array .char), .int], some .boolean⟩ by decide +kernel) rfl (atC_met hw (by decide)) (fun _ q => nomatch q) rfl rfl rfl (by decide) ⟨⟨nle rfl, nle rfl⟩, nle rfl, nle rfl⟩ ?_
  intro v109 h110 hq111 _
  obtain ⟨rfl, rfl⟩ := hq111
  show WlO _ _ _ _ _ _ _ _ _ _ _ _ _ _ _ _ _ _ [.int (1 : Int32)]
  refine Wl.ifN 462 at_459 (feq (by decide)).1 ?_
  refine Wl.iconst 463 (1 : Int32) at_462 (by decide) ?_
  refine Wl.goto 467 at_463 ?_
  exact Wl.ireturn at_467 rfl rfl (by simp) (nle rfl) (nle rfl) rfl
set_option maxRecDepth 65536 in
set_option maxHeartbeats 40000000 in
theorem law_t31 {l : Launch} {Z : State} {a0 : Array Value} (hw : ∀ d ∈ tables_1, d.before a0 Z = true) (hcs : CSon Z) (hfm : Fmt Z) {as : Array Value} {h : Heap} {i0 i1 i2 p0 p1 p2 n0 n1 n2 n3 : Int32} {xp yn : Addr} {kx ky : ClassId} (A : Arv Z h xp kx .char (3 : Int32) [.int p0, .int p1, .int p2] (.int 0)) (B : Arv Z h yn ky .char (4 : Int32) [.int n0, .int n1, .int n2, .int n3] (.int 0)) (lp0 : Lat p0) (lp1 : Lat p1) (lp2 : Lat p2) (ln0 : Lat n0) (ln1 : Lat n1) (ln2 : Lat n2) (ln3 : Lat n3) (p0123 : p0 ≠ 123) (p0125 : p0 ≠ 125) (p1123 : p1 ≠ 123) (p1125 : p1 ≠ 125) (p2123 : p2 ≠ 123) (p2125 : p2 ≠ 125) (hn0 : ¬ n0 = (125 : Int32)) :
    Wl l Z a0 consts_1 x code maxLocals ret room_1 as (fun v h' => v = some (.int 1)) [] h 2 7 116 #[.val (.int i0), .val (.int i1), .val (.int i2), .val (.int (3 : Int32)), .val (.int (1 : Int32)), .val (.ref xp), .val (.ref yn), .unset, .unset, .unset, .unset, .unset] [] := by
  refine Wl.aload 118 at_116 rfl rfl ?_
  refine Wl.iload_n 119 at_118 rfl ?_
  refine Wl.static 122 (argsL := [.ref xp, .int (3 : Int32)]) at_119 (w5 hw) (w6 hw) (w3 hw) (w7 hw) (show parseMethodDescriptor "([CI)Ljava/lang/String;" = some ⟨[(.array .char), .int], some (.object "java/lang/String")⟩ by decide +kernel) rfl (mk33_met hw hcs A lp0 lp1 lp2) (fun _ q => nomatch q) rfl rfl rfl (by decide) ⟨⟨nle rfl, nle rfl⟩, nle rfl, nle rfl⟩ ?_
  intro v1 h2 hq3 _
  obtain ⟨a4, rfl, E5, S6⟩ := hq3
  have B7 : Ext h h2 := E5
  show WlO _ _ _ _ _ _ _ _ _ _ _ _ _ _ _ _ _ _ [.ref a4]
  refine Wl.astore 124 #[.val (.int i0), .val (.int i1), .val (.int i2), .val (.int (3 : Int32)), .val (.int (1 : Int32)), .val (.ref xp), .val (.ref yn), .val (.ref a4), .unset, .unset, .unset, .unset] at_122 rfl rfl ?_
  refine Wl.aload 126 at_124 rfl rfl ?_
  refine Wl.iload 128 at_126 rfl ?_
  refine Wl.static 131 (argsL := [.ref yn, .int (1 : Int32)]) at_128 (w5 hw) (w6 hw) (w3 hw) (w7 hw) (show parseMethodDescriptor "([CI)Ljava/lang/String;" = some ⟨[(.array .char), .int], some (.object "java/lang/String")⟩ by decide +kernel) rfl (mk41_met hw hcs (B.ext E5) ln0 ln1 ln2 ln3) (fun _ q => nomatch q) rfl rfl rfl (by decide) ⟨⟨nle rfl, nle rfl⟩, nle rfl, nle rfl⟩ ?_
  intro v8 h9 hq10 _
  obtain ⟨a11, rfl, E12, S13⟩ := hq10
  have B14 : Ext h h9 := extTr B7 E12
  show WlO _ _ _ _ _ _ _ _ _ _ _ _ _ _ _ _ _ _ [.ref a11]
  refine Wl.astore 133 #[.val (.int i0), .val (.int i1), .val (.int i2), .val (.int (3 : Int32)), .val (.int (1 : Int32)), .val (.ref xp), .val (.ref yn), .val (.ref a4), .val (.ref a11), .unset, .unset, .unset] at_131 rfl rfl ?_
  refine Wl.new 136 at_133 (w37 hw) (w38 hw) (w39 hw) (nle rfl) (nle rfl) ?_
  intro a15 h16 q17 E18 X19 D20
  have z21 : h.size ≤ a15 := Nat.le_trans B14.1 (Nat.le_of_eq q17.symm)
  have z22 : h9.size ≤ a15 := Nat.le_of_eq q17.symm
  have ne23 : xp ≠ a15 := Nat.ne_of_lt (by rw [q17]; exact ((A.ext B14)).lt)
  have ne24 : yn ≠ a15 := Nat.ne_of_lt (by rw [q17]; exact ((B.ext B14)).lt)
  have ne25 : a4 ≠ a15 := Nat.ne_of_lt (by rw [q17]; exact (((S6).exa.ext E12)).lt)
  have ne26 : a11 ≠ a15 := Nat.ne_of_lt (by rw [q17]; exact ((S13).exa).lt)
  have B27 : Ext h h16 := extTr B14 E18
  have B28 : Ext h9 h16 := E18
  have F29 : Fld Z h16 a15 "com/example/portunus/portunus/LockKeys" "prefix" "Ljava/lang/String;" (.null) := D20 (Or.inr (w94 hw)) (ty := (.object "java/lang/String")) (by decide)
  refine Wl.dup 137 at_136 rfl ?_
  refine Wl.aload 139 at_137 rfl rfl ?_
  refine Wl.special 142 (argsL := [.ref a4]) at_139 (w40 hw) (w41 hw) (w39 hw) (w42 hw) (show parseMethodDescriptor "(Ljava/lang/String;)V" = some ⟨[(.object "java/lang/String")], none⟩ by decide +kernel) rfl (keys_met hw hcs X19 F29 (cs := [p0, p1, p2]) ((S6.ext E12).ext E18) (neC p0123 (neC p1123 (neC p2123 neN))) (neC p0125 (neC p1125 (neC p2125 neN)))) (allS (List.mem_of_getElem? (i := 0) rfl) (fun _ q => nomatch q)) rfl rfl rfl rfl (by decide) ⟨⟨nle rfl, nle rfl⟩, nle rfl, nle rfl⟩ ?_
  intro v30 h31 hq32 _
  obtain ⟨rfl, K33, X34, F35⟩ := hq32
  have B36 : Ext h h31 := extKeep B27 K33 (allS z21 all0)
  have B37 : Ext h9 h31 := extKeep B28 K33 (allS z22 all0)
  show WlO _ _ _ _ _ _ _ _ _ _ _ _ _ _ _ _ _ _ [.ref a15]
  refine Wl.astore 144 #[.val (.int i0), .val (.int i1), .val (.int i2), .val (.int (3 : Int32)), .val (.int (1 : Int32)), .val (.ref xp), .val (.ref yn), .val (.ref a4), .val (.ref a11), .val (.ref a15), .unset, .unset] at_142 rfl rfl ?_
  refine Wl.aload 146 at_144 rfl rfl ?_
  refine Wl.aload 148 at_146 rfl rfl ?_
  refine Wl.virtual 151 (argsL := [.ref a11]) at_148 (w95 hw) (w96 hw) (w98 hw) (w97 hw) (w39 hw) (w99 hw) (nf_sel (w98 hw) rfl) X34 (show parseMethodDescriptor "(Ljava/lang/String;)Ljava/lang/String;" = some ⟨[(.object "java/lang/String")], some (.object "java/lang/String")⟩ by decide +kernel) rfl (key_met hw hcs hfm (cs := [n0]) (ps := [p0, p1, p2]) F35 ((S6.ext E12).ext B37) (nle rfl) (S13.ext B37) (by simp) (nle rfl) hn0 (nle rfl)) (fun _ q => nomatch q) rfl rfl rfl (by decide) ⟨⟨nle rfl, nle rfl⟩, nle rfl, nle rfl⟩ ?_
  intro v38 h39 hq40 _
  obtain ⟨s41, rfl, E42, S43⟩ := hq40
  have S43 : Stl Z h39 s41 [p0, p1, p2, (113 : Int32), (117 : Int32), (101 : Int32), (117 : Int32), (101 : Int32), (58 : Int32), (123 : Int32), n0, (125 : Int32)] := S43
  have B44 : Ext h h39 := extTr B36 E42
  have B45 : Ext h9 h39 := extTr B37 E42
  show WlO _ _ _ _ _ _ _ _ _ _ _ _ _ _ _ _ _ _ [.ref s41]
  refine Wl.astore 153 #[.val (.int i0), .val (.int i1), .val (.int i2), .val (.int (3 : Int32)), .val (.int (1 : Int32)), .val (.ref xp), .val (.ref yn), .val (.ref a4), .val (.ref a11), .val (.ref a15), .val (.ref s41), .unset] at_151 rfl rfl ?_
  refine Wl.iload_n 154 at_153 rfl ?_
  refine Wl.bipush 156 (6 : Int32) at_154 (by decide) ?_
  refine Wl.iadd 157 at_156 ?_
  show WlO _ _ _ _ _ _ _ _ _ _ _ _ _ _ _ _ _ _ [.int (9 : Int32)]
  refine Wl.iconst 158 (1 : Int32) at_157 (by decide) ?_
  refine Wl.iadd 159 at_158 ?_
  show WlO _ _ _ _ _ _ _ _ _ _ _ _ _ _ _ _ _ _ [.int (10 : Int32)]
  refine Wl.iload 161 at_159 rfl ?_
  refine Wl.iadd 162 at_161 ?_
  show WlO _ _ _ _ _ _ _ _ _ _ _ _ _ _ _ _ _ _ [.int (11 : Int32)]
  refine Wl.iconst 163 (1 : Int32) at_162 (by decide) ?_
  refine Wl.iadd 164 at_163 ?_
  show WlO _ _ _ _ _ _ _ _ _ _ _ _ _ _ _ _ _ _ [.int (12 : Int32)]
  refine Wl.istore 166 #[.val (.int i0), .val (.int i1), .val (.int i2), .val (.int (3 : Int32)), .val (.int (1 : Int32)), .val (.ref xp), .val (.ref yn), .val (.ref a4), .val (.ref a11), .val (.ref a15), .val (.ref s41), .val (.int (12 : Int32))] at_164 rfl ?_
  refine Wl.aload 168 at_166 rfl rfl ?_
  refine Wl.ifnullN 171 at_168 ?_
  refine Wl.aload 173 at_171 rfl rfl ?_
  refine Wl.virtual 176 (argsL := []) at_173 (w226 hw) (w67 hw) (w69 hw) (w68 hw) (w10 hw) (w70 hw) (nf_sel (w69 hw) rfl) (S43).exa (show parseMethodDescriptor "()I" = some ⟨[], some .int⟩ by decide +kernel) rfl (len_met hw hcs S43) (fun _ q => nomatch q) rfl rfl rfl (by decide) ⟨⟨nle rfl, nle rfl⟩, nle rfl, nle rfl⟩ ?_
  intro v46 h47 hq48 _
  obtain ⟨rfl, rfl⟩ := hq48
  show WlO _ _ _ _ _ _ _ _ _ _ _ _ _ _ _ _ _ _ [.int (12 : Int32)]
  refine Wl.iload 178 at_176 rfl ?_
  refine Wl.icmpY 183 at_178 (teq (by decide)).1 ?_
  refine Wl.aload 185 at_183 rfl rfl ?_
  refine Wl.iconst 186 (0 : Int32) at_185 (by decide) ?_
  refine Wl.iload 188 at_186 rfl ?_
  refine Wl.aload 190 at_188 rfl rfl ?_
  refine Wl.iload_n 191 at_190 rfl ?_
  refine Wl.aload 193 at_191 rfl rfl ?_
  refine Wl.iload 195 at_193 rfl ?_
  refine Wl.static 198 (argsL := [.ref s41, .int (0 : Int32), .int (12 : Int32), .ref xp, .int (3 : Int32), .ref yn, .int (1 : Int32)]) at_195 (w227 hw) (w228 hw) (w3 hw) (w229 hw) (show parseMethodDescriptor "(Ljava/lang/String;II[CI[CI)Z" = some ⟨[(.object "java/lang/String"), .int, .int, (.array .char), .int, (.array .char), .int], some .boolean⟩ by decide +kernel) rfl (atP_met hw hcs hfm (rs := [p0, p1, p2, (113 : Int32), (117 : Int32), (101 : Int32), (117 : Int32), (101 : Int32), (58 : Int32), (123 : Int32), n0, (125 : Int32)]) (ps := [p0, p1, p2]) (ns := [n0, n1, n2, n3]) (n := 0) S43 (nle rfl) (by decide) (A.ext B44) (B.ext B44) (nle rfl) (nle rfl) (latC lp0 (latC lp1 (latC lp2 latN))) (latC ln0 (latC ln1 (latC ln2 (latC ln3 latN)))) (by decide) (nle rfl) rfl) (fun _ q => nomatch q) rfl rfl rfl (by decide) ⟨⟨nle rfl, nle rfl⟩, nle rfl, nle rfl⟩ ?_
  intro v49 h50 hq51 _
  obtain ⟨rfl, rfl⟩ := hq51
  show WlO _ _ _ _ _ _ _ _ _ _ _ _ _ _ _ _ _ _ [.int (1 : Int32)]
  refine Wl.ifN 201 at_198 (feq (by decide)).1 ?_
  refine Wl.aload 203 at_201 rfl rfl ?_
  refine Wl.iconst 204 (1 : Int32) at_203 (by decide) ?_
  refine Wl.iload 206 at_204 rfl ?_
  refine Wl.aload 208 at_206 rfl rfl ?_
  refine Wl.iload_n 209 at_208 rfl ?_
  refine Wl.aload 211 at_209 rfl rfl ?_
  refine Wl.iload 213 at_211 rfl ?_
  refine Wl.static 216 (argsL := [.ref s41, .int (1 : Int32), .int (12 : Int32), .ref xp, .int (3 : Int32), .ref yn, .int (1 : Int32)]) at_213 (w227 hw) (w228 hw) (w3 hw) (w229 hw) (show parseMethodDescriptor "(Ljava/lang/String;II[CI[CI)Z" = some ⟨[(.object "java/lang/String"), .int, .int, (.array .char), .int, (.array .char), .int], some .boolean⟩ by decide +kernel) rfl (atP_met hw hcs hfm (rs := [p0, p1, p2, (113 : Int32), (117 : Int32), (101 : Int32), (117 : Int32), (101 : Int32), (58 : Int32), (123 : Int32), n0, (125 : Int32)]) (ps := [p0, p1, p2]) (ns := [n0, n1, n2, n3]) (n := 1) S43 (nle rfl) (by decide) (A.ext B44) (B.ext B44) (nle rfl) (nle rfl) (latC lp0 (latC lp1 (latC lp2 latN))) (latC ln0 (latC ln1 (latC ln2 (latC ln3 latN)))) (by decide) (nle rfl) rfl) (fun _ q => nomatch q) rfl rfl rfl (by decide) ⟨⟨nle rfl, nle rfl⟩, nle rfl, nle rfl⟩ ?_
  intro v52 h53 hq54 _
  obtain ⟨rfl, rfl⟩ := hq54
  show WlO _ _ _ _ _ _ _ _ _ _ _ _ _ _ _ _ _ _ [.int (1 : Int32)]
  refine Wl.ifN 219 at_216 (feq (by decide)).1 ?_
  refine Wl.aload 221 at_219 rfl rfl ?_
  refine Wl.iconst 222 (2 : Int32) at_221 (by decide) ?_
  refine Wl.iload 224 at_222 rfl ?_
  refine Wl.aload 226 at_224 rfl rfl ?_
  refine Wl.iload_n 227 at_226 rfl ?_
  refine Wl.aload 229 at_227 rfl rfl ?_
  refine Wl.iload 231 at_229 rfl ?_
  refine Wl.static 234 (argsL := [.ref s41, .int (2 : Int32), .int (12 : Int32), .ref xp, .int (3 : Int32), .ref yn, .int (1 : Int32)]) at_231 (w227 hw) (w228 hw) (w3 hw) (w229 hw) (show parseMethodDescriptor "(Ljava/lang/String;II[CI[CI)Z" = some ⟨[(.object "java/lang/String"), .int, .int, (.array .char), .int, (.array .char), .int], some .boolean⟩ by decide +kernel) rfl (atP_met hw hcs hfm (rs := [p0, p1, p2, (113 : Int32), (117 : Int32), (101 : Int32), (117 : Int32), (101 : Int32), (58 : Int32), (123 : Int32), n0, (125 : Int32)]) (ps := [p0, p1, p2]) (ns := [n0, n1, n2, n3]) (n := 2) S43 (nle rfl) (by decide) (A.ext B44) (B.ext B44) (nle rfl) (nle rfl) (latC lp0 (latC lp1 (latC lp2 latN))) (latC ln0 (latC ln1 (latC ln2 (latC ln3 latN)))) (by decide) (nle rfl) rfl) (fun _ q => nomatch q) rfl rfl rfl (by decide) ⟨⟨nle rfl, nle rfl⟩, nle rfl, nle rfl⟩ ?_
  intro v55 h56 hq57 _
  obtain ⟨rfl, rfl⟩ := hq57
  show WlO _ _ _ _ _ _ _ _ _ _ _ _ _ _ _ _ _ _ [.int (1 : Int32)]
  refine Wl.ifN 237 at_234 (feq (by decide)).1 ?_
  refine Wl.aload 239 at_237 rfl rfl ?_
  refine Wl.iconst 240 (3 : Int32) at_239 (by decide) ?_
  refine Wl.iload 242 at_240 rfl ?_
  refine Wl.aload 244 at_242 rfl rfl ?_
  refine Wl.iload_n 245 at_244 rfl ?_
  refine Wl.aload 247 at_245 rfl rfl ?_
  refine Wl.iload 249 at_247 rfl ?_
  refine Wl.static 252 (argsL := [.ref s41, .int (3 : Int32), .int (12 : Int32), .ref xp, .int (3 : Int32), .ref yn, .int (1 : Int32)]) at_249 (w227 hw) (w228 hw) (w3 hw) (w229 hw) (show parseMethodDescriptor "(Ljava/lang/String;II[CI[CI)Z" = some ⟨[(.object "java/lang/String"), .int, .int, (.array .char), .int, (.array .char), .int], some .boolean⟩ by decide +kernel) rfl (atA_met hw hcs hfm (rs := [p0, p1, p2, (113 : Int32), (117 : Int32), (101 : Int32), (117 : Int32), (101 : Int32), (58 : Int32), (123 : Int32), n0, (125 : Int32)]) (ps := [p0, p1, p2]) (ns := [n0, n1, n2, n3]) (n := 3) (j := 0) S43 (nle rfl) (by decide) (A.ext B44) (B.ext B44) (nle rfl) (nle rfl) (latC lp0 (latC lp1 (latC lp2 latN))) (latC ln0 (latC ln1 (latC ln2 (latC ln3 latN)))) (by decide) (by decide) (by decide) (nle rfl) rfl) (fun _ q => nomatch q) rfl rfl rfl (by decide) ⟨⟨nle rfl, nle rfl⟩, nle rfl, nle rfl⟩ ?_
  intro v58 h59 hq60 _
  obtain ⟨rfl, E61⟩ := hq60
  have B62 : Ext h h59 := extTr B44 E61
  have B63 : Ext h9 h59 := extTr B45 E61
  show WlO _ _ _ _ _ _ _ _ _ _ _ _ _ _ _ _ _ _ [.int (1 : Int32)]
  refine Wl.ifN 255 at_252 (feq (by decide)).1 ?_
  refine Wl.aload 257 at_255 rfl rfl ?_
  refine Wl.iconst 258 (4 : Int32) at_257 (by decide) ?_
  refine Wl.iload 260 at_258 rfl ?_
  refine Wl.aload 262 at_260 rfl rfl ?_
  refine Wl.iload_n 263 at_262 rfl ?_
  refine Wl.aload 265 at_263 rfl rfl ?_
  refine Wl.iload 267 at_265 rfl ?_
  refine Wl.static 270 (argsL := [.ref s41, .int (4 : Int32), .int (12 : Int32), .ref xp, .int (3 : Int32), .ref yn, .int (1 : Int32)]) at_267 (w227 hw) (w228 hw) (w3 hw) (w229 hw) (show parseMethodDescriptor "(Ljava/lang/String;II[CI[CI)Z" = some ⟨[(.object "java/lang/String"), .int, .int, (.array .char), .int, (.array .char), .int], some .boolean⟩ by decide +kernel) rfl (atA_met hw hcs hfm (rs := [p0, p1, p2, (113 : Int32), (117 : Int32), (101 : Int32), (117 : Int32), (101 : Int32), (58 : Int32), (123 : Int32), n0, (125 : Int32)]) (ps := [p0, p1, p2]) (ns := [n0, n1, n2, n3]) (n := 4) (j := 1) (S43.ext E61) (nle rfl) (by decide) (A.ext B62) (B.ext B62) (nle rfl) (nle rfl) (latC lp0 (latC lp1 (latC lp2 latN))) (latC ln0 (latC ln1 (latC ln2 (latC ln3 latN)))) (by decide) (by decide) (by decide) (nle rfl) rfl) (fun _ q => nomatch q) rfl rfl rfl (by decide) ⟨⟨nle rfl, nle rfl⟩, nle rfl, nle rfl⟩ ?_
  intro v64 h65 hq66 _
  obtain ⟨rfl, E67⟩ := hq66
  have B68 : Ext h h65 := extTr B62 E67
  have B69 : Ext h9 h65 := extTr B63 E67
  show WlO _ _ _ _ _ _ _ _ _ _ _ _ _ _ _ _ _ _ [.int (1 : Int32)]
  refine Wl.ifN 273 at_270 (feq (by decide)).1 ?_
  refine Wl.aload 275 at_273 rfl rfl ?_
  refine Wl.iconst 276 (5 : Int32) at_275 (by decide) ?_
  refine Wl.iload 278 at_276 rfl ?_
  refine Wl.aload 280 at_278 rfl rfl ?_
  refine Wl.iload_n 281 at_280 rfl ?_
  refine Wl.aload 283 at_281 rfl rfl ?_
  refine Wl.iload 285 at_283 rfl ?_
  refine Wl.static 288 (argsL := [.ref s41, .int (5 : Int32), .int (12 : Int32), .ref xp, .int (3 : Int32), .ref yn, .int (1 : Int32)]) at_285 (w227 hw) (w228 hw) (w3 hw) (w229 hw) (show parseMethodDescriptor "(Ljava/lang/String;II[CI[CI)Z" = some ⟨[(.object "java/lang/String"), .int, .int, (.array .char), .int, (.array .char), .int], some .boolean⟩ by decide +kernel) rfl (atA_met hw hcs hfm (rs := [p0, p1, p2, (113 : Int32), (117 : Int32), (101 : Int32), (117 : Int32), (101 : Int32), (58 : Int32), (123 : Int32), n0, (125 : Int32)]) (ps := [p0, p1, p2]) (ns := [n0, n1, n2, n3]) (n := 5) (j := 2) ((S43.ext E61).ext E67) (nle rfl) (by decide) (A.ext B68) (B.ext B68) (nle rfl) (nle rfl) (latC lp0 (latC lp1 (latC lp2 latN))) (latC ln0 (latC ln1 (latC ln2 (latC ln3 latN)))) (by decide) (by decide) (by decide) (nle rfl) rfl) (fun _ q => nomatch q) rfl rfl rfl (by decide) ⟨⟨nle rfl, nle rfl⟩, nle rfl, nle rfl⟩ ?_
  intro v70 h71 hq72 _
  obtain ⟨rfl, E73⟩ := hq72
  have B74 : Ext h h71 := extTr B68 E73
  have B75 : Ext h9 h71 := extTr B69 E73
  show WlO _ _ _ _ _ _ _ _ _ _ _ _ _ _ _ _ _ _ [.int (1 : Int32)]
  refine Wl.ifN 291 at_288 (feq (by decide)).1 ?_
  refine Wl.aload 293 at_291 rfl rfl ?_
  refine Wl.bipush 295 (6 : Int32) at_293 (by decide) ?_
  refine Wl.iload 297 at_295 rfl ?_
  refine Wl.aload 299 at_297 rfl rfl ?_
  refine Wl.iload_n 300 at_299 rfl ?_
  refine Wl.aload 302 at_300 rfl rfl ?_
  refine Wl.iload 304 at_302 rfl ?_
  refine Wl.static 307 (argsL := [.ref s41, .int (6 : Int32), .int (12 : Int32), .ref xp, .int (3 : Int32), .ref yn, .int (1 : Int32)]) at_304 (w227 hw) (w228 hw) (w3 hw) (w229 hw) (show parseMethodDescriptor "(Ljava/lang/String;II[CI[CI)Z" = some ⟨[(.object "java/lang/String"), .int, .int, (.array .char), .int, (.array .char), .int], some .boolean⟩ by decide +kernel) rfl (atA_met hw hcs hfm (rs := [p0, p1, p2, (113 : Int32), (117 : Int32), (101 : Int32), (117 : Int32), (101 : Int32), (58 : Int32), (123 : Int32), n0, (125 : Int32)]) (ps := [p0, p1, p2]) (ns := [n0, n1, n2, n3]) (n := 6) (j := 3) (((S43.ext E61).ext E67).ext E73) (nle rfl) (by decide) (A.ext B74) (B.ext B74) (nle rfl) (nle rfl) (latC lp0 (latC lp1 (latC lp2 latN))) (latC ln0 (latC ln1 (latC ln2 (latC ln3 latN)))) (by decide) (by decide) (by decide) (nle rfl) rfl) (fun _ q => nomatch q) rfl rfl rfl (by decide) ⟨⟨nle rfl, nle rfl⟩, nle rfl, nle rfl⟩ ?_
  intro v76 h77 hq78 _
  obtain ⟨rfl, E79⟩ := hq78
  have B80 : Ext h h77 := extTr B74 E79
  have B81 : Ext h9 h77 := extTr B75 E79
  show WlO _ _ _ _ _ _ _ _ _ _ _ _ _ _ _ _ _ _ [.int (1 : Int32)]
  refine Wl.ifN 310 at_307 (feq (by decide)).1 ?_
  refine Wl.aload 312 at_310 rfl rfl ?_
  refine Wl.bipush 314 (7 : Int32) at_312 (by decide) ?_
  refine Wl.iload 316 at_314 rfl ?_
  refine Wl.aload 318 at_316 rfl rfl ?_
  refine Wl.iload_n 319 at_318 rfl ?_
  refine Wl.aload 321 at_319 rfl rfl ?_
  refine Wl.iload 323 at_321 rfl ?_
  refine Wl.static 326 (argsL := [.ref s41, .int (7 : Int32), .int (12 : Int32), .ref xp, .int (3 : Int32), .ref yn, .int (1 : Int32)]) at_323 (w227 hw) (w228 hw) (w3 hw) (w229 hw) (show parseMethodDescriptor "(Ljava/lang/String;II[CI[CI)Z" = some ⟨[(.object "java/lang/String"), .int, .int, (.array .char), .int, (.array .char), .int], some .boolean⟩ by decide +kernel) rfl (atA_met hw hcs hfm (rs := [p0, p1, p2, (113 : Int32), (117 : Int32), (101 : Int32), (117 : Int32), (101 : Int32), (58 : Int32), (123 : Int32), n0, (125 : Int32)]) (ps := [p0, p1, p2]) (ns := [n0, n1, n2, n3]) (n := 7) (j := 4) ((((S43.ext E61).ext E67).ext E73).ext E79) (nle rfl) (by decide) (A.ext B80) (B.ext B80) (nle rfl) (nle rfl) (latC lp0 (latC lp1 (latC lp2 latN))) (latC ln0 (latC ln1 (latC ln2 (latC ln3 latN)))) (by decide) (by decide) (by decide) (nle rfl) rfl) (fun _ q => nomatch q) rfl rfl rfl (by decide) ⟨⟨nle rfl, nle rfl⟩, nle rfl, nle rfl⟩ ?_
  intro v82 h83 hq84 _
  obtain ⟨rfl, E85⟩ := hq84
  have B86 : Ext h h83 := extTr B80 E85
  have B87 : Ext h9 h83 := extTr B81 E85
  show WlO _ _ _ _ _ _ _ _ _ _ _ _ _ _ _ _ _ _ [.int (1 : Int32)]
  refine Wl.ifN 329 at_326 (feq (by decide)).1 ?_
  refine Wl.aload 331 at_329 rfl rfl ?_
  refine Wl.bipush 333 (8 : Int32) at_331 (by decide) ?_
  refine Wl.iload 335 at_333 rfl ?_
  refine Wl.aload 337 at_335 rfl rfl ?_
  refine Wl.iload_n 338 at_337 rfl ?_
  refine Wl.aload 340 at_338 rfl rfl ?_
  refine Wl.iload 342 at_340 rfl ?_
  refine Wl.static 345 (argsL := [.ref s41, .int (8 : Int32), .int (12 : Int32), .ref xp, .int (3 : Int32), .ref yn, .int (1 : Int32)]) at_342 (w227 hw) (w228 hw) (w3 hw) (w229 hw) (show parseMethodDescriptor "(Ljava/lang/String;II[CI[CI)Z" = some ⟨[(.object "java/lang/String"), .int, .int, (.array .char), .int, (.array .char), .int], some .boolean⟩ by decide +kernel) rfl (atA_met hw hcs hfm (rs := [p0, p1, p2, (113 : Int32), (117 : Int32), (101 : Int32), (117 : Int32), (101 : Int32), (58 : Int32), (123 : Int32), n0, (125 : Int32)]) (ps := [p0, p1, p2]) (ns := [n0, n1, n2, n3]) (n := 8) (j := 5) (((((S43.ext E61).ext E67).ext E73).ext E79).ext E85) (nle rfl) (by decide) (A.ext B86) (B.ext B86) (nle rfl) (nle rfl) (latC lp0 (latC lp1 (latC lp2 latN))) (latC ln0 (latC ln1 (latC ln2 (latC ln3 latN)))) (by decide) (by decide) (by decide) (nle rfl) rfl) (fun _ q => nomatch q) rfl rfl rfl (by decide) ⟨⟨nle rfl, nle rfl⟩, nle rfl, nle rfl⟩ ?_
  intro v88 h89 hq90 _
  obtain ⟨rfl, E91⟩ := hq90
  have B92 : Ext h h89 := extTr B86 E91
  have B93 : Ext h9 h89 := extTr B87 E91
  show WlO _ _ _ _ _ _ _ _ _ _ _ _ _ _ _ _ _ _ [.int (1 : Int32)]
  refine Wl.ifN 348 at_345 (feq (by decide)).1 ?_
  refine Wl.aload 350 at_348 rfl rfl ?_
  refine Wl.bipush 352 (9 : Int32) at_350 (by decide) ?_
  refine Wl.iload 354 at_352 rfl ?_
  refine Wl.aload 356 at_354 rfl rfl ?_
  refine Wl.iload_n 357 at_356 rfl ?_
  refine Wl.aload 359 at_357 rfl rfl ?_
  refine Wl.iload 361 at_359 rfl ?_
  refine Wl.static 364 (argsL := [.ref s41, .int (9 : Int32), .int (12 : Int32), .ref xp, .int (3 : Int32), .ref yn, .int (1 : Int32)]) at_361 (w227 hw) (w228 hw) (w3 hw) (w229 hw) (show parseMethodDescriptor "(Ljava/lang/String;II[CI[CI)Z" = some ⟨[(.object "java/lang/String"), .int, .int, (.array .char), .int, (.array .char), .int], some .boolean⟩ by decide +kernel) rfl (atO_met hw hcs hfm (rs := [p0, p1, p2, (113 : Int32), (117 : Int32), (101 : Int32), (117 : Int32), (101 : Int32), (58 : Int32), (123 : Int32), n0, (125 : Int32)]) (ps := [p0, p1, p2]) (ns := [n0, n1, n2, n3]) (n := 9) ((((((S43.ext E61).ext E67).ext E73).ext E79).ext E85).ext E91) (nle rfl) (by decide) (A.ext B92) (B.ext B92) (nle rfl) (nle rfl) (latC lp0 (latC lp1 (latC lp2 latN))) (latC ln0 (latC ln1 (latC ln2 (latC ln3 latN)))) (by decide) (by decide) (by decide) rfl) (fun _ q => nomatch q) rfl rfl rfl (by decide) ⟨⟨nle rfl, nle rfl⟩, nle rfl, nle rfl⟩ ?_
  intro v94 h95 hq96 _
  obtain ⟨rfl, rfl⟩ := hq96
  show WlO _ _ _ _ _ _ _ _ _ _ _ _ _ _ _ _ _ _ [.int (1 : Int32)]
  refine Wl.ifN 367 at_364 (feq (by decide)).1 ?_
  refine Wl.aload 369 at_367 rfl rfl ?_
  refine Wl.bipush 371 (10 : Int32) at_369 (by decide) ?_
  refine Wl.iload 373 at_371 rfl ?_
  refine Wl.aload 375 at_373 rfl rfl ?_
  refine Wl.iload_n 376 at_375 rfl ?_
  refine Wl.aload 378 at_376 rfl rfl ?_
  refine Wl.iload 380 at_378 rfl ?_
  refine Wl.static 383 (argsL := [.ref s41, .int (10 : Int32), .int (12 : Int32), .ref xp, .int (3 : Int32), .ref yn, .int (1 : Int32)]) at_380 (w227 hw) (w228 hw) (w3 hw) (w229 hw) (show parseMethodDescriptor "(Ljava/lang/String;II[CI[CI)Z" = some ⟨[(.object "java/lang/String"), .int, .int, (.array .char), .int, (.array .char), .int], some .boolean⟩ by decide +kernel) rfl (atN_met hw hcs hfm (rs := [p0, p1, p2, (113 : Int32), (117 : Int32), (101 : Int32), (117 : Int32), (101 : Int32), (58 : Int32), (123 : Int32), n0, (125 : Int32)]) (ps := [p0, p1, p2]) (ns := [n0, n1, n2, n3]) (n := 10) (m := 0) ((((((S43.ext E61).ext E67).ext E73).ext E79).ext E85).ext E91) (nle rfl) (by decide) (A.ext B92) (B.ext B92) (nle rfl) (nle rfl) (latC lp0 (latC lp1 (latC lp2 latN))) (latC ln0 (latC ln1 (latC ln2 (latC ln3 latN)))) (by decide) (by decide) (by decide) (by decide) (by decide) (nle rfl) rfl) (fun _ q => nomatch q) rfl rfl rfl (by decide) ⟨⟨nle rfl, nle rfl⟩, nle rfl, nle rfl⟩ ?_
  intro v97 h98 hq99 _
  obtain ⟨rfl, rfl⟩ := hq99
  show WlO _ _ _ _ _ _ _ _ _ _ _ _ _ _ _ _ _ _ [.int (1 : Int32)]
  refine Wl.ifN 386 at_383 (feq (by decide)).1 ?_
  refine Wl.aload 388 at_386 rfl rfl ?_
  refine Wl.bipush 390 (11 : Int32) at_388 (by decide) ?_
  refine Wl.iload 392 at_390 rfl ?_
  refine Wl.aload 394 at_392 rfl rfl ?_
  refine Wl.iload_n 395 at_394 rfl ?_
  refine Wl.aload 397 at_395 rfl rfl ?_
  refine Wl.iload 399 at_397 rfl ?_
  refine Wl.static 402 (argsL := [.ref s41, .int (11 : Int32), .int (12 : Int32), .ref xp, .int (3 : Int32), .ref yn, .int (1 : Int32)]) at_399 (w227 hw) (w228 hw) (w3 hw) (w229 hw) (show parseMethodDescriptor "(Ljava/lang/String;II[CI[CI)Z" = some ⟨[(.object "java/lang/String"), .int, .int, (.array .char), .int, (.array .char), .int], some .boolean⟩ by decide +kernel) rfl (atE_met hw hcs hfm (rs := [p0, p1, p2, (113 : Int32), (117 : Int32), (101 : Int32), (117 : Int32), (101 : Int32), (58 : Int32), (123 : Int32), n0, (125 : Int32)]) (ps := [p0, p1, p2]) (ns := [n0, n1, n2, n3]) (n := 11) ((((((S43.ext E61).ext E67).ext E73).ext E79).ext E85).ext E91) (nle rfl) (by decide) (A.ext B92) (B.ext B92) (nle rfl) (nle rfl) (latC lp0 (latC lp1 (latC lp2 latN))) (latC ln0 (latC ln1 (latC ln2 (latC ln3 latN)))) (by decide) (by decide) (by decide) (by decide) rfl) (fun _ q => nomatch q) rfl rfl rfl (by decide) ⟨⟨nle rfl, nle rfl⟩, nle rfl, nle rfl⟩ ?_
  intro v100 h101 hq102 _
  obtain ⟨rfl, rfl⟩ := hq102
  show WlO _ _ _ _ _ _ _ _ _ _ _ _ _ _ _ _ _ _ [.int (1 : Int32)]
  refine Wl.ifN 405 at_402 (feq (by decide)).1 ?_
  refine Wl.aload 407 at_405 rfl rfl ?_
  refine Wl.bipush 409 (12 : Int32) at_407 (by decide) ?_
  refine Wl.iload 411 at_409 rfl ?_
  refine Wl.aload 413 at_411 rfl rfl ?_
  refine Wl.iload_n 414 at_413 rfl ?_
  refine Wl.aload 416 at_414 rfl rfl ?_
  refine Wl.iload 418 at_416 rfl ?_
  refine Wl.static 421 (argsL := [.ref s41, .int (12 : Int32), .int (12 : Int32), .ref xp, .int (3 : Int32), .ref yn, .int (1 : Int32)]) at_418 (w227 hw) (w228 hw) (w3 hw) (w229 hw) (show parseMethodDescriptor "(Ljava/lang/String;II[CI[CI)Z" = some ⟨[(.object "java/lang/String"), .int, .int, (.array .char), .int, (.array .char), .int], some .boolean⟩ by decide +kernel) rfl (atC_met hw (by decide)) (fun _ q => nomatch q) rfl rfl rfl (by decide) ⟨⟨nle rfl, nle rfl⟩, nle rfl, nle rfl⟩ ?_
  intro v103 h104 hq105 _
  obtain ⟨rfl, rfl⟩ := hq105
  show WlO _ _ _ _ _ _ _ _ _ _ _ _ _ _ _ _ _ _ [.int (1 : Int32)]
  refine Wl.ifN 424 at_421 (feq (by decide)).1 ?_
  refine Wl.aload 426 at_424 rfl rfl ?_
  refine Wl.bipush 428 (13 : Int32) at_426 (by decide) ?_
  refine Wl.iload 430 at_428 rfl ?_
  refine Wl.aload 432 at_430 rfl rfl ?_
  refine Wl.iload_n 433 at_432 rfl ?_
  refine Wl.aload 435 at_433 rfl rfl ?_
  refine Wl.iload 437 at_435 rfl ?_
  refine Wl.static 440 (argsL := [.ref s41, .int (13 : Int32), .int (12 : Int32), .ref xp, .int (3 : Int32), .ref yn, .int (1 : Int32)]) at_437 (w227 hw) (w228 hw) (w3 hw) (w229 hw) (show parseMethodDescriptor "(Ljava/lang/String;II[CI[CI)Z" = some ⟨[(.object "java/lang/String"), .int, .int, (.array .char), .int, (.array .char), .int], some .boolean⟩ by decide +kernel) rfl (atC_met hw (by decide)) (fun _ q => nomatch q) rfl rfl rfl (by decide) ⟨⟨nle rfl, nle rfl⟩, nle rfl, nle rfl⟩ ?_
  intro v106 h107 hq108 _
  obtain ⟨rfl, rfl⟩ := hq108
  show WlO _ _ _ _ _ _ _ _ _ _ _ _ _ _ _ _ _ _ [.int (1 : Int32)]
  refine Wl.ifN 443 at_440 (feq (by decide)).1 ?_
  refine Wl.aload 445 at_443 rfl rfl ?_
  refine Wl.bipush 447 (14 : Int32) at_445 (by decide) ?_
  refine Wl.iload 449 at_447 rfl ?_
  refine Wl.aload 451 at_449 rfl rfl ?_
  refine Wl.iload_n 452 at_451 rfl ?_
  refine Wl.aload 454 at_452 rfl rfl ?_
  refine Wl.iload 456 at_454 rfl ?_
  refine Wl.static 459 (argsL := [.ref s41, .int (14 : Int32), .int (12 : Int32), .ref xp, .int (3 : Int32), .ref yn, .int (1 : Int32)]) at_456 (w227 hw) (w228 hw) (w3 hw) (w229 hw) (show parseMethodDescriptor "(Ljava/lang/String;II[CI[CI)Z" = some ⟨[(.object "java/lang/String"), .int, .int, (.array .char), .int, (.array .char), .int], some .boolean⟩ by decide +kernel) rfl (atC_met hw (by decide)) (fun _ q => nomatch q) rfl rfl rfl (by decide) ⟨⟨nle rfl, nle rfl⟩, nle rfl, nle rfl⟩ ?_
  intro v109 h110 hq111 _
  obtain ⟨rfl, rfl⟩ := hq111
  show WlO _ _ _ _ _ _ _ _ _ _ _ _ _ _ _ _ _ _ [.int (1 : Int32)]
  refine Wl.ifN 462 at_459 (feq (by decide)).1 ?_
  refine Wl.iconst 463 (1 : Int32) at_462 (by decide) ?_
  refine Wl.goto 467 at_463 ?_
  exact Wl.ireturn at_467 rfl rfl (by simp) (nle rfl) (nle rfl) rfl
set_option maxRecDepth 65536 in
set_option maxHeartbeats 40000000 in
theorem law_t32 {l : Launch} {Z : State} {a0 : Array Value} (hw : ∀ d ∈ tables_1, d.before a0 Z = true) (hcs : CSon Z) (hfm : Fmt Z) {as : Array Value} {h : Heap} {i0 i1 i2 p0 p1 p2 n0 n1 n2 n3 : Int32} {xp yn : Addr} {kx ky : ClassId} (A : Arv Z h xp kx .char (3 : Int32) [.int p0, .int p1, .int p2] (.int 0)) (B : Arv Z h yn ky .char (4 : Int32) [.int n0, .int n1, .int n2, .int n3] (.int 0)) (lp0 : Lat p0) (lp1 : Lat p1) (lp2 : Lat p2) (ln0 : Lat n0) (ln1 : Lat n1) (ln2 : Lat n2) (ln3 : Lat n3) (p0123 : p0 ≠ 123) (p0125 : p0 ≠ 125) (p1123 : p1 ≠ 123) (p1125 : p1 ≠ 125) (p2123 : p2 ≠ 123) (p2125 : p2 ≠ 125) (hn0 : ¬ n0 = (125 : Int32)) :
    Wl l Z a0 consts_1 x code maxLocals ret room_1 as (fun v h' => v = some (.int 1)) [] h 2 7 116 #[.val (.int i0), .val (.int i1), .val (.int i2), .val (.int (3 : Int32)), .val (.int (2 : Int32)), .val (.ref xp), .val (.ref yn), .unset, .unset, .unset, .unset, .unset] [] := by
  refine Wl.aload 118 at_116 rfl rfl ?_
  refine Wl.iload_n 119 at_118 rfl ?_
  refine Wl.static 122 (argsL := [.ref xp, .int (3 : Int32)]) at_119 (w5 hw) (w6 hw) (w3 hw) (w7 hw) (show parseMethodDescriptor "([CI)Ljava/lang/String;" = some ⟨[(.array .char), .int], some (.object "java/lang/String")⟩ by decide +kernel) rfl (mk33_met hw hcs A lp0 lp1 lp2) (fun _ q => nomatch q) rfl rfl rfl (by decide) ⟨⟨nle rfl, nle rfl⟩, nle rfl, nle rfl⟩ ?_
  intro v1 h2 hq3 _
  obtain ⟨a4, rfl, E5, S6⟩ := hq3
  have B7 : Ext h h2 := E5
  show WlO _ _ _ _ _ _ _ _ _ _ _ _ _ _ _ _ _ _ [.ref a4]
  refine Wl.astore 124 #[.val (.int i0), .val (.int i1), .val (.int i2), .val (.int (3 : Int32)), .val (.int (2 : Int32)), .val (.ref xp), .val (.ref yn), .val (.ref a4), .unset, .unset, .unset, .unset] at_122 rfl rfl ?_
  refine Wl.aload 126 at_124 rfl rfl ?_
  refine Wl.iload 128 at_126 rfl ?_
  refine Wl.static 131 (argsL := [.ref yn, .int (2 : Int32)]) at_128 (w5 hw) (w6 hw) (w3 hw) (w7 hw) (show parseMethodDescriptor "([CI)Ljava/lang/String;" = some ⟨[(.array .char), .int], some (.object "java/lang/String")⟩ by decide +kernel) rfl (mk42_met hw hcs (B.ext E5) ln0 ln1 ln2 ln3) (fun _ q => nomatch q) rfl rfl rfl (by decide) ⟨⟨nle rfl, nle rfl⟩, nle rfl, nle rfl⟩ ?_
  intro v8 h9 hq10 _
  obtain ⟨a11, rfl, E12, S13⟩ := hq10
  have B14 : Ext h h9 := extTr B7 E12
  show WlO _ _ _ _ _ _ _ _ _ _ _ _ _ _ _ _ _ _ [.ref a11]
  refine Wl.astore 133 #[.val (.int i0), .val (.int i1), .val (.int i2), .val (.int (3 : Int32)), .val (.int (2 : Int32)), .val (.ref xp), .val (.ref yn), .val (.ref a4), .val (.ref a11), .unset, .unset, .unset] at_131 rfl rfl ?_
  refine Wl.new 136 at_133 (w37 hw) (w38 hw) (w39 hw) (nle rfl) (nle rfl) ?_
  intro a15 h16 q17 E18 X19 D20
  have z21 : h.size ≤ a15 := Nat.le_trans B14.1 (Nat.le_of_eq q17.symm)
  have z22 : h9.size ≤ a15 := Nat.le_of_eq q17.symm
  have ne23 : xp ≠ a15 := Nat.ne_of_lt (by rw [q17]; exact ((A.ext B14)).lt)
  have ne24 : yn ≠ a15 := Nat.ne_of_lt (by rw [q17]; exact ((B.ext B14)).lt)
  have ne25 : a4 ≠ a15 := Nat.ne_of_lt (by rw [q17]; exact (((S6).exa.ext E12)).lt)
  have ne26 : a11 ≠ a15 := Nat.ne_of_lt (by rw [q17]; exact ((S13).exa).lt)
  have B27 : Ext h h16 := extTr B14 E18
  have B28 : Ext h9 h16 := E18
  have F29 : Fld Z h16 a15 "com/example/portunus/portunus/LockKeys" "prefix" "Ljava/lang/String;" (.null) := D20 (Or.inr (w94 hw)) (ty := (.object "java/lang/String")) (by decide)
  refine Wl.dup 137 at_136 rfl ?_
  refine Wl.aload 139 at_137 rfl rfl ?_
  refine Wl.special 142 (argsL := [.ref a4]) at_139 (w40 hw) (w41 hw) (w39 hw) (w42 hw) (show parseMethodDescriptor "(Ljava/lang/String;)V" = some ⟨[(.object "java/lang/String")], none⟩ by decide +kernel) rfl (keys_met hw hcs X19 F29 (cs := [p0, p1, p2]) ((S6.ext E12).ext E18) (neC p0123 (neC p1123 (neC p2123 neN))) (neC p0125 (neC p1125 (neC p2125 neN)))) (allS (List.mem_of_getElem? (i := 0) rfl) (fun _ q => nomatch q)) rfl rfl rfl rfl (by decide) ⟨⟨nle rfl, nle rfl⟩, nle rfl, nle rfl⟩ ?_
  intro v30 h31 hq32 _
  obtain ⟨rfl, K33, X34, F35⟩ := hq32
  have B36 : Ext h h31 := extKeep B27 K33 (allS z21 all0)
  have B37 : Ext h9 h31 := extKeep B28 K33 (allS z22 all0)
  show WlO _ _ _ _ _ _ _ _ _ _ _ _ _ _ _ _ _ _ [.ref a15]
  refine Wl.astore 144 #[.val (.int i0), .val (.int i1), .val (.int i2), .val (.int (3 : Int32)), .val (.int (2 : Int32)), .val (.ref xp), .val (.ref yn), .val (.ref a4), .val (.ref a11), .val (.ref a15), .unset, .unset] at_142 rfl rfl ?_
  refine Wl.aload 146 at_144 rfl rfl ?_
  refine Wl.aload 148 at_146 rfl rfl ?_
  refine Wl.virtual 151 (argsL := [.ref a11]) at_148 (w95 hw) (w96 hw) (w98 hw) (w97 hw) (w39 hw) (w99 hw) (nf_sel (w98 hw) rfl) X34 (show parseMethodDescriptor "(Ljava/lang/String;)Ljava/lang/String;" = some ⟨[(.object "java/lang/String")], some (.object "java/lang/String")⟩ by decide +kernel) rfl (key_met hw hcs hfm (cs := [n0, n1]) (ps := [p0, p1, p2]) F35 ((S6.ext E12).ext B37) (nle rfl) (S13.ext B37) (by simp) (nle rfl) hn0 (nle rfl)) (fun _ q => nomatch q) rfl rfl rfl (by decide) ⟨⟨nle rfl, nle rfl⟩, nle rfl, nle rfl⟩ ?_
  intro v38 h39 hq40 _
  obtain ⟨s41, rfl, E42, S43⟩ := hq40
  have S43 : Stl Z h39 s41 [p0, p1, p2, (113 : Int32), (117 : Int32), (101 : Int32), (117 : Int32), (101 : Int32), (58 : Int32), (123 : Int32), n0, n1, (125 : Int32)] := S43
  have B44 : Ext h h39 := extTr B36 E42
  have B45 : Ext h9 h39 := extTr B37 E42
  show WlO _ _ _ _ _ _ _ _ _ _ _ _ _ _ _ _ _ _ [.ref s41]
  refine Wl.astore 153 #[.val (.int i0), .val (.int i1), .val (.int i2), .val (.int (3 : Int32)), .val (.int (2 : Int32)), .val (.ref xp), .val (.ref yn), .val (.ref a4), .val (.ref a11), .val (.ref a15), .val (.ref s41), .unset] at_151 rfl rfl ?_
  refine Wl.iload_n 154 at_153 rfl ?_
  refine Wl.bipush 156 (6 : Int32) at_154 (by decide) ?_
  refine Wl.iadd 157 at_156 ?_
  show WlO _ _ _ _ _ _ _ _ _ _ _ _ _ _ _ _ _ _ [.int (9 : Int32)]
  refine Wl.iconst 158 (1 : Int32) at_157 (by decide) ?_
  refine Wl.iadd 159 at_158 ?_
  show WlO _ _ _ _ _ _ _ _ _ _ _ _ _ _ _ _ _ _ [.int (10 : Int32)]
  refine Wl.iload 161 at_159 rfl ?_
  refine Wl.iadd 162 at_161 ?_
  show WlO _ _ _ _ _ _ _ _ _ _ _ _ _ _ _ _ _ _ [.int (12 : Int32)]
  refine Wl.iconst 163 (1 : Int32) at_162 (by decide) ?_
  refine Wl.iadd 164 at_163 ?_
  show WlO _ _ _ _ _ _ _ _ _ _ _ _ _ _ _ _ _ _ [.int (13 : Int32)]
  refine Wl.istore 166 #[.val (.int i0), .val (.int i1), .val (.int i2), .val (.int (3 : Int32)), .val (.int (2 : Int32)), .val (.ref xp), .val (.ref yn), .val (.ref a4), .val (.ref a11), .val (.ref a15), .val (.ref s41), .val (.int (13 : Int32))] at_164 rfl ?_
  refine Wl.aload 168 at_166 rfl rfl ?_
  refine Wl.ifnullN 171 at_168 ?_
  refine Wl.aload 173 at_171 rfl rfl ?_
  refine Wl.virtual 176 (argsL := []) at_173 (w226 hw) (w67 hw) (w69 hw) (w68 hw) (w10 hw) (w70 hw) (nf_sel (w69 hw) rfl) (S43).exa (show parseMethodDescriptor "()I" = some ⟨[], some .int⟩ by decide +kernel) rfl (len_met hw hcs S43) (fun _ q => nomatch q) rfl rfl rfl (by decide) ⟨⟨nle rfl, nle rfl⟩, nle rfl, nle rfl⟩ ?_
  intro v46 h47 hq48 _
  obtain ⟨rfl, rfl⟩ := hq48
  show WlO _ _ _ _ _ _ _ _ _ _ _ _ _ _ _ _ _ _ [.int (13 : Int32)]
  refine Wl.iload 178 at_176 rfl ?_
  refine Wl.icmpY 183 at_178 (teq (by decide)).1 ?_
  refine Wl.aload 185 at_183 rfl rfl ?_
  refine Wl.iconst 186 (0 : Int32) at_185 (by decide) ?_
  refine Wl.iload 188 at_186 rfl ?_
  refine Wl.aload 190 at_188 rfl rfl ?_
  refine Wl.iload_n 191 at_190 rfl ?_
  refine Wl.aload 193 at_191 rfl rfl ?_
  refine Wl.iload 195 at_193 rfl ?_
  refine Wl.static 198 (argsL := [.ref s41, .int (0 : Int32), .int (13 : Int32), .ref xp, .int (3 : Int32), .ref yn, .int (2 : Int32)]) at_195 (w227 hw) (w228 hw) (w3 hw) (w229 hw) (show parseMethodDescriptor "(Ljava/lang/String;II[CI[CI)Z" = some ⟨[(.object "java/lang/String"), .int, .int, (.array .char), .int, (.array .char), .int], some .boolean⟩ by decide +kernel) rfl (atP_met hw hcs hfm (rs := [p0, p1, p2, (113 : Int32), (117 : Int32), (101 : Int32), (117 : Int32), (101 : Int32), (58 : Int32), (123 : Int32), n0, n1, (125 : Int32)]) (ps := [p0, p1, p2]) (ns := [n0, n1, n2, n3]) (n := 0) S43 (nle rfl) (by decide) (A.ext B44) (B.ext B44) (nle rfl) (nle rfl) (latC lp0 (latC lp1 (latC lp2 latN))) (latC ln0 (latC ln1 (latC ln2 (latC ln3 latN)))) (by decide) (nle rfl) rfl) (fun _ q => nomatch q) rfl rfl rfl (by decide) ⟨⟨nle rfl, nle rfl⟩, nle rfl, nle rfl⟩ ?_
  intro v49 h50 hq51 _
  obtain ⟨rfl, rfl⟩ := hq51
  show WlO _ _ _ _ _ _ _ _ _ _ _ _ _ _ _ _ _ _ [.int (1 : Int32)]
  refine Wl.ifN 201 at_198 (feq (by decide)).1 ?_
  refine Wl.aload 203 at_201 rfl rfl ?_
  refine Wl.iconst 204 (1 : Int32) at_203 (by decide) ?_
  refine Wl.iload 206 at_204 rfl ?_
  refine Wl.aload 208 at_206 rfl rfl ?_
  refine Wl.iload_n 209 at_208 rfl ?_
  refine Wl.aload 211 at_209 rfl rfl ?_
  refine Wl.iload 213 at_211 rfl ?_
  refine Wl.static 216 (argsL := [.ref s41, .int (1 : Int32), .int (13 : Int32), .ref xp, .int (3 : Int32), .ref yn, .int (2 : Int32)]) at_213 (w227 hw) (w228 hw) (w3 hw) (w229 hw) (show parseMethodDescriptor "(Ljava/lang/String;II[CI[CI)Z" = some ⟨[(.object "java/lang/String"), .int, .int, (.array .char), .int, (.array .char), .int], some .boolean⟩ by decide +kernel) rfl (atP_met hw hcs hfm (rs := [p0, p1, p2, (113 : Int32), (117 : Int32), (101 : Int32), (117 : Int32), (101 : Int32), (58 : Int32), (123 : Int32), n0, n1, (125 : Int32)]) (ps := [p0, p1, p2]) (ns := [n0, n1, n2, n3]) (n := 1) S43 (nle rfl) (by decide) (A.ext B44) (B.ext B44) (nle rfl) (nle rfl) (latC lp0 (latC lp1 (latC lp2 latN))) (latC ln0 (latC ln1 (latC ln2 (latC ln3 latN)))) (by decide) (nle rfl) rfl) (fun _ q => nomatch q) rfl rfl rfl (by decide) ⟨⟨nle rfl, nle rfl⟩, nle rfl, nle rfl⟩ ?_
  intro v52 h53 hq54 _
  obtain ⟨rfl, rfl⟩ := hq54
  show WlO _ _ _ _ _ _ _ _ _ _ _ _ _ _ _ _ _ _ [.int (1 : Int32)]
  refine Wl.ifN 219 at_216 (feq (by decide)).1 ?_
  refine Wl.aload 221 at_219 rfl rfl ?_
  refine Wl.iconst 222 (2 : Int32) at_221 (by decide) ?_
  refine Wl.iload 224 at_222 rfl ?_
  refine Wl.aload 226 at_224 rfl rfl ?_
  refine Wl.iload_n 227 at_226 rfl ?_
  refine Wl.aload 229 at_227 rfl rfl ?_
  refine Wl.iload 231 at_229 rfl ?_
  refine Wl.static 234 (argsL := [.ref s41, .int (2 : Int32), .int (13 : Int32), .ref xp, .int (3 : Int32), .ref yn, .int (2 : Int32)]) at_231 (w227 hw) (w228 hw) (w3 hw) (w229 hw) (show parseMethodDescriptor "(Ljava/lang/String;II[CI[CI)Z" = some ⟨[(.object "java/lang/String"), .int, .int, (.array .char), .int, (.array .char), .int], some .boolean⟩ by decide +kernel) rfl (atP_met hw hcs hfm (rs := [p0, p1, p2, (113 : Int32), (117 : Int32), (101 : Int32), (117 : Int32), (101 : Int32), (58 : Int32), (123 : Int32), n0, n1, (125 : Int32)]) (ps := [p0, p1, p2]) (ns := [n0, n1, n2, n3]) (n := 2) S43 (nle rfl) (by decide) (A.ext B44) (B.ext B44) (nle rfl) (nle rfl) (latC lp0 (latC lp1 (latC lp2 latN))) (latC ln0 (latC ln1 (latC ln2 (latC ln3 latN)))) (by decide) (nle rfl) rfl) (fun _ q => nomatch q) rfl rfl rfl (by decide) ⟨⟨nle rfl, nle rfl⟩, nle rfl, nle rfl⟩ ?_
  intro v55 h56 hq57 _
  obtain ⟨rfl, rfl⟩ := hq57
  show WlO _ _ _ _ _ _ _ _ _ _ _ _ _ _ _ _ _ _ [.int (1 : Int32)]
  refine Wl.ifN 237 at_234 (feq (by decide)).1 ?_
  refine Wl.aload 239 at_237 rfl rfl ?_
  refine Wl.iconst 240 (3 : Int32) at_239 (by decide) ?_
  refine Wl.iload 242 at_240 rfl ?_
  refine Wl.aload 244 at_242 rfl rfl ?_
  refine Wl.iload_n 245 at_244 rfl ?_
  refine Wl.aload 247 at_245 rfl rfl ?_
  refine Wl.iload 249 at_247 rfl ?_
  refine Wl.static 252 (argsL := [.ref s41, .int (3 : Int32), .int (13 : Int32), .ref xp, .int (3 : Int32), .ref yn, .int (2 : Int32)]) at_249 (w227 hw) (w228 hw) (w3 hw) (w229 hw) (show parseMethodDescriptor "(Ljava/lang/String;II[CI[CI)Z" = some ⟨[(.object "java/lang/String"), .int, .int, (.array .char), .int, (.array .char), .int], some .boolean⟩ by decide +kernel) rfl (atA_met hw hcs hfm (rs := [p0, p1, p2, (113 : Int32), (117 : Int32), (101 : Int32), (117 : Int32), (101 : Int32), (58 : Int32), (123 : Int32), n0, n1, (125 : Int32)]) (ps := [p0, p1, p2]) (ns := [n0, n1, n2, n3]) (n := 3) (j := 0) S43 (nle rfl) (by decide) (A.ext B44) (B.ext B44) (nle rfl) (nle rfl) (latC lp0 (latC lp1 (latC lp2 latN))) (latC ln0 (latC ln1 (latC ln2 (latC ln3 latN)))) (by decide) (by decide) (by decide) (nle rfl) rfl) (fun _ q => nomatch q) rfl rfl rfl (by decide) ⟨⟨nle rfl, nle rfl⟩, nle rfl, nle rfl⟩ ?_
  intro v58 h59 hq60 _
  obtain ⟨rfl, E61⟩ := hq60
  have B62 : Ext h h59 := extTr B44 E61
  have B63 : Ext h9 h59 := extTr B45 E61
  show WlO _ _ _ _ _ _ _ _ _ _ _ _ _ _ _ _ _ _ [.int (1 : Int32)]
  refine Wl.ifN 255 at_252 (feq (by decide)).1 ?_
  refine Wl.aload 257 at_255 rfl rfl ?_
  refine Wl.iconst 258 (4 : Int32) at_257 (by decide) ?_
  refine Wl.iload 260 at_258 rfl ?_
  refine Wl.aload 262 at_260 rfl rfl ?_
  refine Wl.iload_n 263 at_262 rfl ?_
  refine Wl.aload 265 at_263 rfl rfl ?_
  refine Wl.iload 267 at_265 rfl ?_
  refine Wl.static 270 (argsL := [.ref s41, .int (4 : Int32), .int (13 : Int32), .ref xp, .int (3 : Int32), .ref yn, .int (2 : Int32)]) at_267 (w227 hw) (w228 hw) (w3 hw) (w229 hw) (show parseMethodDescriptor "(Ljava/lang/String;II[CI[CI)Z" = some ⟨[(.object "java/lang/String"), .int, .int, (.array .char), .int, (.array .char), .int], some .boolean⟩ by decide +kernel) rfl (atA_met hw hcs hfm (rs := [p0, p1, p2, (113 : Int32), (117 : Int32), (101 : Int32), (117 : Int32), (101 : Int32), (58 : Int32), (123 : Int32), n0, n1, (125 : Int32)]) (ps := [p0, p1, p2]) (ns := [n0, n1, n2, n3]) (n := 4) (j := 1) (S43.ext E61) (nle rfl) (by decide) (A.ext B62) (B.ext B62) (nle rfl) (nle rfl) (latC lp0 (latC lp1 (latC lp2 latN))) (latC ln0 (latC ln1 (latC ln2 (latC ln3 latN)))) (by decide) (by decide) (by decide) (nle rfl) rfl) (fun _ q => nomatch q) rfl rfl rfl (by decide) ⟨⟨nle rfl, nle rfl⟩, nle rfl, nle rfl⟩ ?_
  intro v64 h65 hq66 _
  obtain ⟨rfl, E67⟩ := hq66
  have B68 : Ext h h65 := extTr B62 E67
  have B69 : Ext h9 h65 := extTr B63 E67
  show WlO _ _ _ _ _ _ _ _ _ _ _ _ _ _ _ _ _ _ [.int (1 : Int32)]
  refine Wl.ifN 273 at_270 (feq (by decide)).1 ?_
  refine Wl.aload 275 at_273 rfl rfl ?_
  refine Wl.iconst 276 (5 : Int32) at_275 (by decide) ?_
  refine Wl.iload 278 at_276 rfl ?_
  refine Wl.aload 280 at_278 rfl rfl ?_
  refine Wl.iload_n 281 at_280 rfl ?_
  refine Wl.aload 283 at_281 rfl rfl ?_
  refine Wl.iload 285 at_283 rfl ?_
  refine Wl.static 288 (argsL := [.ref s41, .int (5 : Int32), .int (13 : Int32), .ref xp, .int (3 : Int32), .ref yn, .int (2 : Int32)]) at_285 (w227 hw) (w228 hw) (w3 hw) (w229 hw) (show parseMethodDescriptor "(Ljava/lang/String;II[CI[CI)Z" = some ⟨[(.object "java/lang/String"), .int, .int, (.array .char), .int, (.array .char), .int], some .boolean⟩ by decide +kernel) rfl (atA_met hw hcs hfm (rs := [p0, p1, p2, (113 : Int32), (117 : Int32), (101 : Int32), (117 : Int32), (101 : Int32), (58 : Int32), (123 : Int32), n0, n1, (125 : Int32)]) (ps := [p0, p1, p2]) (ns := [n0, n1, n2, n3]) (n := 5) (j := 2) ((S43.ext E61).ext E67) (nle rfl) (by decide) (A.ext B68) (B.ext B68) (nle rfl) (nle rfl) (latC lp0 (latC lp1 (latC lp2 latN))) (latC ln0 (latC ln1 (latC ln2 (latC ln3 latN)))) (by decide) (by decide) (by decide) (nle rfl) rfl) (fun _ q => nomatch q) rfl rfl rfl (by decide) ⟨⟨nle rfl, nle rfl⟩, nle rfl, nle rfl⟩ ?_
  intro v70 h71 hq72 _
  obtain ⟨rfl, E73⟩ := hq72
  have B74 : Ext h h71 := extTr B68 E73
  have B75 : Ext h9 h71 := extTr B69 E73
  show WlO _ _ _ _ _ _ _ _ _ _ _ _ _ _ _ _ _ _ [.int (1 : Int32)]
  refine Wl.ifN 291 at_288 (feq (by decide)).1 ?_
  refine Wl.aload 293 at_291 rfl rfl ?_
  refine Wl.bipush 295 (6 : Int32) at_293 (by decide) ?_
  refine Wl.iload 297 at_295 rfl ?_
  refine Wl.aload 299 at_297 rfl rfl ?_
  refine Wl.iload_n 300 at_299 rfl ?_
  refine Wl.aload 302 at_300 rfl rfl ?_
  refine Wl.iload 304 at_302 rfl ?_
  refine Wl.static 307 (argsL := [.ref s41, .int (6 : Int32), .int (13 : Int32), .ref xp, .int (3 : Int32), .ref yn, .int (2 : Int32)]) at_304 (w227 hw) (w228 hw) (w3 hw) (w229 hw) (show parseMethodDescriptor "(Ljava/lang/String;II[CI[CI)Z" = some ⟨[(.object "java/lang/String"), .int, .int, (.array .char), .int, (.array .char), .int], some .boolean⟩ by decide +kernel) rfl (atA_met hw hcs hfm (rs := [p0, p1, p2, (113 : Int32), (117 : Int32), (101 : Int32), (117 : Int32), (101 : Int32), (58 : Int32), (123 : Int32), n0, n1, (125 : Int32)]) (ps := [p0, p1, p2]) (ns := [n0, n1, n2, n3]) (n := 6) (j := 3) (((S43.ext E61).ext E67).ext E73) (nle rfl) (by decide) (A.ext B74) (B.ext B74) (nle rfl) (nle rfl) (latC lp0 (latC lp1 (latC lp2 latN))) (latC ln0 (latC ln1 (latC ln2 (latC ln3 latN)))) (by decide) (by decide) (by decide) (nle rfl) rfl) (fun _ q => nomatch q) rfl rfl rfl (by decide) ⟨⟨nle rfl, nle rfl⟩, nle rfl, nle rfl⟩ ?_
  intro v76 h77 hq78 _
  obtain ⟨rfl, E79⟩ := hq78
  have B80 : Ext h h77 := extTr B74 E79
  have B81 : Ext h9 h77 := extTr B75 E79
  show WlO _ _ _ _ _ _ _ _ _ _ _ _ _ _ _ _ _ _ [.int (1 : Int32)]
  refine Wl.ifN 310 at_307 (feq (by decide)).1 ?_
  refine Wl.aload 312 at_310 rfl rfl ?_
  refine Wl.bipush 314 (7 : Int32) at_312 (by decide) ?_
  refine Wl.iload 316 at_314 rfl ?_
  refine Wl.aload 318 at_316 rfl rfl ?_
  refine Wl.iload_n 319 at_318 rfl ?_
  refine Wl.aload 321 at_319 rfl rfl ?_
  refine Wl.iload 323 at_321 rfl ?_
  refine Wl.static 326 (argsL := [.ref s41, .int (7 : Int32), .int (13 : Int32), .ref xp, .int (3 : Int32), .ref yn, .int (2 : Int32)]) at_323 (w227 hw) (w228 hw) (w3 hw) (w229 hw) (show parseMethodDescriptor "(Ljava/lang/String;II[CI[CI)Z" = some ⟨[(.object "java/lang/String"), .int, .int, (.array .char), .int, (.array .char), .int], some .boolean⟩ by decide +kernel) rfl (atA_met hw hcs hfm (rs := [p0, p1, p2, (113 : Int32), (117 : Int32), (101 : Int32), (117 : Int32), (101 : Int32), (58 : Int32), (123 : Int32), n0, n1, (125 : Int32)]) (ps := [p0, p1, p2]) (ns := [n0, n1, n2, n3]) (n := 7) (j := 4) ((((S43.ext E61).ext E67).ext E73).ext E79) (nle rfl) (by decide) (A.ext B80) (B.ext B80) (nle rfl) (nle rfl) (latC lp0 (latC lp1 (latC lp2 latN))) (latC ln0 (latC ln1 (latC ln2 (latC ln3 latN)))) (by decide) (by decide) (by decide) (nle rfl) rfl) (fun _ q => nomatch q) rfl rfl rfl (by decide) ⟨⟨nle rfl, nle rfl⟩, nle rfl, nle rfl⟩ ?_
  intro v82 h83 hq84 _
  obtain ⟨rfl, E85⟩ := hq84
  have B86 : Ext h h83 := extTr B80 E85
  have B87 : Ext h9 h83 := extTr B81 E85
  show WlO _ _ _ _ _ _ _ _ _ _ _ _ _ _ _ _ _ _ [.int (1 : Int32)]
  refine Wl.ifN 329 at_326 (feq (by decide)).1 ?_
  refine Wl.aload 331 at_329 rfl rfl ?_
  refine Wl.bipush 333 (8 : Int32) at_331 (by decide) ?_
  refine Wl.iload 335 at_333 rfl ?_
  refine Wl.aload 337 at_335 rfl rfl ?_
  refine Wl.iload_n 338 at_337 rfl ?_
  refine Wl.aload 340 at_338 rfl rfl ?_
  refine Wl.iload 342 at_340 rfl ?_
  refine Wl.static 345 (argsL := [.ref s41, .int (8 : Int32), .int (13 : Int32), .ref xp, .int (3 : Int32), .ref yn, .int (2 : Int32)]) at_342 (w227 hw) (w228 hw) (w3 hw) (w229 hw) (show parseMethodDescriptor "(Ljava/lang/String;II[CI[CI)Z" = some ⟨[(.object "java/lang/String"), .int, .int, (.array .char), .int, (.array .char), .int], some .boolean⟩ by decide +kernel) rfl (atA_met hw hcs hfm (rs := [p0, p1, p2, (113 : Int32), (117 : Int32), (101 : Int32), (117 : Int32), (101 : Int32), (58 : Int32), (123 : Int32), n0, n1, (125 : Int32)]) (ps := [p0, p1, p2]) (ns := [n0, n1, n2, n3]) (n := 8) (j := 5) (((((S43.ext E61).ext E67).ext E73).ext E79).ext E85) (nle rfl) (by decide) (A.ext B86) (B.ext B86) (nle rfl) (nle rfl) (latC lp0 (latC lp1 (latC lp2 latN))) (latC ln0 (latC ln1 (latC ln2 (latC ln3 latN)))) (by decide) (by decide) (by decide) (nle rfl) rfl) (fun _ q => nomatch q) rfl rfl rfl (by decide) ⟨⟨nle rfl, nle rfl⟩, nle rfl, nle rfl⟩ ?_
  intro v88 h89 hq90 _
  obtain ⟨rfl, E91⟩ := hq90
  have B92 : Ext h h89 := extTr B86 E91
  have B93 : Ext h9 h89 := extTr B87 E91
  show WlO _ _ _ _ _ _ _ _ _ _ _ _ _ _ _ _ _ _ [.int (1 : Int32)]
  refine Wl.ifN 348 at_345 (feq (by decide)).1 ?_
  refine Wl.aload 350 at_348 rfl rfl ?_
  refine Wl.bipush 352 (9 : Int32) at_350 (by decide) ?_
  refine Wl.iload 354 at_352 rfl ?_
  refine Wl.aload 356 at_354 rfl rfl ?_
  refine Wl.iload_n 357 at_356 rfl ?_
  refine Wl.aload 359 at_357 rfl rfl ?_
  refine Wl.iload 361 at_359 rfl ?_
  refine Wl.static 364 (argsL := [.ref s41, .int (9 : Int32), .int (13 : Int32), .ref xp, .int (3 : Int32), .ref yn, .int (2 : Int32)]) at_361 (w227 hw) (w228 hw) (w3 hw) (w229 hw) (show parseMethodDescriptor "(Ljava/lang/String;II[CI[CI)Z" = some ⟨[(.object "java/lang/String"), .int, .int, (.array .char), .int, (.array .char), .int], some .boolean⟩ by decide +kernel) rfl (atO_met hw hcs hfm (rs := [p0, p1, p2, (113 : Int32), (117 : Int32), (101 : Int32), (117 : Int32), (101 : Int32), (58 : Int32), (123 : Int32), n0, n1, (125 : Int32)]) (ps := [p0, p1, p2]) (ns := [n0, n1, n2, n3]) (n := 9) ((((((S43.ext E61).ext E67).ext E73).ext E79).ext E85).ext E91) (nle rfl) (by decide) (A.ext B92) (B.ext B92) (nle rfl) (nle rfl) (latC lp0 (latC lp1 (latC lp2 latN))) (latC ln0 (latC ln1 (latC ln2 (latC ln3 latN)))) (by decide) (by decide) (by decide) rfl) (fun _ q => nomatch q) rfl rfl rfl (by decide) ⟨⟨nle rfl, nle rfl⟩, nle rfl, nle rfl⟩ ?_
  intro v94 h95 hq96 _
  obtain ⟨rfl, rfl⟩ := hq96
  show WlO _ _ _ _ _ _ _ _ _ _ _ _ _ _ _ _ _ _ [.int (1 : Int32)]
  refine Wl.ifN 367 at_364 (feq (by decide)).1 ?_
  refine Wl.aload 369 at_367 rfl rfl ?_
  refine Wl.bipush 371 (10 : Int32) at_369 (by decide) ?_
  refine Wl.iload 373 at_371 rfl ?_
  refine Wl.aload 375 at_373 rfl rfl ?_
  refine Wl.iload_n 376 at_375 rfl ?_
  refine Wl.aload 378 at_376 rfl rfl ?_
  refine Wl.iload 380 at_378 rfl ?_
  refine Wl.static 383 (argsL := [.ref s41, .int (10 : Int32), .int (13 : Int32), .ref xp, .int (3 : Int32), .ref yn, .int (2 : Int32)]) at_380 (w227 hw) (w228 hw) (w3 hw) (w229 hw) (show parseMethodDescriptor "(Ljava/lang/String;II[CI[CI)Z" = some ⟨[(.object "java/lang/String"), .int, .int, (.array .char), .int, (.array .char), .int], some .boolean⟩ by decide +kernel) rfl (atN_met hw hcs hfm (rs := [p0, p1, p2, (113 : Int32), (117 : Int32), (101 : Int32), (117 : Int32), (101 : Int32), (58 : Int32), (123 : Int32), n0, n1, (125 : Int32)]) (ps := [p0, p1, p2]) (ns := [n0, n1, n2, n3]) (n := 10) (m := 0) ((((((S43.ext E61).ext E67).ext E73).ext E79).ext E85).ext E91) (nle rfl) (by decide) (A.ext B92) (B.ext B92) (nle rfl) (nle rfl) (latC lp0 (latC lp1 (latC lp2 latN))) (latC ln0 (latC ln1 (latC ln2 (latC ln3 latN)))) (by decide) (by decide) (by decide) (by decide) (by decide) (nle rfl) rfl) (fun _ q => nomatch q) rfl rfl rfl (by decide) ⟨⟨nle rfl, nle rfl⟩, nle rfl, nle rfl⟩ ?_
  intro v97 h98 hq99 _
  obtain ⟨rfl, rfl⟩ := hq99
  show WlO _ _ _ _ _ _ _ _ _ _ _ _ _ _ _ _ _ _ [.int (1 : Int32)]
  refine Wl.ifN 386 at_383 (feq (by decide)).1 ?_
  refine Wl.aload 388 at_386 rfl rfl ?_
  refine Wl.bipush 390 (11 : Int32) at_388 (by decide) ?_
  refine Wl.iload 392 at_390 rfl ?_
  refine Wl.aload 394 at_392 rfl rfl ?_
  refine Wl.iload_n 395 at_394 rfl ?_
  refine Wl.aload 397 at_395 rfl rfl ?_
  refine Wl.iload 399 at_397 rfl ?_
  refine Wl.static 402 (argsL := [.ref s41, .int (11 : Int32), .int (13 : Int32), .ref xp, .int (3 : Int32), .ref yn, .int (2 : Int32)]) at_399 (w227 hw) (w228 hw) (w3 hw) (w229 hw) (show parseMethodDescriptor "(Ljava/lang/String;II[CI[CI)Z" = some ⟨[(.object "java/lang/String"), .int, .int, (.array .char), .int, (.array .char), .int], some .boolean⟩ by decide +kernel) rfl (atN_met hw hcs hfm (rs := [p0, p1, p2, (113 : Int32), (117 : Int32), (101 : Int32), (117 : Int32), (101 : Int32), (58 : Int32), (123 : Int32), n0, n1, (125 : Int32)]) (ps := [p0, p1, p2]) (ns := [n0, n1, n2, n3]) (n := 11) (m := 1) ((((((S43.ext E61).ext E67).ext E73).ext E79).ext E85).ext E91) (nle rfl) (by decide) (A.ext B92) (B.ext B92) (nle rfl) (nle rfl) (latC lp0 (latC lp1 (latC lp2 latN))) (latC ln0 (latC ln1 (latC ln2 (latC ln3 latN)))) (by decide) (by decide) (by decide) (by decide) (by decide) (nle rfl) rfl) (fun _ q => nomatch q) rfl rfl rfl (by decide) ⟨⟨nle rfl, nle rfl⟩, nle rfl, nle rfl⟩ ?_
  intro v100 h101 hq102 _
  obtain ⟨rfl, rfl⟩ := hq102
  show WlO _ _ _ _ _ _ _ _ _ _ _ _ _ _ _ _ _ _ [.int (1 : Int32)]
  refine Wl.ifN 405 at_402 (feq (by decide)).1 ?_
  refine Wl.aload 407 at_405 rfl rfl ?_
  refine Wl.bipush 409 (12 : Int32) at_407 (by decide) ?_
  refine Wl.iload 411 at_409 rfl ?_
  refine Wl.aload 413 at_411 rfl rfl ?_
  refine Wl.iload_n 414 at_413 rfl ?_
  refine Wl.aload 416 at_414 rfl rfl ?_
  refine Wl.iload 418 at_416 rfl ?_
  refine Wl.static 421 (argsL := [.ref s41, .int (12 : Int32), .int (13 : Int32), .ref xp, .int (3 : Int32), .ref yn, .int (2 : Int32)]) at_418 (w227 hw) (w228 hw) (w3 hw) (w229 hw) (show parseMethodDescriptor "(Ljava/lang/String;II[CI[CI)Z" = some ⟨[(.object "java/lang/String"), .int, .int, (.array .char), .int, (.array .char), .int], some .boolean⟩ by decide +kernel) rfl (atE_met hw hcs hfm (rs := [p0, p1, p2, (113 : Int32), (117 : Int32), (101 : Int32), (117 : Int32), (101 : Int32), (58 : Int32), (123 : Int32), n0, n1, (125 : Int32)]) (ps := [p0, p1, p2]) (ns := [n0, n1, n2, n3]) (n := 12) ((((((S43.ext E61).ext E67).ext E73).ext E79).ext E85).ext E91) (nle rfl) (by decide) (A.ext B92) (B.ext B92) (nle rfl) (nle rfl) (latC lp0 (latC lp1 (latC lp2 latN))) (latC ln0 (latC ln1 (latC ln2 (latC ln3 latN)))) (by decide) (by decide) (by decide) (by decide) rfl) (fun _ q => nomatch q) rfl rfl rfl (by decide) ⟨⟨nle rfl, nle rfl⟩, nle rfl, nle rfl⟩ ?_
  intro v103 h104 hq105 _
  obtain ⟨rfl, rfl⟩ := hq105
  show WlO _ _ _ _ _ _ _ _ _ _ _ _ _ _ _ _ _ _ [.int (1 : Int32)]
  refine Wl.ifN 424 at_421 (feq (by decide)).1 ?_
  refine Wl.aload 426 at_424 rfl rfl ?_
  refine Wl.bipush 428 (13 : Int32) at_426 (by decide) ?_
  refine Wl.iload 430 at_428 rfl ?_
  refine Wl.aload 432 at_430 rfl rfl ?_
  refine Wl.iload_n 433 at_432 rfl ?_
  refine Wl.aload 435 at_433 rfl rfl ?_
  refine Wl.iload 437 at_435 rfl ?_
  refine Wl.static 440 (argsL := [.ref s41, .int (13 : Int32), .int (13 : Int32), .ref xp, .int (3 : Int32), .ref yn, .int (2 : Int32)]) at_437 (w227 hw) (w228 hw) (w3 hw) (w229 hw) (show parseMethodDescriptor "(Ljava/lang/String;II[CI[CI)Z" = some ⟨[(.object "java/lang/String"), .int, .int, (.array .char), .int, (.array .char), .int], some .boolean⟩ by decide +kernel) rfl (atC_met hw (by decide)) (fun _ q => nomatch q) rfl rfl rfl (by decide) ⟨⟨nle rfl, nle rfl⟩, nle rfl, nle rfl⟩ ?_
  intro v106 h107 hq108 _
  obtain ⟨rfl, rfl⟩ := hq108
  show WlO _ _ _ _ _ _ _ _ _ _ _ _ _ _ _ _ _ _ [.int (1 : Int32)]
  refine Wl.ifN 443 at_440 (feq (by decide)).1 ?_
  refine Wl.aload 445 at_443 rfl rfl ?_
  refine Wl.bipush 447 (14 : Int32) at_445 (by decide) ?_
  refine Wl.iload 449 at_447 rfl ?_
  refine Wl.aload 451 at_449 rfl rfl ?_
  refine Wl.iload_n 452 at_451 rfl ?_
  refine Wl.aload 454 at_452 rfl rfl ?_
  refine Wl.iload 456 at_454 rfl ?_
  refine Wl.static 459 (argsL := [.ref s41, .int (14 : Int32), .int (13 : Int32), .ref xp, .int (3 : Int32), .ref yn, .int (2 : Int32)]) at_456 (w227 hw) (w228 hw) (w3 hw) (w229 hw) (show parseMethodDescriptor "(Ljava/lang/String;II[CI[CI)Z" = some ⟨[(.object "java/lang/String"), .int, .int, (.array .char), .int, (.array .char), .int], some .boolean⟩ by decide +kernel) rfl (atC_met hw (by decide)) (fun _ q => nomatch q) rfl rfl rfl (by decide) ⟨⟨nle rfl, nle rfl⟩, nle rfl, nle rfl⟩ ?_
  intro v109 h110 hq111 _
  obtain ⟨rfl, rfl⟩ := hq111
  show WlO _ _ _ _ _ _ _ _ _ _ _ _ _ _ _ _ _ _ [.int (1 : Int32)]
  refine Wl.ifN 462 at_459 (feq (by decide)).1 ?_
  refine Wl.iconst 463 (1 : Int32) at_462 (by decide) ?_
  refine Wl.goto 467 at_463 ?_
  exact Wl.ireturn at_467 rfl rfl (by simp) (nle rfl) (nle rfl) rfl
set_option maxRecDepth 65536 in
set_option maxHeartbeats 40000000 in
theorem law_t33 {l : Launch} {Z : State} {a0 : Array Value} (hw : ∀ d ∈ tables_1, d.before a0 Z = true) (hcs : CSon Z) (hfm : Fmt Z) {as : Array Value} {h : Heap} {i0 i1 i2 p0 p1 p2 n0 n1 n2 n3 : Int32} {xp yn : Addr} {kx ky : ClassId} (A : Arv Z h xp kx .char (3 : Int32) [.int p0, .int p1, .int p2] (.int 0)) (B : Arv Z h yn ky .char (4 : Int32) [.int n0, .int n1, .int n2, .int n3] (.int 0)) (lp0 : Lat p0) (lp1 : Lat p1) (lp2 : Lat p2) (ln0 : Lat n0) (ln1 : Lat n1) (ln2 : Lat n2) (ln3 : Lat n3) (p0123 : p0 ≠ 123) (p0125 : p0 ≠ 125) (p1123 : p1 ≠ 123) (p1125 : p1 ≠ 125) (p2123 : p2 ≠ 123) (p2125 : p2 ≠ 125) (hn0 : ¬ n0 = (125 : Int32)) :
    Wl l Z a0 consts_1 x code maxLocals ret room_1 as (fun v h' => v = some (.int 1)) [] h 2 7 116 #[.val (.int i0), .val (.int i1), .val (.int i2), .val (.int (3 : Int32)), .val (.int (3 : Int32)), .val (.ref xp), .val (.ref yn), .unset, .unset, .unset, .unset, .unset] [] := by
  refine Wl.aload 118 at_116 rfl rfl ?_
  refine Wl.iload_n 119 at_118 rfl ?_
  refine Wl.static 122 (argsL := [.ref xp, .int (3 : Int32)]) at_119 (w5 hw) (w6 hw) (w3 hw) (w7 hw) (show parseMethodDescriptor "([CI)Ljava/lang/String;" = some ⟨[(.array .char), .int], some (.object "java/lang/String")⟩ by decide +kernel) rfl (mk33_met hw hcs A lp0 lp1 lp2) (fun _ q => nomatch q) rfl rfl rfl (by decide) ⟨⟨nle rfl, nle rfl⟩, nle rfl, nle rfl⟩ ?_
  intro v1 h2 hq3 _
  obtain ⟨a4, rfl, E5, S6⟩ := hq3
  have B7 : Ext h h2 := E5
  show WlO _ _ _ _ _ _ _ _ _ _ _ _ _ _ _ _ _ _ [.ref a4]
  refine Wl.astore 124 #[.val (.int i0), .val (.int i1), .val (.int i2), .val (.int (3 : Int32)), .val (.int (3 : Int32)), .val (.ref xp), .val (.ref yn), .val (.ref a4), .unset, .unset, .unset, .unset] at_122 rfl rfl ?_
  refine Wl.aload 126 at_124 rfl rfl ?_
  refine Wl.iload 128 at_126 rfl ?_
  refine Wl.static 131 (argsL := [.ref yn, .int (3 : Int32)]) at_128 (w5 hw) (w6 hw) (w3 hw) (w7 hw) (show parseMethodDescriptor "([CI)Ljava/lang/String;" = some ⟨[(.array .char), .int], some (.object "java/lang/String")⟩ by decide +kernel) rfl (mk43_met hw hcs (B.ext E5) ln0 ln1 ln2 ln3) (fun _ q => nomatch q) rfl rfl rfl (by decide) ⟨⟨nle rfl, nle rfl⟩, nle rfl, nle rfl⟩ ?_
  intro v8 h9 hq10 _
  obtain ⟨a11, rfl, E12, S13⟩ := hq10
  have B14 : Ext h h9 := extTr B7 E12
  show WlO _ _ _ _ _ _ _ _ _ _ _ _ _ _ _ _ _ _ [.ref a11]
  refine Wl.astore 133 #[.val (.int i0), .val (.int i1), .val (.int i2), .val (.int (3 : Int32)), .val (.int (3 : Int32)), .val (.ref xp), .val (.ref yn), .val (.ref a4), .val (.ref a11), .unset, .unset, .unset] at_131 rfl rfl ?_
  refine Wl.new 136 at_133 (w37 hw) (w38 hw) (w39 hw) (nle rfl) (nle rfl) ?_
  intro a15 h16 q17 E18 X19 D20
  have z21 : h.size ≤ a15 := Nat.le_trans B14.1 (Nat.le_of_eq q17.symm)
  have z22 : h9.size ≤ a15 := Nat.le_of_eq q17.symm
  have ne23 : xp ≠ a15 := Nat.ne_of_lt (by rw [q17]; exact ((A.ext B14)).lt)
  have ne24 : yn ≠ a15 := Nat.ne_of_lt (by rw [q17]; exact ((B.ext B14)).lt)
  have ne25 : a4 ≠ a15 := Nat.ne_of_lt (by rw [q17]; exact (((S6).exa.ext E12)).lt)
  have ne26 : a11 ≠ a15 := Nat.ne_of_lt (by rw [q17]; exact ((S13).exa).lt)
  have B27 : Ext h h16 := extTr B14 E18
  have B28 : Ext h9 h16 := E18
  have F29 : Fld Z h16 a15 "com/example/portunus/portunus/LockKeys" "prefix" "Ljava/lang/String;" (.null) := D20 (Or.inr (w94 hw)) (ty := (.object "java/lang/String")) (by decide)
  refine Wl.dup 137 at_136 rfl ?_
  refine Wl.aload 139 at_137 rfl rfl ?_
  refine Wl.special 142 (argsL := [.ref a4]) at_139 (w40 hw) (w41 hw) (w39 hw) (w42 hw) (show parseMethodDescriptor "(Ljava/lang/String;)V" = some ⟨[(.object "java/lang/String")], none⟩ by decide +kernel) rfl (keys_met hw hcs X19 F29 (cs := [p0, p1, p2]) ((S6.ext E12).ext E18) (neC p0123 (neC p1123 (neC p2123 neN))) (neC p0125 (neC p1125 (neC p2125 neN)))) (allS (List.mem_of_getElem? (i := 0) rfl) (fun _ q => nomatch q)) rfl rfl rfl rfl (by decide) ⟨⟨nle rfl, nle rfl⟩, nle rfl, nle rfl⟩ ?_
  intro v30 h31 hq32 _
  obtain ⟨rfl, K33, X34, F35⟩ := hq32
  have B36 : Ext h h31 := extKeep B27 K33 (allS z21 all0)
  have B37 : Ext h9 h31 := extKeep B28 K33 (allS z22 all0)
  show WlO _ _ _ _ _ _ _ _ _ _ _ _ _ _ _ _ _ _ [.ref a15]
  refine Wl.astore 144 #[.val (.int i0), .val (.int i1), .val (.int i2), .val (.int (3 : Int32)), .val (.int (3 : Int32)), .val (.ref xp), .val (.ref yn), .val (.ref a4), .val (.ref a11), .val (.ref a15), .unset, .unset] at_142 rfl rfl ?_
  refine Wl.aload 146 at_144 rfl rfl ?_
  refine Wl.aload 148 at_146 rfl rfl ?_
  refine Wl.virtual 151 (argsL := [.ref a11]) at_148 (w95 hw) (w96 hw) (w98 hw) (w97 hw) (w39 hw) (w99 hw) (nf_sel (w98 hw) rfl) X34 (show parseMethodDescriptor "(Ljava/lang/String;)Ljava/lang/String;" = some ⟨[(.object "java/lang/String")], some (.object "java/lang/String")⟩ by decide +kernel) rfl (key_met hw hcs hfm (cs := [n0, n1, n2]) (ps := [p0, p1, p2]) F35 ((S6.ext E12).ext B37) (nle rfl) (S13.ext B37) (by simp) (nle rfl) hn0 (nle rfl)) (fun _ q => nomatch q) rfl rfl rfl (by decide) ⟨⟨nle rfl, nle rfl⟩, nle rfl, nle rfl⟩ ?_
  intro v38 h39 hq40 _
  obtain ⟨s41, rfl, E42, S43⟩ := hq40
  have S43 : Stl Z h39 s41 [p0, p1, p2, (113 : Int32), (117 : Int32), (101 : Int32), (117 : Int32), (101 : Int32), (58 : Int32), (123 : Int32), n0, n1, n2, (125 : Int32)] := S43
  have B44 : Ext h h39 := extTr B36 E42
  have B45 : Ext h9 h39 := extTr B37 E42
  show WlO _ _ _ _ _ _ _ _ _ _ _ _ _ _ _ _ _ _ [.ref s41]
  refine Wl.astore 153 #[.val (.int i0), .val (.int i1), .val (.int i2), .val (.int (3 : Int32)), .val (.int (3 : Int32)), .val (.ref xp), .val (.ref yn), .val (.ref a4), .val (.ref a11), .val (.ref a15), .val (.ref s41), .unset] at_151 rfl rfl ?_
  refine Wl.iload_n 154 at_153 rfl ?_
  refine Wl.bipush 156 (6 : Int32) at_154 (by decide) ?_
  refine Wl.iadd 157 at_156 ?_
  show WlO _ _ _ _ _ _ _ _ _ _ _ _ _ _ _ _ _ _ [.int (9 : Int32)]
  refine Wl.iconst 158 (1 : Int32) at_157 (by decide) ?_
  refine Wl.iadd 159 at_158 ?_
  show WlO _ _ _ _ _ _ _ _ _ _ _ _ _ _ _ _ _ _ [.int (10 : Int32)]
  refine Wl.iload 161 at_159 rfl ?_
  refine Wl.iadd 162 at_161 ?_
  show WlO _ _ _ _ _ _ _ _ _ _ _ _ _ _ _ _ _ _ [.int (13 : Int32)]
  refine Wl.iconst 163 (1 : Int32) at_162 (by decide) ?_
  refine Wl.iadd 164 at_163 ?_
  show WlO _ _ _ _ _ _ _ _ _ _ _ _ _ _ _ _ _ _ [.int (14 : Int32)]
  refine Wl.istore 166 #[.val (.int i0), .val (.int i1), .val (.int i2), .val (.int (3 : Int32)), .val (.int (3 : Int32)), .val (.ref xp), .val (.ref yn), .val (.ref a4), .val (.ref a11), .val (.ref a15), .val (.ref s41), .val (.int (14 : Int32))] at_164 rfl ?_
  refine Wl.aload 168 at_166 rfl rfl ?_
  refine Wl.ifnullN 171 at_168 ?_
  refine Wl.aload 173 at_171 rfl rfl ?_
  refine Wl.virtual 176 (argsL := []) at_173 (w226 hw) (w67 hw) (w69 hw) (w68 hw) (w10 hw) (w70 hw) (nf_sel (w69 hw) rfl) (S43).exa (show parseMethodDescriptor "()I" = some ⟨[], some .int⟩ by decide +kernel) rfl (len_met hw hcs S43) (fun _ q => nomatch q) rfl rfl rfl (by decide) ⟨⟨nle rfl, nle rfl⟩, nle rfl, nle rfl⟩ ?_
  intro v46 h47 hq48 _
  obtain ⟨rfl, rfl⟩ := hq48
  show WlO _ _ _ _ _ _ _ _ _ _ _ _ _ _ _ _ _ _ [.int (14 : Int32)]
  refine Wl.iload 178 at_176 rfl ?_
  refine Wl.icmpY 183 at_178 (teq (by decide)).1 ?_
  refine Wl.aload 185 at_183 rfl rfl ?_
  refine Wl.iconst 186 (0 : Int32) at_185 (by decide) ?_
  refine Wl.iload 188 at_186 rfl ?_
  refine Wl.aload 190 at_188 rfl rfl ?_
  refine Wl.iload_n 191 at_190 rfl ?_
  refine Wl.aload 193 at_191 rfl rfl ?_
  refine Wl.iload 195 at_193 rfl ?_
  refine Wl.static 198 (argsL := [.ref s41, .int (0 : Int32), .int (14 : Int32), .ref xp, .int (3 : Int32), .ref yn, .int (3 : Int32)]) at_195 (w227 hw) (w228 hw) (w3 hw) (w229 hw) (show parseMethodDescriptor "(Ljava/lang/String;II[CI[CI)Z" = some ⟨[(.object "java/lang/String"), .int, .int, (.array .char), .int, (.array .char), .int], some .boolean⟩ by decide +kernel) rfl (atP_met hw hcs hfm (rs := [p0, p1, p2, (113 : Int32), (117 : Int32), (101 : Int32), (117 : Int32), (101 : Int32), (58 : Int32), (123 : Int32), n0, n1, n2, (125 : Int32)]) (ps := [p0, p1, p2]) (ns := [n0, n1, n2, n3]) (n := 0) S43 (nle rfl) (by decide) (A.ext B44) (B.ext B44) (nle rfl) (nle rfl) (latC lp0 (latC lp1 (latC lp2 latN))) (latC ln0 (latC ln1 (latC ln2 (latC ln3 latN)))) (by decide) (nle rfl) rfl) (fun _ q => nomatch q) rfl rfl rfl (by decide) ⟨⟨nle rfl, nle rfl⟩, nle rfl, nle rfl⟩ ?_
  intro v49 h50 hq51 _
  obtain ⟨rfl, rfl⟩ := hq51
  show WlO _ _ _ _ _ _ _ _ _ _ _ _ _ _ _ _ _ _ [.int (1 : Int32)]
  refine Wl.ifN 201 at_198 (feq (by decide)).1 ?_
  refine Wl.aload 203 at_201 rfl rfl ?_
  refine Wl.iconst 204 (1 : Int32) at_203 (by decide) ?_
  refine Wl.iload 206 at_204 rfl ?_
  refine Wl.aload 208 at_206 rfl rfl ?_
  refine Wl.iload_n 209 at_208 rfl ?_
  refine Wl.aload 211 at_209 rfl rfl ?_
  refine Wl.iload 213 at_211 rfl ?_
  refine Wl.static 216 (argsL := [.ref s41, .int (1 : Int32), .int (14 : Int32), .ref xp, .int (3 : Int32), .ref yn, .int (3 : Int32)]) at_213 (w227 hw) (w228 hw) (w3 hw) (w229 hw) (show parseMethodDescriptor "(Ljava/lang/String;II[CI[CI)Z" = some ⟨[(.object "java/lang/String"), .int, .int, (.array .char), .int, (.array .char), .int], some .boolean⟩ by decide +kernel) rfl (atP_met hw hcs hfm (rs := [p0, p1, p2, (113 : Int32), (117 : Int32), (101 : Int32), (117 : Int32), (101 : Int32), (58 : Int32), (123 : Int32), n0, n1, n2, (125 : Int32)]) (ps := [p0, p1, p2]) (ns := [n0, n1, n2, n3]) (n := 1) S43 (nle rfl) (by decide) (A.ext B44) (B.ext B44) (nle rfl) (nle rfl) (latC lp0 (latC lp1 (latC lp2 latN))) (latC ln0 (latC ln1 (latC ln2 (latC ln3 latN)))) (by decide) (nle rfl) rfl) (fun _ q => nomatch q) rfl rfl rfl (by decide) ⟨⟨nle rfl, nle rfl⟩, nle rfl, nle rfl⟩ ?_
  intro v52 h53 hq54 _
  obtain ⟨rfl, rfl⟩ := hq54
  show WlO _ _ _ _ _ _ _ _ _ _ _ _ _ _ _ _ _ _ [.int (1 : Int32)]
  refine Wl.ifN 219 at_216 (feq (by decide)).1 ?_
  refine Wl.aload 221 at_219 rfl rfl ?_
  refine Wl.iconst 222 (2 : Int32) at_221 (by decide) ?_
  refine Wl.iload 224 at_222 rfl ?_
  refine Wl.aload 226 at_224 rfl rfl ?_
  refine Wl.iload_n 227 at_226 rfl ?_
  refine Wl.aload 229 at_227 rfl rfl ?_
  refine Wl.iload 231 at_229 rfl ?_
  refine Wl.static 234 (argsL := [.ref s41, .int (2 : Int32), .int (14 : Int32), .ref xp, .int (3 : Int32), .ref yn, .int (3 : Int32)]) at_231 (w227 hw) (w228 hw) (w3 hw) (w229 hw) (show parseMethodDescriptor "(Ljava/lang/String;II[CI[CI)Z" = some ⟨[(.object "java/lang/String"), .int, .int, (.array .char), .int, (.array .char), .int], some .boolean⟩ by decide +kernel) rfl (atP_met hw hcs hfm (rs := [p0, p1, p2, (113 : Int32), (117 : Int32), (101 : Int32), (117 : Int32), (101 : Int32), (58 : Int32), (123 : Int32), n0, n1, n2, (125 : Int32)]) (ps := [p0, p1, p2]) (ns := [n0, n1, n2, n3]) (n := 2) S43 (nle rfl) (by decide) (A.ext B44) (B.ext B44) (nle rfl) (nle rfl) (latC lp0 (latC lp1 (latC lp2 latN))) (latC ln0 (latC ln1 (latC ln2 (latC ln3 latN)))) (by decide) (nle rfl) rfl) (fun _ q => nomatch q) rfl rfl rfl (by decide) ⟨⟨nle rfl, nle rfl⟩, nle rfl, nle rfl⟩ ?_
  intro v55 h56 hq57 _
  obtain ⟨rfl, rfl⟩ := hq57
  show WlO _ _ _ _ _ _ _ _ _ _ _ _ _ _ _ _ _ _ [.int (1 : Int32)]
  refine Wl.ifN 237 at_234 (feq (by decide)).1 ?_
  refine Wl.aload 239 at_237 rfl rfl ?_
  refine Wl.iconst 240 (3 : Int32) at_239 (by decide) ?_
  refine Wl.iload 242 at_240 rfl ?_
  refine Wl.aload 244 at_242 rfl rfl ?_
  refine Wl.iload_n 245 at_244 rfl ?_
  refine Wl.aload 247 at_245 rfl rfl ?_
  refine Wl.iload 249 at_247 rfl ?_
  refine Wl.static 252 (argsL := [.ref s41, .int (3 : Int32), .int (14 : Int32), .ref xp, .int (3 : Int32), .ref yn, .int (3 : Int32)]) at_249 (w227 hw) (w228 hw) (w3 hw) (w229 hw) (show parseMethodDescriptor "(Ljava/lang/String;II[CI[CI)Z" = some ⟨[(.object "java/lang/String"), .int, .int, (.array .char), .int, (.array .char), .int], some .boolean⟩ by decide +kernel) rfl (atA_met hw hcs hfm (rs := [p0, p1, p2, (113 : Int32), (117 : Int32), (101 : Int32), (117 : Int32), (101 : Int32), (58 : Int32), (123 : Int32), n0, n1, n2, (125 : Int32)]) (ps := [p0, p1, p2]) (ns := [n0, n1, n2, n3]) (n := 3) (j := 0) S43 (nle rfl) (by decide) (A.ext B44) (B.ext B44) (nle rfl) (nle rfl) (latC lp0 (latC lp1 (latC lp2 latN))) (latC ln0 (latC ln1 (latC ln2 (latC ln3 latN)))) (by decide) (by decide) (by decide) (nle rfl) rfl) (fun _ q => nomatch q) rfl rfl rfl (by decide) ⟨⟨nle rfl, nle rfl⟩, nle rfl, nle rfl⟩ ?_
  intro v58 h59 hq60 _
  obtain ⟨rfl, E61⟩ := hq60
  have B62 : Ext h h59 := extTr B44 E61
  have B63 : Ext h9 h59 := extTr B45 E61
  show WlO _ _ _ _ _ _ _ _ _ _ _ _ _ _ _ _ _ _ [.int (1 : Int32)]
  refine Wl.ifN 255 at_252 (feq (by decide)).1 ?_
  refine Wl.aload 257 at_255 rfl rfl ?_
  refine Wl.iconst 258 (4 : Int32) at_257 (by decide) ?_
  refine Wl.iload 260 at_258 rfl ?_
  refine Wl.aload 262 at_260 rfl rfl ?_
  refine Wl.iload_n 263 at_262 rfl ?_
  refine Wl.aload 265 at_263 rfl rfl ?_
  refine Wl.iload 267 at_265 rfl ?_
  refine Wl.static 270 (argsL := [.ref s41, .int (4 : Int32), .int (14 : Int32), .ref xp, .int (3 : Int32), .ref yn, .int (3 : Int32)]) at_267 (w227 hw) (w228 hw) (w3 hw) (w229 hw) (show parseMethodDescriptor "(Ljava/lang/String;II[CI[CI)Z" = some ⟨[(.object "java/lang/String"), .int, .int, (.array .char), .int, (.array .char), .int], some .boolean⟩ by decide +kernel) rfl (atA_met hw hcs hfm (rs := [p0, p1, p2, (113 : Int32), (117 : Int32), (101 : Int32), (117 : Int32), (101 : Int32), (58 : Int32), (123 : Int32), n0, n1, n2, (125 : Int32)]) (ps := [p0, p1, p2]) (ns := [n0, n1, n2, n3]) (n := 4) (j := 1) (S43.ext E61) (nle rfl) (by decide) (A.ext B62) (B.ext B62) (nle rfl) (nle rfl) (latC lp0 (latC lp1 (latC lp2 latN))) (latC ln0 (latC ln1 (latC ln2 (latC ln3 latN)))) (by decide) (by decide) (by decide) (nle rfl) rfl) (fun _ q => nomatch q) rfl rfl rfl (by decide) ⟨⟨nle rfl, nle rfl⟩, nle rfl, nle rfl⟩ ?_
  intro v64 h65 hq66 _
  obtain ⟨rfl, E67⟩ := hq66
  have B68 : Ext h h65 := extTr B62 E67
  have B69 : Ext h9 h65 := extTr B63 E67
  show WlO _ _ _ _ _ _ _ _ _ _ _ _ _ _ _ _ _ _ [.int (1 : Int32)]
  refine Wl.ifN 273 at_270 (feq (by decide)).1 ?_
  refine Wl.aload 275 at_273 rfl rfl ?_
  refine Wl.iconst 276 (5 : Int32) at_275 (by decide) ?_
  refine Wl.iload 278 at_276 rfl ?_
  refine Wl.aload 280 at_278 rfl rfl ?_
  refine Wl.iload_n 281 at_280 rfl ?_
  refine Wl.aload 283 at_281 rfl rfl ?_
  refine Wl.iload 285 at_283 rfl ?_
  refine Wl.static 288 (argsL := [.ref s41, .int (5 : Int32), .int (14 : Int32), .ref xp, .int (3 : Int32), .ref yn, .int (3 : Int32)]) at_285 (w227 hw) (w228 hw) (w3 hw) (w229 hw) (show parseMethodDescriptor "(Ljava/lang/String;II[CI[CI)Z" = some ⟨[(.object "java/lang/String"), .int, .int, (.array .char), .int, (.array .char), .int], some .boolean⟩ by decide +kernel) rfl (atA_met hw hcs hfm (rs := [p0, p1, p2, (113 : Int32), (117 : Int32), (101 : Int32), (117 : Int32), (101 : Int32), (58 : Int32), (123 : Int32), n0, n1, n2, (125 : Int32)]) (ps := [p0, p1, p2]) (ns := [n0, n1, n2, n3]) (n := 5) (j := 2) ((S43.ext E61).ext E67) (nle rfl) (by decide) (A.ext B68) (B.ext B68) (nle rfl) (nle rfl) (latC lp0 (latC lp1 (latC lp2 latN))) (latC ln0 (latC ln1 (latC ln2 (latC ln3 latN)))) (by decide) (by decide) (by decide) (nle rfl) rfl) (fun _ q => nomatch q) rfl rfl rfl (by decide) ⟨⟨nle rfl, nle rfl⟩, nle rfl, nle rfl⟩ ?_
  intro v70 h71 hq72 _
  obtain ⟨rfl, E73⟩ := hq72
  have B74 : Ext h h71 := extTr B68 E73
  have B75 : Ext h9 h71 := extTr B69 E73
  show WlO _ _ _ _ _ _ _ _ _ _ _ _ _ _ _ _ _ _ [.int (1 : Int32)]
  refine Wl.ifN 291 at_288 (feq (by decide)).1 ?_
  refine Wl.aload 293 at_291 rfl rfl ?_
  refine Wl.bipush 295 (6 : Int32) at_293 (by decide) ?_
  refine Wl.iload 297 at_295 rfl ?_
  refine Wl.aload 299 at_297 rfl rfl ?_
  refine Wl.iload_n 300 at_299 rfl ?_
  refine Wl.aload 302 at_300 rfl rfl ?_
  refine Wl.iload 304 at_302 rfl ?_
  refine Wl.static 307 (argsL := [.ref s41, .int (6 : Int32), .int (14 : Int32), .ref xp, .int (3 : Int32), .ref yn, .int (3 : Int32)]) at_304 (w227 hw) (w228 hw) (w3 hw) (w229 hw) (show parseMethodDescriptor "(Ljava/lang/String;II[CI[CI)Z" = some ⟨[(.object "java/lang/String"), .int, .int, (.array .char), .int, (.array .char), .int], some .boolean⟩ by decide +kernel) rfl (atA_met hw hcs hfm (rs := [p0, p1, p2, (113 : Int32), (117 : Int32), (101 : Int32), (117 : Int32), (101 : Int32), (58 : Int32), (123 : Int32), n0, n1, n2, (125 : Int32)]) (ps := [p0, p1, p2]) (ns := [n0, n1, n2, n3]) (n := 6) (j := 3) (((S43.ext E61).ext E67).ext E73) (nle rfl) (by decide) (A.ext B74) (B.ext B74) (nle rfl) (nle rfl) (latC lp0 (latC lp1 (latC lp2 latN))) (latC ln0 (latC ln1 (latC ln2 (latC ln3 latN)))) (by decide) (by decide) (by decide) (nle rfl) rfl) (fun _ q => nomatch q) rfl rfl rfl (by decide) ⟨⟨nle rfl, nle rfl⟩, nle rfl, nle rfl⟩ ?_
  intro v76 h77 hq78 _
  obtain ⟨rfl, E79⟩ := hq78
  have B80 : Ext h h77 := extTr B74 E79
  have B81 : Ext h9 h77 := extTr B75 E79
  show WlO _ _ _ _ _ _ _ _ _ _ _ _ _ _ _ _ _ _ [.int (1 : Int32)]
  refine Wl.ifN 310 at_307 (feq (by decide)).1 ?_
  refine Wl.aload 312 at_310 rfl rfl ?_
  refine Wl.bipush 314 (7 : Int32) at_312 (by decide) ?_
  refine Wl.iload 316 at_314 rfl ?_
  refine Wl.aload 318 at_316 rfl rfl ?_
  refine Wl.iload_n 319 at_318 rfl ?_
  refine Wl.aload 321 at_319 rfl rfl ?_
  refine Wl.iload 323 at_321 rfl ?_
  refine Wl.static 326 (argsL := [.ref s41, .int (7 : Int32), .int (14 : Int32), .ref xp, .int (3 : Int32), .ref yn, .int (3 : Int32)]) at_323 (w227 hw) (w228 hw) (w3 hw) (w229 hw) (show parseMethodDescriptor "(Ljava/lang/String;II[CI[CI)Z" = some ⟨[(.object "java/lang/String"), .int, .int, (.array .char), .int, (.array .char), .int], some .boolean⟩ by decide +kernel) rfl (atA_met hw hcs hfm (rs := [p0, p1, p2, (113 : Int32), (117 : Int32), (101 : Int32), (117 : Int32), (101 : Int32), (58 : Int32), (123 : Int32), n0, n1, n2, (125 : Int32)]) (ps := [p0, p1, p2]) (ns := [n0, n1, n2, n3]) (n := 7) (j := 4) ((((S43.ext E61).ext E67).ext E73).ext E79) (nle rfl) (by decide) (A.ext B80) (B.ext B80) (nle rfl) (nle rfl) (latC lp0 (latC lp1 (latC lp2 latN))) (latC ln0 (latC ln1 (latC ln2 (latC ln3 latN)))) (by decide) (by decide) (by decide) (nle rfl) rfl) (fun _ q => nomatch q) rfl rfl rfl (by decide) ⟨⟨nle rfl, nle rfl⟩, nle rfl, nle rfl⟩ ?_
  intro v82 h83 hq84 _
  obtain ⟨rfl, E85⟩ := hq84
  have B86 : Ext h h83 := extTr B80 E85
  have B87 : Ext h9 h83 := extTr B81 E85
  show WlO _ _ _ _ _ _ _ _ _ _ _ _ _ _ _ _ _ _ [.int (1 : Int32)]
  refine Wl.ifN 329 at_326 (feq (by decide)).1 ?_
  refine Wl.aload 331 at_329 rfl rfl ?_
  refine Wl.bipush 333 (8 : Int32) at_331 (by decide) ?_
  refine Wl.iload 335 at_333 rfl ?_
  refine Wl.aload 337 at_335 rfl rfl ?_
  refine Wl.iload_n 338 at_337 rfl ?_
  refine Wl.aload 340 at_338 rfl rfl ?_
  refine Wl.iload 342 at_340 rfl ?_
  refine Wl.static 345 (argsL := [.ref s41, .int (8 : Int32), .int (14 : Int32), .ref xp, .int (3 : Int32), .ref yn, .int (3 : Int32)]) at_342 (w227 hw) (w228 hw) (w3 hw) (w229 hw) (show parseMethodDescriptor "(Ljava/lang/String;II[CI[CI)Z" = some ⟨[(.object "java/lang/String"), .int, .int, (.array .char), .int, (.array .char), .int], some .boolean⟩ by decide +kernel) rfl (atA_met hw hcs hfm (rs := [p0, p1, p2, (113 : Int32), (117 : Int32), (101 : Int32), (117 : Int32), (101 : Int32), (58 : Int32), (123 : Int32), n0, n1, n2, (125 : Int32)]) (ps := [p0, p1, p2]) (ns := [n0, n1, n2, n3]) (n := 8) (j := 5) (((((S43.ext E61).ext E67).ext E73).ext E79).ext E85) (nle rfl) (by decide) (A.ext B86) (B.ext B86) (nle rfl) (nle rfl) (latC lp0 (latC lp1 (latC lp2 latN))) (latC ln0 (latC ln1 (latC ln2 (latC ln3 latN)))) (by decide) (by decide) (by decide) (nle rfl) rfl) (fun _ q => nomatch q) rfl rfl rfl (by decide) ⟨⟨nle rfl, nle rfl⟩, nle rfl, nle rfl⟩ ?_
  intro v88 h89 hq90 _
  obtain ⟨rfl, E91⟩ := hq90
  have B92 : Ext h h89 := extTr B86 E91
  have B93 : Ext h9 h89 := extTr B87 E91
  show WlO _ _ _ _ _ _ _ _ _ _ _ _ _ _ _ _ _ _ [.int (1 : Int32)]
  refine Wl.ifN 348 at_345 (feq (by decide)).1 ?_
  refine Wl.aload 350 at_348 rfl rfl ?_
  refine Wl.bipush 352 (9 : Int32) at_350 (by decide) ?_
  refine Wl.iload 354 at_352 rfl ?_
  refine Wl.aload 356 at_354 rfl rfl ?_
  refine Wl.iload_n 357 at_356 rfl ?_
  refine Wl.aload 359 at_357 rfl rfl ?_
  refine Wl.iload 361 at_359 rfl ?_
  refine Wl.static 364 (argsL := [.ref s41, .int (9 : Int32), .int (14 : Int32), .ref xp, .int (3 : Int32), .ref yn, .int (3 : Int32)]) at_361 (w227 hw) (w228 hw) (w3 hw) (w229 hw) (show parseMethodDescriptor "(Ljava/lang/String;II[CI[CI)Z" = some ⟨[(.object "java/lang/String"), .int, .int, (.array .char), .int, (.array .char), .int], some .boolean⟩ by decide +kernel) rfl (atO_met hw hcs hfm (rs := [p0, p1, p2, (113 : Int32), (117 : Int32), (101 : Int32), (117 : Int32), (101 : Int32), (58 : Int32), (123 : Int32), n0, n1, n2, (125 : Int32)]) (ps := [p0, p1, p2]) (ns := [n0, n1, n2, n3]) (n := 9) ((((((S43.ext E61).ext E67).ext E73).ext E79).ext E85).ext E91) (nle rfl) (by decide) (A.ext B92) (B.ext B92) (nle rfl) (nle rfl) (latC lp0 (latC lp1 (latC lp2 latN))) (latC ln0 (latC ln1 (latC ln2 (latC ln3 latN)))) (by decide) (by decide) (by decide) rfl) (fun _ q => nomatch q) rfl rfl rfl (by decide) ⟨⟨nle rfl, nle rfl⟩, nle rfl, nle rfl⟩ ?_
  intro v94 h95 hq96 _
  obtain ⟨rfl, rfl⟩ := hq96
  show WlO _ _ _ _ _ _ _ _ _ _ _ _ _ _ _ _ _ _ [.int (1 : Int32)]
  refine Wl.ifN 367 at_364 (feq (by decide)).1 ?_
  refine Wl.aload 369 at_367 rfl rfl ?_
  refine Wl.bipush 371 (10 : Int32) at_369 (by decide) ?_
  refine Wl.iload 373 at_371 rfl ?_
  refine Wl.aload 375 at_373 rfl rfl ?_
  refine Wl.iload_n 376 at_375 rfl ?_
  refine Wl.aload 378 at_376 rfl rfl ?_
  refine Wl.iload 380 at_378 rfl ?_
  refine Wl.static 383 (argsL := [.ref s41, .int (10 : Int32), .int (14 : Int32), .ref xp, .int (3 : Int32), .ref yn, .int (3 : Int32)]) at_380 (w227 hw) (w228 hw) (w3 hw) (w229 hw) (show parseMethodDescriptor "(Ljava/lang/String;II[CI[CI)Z" = some ⟨[(.object "java/lang/String"), .int, .int, (.array .char), .int, (.array .char), .int], some .boolean⟩ by decide +kernel) rfl (atN_met hw hcs hfm (rs := [p0, p1, p2, (113 : Int32), (117 : Int32), (101 : Int32), (117 : Int32), (101 : Int32), (58 : Int32), (123 : Int32), n0, n1, n2, (125 : Int32)]) (ps := [p0, p1, p2]) (ns := [n0, n1, n2, n3]) (n := 10) (m := 0) ((((((S43.ext E61).ext E67).ext E73).ext E79).ext E85).ext E91) (nle rfl) (by decide) (A.ext B92) (B.ext B92) (nle rfl) (nle rfl) (latC lp0 (latC lp1 (latC lp2 latN))) (latC ln0 (latC ln1 (latC ln2 (latC ln3 latN)))) (by decide) (by decide) (by decide) (by decide) (by decide) (nle rfl) rfl) (fun _ q => nomatch q) rfl rfl rfl (by decide) ⟨⟨nle rfl, nle rfl⟩, nle rfl, nle rfl⟩ ?_
  intro v97 h98 hq99 _
  obtain ⟨rfl, rfl⟩ := hq99
  show WlO _ _ _ _ _ _ _ _ _ _ _ _ _ _ _ _ _ _ [.int (1 : Int32)]
  refine Wl.ifN 386 at_383 (feq (by decide)).1 ?_
  refine Wl.aload 388 at_386 rfl rfl ?_
  refine Wl.bipush 390 (11 : Int32) at_388 (by decide) ?_
  refine Wl.iload 392 at_390 rfl ?_
  refine Wl.aload 394 at_392 rfl rfl ?_
  refine Wl.iload_n 395 at_394 rfl ?_
  refine Wl.aload 397 at_395 rfl rfl ?_
  refine Wl.iload 399 at_397 rfl ?_
  refine Wl.static 402 (argsL := [.ref s41, .int (11 : Int32), .int (14 : Int32), .ref xp, .int (3 : Int32), .ref yn, .int (3 : Int32)]) at_399 (w227 hw) (w228 hw) (w3 hw) (w229 hw) (show parseMethodDescriptor "(Ljava/lang/String;II[CI[CI)Z" = some ⟨[(.object "java/lang/String"), .int, .int, (.array .char), .int, (.array .char), .int], some .boolean⟩ by decide +kernel) rfl (atN_met hw hcs hfm (rs := [p0, p1, p2, (113 : Int32), (117 : Int32), (101 : Int32), (117 : Int32), (101 : Int32), (58 : Int32), (123 : Int32), n0, n1, n2, (125 : Int32)]) (ps := [p0, p1, p2]) (ns := [n0, n1, n2, n3]) (n := 11) (m := 1) ((((((S43.ext E61).ext E67).ext E73).ext E79).ext E85).ext E91) (nle rfl) (by decide) (A.ext B92) (B.ext B92) (nle rfl) (nle rfl) (latC lp0 (latC lp1 (latC lp2 latN))) (latC ln0 (latC ln1 (latC ln2 (latC ln3 latN)))) (by decide) (by decide) (by decide) (by decide) (by decide) (nle rfl) rfl) (fun _ q => nomatch q) rfl rfl rfl (by decide) ⟨⟨nle rfl, nle rfl⟩, nle rfl, nle rfl⟩ ?_
  intro v100 h101 hq102 _
  obtain ⟨rfl, rfl⟩ := hq102
  show WlO _ _ _ _ _ _ _ _ _ _ _ _ _ _ _ _ _ _ [.int (1 : Int32)]
  refine Wl.ifN 405 at_402 (feq (by decide)).1 ?_
  refine Wl.aload 407 at_405 rfl rfl ?_
  refine Wl.bipush 409 (12 : Int32) at_407 (by decide) ?_
  refine Wl.iload 411 at_409 rfl ?_
  refine Wl.aload 413 at_411 rfl rfl ?_
  refine Wl.iload_n 414 at_413 rfl ?_
  refine Wl.aload 416 at_414 rfl rfl ?_
  refine Wl.iload 418 at_416 rfl ?_
  refine Wl.static 421 (argsL := [.ref s41, .int (12 : Int32), .int (14 : Int32), .ref xp, .int (3 : Int32), .ref yn, .int (3 : Int32)]) at_418 (w227 hw) (w228 hw) (w3 hw) (w229 hw) (show parseMethodDescriptor "(Ljava/lang/String;II[CI[CI)Z" = some ⟨[(.object "java/lang/String"), .int, .int, (.array .char), .int, (.array .char), .int], some .boolean⟩ by decide +kernel) rfl (atN_met hw hcs hfm (rs := [p0, p1, p2, (113 : Int32), (117 : Int32), (101 : Int32), (117 : Int32), (101 : Int32), (58 : Int32), (123 : Int32), n0, n1, n2, (125 : Int32)]) (ps := [p0, p1, p2]) (ns := [n0, n1, n2, n3]) (n := 12) (m := 2) ((((((S43.ext E61).ext E67).ext E73).ext E79).ext E85).ext E91) (nle rfl) (by decide) (A.ext B92) (B.ext B92) (nle rfl) (nle rfl) (latC lp0 (latC lp1 (latC lp2 latN))) (latC ln0 (latC ln1 (latC ln2 (latC ln3 latN)))) (by decide) (by decide) (by decide) (by decide) (by decide) (nle rfl) rfl) (fun _ q => nomatch q) rfl rfl rfl (by decide) ⟨⟨nle rfl, nle rfl⟩, nle rfl, nle rfl⟩ ?_
  intro v103 h104 hq105 _
  obtain ⟨rfl, rfl⟩ := hq105
  show WlO _ _ _ _ _ _ _ _ _ _ _ _ _ _ _ _ _ _ [.int (1 : Int32)]
  refine Wl.ifN 424 at_421 (feq (by decide)).1 ?_
  refine Wl.aload 426 at_424 rfl rfl ?_
  refine Wl.bipush 428 (13 : Int32) at_426 (by decide) ?_
  refine Wl.iload 430 at_428 rfl ?_
  refine Wl.aload 432 at_430 rfl rfl ?_
  refine Wl.iload_n 433 at_432 rfl ?_
  refine Wl.aload 435 at_433 rfl rfl ?_
  refine Wl.iload 437 at_435 rfl ?_
  refine Wl.static 440 (argsL := [.ref s41, .int (13 : Int32), .int (14 : Int32), .ref xp, .int (3 : Int32), .ref yn, .int (3 : Int32)]) at_437 (w227 hw) (w228 hw) (w3 hw) (w229 hw) (show parseMethodDescriptor "(Ljava/lang/String;II[CI[CI)Z" = some ⟨[(.object "java/lang/String"), .int, .int, (.array .char), .int, (.array .char), .int], some .boolean⟩ by decide +kernel) rfl (atE_met hw hcs hfm (rs := [p0, p1, p2, (113 : Int32), (117 : Int32), (101 : Int32), (117 : Int32), (101 : Int32), (58 : Int32), (123 : Int32), n0, n1, n2, (125 : Int32)]) (ps := [p0, p1, p2]) (ns := [n0, n1, n2, n3]) (n := 13) ((((((S43.ext E61).ext E67).ext E73).ext E79).ext E85).ext E91) (nle rfl) (by decide) (A.ext B92) (B.ext B92) (nle rfl) (nle rfl) (latC lp0 (latC lp1 (latC lp2 latN))) (latC ln0 (latC ln1 (latC ln2 (latC ln3 latN)))) (by decide) (by decide) (by decide) (by decide) rfl) (fun _ q => nomatch q) rfl rfl rfl (by decide) ⟨⟨nle rfl, nle rfl⟩, nle rfl, nle rfl⟩ ?_
  intro v106 h107 hq108 _
  obtain ⟨rfl, rfl⟩ := hq108
  show WlO _ _ _ _ _ _ _ _ _ _ _ _ _ _ _ _ _ _ [.int (1 : Int32)]
  refine Wl.ifN 443 at_440 (feq (by decide)).1 ?_
  refine Wl.aload 445 at_443 rfl rfl ?_
  refine Wl.bipush 447 (14 : Int32) at_445 (by decide) ?_
  refine Wl.iload 449 at_447 rfl ?_
  refine Wl.aload 451 at_449 rfl rfl ?_
  refine Wl.iload_n 452 at_451 rfl ?_
  refine Wl.aload 454 at_452 rfl rfl ?_
  refine Wl.iload 456 at_454 rfl ?_
  refine Wl.static 459 (argsL := [.ref s41, .int (14 : Int32), .int (14 : Int32), .ref xp, .int (3 : Int32), .ref yn, .int (3 : Int32)]) at_456 (w227 hw) (w228 hw) (w3 hw) (w229 hw) (show parseMethodDescriptor "(Ljava/lang/String;II[CI[CI)Z" = some ⟨[(.object "java/lang/String"), .int, .int, (.array .char), .int, (.array .char), .int], some .boolean⟩ by decide +kernel) rfl (atC_met hw (by decide)) (fun _ q => nomatch q) rfl rfl rfl (by decide) ⟨⟨nle rfl, nle rfl⟩, nle rfl, nle rfl⟩ ?_
  intro v109 h110 hq111 _
  obtain ⟨rfl, rfl⟩ := hq111
  show WlO _ _ _ _ _ _ _ _ _ _ _ _ _ _ _ _ _ _ [.int (1 : Int32)]
  refine Wl.ifN 462 at_459 (feq (by decide)).1 ?_
  refine Wl.iconst 463 (1 : Int32) at_462 (by decide) ?_
  refine Wl.goto 467 at_463 ?_
  exact Wl.ireturn at_467 rfl rfl (by simp) (nle rfl) (nle rfl) rfl
set_option maxRecDepth 65536 in
set_option maxHeartbeats 40000000 in
theorem law_t34 {l : Launch} {Z : State} {a0 : Array Value} (hw : ∀ d ∈ tables_1, d.before a0 Z = true) (hcs : CSon Z) (hfm : Fmt Z) {as : Array Value} {h : Heap} {i0 i1 i2 p0 p1 p2 n0 n1 n2 n3 : Int32} {xp yn : Addr} {kx ky : ClassId} (A : Arv Z h xp kx .char (3 : Int32) [.int p0, .int p1, .int p2] (.int 0)) (B : Arv Z h yn ky .char (4 : Int32) [.int n0, .int n1, .int n2, .int n3] (.int 0)) (lp0 : Lat p0) (lp1 : Lat p1) (lp2 : Lat p2) (ln0 : Lat n0) (ln1 : Lat n1) (ln2 : Lat n2) (ln3 : Lat n3) (p0123 : p0 ≠ 123) (p0125 : p0 ≠ 125) (p1123 : p1 ≠ 123) (p1125 : p1 ≠ 125) (p2123 : p2 ≠ 123) (p2125 : p2 ≠ 125) (hn0 : ¬ n0 = (125 : Int32)) :
    Wl l Z a0 consts_1 x code maxLocals ret room_1 as (fun v h' => v = some (.int 1)) [] h 2 7 116 #[.val (.int i0), .val (.int i1), .val (.int i2), .val (.int (3 : Int32)), .val (.int (4 : Int32)), .val (.ref xp), .val (.ref yn), .unset, .unset, .unset, .unset, .unset] [] := by
  refine Wl.aload 118 at_116 rfl rfl ?_
  refine Wl.iload_n 119 at_118 rfl ?_
  refine Wl.static 122 (argsL := [.ref xp, .int (3 : Int32)]) at_119 (w5 hw) (w6 hw) (w3 hw) (w7 hw) (show parseMethodDescriptor "([CI)Ljava/lang/String;" = some ⟨[(.array .char), .int], some (.object "java/lang/String")⟩ by decide +kernel) rfl (mk33_met hw hcs A lp0 lp1 lp2) (fun _ q => nomatch q) rfl rfl rfl (by decide) ⟨⟨nle rfl, nle rfl⟩, nle rfl, nle rfl⟩ ?_
  intro v1 h2 hq3 _
  obtain ⟨a4, rfl, E5, S6⟩ := hq3
  have B7 : Ext h h2 := E5
  show WlO _ _ _ _ _ _ _ _ _ _ _ _ _ _ _ _ _ _ [.ref a4]
  refine Wl.astore 124 #[.val (.int i0), .val (.int i1), .val (.int i2), .val (.int (3 : Int32)), .val (.int (4 : Int32)), .val (.ref xp), .val (.ref yn), .val (.ref a4), .unset, .unset, .unset, .unset] at_122 rfl rfl ?_
  refine Wl.aload 126 at_124 rfl rfl ?_
  refine Wl.iload 128 at_126 rfl ?_
  refine Wl.static 131 (argsL := [.ref yn, .int (4 : Int32)]) at_128 (w5 hw) (w6 hw) (w3 hw) (w7 hw) (show parseMethodDescriptor "([CI)Ljava/lang/String;" = some ⟨[(.array .char), .int], some (.object "java/lang/String")⟩ by decide +kernel) rfl (mk44_met hw hcs (B.ext E5) ln0 ln1 ln2 ln3) (fun _ q => nomatch q) rfl rfl rfl (by decide) ⟨⟨nle rfl, nle rfl⟩, nle rfl, nle rfl⟩ ?_
  intro v8 h9 hq10 _
  obtain ⟨a11, rfl, E12, S13⟩ := hq10
  have B14 : Ext h h9 := extTr B7 E12
  show WlO _ _ _ _ _ _ _ _ _ _ _ _ _ _ _ _ _ _ [.ref a11]
  refine Wl.astore 133 #[.val (.int i0), .val (.int i1), .val (.int i2), .val (.int (3 : Int32)), .val (.int (4 : Int32)), .val (.ref xp), .val (.ref yn), .val (.ref a4), .val (.ref a11), .unset, .unset, .unset] at_131 rfl rfl ?_
  refine Wl.new 136 at_133 (w37 hw) (w38 hw) (w39 hw) (nle rfl) (nle rfl) ?_
  intro a15 h16 q17 E18 X19 D20
  have z21 : h.size ≤ a15 := Nat.le_trans B14.1 (Nat.le_of_eq q17.symm)
  have z22 : h9.size ≤ a15 := Nat.le_of_eq q17.symm
  have ne23 : xp ≠ a15 := Nat.ne_of_lt (by rw [q17]; exact ((A.ext B14)).lt)
  have ne24 : yn ≠ a15 := Nat.ne_of_lt (by rw [q17]; exact ((B.ext B14)).lt)
  have ne25 : a4 ≠ a15 := Nat.ne_of_lt (by rw [q17]; exact (((S6).exa.ext E12)).lt)
  have ne26 : a11 ≠ a15 := Nat.ne_of_lt (by rw [q17]; exact ((S13).exa).lt)
  have B27 : Ext h h16 := extTr B14 E18
  have B28 : Ext h9 h16 := E18
  have F29 : Fld Z h16 a15 "com/example/portunus/portunus/LockKeys" "prefix" "Ljava/lang/String;" (.null) := D20 (Or.inr (w94 hw)) (ty := (.object "java/lang/String")) (by decide)
  refine Wl.dup 137 at_136 rfl ?_
  refine Wl.aload 139 at_137 rfl rfl ?_
  refine Wl.special 142 (argsL := [.ref a4]) at_139 (w40 hw) (w41 hw) (w39 hw) (w42 hw) (show parseMethodDescriptor "(Ljava/lang/String;)V" = some ⟨[(.object "java/lang/String")], none⟩ by decide +kernel) rfl (keys_met hw hcs X19 F29 (cs := [p0, p1, p2]) ((S6.ext E12).ext E18) (neC p0123 (neC p1123 (neC p2123 neN))) (neC p0125 (neC p1125 (neC p2125 neN)))) (allS (List.mem_of_getElem? (i := 0) rfl) (fun _ q => nomatch q)) rfl rfl rfl rfl (by decide) ⟨⟨nle rfl, nle rfl⟩, nle rfl, nle rfl⟩ ?_
  intro v30 h31 hq32 _
  obtain ⟨rfl, K33, X34, F35⟩ := hq32
  have B36 : Ext h h31 := extKeep B27 K33 (allS z21 all0)
  have B37 : Ext h9 h31 := extKeep B28 K33 (allS z22 all0)
  show WlO _ _ _ _ _ _ _ _ _ _ _ _ _ _ _ _ _ _ [.ref a15]
  refine Wl.astore 144 #[.val (.int i0), .val (.int i1), .val (.int i2), .val (.int (3 : Int32)), .val (.int (4 : Int32)), .val (.ref xp), .val (.ref yn), .val (.ref a4), .val (.ref a11), .val (.ref a15), .unset, .unset] at_142 rfl rfl ?_
  refine Wl.aload 146 at_144 rfl rfl ?_
  refine Wl.aload 148 at_146 rfl rfl ?_
  refine Wl.virtual 151 (argsL := [.ref a11]) at_148 (w95 hw) (w96 hw) (w98 hw) (w97 hw) (w39 hw) (w99 hw) (nf_sel (w98 hw) rfl) X34 (show parseMethodDescriptor "(Ljava/lang/String;)Ljava/lang/String;" = some ⟨[(.object "java/lang/String")], some (.object "java/lang/String")⟩ by decide +kernel) rfl (key_met hw hcs hfm (cs := [n0, n1, n2, n3]) (ps := [p0, p1, p2]) F35 ((S6.ext E12).ext B37) (nle rfl) (S13.ext B37) (by simp) (nle rfl) hn0 (nle rfl)) (fun _ q => nomatch q) rfl rfl rfl (by decide) ⟨⟨nle rfl, nle rfl⟩, nle rfl, nle rfl⟩ ?_
  intro v38 h39 hq40 _
  obtain ⟨s41, rfl, E42, S43⟩ := hq40
  have S43 : Stl Z h39 s41 [p0, p1, p2, (113 : Int32), (117 : Int32), (101 : Int32), (117 : Int32), (101 : Int32), (58 : Int32), (123 : Int32), n0, n1, n2, n3, (125 : Int32)] := S43
  have B44 : Ext h h39 := extTr B36 E42
  have B45 : Ext h9 h39 := extTr B37 E42
  show WlO _ _ _ _ _ _ _ _ _ _ _ _ _ _ _ _ _ _ [.ref s41]
  refine Wl.astore 153 #[.val (.int i0), .val (.int i1), .val (.int i2), .val (.int (3 : Int32)), .val (.int (4 : Int32)), .val (.ref xp), .val (.ref yn), .val (.ref a4), .val (.ref a11), .val (.ref a15), .val (.ref s41), .unset] at_151 rfl rfl ?_
  refine Wl.iload_n 154 at_153 rfl ?_
  refine Wl.bipush 156 (6 : Int32) at_154 (by decide) ?_
  refine Wl.iadd 157 at_156 ?_
  show WlO _ _ _ _ _ _ _ _ _ _ _ _ _ _ _ _ _ _ [.int (9 : Int32)]
  refine Wl.iconst 158 (1 : Int32) at_157 (by decide) ?_
  refine Wl.iadd 159 at_158 ?_
  show WlO _ _ _ _ _ _ _ _ _ _ _ _ _ _ _ _ _ _ [.int (10 : Int32)]
  refine Wl.iload 161 at_159 rfl ?_
  refine Wl.iadd 162 at_161 ?_
  show WlO _ _ _ _ _ _ _ _ _ _ _ _ _ _ _ _ _ _ [.int (14 : Int32)]
  refine Wl.iconst 163 (1 : Int32) at_162 (by decide) ?_
  refine Wl.iadd 164 at_163 ?_
  show WlO _ _ _ _ _ _ _ _ _ _ _ _ _ _ _ _ _ _ [.int (15 : Int32)]
  refine Wl.istore 166 #[.val (.int i0), .val (.int i1), .val (.int i2), .val (.int (3 : Int32)), .val (.int (4 : Int32)), .val (.ref xp), .val (.ref yn), .val (.ref a4), .val (.ref a11), .val (.ref a15), .val (.ref s41), .val (.int (15 : Int32))] at_164 rfl ?_
  refine Wl.aload 168 at_166 rfl rfl ?_
  refine Wl.ifnullN 171 at_168 ?_
  refine Wl.aload 173 at_171 rfl rfl ?_
  refine Wl.virtual 176 (argsL := []) at_173 (w226 hw) (w67 hw) (w69 hw) (w68 hw) (w10 hw) (w70 hw) (nf_sel (w69 hw) rfl) (S43).exa (show parseMethodDescriptor "()I" = some ⟨[], some .int⟩ by decide +kernel) rfl (len_met hw hcs S43) (fun _ q => nomatch q) rfl rfl rfl (by decide) ⟨⟨nle rfl, nle rfl⟩, nle rfl, nle rfl⟩ ?_
  intro v46 h47 hq48 _
  obtain ⟨rfl, rfl⟩ := hq48
  show WlO _ _ _ _ _ _ _ _ _ _ _ _ _ _ _ _ _ _ [.int (15 : Int32)]
  refine Wl.iload 178 at_176 rfl ?_
  refine Wl.icmpY 183 at_178 (teq (by decide)).1 ?_
  refine Wl.aload 185 at_183 rfl rfl ?_
  refine Wl.iconst 186 (0 : Int32) at_185 (by decide) ?_
  refine Wl.iload 188 at_186 rfl ?_
  refine Wl.aload 190 at_188 rfl rfl ?_
  refine Wl.iload_n 191 at_190 rfl ?_
  refine Wl.aload 193 at_191 rfl rfl ?_
  refine Wl.iload 195 at_193 rfl ?_
  refine Wl.static 198 (argsL := [.ref s41, .int (0 : Int32), .int (15 : Int32), .ref xp, .int (3 : Int32), .ref yn, .int (4 : Int32)]) at_195 (w227 hw) (w228 hw) (w3 hw) (w229 hw) (show parseMethodDescriptor "(Ljava/lang/String;II[CI[CI)Z" = some ⟨[(.object "java/lang/String"), .int, .int, (.array .char), .int, (.array .char), .int], some .boolean⟩ by decide +kernel) rfl (atP_met hw hcs hfm (rs := [p0, p1, p2, (113 : Int32), (117 : Int32), (101 : Int32), (117 : Int32), (101 : Int32), (58 : Int32), (123 : Int32), n0, n1, n2, n3, (125 : Int32)]) (ps := [p0, p1, p2]) (ns := [n0, n1, n2, n3]) (n := 0) S43 (nle rfl) (by decide) (A.ext B44) (B.ext B44) (nle rfl) (nle rfl) (latC lp0 (latC lp1 (latC lp2 latN))) (latC ln0 (latC ln1 (latC ln2 (latC ln3 latN)))) (by decide) (nle rfl) rfl) (fun _ q => nomatch q) rfl rfl rfl (by decide) ⟨⟨nle rfl, nle rfl⟩, nle rfl, nle rfl⟩ ?_
  intro v49 h50 hq51 _
  obtain ⟨rfl, rfl⟩ := hq51
  show WlO _ _ _ _ _ _ _ _ _ _ _ _ _ _ _ _ _ _ [.int (1 : Int32)]
  refine Wl.ifN 201 at_198 (feq (by decide)).1 ?_
  refine Wl.aload 203 at_201 rfl rfl ?_
  refine Wl.iconst 204 (1 : Int32) at_203 (by decide) ?_
  refine Wl.iload 206 at_204 rfl ?_
  refine Wl.aload 208 at_206 rfl rfl ?_
  refine Wl.iload_n 209 at_208 rfl ?_
  refine Wl.aload 211 at_209 rfl rfl ?_
  refine Wl.iload 213 at_211 rfl ?_
  refine Wl.static 216 (argsL := [.ref s41, .int (1 : Int32), .int (15 : Int32), .ref xp, .int (3 : Int32), .ref yn, .int (4 : Int32)]) at_213 (w227 hw) (w228 hw) (w3 hw) (w229 hw) (show parseMethodDescriptor "(Ljava/lang/String;II[CI[CI)Z" = some ⟨[(.object "java/lang/String"), .int, .int, (.array .char), .int, (.array .char), .int], some .boolean⟩ by decide +kernel) rfl (atP_met hw hcs hfm (rs := [p0, p1, p2, (113 : Int32), (117 : Int32), (101 : Int32), (117 : Int32), (101 : Int32), (58 : Int32), (123 : Int32), n0, n1, n2, n3, (125 : Int32)]) (ps := [p0, p1, p2]) (ns := [n0, n1, n2, n3]) (n := 1) S43 (nle rfl) (by decide) (A.ext B44) (B.ext B44) (nle rfl) (nle rfl) (latC lp0 (latC lp1 (latC lp2 latN))) (latC ln0 (latC ln1 (latC ln2 (latC ln3 latN)))) (by decide) (nle rfl) rfl) (fun _ q => nomatch q) rfl rfl rfl (by decide) ⟨⟨nle rfl, nle rfl⟩, nle rfl, nle rfl⟩ ?_
  intro v52 h53 hq54 _
  obtain ⟨rfl, rfl⟩ := hq54
  show WlO _ _ _ _ _ _ _ _ _ _ _ _ _ _ _ _ _ _ [.int (1 : Int32)]
  refine Wl.ifN 219 at_216 (feq (by decide)).1 ?_
  refine Wl.aload 221 at_219 rfl rfl ?_
  refine Wl.iconst 222 (2 : Int32) at_221 (by decide) ?_
  refine Wl.iload 224 at_222 rfl ?_
  refine Wl.aload 226 at_224 rfl rfl ?_
  refine Wl.iload_n 227 at_226 rfl ?_
  refine Wl.aload 229 at_227 rfl rfl ?_
  refine Wl.iload 231 at_229 rfl ?_
  refine Wl.static 234 (argsL := [.ref s41, .int (2 : Int32), .int (15 : Int32), .ref xp, .int (3 : Int32), .ref yn, .int (4 : Int32)]) at_231 (w227 hw) (w228 hw) (w3 hw) (w229 hw) (show parseMethodDescriptor "(Ljava/lang/String;II[CI[CI)Z" = some ⟨[(.object "java/lang/String"), .int, .int, (.array .char), .int, (.array .char), .int], some .boolean⟩ by decide +kernel) rfl (atP_met hw hcs hfm (rs := [p0, p1, p2, (113 : Int32), (117 : Int32), (101 : Int32), (117 : Int32), (101 : Int32), (58 : Int32), (123 : Int32), n0, n1, n2, n3, (125 : Int32)]) (ps := [p0, p1, p2]) (ns := [n0, n1, n2, n3]) (n := 2) S43 (nle rfl) (by decide) (A.ext B44) (B.ext B44) (nle rfl) (nle rfl) (latC lp0 (latC lp1 (latC lp2 latN))) (latC ln0 (latC ln1 (latC ln2 (latC ln3 latN)))) (by decide) (nle rfl) rfl) (fun _ q => nomatch q) rfl rfl rfl (by decide) ⟨⟨nle rfl, nle rfl⟩, nle rfl, nle rfl⟩ ?_
  intro v55 h56 hq57 _
  obtain ⟨rfl, rfl⟩ := hq57
  show WlO _ _ _ _ _ _ _ _ _ _ _ _ _ _ _ _ _ _ [.int (1 : Int32)]
  refine Wl.ifN 237 at_234 (feq (by decide)).1 ?_
  refine Wl.aload 239 at_237 rfl rfl ?_
  refine Wl.iconst 240 (3 : Int32) at_239 (by decide) ?_
  refine Wl.iload 242 at_240 rfl ?_
  refine Wl.aload 244 at_242 rfl rfl ?_
  refine Wl.iload_n 245 at_244 rfl ?_
  refine Wl.aload 247 at_245 rfl rfl ?_
  refine Wl.iload 249 at_247 rfl ?_
  refine Wl.static 252 (argsL := [.ref s41, .int (3 : Int32), .int (15 : Int32), .ref xp, .int (3 : Int32), .ref yn, .int (4 : Int32)]) at_249 (w227 hw) (w228 hw) (w3 hw) (w229 hw) (show parseMethodDescriptor "(Ljava/lang/String;II[CI[CI)Z" = some ⟨[(.object "java/lang/String"), .int, .int, (.array .char), .int, (.array .char), .int], some .boolean⟩ by decide +kernel) rfl (atA_met hw hcs hfm (rs := [p0, p1, p2, (113 : Int32), (117 : Int32), (101 : Int32), (117 : Int32), (101 : Int32), (58 : Int32), (123 : Int32), n0, n1, n2, n3, (125 : Int32)]) (ps := [p0, p1, p2]) (ns := [n0, n1, n2, n3]) (n := 3) (j := 0) S43 (nle rfl) (by decide) (A.ext B44) (B.ext B44) (nle rfl) (nle rfl) (latC lp0 (latC lp1 (latC lp2 latN))) (latC ln0 (latC ln1 (latC ln2 (latC ln3 latN)))) (by decide) (by decide) (by decide) (nle rfl) rfl) (fun _ q => nomatch q) rfl rfl rfl (by decide) ⟨⟨nle rfl, nle rfl⟩, nle rfl, nle rfl⟩ ?_
  intro v58 h59 hq60 _
  obtain ⟨rfl, E61⟩ := hq60
  have B62 : Ext h h59 := extTr B44 E61
  have B63 : Ext h9 h59 := extTr B45 E61
  show WlO _ _ _ _ _ _ _ _ _ _ _ _ _ _ _ _ _ _ [.int (1 : Int32)]
  refine Wl.ifN 255 at_252 (feq (by decide)).1 ?_
  refine Wl.aload 257 at_255 rfl rfl ?_
  refine Wl.iconst 258 (4 : Int32) at_257 (by decide) ?_
  refine Wl.iload 260 at_258 rfl ?_
  refine Wl.aload 262 at_260 rfl rfl ?_
  refine Wl.iload_n 263 at_262 rfl ?_
  refine Wl.aload 265 at_263 rfl rfl ?_
  refine Wl.iload 267 at_265 rfl ?_
  refine Wl.static 270 (argsL := [.ref s41, .int (4 : Int32), .int (15 : Int32), .ref xp, .int (3 : Int32), .ref yn, .int (4 : Int32)]) at_267 (w227 hw) (w228 hw) (w3 hw) (w229 hw) (show parseMethodDescriptor "(Ljava/lang/String;II[CI[CI)Z" = some ⟨[(.object "java/lang/String"), .int, .int, (.array .char), .int, (.array .char), .int], some .boolean⟩ by decide +kernel) rfl (atA_met hw hcs hfm (rs := [p0, p1, p2, (113 : Int32), (117 : Int32), (101 : Int32), (117 : Int32), (101 : Int32), (58 : Int32), (123 : Int32), n0, n1, n2, n3, (125 : Int32)]) (ps := [p0, p1, p2]) (ns := [n0, n1, n2, n3]) (n := 4) (j := 1) (S43.ext E61) (nle rfl) (by decide) (A.ext B62) (B.ext B62) (nle rfl) (nle rfl) (latC lp0 (latC lp1 (latC lp2 latN))) (latC ln0 (latC ln1 (latC ln2 (latC ln3 latN)))) (by decide) (by decide) (by decide) (nle rfl) rfl) (fun _ q => nomatch q) rfl rfl rfl (by decide) ⟨⟨nle rfl, nle rfl⟩, nle rfl, nle rfl⟩ ?_
  intro v64 h65 hq66 _
  obtain ⟨rfl, E67⟩ := hq66
  have B68 : Ext h h65 := extTr B62 E67
  have B69 : Ext h9 h65 := extTr B63 E67
  show WlO _ _ _ _ _ _ _ _ _ _ _ _ _ _ _ _ _ _ [.int (1 : Int32)]
  refine Wl.ifN 273 at_270 (feq (by decide)).1 ?_
  refine Wl.aload 275 at_273 rfl rfl ?_
  refine Wl.iconst 276 (5 : Int32) at_275 (by decide) ?_
  refine Wl.iload 278 at_276 rfl ?_
  refine Wl.aload 280 at_278 rfl rfl ?_
  refine Wl.iload_n 281 at_280 rfl ?_
  refine Wl.aload 283 at_281 rfl rfl ?_
  refine Wl.iload 285 at_283 rfl ?_
  refine Wl.static 288 (argsL := [.ref s41, .int (5 : Int32), .int (15 : Int32), .ref xp, .int (3 : Int32), .ref yn, .int (4 : Int32)]) at_285 (w227 hw) (w228 hw) (w3 hw) (w229 hw) (show parseMethodDescriptor "(Ljava/lang/String;II[CI[CI)Z" = some ⟨[(.object "java/lang/String"), .int, .int, (.array .char), .int, (.array .char), .int], some .boolean⟩ by decide +kernel) rfl (atA_met hw hcs hfm (rs := [p0, p1, p2, (113 : Int32), (117 : Int32), (101 : Int32), (117 : Int32), (101 : Int32), (58 : Int32), (123 : Int32), n0, n1, n2, n3, (125 : Int32)]) (ps := [p0, p1, p2]) (ns := [n0, n1, n2, n3]) (n := 5) (j := 2) ((S43.ext E61).ext E67) (nle rfl) (by decide) (A.ext B68) (B.ext B68) (nle rfl) (nle rfl) (latC lp0 (latC lp1 (latC lp2 latN))) (latC ln0 (latC ln1 (latC ln2 (latC ln3 latN)))) (by decide) (by decide) (by decide) (nle rfl) rfl) (fun _ q => nomatch q) rfl rfl rfl (by decide) ⟨⟨nle rfl, nle rfl⟩, nle rfl, nle rfl⟩ ?_
  intro v70 h71 hq72 _
  obtain ⟨rfl, E73⟩ := hq72
  have B74 : Ext h h71 := extTr B68 E73
  have B75 : Ext h9 h71 := extTr B69 E73
  show WlO _ _ _ _ _ _ _ _ _ _ _ _ _ _ _ _ _ _ [.int (1 : Int32)]
  refine Wl.ifN 291 at_288 (feq (by decide)).1 ?_
  refine Wl.aload 293 at_291 rfl rfl ?_
  refine Wl.bipush 295 (6 : Int32) at_293 (by decide) ?_
  refine Wl.iload 297 at_295 rfl ?_
  refine Wl.aload 299 at_297 rfl rfl ?_
  refine Wl.iload_n 300 at_299 rfl ?_
  refine Wl.aload 302 at_300 rfl rfl ?_
  refine Wl.iload 304 at_302 rfl ?_
  refine Wl.static 307 (argsL := [.ref s41, .int (6 : Int32), .int (15 : Int32), .ref xp, .int (3 : Int32), .ref yn, .int (4 : Int32)]) at_304 (w227 hw) (w228 hw) (w3 hw) (w229 hw) (show parseMethodDescriptor "(Ljava/lang/String;II[CI[CI)Z" = some ⟨[(.object "java/lang/String"), .int, .int, (.array .char), .int, (.array .char), .int], some .boolean⟩ by decide +kernel) rfl (atA_met hw hcs hfm (rs := [p0, p1, p2, (113 : Int32), (117 : Int32), (101 : Int32), (117 : Int32), (101 : Int32), (58 : Int32), (123 : Int32), n0, n1, n2, n3, (125 : Int32)]) (ps := [p0, p1, p2]) (ns := [n0, n1, n2, n3]) (n := 6) (j := 3) (((S43.ext E61).ext E67).ext E73) (nle rfl) (by decide) (A.ext B74) (B.ext B74) (nle rfl) (nle rfl) (latC lp0 (latC lp1 (latC lp2 latN))) (latC ln0 (latC ln1 (latC ln2 (latC ln3 latN)))) (by decide) (by decide) (by decide) (nle rfl) rfl) (fun _ q => nomatch q) rfl rfl rfl (by decide) ⟨⟨nle rfl, nle rfl⟩, nle rfl, nle rfl⟩ ?_
  intro v76 h77 hq78 _
  obtain ⟨rfl, E79⟩ := hq78
  have B80 : Ext h h77 := extTr B74 E79
  have B81 : Ext h9 h77 := extTr B75 E79
  show WlO _ _ _ _ _ _ _ _ _ _ _ _ _ _ _ _ _ _ [.int (1 : Int32)]
  refine Wl.ifN 310 at_307 (feq (by decide)).1 ?_
  refine Wl.aload 312 at_310 rfl rfl ?_
  refine Wl.bipush 314 (7 : Int32) at_312 (by decide) ?_
  refine Wl.iload 316 at_314 rfl ?_
  refine Wl.aload 318 at_316 rfl rfl ?_
  refine Wl.iload_n 319 at_318 rfl ?_
  refine Wl.aload 321 at_319 rfl rfl ?_
  refine Wl.iload 323 at_321 rfl ?_
  refine Wl.static 326 (argsL := [.ref s41, .int (7 : Int32), .int (15 : Int32), .ref xp, .int (3 : Int32), .ref yn, .int (4 : Int32)]) at_323 (w227 hw) (w228 hw) (w3 hw) (w229 hw) (show parseMethodDescriptor "(Ljava/lang/String;II[CI[CI)Z" = some ⟨[(.object "java/lang/String"), .int, .int, (.array .char), .int, (.array .char), .int], some .boolean⟩ by decide +kernel) rfl (atA_met hw hcs hfm (rs := [p0, p1, p2, (113 : Int32), (117 : Int32), (101 : Int32), (117 : Int32), (101 : Int32), (58 : Int32), (123 : Int32), n0, n1, n2, n3, (125 : Int32)]) (ps := [p0, p1, p2]) (ns := [n0, n1, n2, n3]) (n := 7) (j := 4) ((((S43.ext E61).ext E67).ext E73).ext E79) (nle rfl) (by decide) (A.ext B80) (B.ext B80) (nle rfl) (nle rfl) (latC lp0 (latC lp1 (latC lp2 latN))) (latC ln0 (latC ln1 (latC ln2 (latC ln3 latN)))) (by decide) (by decide) (by decide) (nle rfl) rfl) (fun _ q => nomatch q) rfl rfl rfl (by decide) ⟨⟨nle rfl, nle rfl⟩, nle rfl, nle rfl⟩ ?_
  intro v82 h83 hq84 _
  obtain ⟨rfl, E85⟩ := hq84
  have B86 : Ext h h83 := extTr B80 E85
  have B87 : Ext h9 h83 := extTr B81 E85
  show WlO _ _ _ _ _ _ _ _ _ _ _ _ _ _ _ _ _ _ [.int (1 : Int32)]
  refine Wl.ifN 329 at_326 (feq (by decide)).1 ?_
  refine Wl.aload 331 at_329 rfl rfl ?_
  refine Wl.bipush 333 (8 : Int32) at_331 (by decide) ?_
  refine Wl.iload 335 at_333 rfl ?_
  refine Wl.aload 337 at_335 rfl rfl ?_
  refine Wl.iload_n 338 at_337 rfl ?_
  refine Wl.aload 340 at_338 rfl rfl ?_
  refine Wl.iload 342 at_340 rfl ?_
  refine Wl.static 345 (argsL := [.ref s41, .int (8 : Int32), .int (15 : Int32), .ref xp, .int (3 : Int32), .ref yn, .int (4 : Int32)]) at_342 (w227 hw) (w228 hw) (w3 hw) (w229 hw) (show parseMethodDescriptor "(Ljava/lang/String;II[CI[CI)Z" = some ⟨[(.object "java/lang/String"), .int, .int, (.array .char), .int, (.array .char), .int], some .boolean⟩ by decide +kernel) rfl (atA_met hw hcs hfm (rs := [p0, p1, p2, (113 : Int32), (117 : Int32), (101 : Int32), (117 : Int32), (101 : Int32), (58 : Int32), (123 : Int32), n0, n1, n2, n3, (125 : Int32)]) (ps := [p0, p1, p2]) (ns := [n0, n1, n2, n3]) (n := 8) (j := 5) (((((S43.ext E61).ext E67).ext E73).ext E79).ext E85) (nle rfl) (by decide) (A.ext B86) (B.ext B86) (nle rfl) (nle rfl) (latC lp0 (latC lp1 (latC lp2 latN))) (latC ln0 (latC ln1 (latC ln2 (latC ln3 latN)))) (by decide) (by decide) (by decide) (nle rfl) rfl) (fun _ q => nomatch q) rfl rfl rfl (by decide) ⟨⟨nle rfl, nle rfl⟩, nle rfl, nle rfl⟩ ?_
  intro v88 h89 hq90 _
  obtain ⟨rfl, E91⟩ := hq90
  have B92 : Ext h h89 := extTr B86 E91
  have B93 : Ext h9 h89 := extTr B87 E91
  show WlO _ _ _ _ _ _ _ _ _ _ _ _ _ _ _ _ _ _ [.int (1 : Int32)]
  refine Wl.ifN 348 at_345 (feq (by decide)).1 ?_
  refine Wl.aload 350 at_348 rfl rfl ?_
  refine Wl.bipush 352 (9 : Int32) at_350 (by decide) ?_
  refine Wl.iload 354 at_352 rfl ?_
  refine Wl.aload 356 at_354 rfl rfl ?_
  refine Wl.iload_n 357 at_356 rfl ?_
  refine Wl.aload 359 at_357 rfl rfl ?_
  refine Wl.iload 361 at_359 rfl ?_
  refine Wl.static 364 (argsL := [.ref s41, .int (9 : Int32), .int (15 : Int32), .ref xp, .int (3 : Int32), .ref yn, .int (4 : Int32)]) at_361 (w227 hw) (w228 hw) (w3 hw) (w229 hw) (show parseMethodDescriptor "(Ljava/lang/String;II[CI[CI)Z" = some ⟨[(.object "java/lang/String"), .int, .int, (.array .char), .int, (.array .char), .int], some .boolean⟩ by decide +kernel) rfl (atO_met hw hcs hfm (rs := [p0, p1, p2, (113 : Int32), (117 : Int32), (101 : Int32), (117 : Int32), (101 : Int32), (58 : Int32), (123 : Int32), n0, n1, n2, n3, (125 : Int32)]) (ps := [p0, p1, p2]) (ns := [n0, n1, n2, n3]) (n := 9) ((((((S43.ext E61).ext E67).ext E73).ext E79).ext E85).ext E91) (nle rfl) (by decide) (A.ext B92) (B.ext B92) (nle rfl) (nle rfl) (latC lp0 (latC lp1 (latC lp2 latN))) (latC ln0 (latC ln1 (latC ln2 (latC ln3 latN)))) (by decide) (by decide) (by decide) rfl) (fun _ q => nomatch q) rfl rfl rfl (by decide) ⟨⟨nle rfl, nle rfl⟩, nle rfl, nle rfl⟩ ?_
  intro v94 h95 hq96 _
  obtain ⟨rfl, rfl⟩ := hq96
  show WlO _ _ _ _ _ _ _ _ _ _ _ _ _ _ _ _ _ _ [.int (1 : Int32)]
  refine Wl.ifN 367 at_364 (feq (by decide)).1 ?_
  refine Wl.aload 369 at_367 rfl rfl ?_
  refine Wl.bipush 371 (10 : Int32) at_369 (by decide) ?_
  refine Wl.iload 373 at_371 rfl ?_
  refine Wl.aload 375 at_373 rfl rfl ?_
  refine Wl.iload_n 376 at_375 rfl ?_
  refine Wl.aload 378 at_376 rfl rfl ?_
  refine Wl.iload 380 at_378 rfl ?_
  refine Wl.static 383 (argsL := [.ref s41, .int (10 : Int32), .int (15 : Int32), .ref xp, .int (3 : Int32), .ref yn, .int (4 : Int32)]) at_380 (w227 hw) (w228 hw) (w3 hw) (w229 hw) (show parseMethodDescriptor "(Ljava/lang/String;II[CI[CI)Z" = some ⟨[(.object "java/lang/String"), .int, .int, (.array .char), .int, (.array .char), .int], some .boolean⟩ by decide +kernel) rfl (atN_met hw hcs hfm (rs := [p0, p1, p2, (113 : Int32), (117 : Int32), (101 : Int32), (117 : Int32), (101 : Int32), (58 : Int32), (123 : Int32), n0, n1, n2, n3, (125 : Int32)]) (ps := [p0, p1, p2]) (ns := [n0, n1, n2, n3]) (n := 10) (m := 0) ((((((S43.ext E61).ext E67).ext E73).ext E79).ext E85).ext E91) (nle rfl) (by decide) (A.ext B92) (B.ext B92) (nle rfl) (nle rfl) (latC lp0 (latC lp1 (latC lp2 latN))) (latC ln0 (latC ln1 (latC ln2 (latC ln3 latN)))) (by decide) (by decide) (by decide) (by decide) (by decide) (nle rfl) rfl) (fun _ q => nomatch q) rfl rfl rfl (by decide) ⟨⟨nle rfl, nle rfl⟩, nle rfl, nle rfl⟩ ?_
  intro v97 h98 hq99 _
  obtain ⟨rfl, rfl⟩ := hq99
  show WlO _ _ _ _ _ _ _ _ _ _ _ _ _ _ _ _ _ _ [.int (1 : Int32)]
  refine Wl.ifN 386 at_383 (feq (by decide)).1 ?_
  refine Wl.aload 388 at_386 rfl rfl ?_
  refine Wl.bipush 390 (11 : Int32) at_388 (by decide) ?_
  refine Wl.iload 392 at_390 rfl ?_
  refine Wl.aload 394 at_392 rfl rfl ?_
  refine Wl.iload_n 395 at_394 rfl ?_
  refine Wl.aload 397 at_395 rfl rfl ?_
  refine Wl.iload 399 at_397 rfl ?_
  refine Wl.static 402 (argsL := [.ref s41, .int (11 : Int32), .int (15 : Int32), .ref xp, .int (3 : Int32), .ref yn, .int (4 : Int32)]) at_399 (w227 hw) (w228 hw) (w3 hw) (w229 hw) (show parseMethodDescriptor "(Ljava/lang/String;II[CI[CI)Z" = some ⟨[(.object "java/lang/String"), .int, .int, (.array .char), .int, (.array .char), .int], some .boolean⟩ by decide +kernel) rfl (atN_met hw hcs hfm (rs := [p0, p1, p2, (113 : Int32), (117 : Int32), (101 : Int32), (117 : Int32), (101 : Int32), (58 : Int32), (123 : Int32), n0, n1, n2, n3, (125 : Int32)]) (ps := [p0, p1, p2]) (ns := [n0, n1, n2, n3]) (n := 11) (m := 1) ((((((S43.ext E61).ext E67).ext E73).ext E79).ext E85).ext E91) (nle rfl) (by decide) (A.ext B92) (B.ext B92) (nle rfl) (nle rfl) (latC lp0 (latC lp1 (latC lp2 latN))) (latC ln0 (latC ln1 (latC ln2 (latC ln3 latN)))) (by decide) (by decide) (by decide) (by decide) (by decide) (nle rfl) rfl) (fun _ q => nomatch q) rfl rfl rfl (by decide) ⟨⟨nle rfl, nle rfl⟩, nle rfl, nle rfl⟩ ?_
  intro v100 h101 hq102 _
  obtain ⟨rfl, rfl⟩ := hq102
  show WlO _ _ _ _ _ _ _ _ _ _ _ _ _ _ _ _ _ _ [.int (1 : Int32)]
  refine Wl.ifN 405 at_402 (feq (by decide)).1 ?_
  refine Wl.aload 407 at_405 rfl rfl ?_
  refine Wl.bipush 409 (12 : Int32) at_407 (by decide) ?_
  refine Wl.iload 411 at_409 rfl ?_
  refine Wl.aload 413 at_411 rfl rfl ?_
  refine Wl.iload_n 414 at_413 rfl ?_
  refine Wl.aload 416 at_414 rfl rfl ?_
  refine Wl.iload 418 at_416 rfl ?_
  refine Wl.static 421 (argsL := [.ref s41, .int (12 : Int32), .int (15 : Int32), .ref xp, .int (3 : Int32), .ref yn, .int (4 : Int32)]) at_418 (w227 hw) (w228 hw) (w3 hw) (w229 hw) (show parseMethodDescriptor "(Ljava/lang/String;II[CI[CI)Z" = some ⟨[(.object "java/lang/String"), .int, .int, (.array .char), .int, (.array .char), .int], some .boolean⟩ by decide +kernel) rfl (atN_met hw hcs hfm (rs := [p0, p1, p2, (113 : Int32), (117 : Int32), (101 : Int32), (117 : Int32), (101 : Int32), (58 : Int32), (123 : Int32), n0, n1, n2, n3, (125 : Int32)]) (ps := [p0, p1, p2]) (ns := [n0, n1, n2, n3]) (n := 12) (m := 2) ((((((S43.ext E61).ext E67).ext E73).ext E79).ext E85).ext E91) (nle rfl) (by decide) (A.ext B92) (B.ext B92) (nle rfl) (nle rfl) (latC lp0 (latC lp1 (latC lp2 latN))) (latC ln0 (latC ln1 (latC ln2 (latC ln3 latN)))) (by decide) (by decide) (by decide) (by decide) (by decide) (nle rfl) rfl) (fun _ q => nomatch q) rfl rfl rfl (by decide) ⟨⟨nle rfl, nle rfl⟩, nle rfl, nle rfl⟩ ?_
  intro v103 h104 hq105 _
  obtain ⟨rfl, rfl⟩ := hq105
  show WlO _ _ _ _ _ _ _ _ _ _ _ _ _ _ _ _ _ _ [.int (1 : Int32)]
  refine Wl.ifN 424 at_421 (feq (by decide)).1 ?_
  refine Wl.aload 426 at_424 rfl rfl ?_
  refine Wl.bipush 428 (13 : Int32) at_426 (by decide) ?_
  refine Wl.iload 430 at_428 rfl ?_
  refine Wl.aload 432 at_430 rfl rfl ?_
  refine Wl.iload_n 433 at_432 rfl ?_
  refine Wl.aload 435 at_433 rfl rfl ?_
  refine Wl.iload 437 at_435 rfl ?_
  refine Wl.static 440 (argsL := [.ref s41, .int (13 : Int32), .int (15 : Int32), .ref xp, .int (3 : Int32), .ref yn, .int (4 : Int32)]) at_437 (w227 hw) (w228 hw) (w3 hw) (w229 hw) (show parseMethodDescriptor "(Ljava/lang/String;II[CI[CI)Z" = some ⟨[(.object "java/lang/String"), .int, .int, (.array .char), .int, (.array .char), .int], some .boolean⟩ by decide +kernel) rfl (atN_met hw hcs hfm (rs := [p0, p1, p2, (113 : Int32), (117 : Int32), (101 : Int32), (117 : Int32), (101 : Int32), (58 : Int32), (123 : Int32), n0, n1, n2, n3, (125 : Int32)]) (ps := [p0, p1, p2]) (ns := [n0, n1, n2, n3]) (n := 13) (m := 3) ((((((S43.ext E61).ext E67).ext E73).ext E79).ext E85).ext E91) (nle rfl) (by decide) (A.ext B92) (B.ext B92) (nle rfl) (nle rfl) (latC lp0 (latC lp1 (latC lp2 latN))) (latC ln0 (latC ln1 (latC ln2 (latC ln3 latN)))) (by decide) (by decide) (by decide) (by decide) (by decide) (nle rfl) rfl) (fun _ q => nomatch q) rfl rfl rfl (by decide) ⟨⟨nle rfl, nle rfl⟩, nle rfl, nle rfl⟩ ?_
  intro v106 h107 hq108 _
  obtain ⟨rfl, rfl⟩ := hq108
  show WlO _ _ _ _ _ _ _ _ _ _ _ _ _ _ _ _ _ _ [.int (1 : Int32)]
  refine Wl.ifN 443 at_440 (feq (by decide)).1 ?_
  refine Wl.aload 445 at_443 rfl rfl ?_
  refine Wl.bipush 447 (14 : Int32) at_445 (by decide) ?_
  refine Wl.iload 449 at_447 rfl ?_
  refine Wl.aload 451 at_449 rfl rfl ?_
  refine Wl.iload_n 452 at_451 rfl ?_
  refine Wl.aload 454 at_452 rfl rfl ?_
  refine Wl.iload 456 at_454 rfl ?_
  refine Wl.static 459 (argsL := [.ref s41, .int (14 : Int32), .int (15 : Int32), .ref xp, .int (3 : Int32), .ref yn, .int (4 : Int32)]) at_456 (w227 hw) (w228 hw) (w3 hw) (w229 hw) (show parseMethodDescriptor "(Ljava/lang/String;II[CI[CI)Z" = some ⟨[(.object "java/lang/String"), .int, .int, (.array .char), .int, (.array .char), .int], some .boolean⟩ by decide +kernel) rfl (atE_met hw hcs hfm (rs := [p0, p1, p2, (113 : Int32), (117 : Int32), (101 : Int32), (117 : Int32), (101 : Int32), (58 : Int32), (123 : Int32), n0, n1, n2, n3, (125 : Int32)]) (ps := [p0, p1, p2]) (ns := [n0, n1, n2, n3]) (n := 14) ((((((S43.ext E61).ext E67).ext E73).ext E79).ext E85).ext E91) (nle rfl) (by decide) (A.ext B92) (B.ext B92) (nle rfl) (nle rfl) (latC lp0 (latC lp1 (latC lp2 latN))) (latC ln0 (latC ln1 (latC ln2 (latC ln3 latN)))) (by decide) (by decide) (by decide) (by decide) rfl) (fun _ q => nomatch q) rfl rfl rfl (by decide) ⟨⟨nle rfl, nle rfl⟩, nle rfl, nle rfl⟩ ?_
  intro v109 h110 hq111 _
  obtain ⟨rfl, rfl⟩ := hq111
  show WlO _ _ _ _ _ _ _ _ _ _ _ _ _ _ _ _ _ _ [.int (1 : Int32)]
  refine Wl.ifN 462 at_459 (feq (by decide)).1 ?_
  refine Wl.iconst 463 (1 : Int32) at_462 (by decide) ?_
  refine Wl.goto 467 at_463 ?_
  exact Wl.ireturn at_467 rfl rfl (by simp) (nle rfl) (nle rfl) rfl
set_option maxRecDepth 65536 in
set_option maxHeartbeats 40000000 in
theorem law_met {l : Launch} {Z : State} {a0 : Array Value} (hw : ∀ d ∈ tables_1, d.before a0 Z = true) (hcs : CSon Z) (hfm : Fmt Z) (i0 i1 i2 : Int32) :
    Met l Z consts_1 x code maxLocals ret tables_1 room_1 #[.int i0, .int i1, .int i2] Z.heap [] (fun v h' => v = some (.int 1)) := by
  generalize hh0 : Z.heap = h
  refine Met.of_walk (a0 := a0) (Ls := #[.val (.int i0), .val (.int i1), .val (.int i2), .unset, .unset, .unset, .unset, .unset, .unset, .unset, .unset, .unset]) (plainFor_of_name pn_4) (own_hEL hw) rfl ?_
  refine Wl.iload_n 1 at_0 rfl ?_
  refine Wl.iconst 2 (3 : Int32) at_1 (by decide) ?_
  refine Wl.iand 3 at_2 ?_
  refine Wl.istore_n 4 #[.val (.int i0), .val (.int i1), .val (.int i2), .val (.int (i2 &&& (3 : Int32))), .unset, .unset, .unset, .unset, .unset, .unset, .unset, .unset] at_3 rfl ?_
  refine Wl.iconst 5 (1 : Int32) at_4 (by decide) ?_
  refine Wl.iload_n 6 at_5 rfl ?_
  refine Wl.iconst 7 (2 : Int32) at_6 (by decide) ?_
  refine Wl.iushr 8 at_7 ?_
  refine Wl.iconst 9 (3 : Int32) at_8 (by decide) ?_
  refine Wl.iand 10 at_9 ?_
  refine Wl.iadd 11 at_10 ?_
  refine Wl.istore 13 #[.val (.int i0), .val (.int i1), .val (.int i2), .val (.int (i2 &&& (3 : Int32))), .val (.int ((1 : Int32) + (((i2).toUInt32 >>> ((2 : Int32) &&& 31).toUInt32).toInt32 &&& (3 : Int32)))), .unset, .unset, .unset, .unset, .unset, .unset, .unset] at_11 rfl ?_
  refine Wl.iconst 14 (3 : Int32) at_13 (by decide) ?_
  refine Wl.newarray 16 3 at_14 (w0 hw) (by decide) (by decide) (by decide) (nle rfl) (nle rfl) ?_
  intro a1 h2 k3 q4 E5 A6
  have A6 : Arv Z h2 a1 k3 .char (3 : Int32) [.int 0, .int 0, .int 0] (.int 0) := A6
  have z7 : h.size ≤ a1 := Nat.le_of_eq q4.symm
  have B8 : Ext h h2 := E5
  refine Wl.astore 18 #[.val (.int i0), .val (.int i1), .val (.int i2), .val (.int (i2 &&& (3 : Int32))), .val (.int ((1 : Int32) + (((i2).toUInt32 >>> ((2 : Int32) &&& 31).toUInt32).toInt32 &&& (3 : Int32)))), .val (.ref a1), .unset, .unset, .unset, .unset, .unset, .unset] at_16 rfl rfl ?_
  refine Wl.aload 20 at_18 rfl rfl ?_
  refine Wl.iconst 21 (0 : Int32) at_20 (by decide) ?_
  refine Wl.iload_n 22 at_21 rfl ?_
  refine Wl.iconst 23 (0 : Int32) at_22 (by decide) ?_
  refine Wl.static 26 (argsL := [.int i0, .int (0 : Int32)]) at_23 (w1 hw) (w2 hw) (w3 hw) (w4 hw) (show parseMethodDescriptor "(II)C" = some ⟨[.int, .int], some .char⟩ by decide +kernel) rfl (pch_met hw) (fun _ q => nomatch q) rfl rfl rfl (by decide) ⟨⟨nle rfl, nle rfl⟩, nle rfl, nle rfl⟩ ?_
  intro v9 h10 hq11 _
  obtain ⟨z12, rfl, l13, a14, b15, rfl⟩ := hq11
  show WlO _ _ _ _ _ _ _ _ _ _ _ _ _ _ _ _ _ _ [.int z12, .int (0 : Int32), .ref a1]
  refine Wl.castore 27 0 at_26 A6 (List.mem_of_getElem? (i := 0) rfl) (by decide) (by decide) (by decide) (nle rfl) ?_
  intro h16 W17 A18
  rw [nar_ch (l13).ch] at A18
  have A18 : Arv Z h16 a1 k3 .char (3 : Int32) [.int z12, .int (0 : Int32), .int (0 : Int32)] (.int 0) := A18
  have B19 : Ext h h16 := extWr B8 W17 z7
  refine Wl.aload 29 at_27 rfl rfl ?_
  refine Wl.iconst 30 (1 : Int32) at_29 (by decide) ?_
  refine Wl.iload_n 31 at_30 rfl ?_
  refine Wl.bipush 33 (8 : Int32) at_31 (by decide) ?_
  refine Wl.static 36 (argsL := [.int i0, .int (8 : Int32)]) at_33 (w1 hw) (w2 hw) (w3 hw) (w4 hw) (show parseMethodDescriptor "(II)C" = some ⟨[.int, .int], some .char⟩ by decide +kernel) rfl (pch_met hw) (fun _ q => nomatch q) rfl rfl rfl (by decide) ⟨⟨nle rfl, nle rfl⟩, nle rfl, nle rfl⟩ ?_
  intro v20 h21 hq22 _
  obtain ⟨z23, rfl, l24, a25, b26, rfl⟩ := hq22
  show WlO _ _ _ _ _ _ _ _ _ _ _ _ _ _ _ _ _ _ [.int z23, .int (1 : Int32), .ref a1]
  refine Wl.castore 37 1 at_36 A18 (List.mem_of_getElem? (i := 0) rfl) (by decide) (by decide) (by decide) (nle rfl) ?_
  intro h27 W28 A29
  rw [nar_ch (l24).ch] at A29
  have A29 : Arv Z h27 a1 k3 .char (3 : Int32) [.int z12, .int z23, .int (0 : Int32)] (.int 0) := A29
  have B30 : Ext h h27 := extWr B19 W28 z7
  refine Wl.aload 39 at_37 rfl rfl ?_
  refine Wl.iconst 40 (2 : Int32) at_39 (by decide) ?_
  refine Wl.iload_n 41 at_40 rfl ?_
  refine Wl.bipush 43 (16 : Int32) at_41 (by decide) ?_
  refine Wl.static 46 (argsL := [.int i0, .int (16 : Int32)]) at_43 (w1 hw) (w2 hw) (w3 hw) (w4 hw) (show parseMethodDescriptor "(II)C" = some ⟨[.int, .int], some .char⟩ by decide +kernel) rfl (pch_met hw) (fun _ q => nomatch q) rfl rfl rfl (by decide) ⟨⟨nle rfl, nle rfl⟩, nle rfl, nle rfl⟩ ?_
  intro v31 h32 hq33 _
  obtain ⟨z34, rfl, l35, a36, b37, rfl⟩ := hq33
  show WlO _ _ _ _ _ _ _ _ _ _ _ _ _ _ _ _ _ _ [.int z34, .int (2 : Int32), .ref a1]
  refine Wl.castore 47 2 at_46 A29 (List.mem_of_getElem? (i := 0) rfl) (by decide) (by decide) (by decide) (nle rfl) ?_
  intro h38 W39 A40
  rw [nar_ch (l35).ch] at A40
  have A40 : Arv Z h38 a1 k3 .char (3 : Int32) [.int z12, .int z23, .int z34] (.int 0) := A40
  have B41 : Ext h h38 := extWr B30 W39 z7
  refine Wl.iconst 48 (4 : Int32) at_47 (by decide) ?_
  refine Wl.newarray 50 4 at_48 (w0 hw) (by decide) (by decide) (by decide) (nle rfl) (nle rfl) ?_
  intro a42 h43 k44 q45 E46 A47
  have A47 : Arv Z h43 a42 k44 .char (4 : Int32) [.int 0, .int 0, .int 0, .int 0] (.int 0) := A47
  have z48 : h.size ≤ a42 := Nat.le_trans B41.1 (Nat.le_of_eq q45.symm)
  have z49 : h38.size ≤ a42 := Nat.le_of_eq q45.symm
  have ne50 : a1 ≠ a42 := Nat.ne_of_lt (by rw [q45]; exact (A40).lt)
  have B51 : Ext h h43 := extTr B41 E46
  have B52 : Ext h38 h43 := E46
  refine Wl.astore 52 #[.val (.int i0), .val (.int i1), .val (.int i2), .val (.int (i2 &&& (3 : Int32))), .val (.int ((1 : Int32) + (((i2).toUInt32 >>> ((2 : Int32) &&& 31).toUInt32).toInt32 &&& (3 : Int32)))), .val (.ref a1), .val (.ref a42), .unset, .unset, .unset, .unset, .unset] at_50 rfl rfl ?_
  refine Wl.aload 54 at_52 rfl rfl ?_
  refine Wl.iconst 55 (0 : Int32) at_54 (by decide) ?_
  refine Wl.iload_n 56 at_55 rfl ?_
  refine Wl.sipush 59 (255 : Int32) at_56 (by decide) ?_
  refine Wl.iand 60 at_59 ?_
  refine Wl.i2c 61 at_60 ?_
  refine Wl.castore 62 0 at_61 A47 (List.mem_of_getElem? (i := 0) rfl) (by decide) (by decide) (by decide) (nle rfl) ?_
  intro h53 W54 A55
  rw [nar_ch (i2c_ch _)] at A55
  have A55 : Arv Z h53 a42 k44 .char (4 : Int32) [.int (((i1 &&& (255 : Int32))).toUInt32.toUInt16.toUInt32.toInt32), .int (0 : Int32), .int (0 : Int32), .int (0 : Int32)] (.int 0) := A55
  have B56 : Ext h h53 := extWr B51 W54 z48
  have B57 : Ext h38 h53 := extWr B52 W54 z49
  refine Wl.aload 64 at_62 rfl rfl ?_
  refine Wl.iconst 65 (0 : Int32) at_64 (by decide) ?_
  refine Wl.caload 66 0 at_65 A55 (by decide) (by decide) (by decide) rfl ?_
  refine Wl.bipush 68 (125 : Int32) at_66 (by decide) ?_
  by_cases c58 : ((i1 &&& (255 : Int32))).toUInt32.toUInt16.toUInt32.toInt32 = (125 : Int32)
  · refine Wl.icmpN 71 at_68 (teq c58).2 ?_
    refine Wl.aload 73 at_71 rfl rfl ?_
    refine Wl.iconst 74 (0 : Int32) at_73 (by decide) ?_
    refine Wl.bipush 76 (123 : Int32) at_74 (by decide) ?_
    refine Wl.castore 77 0 at_76 A55 (List.mem_of_getElem? (i := 0) rfl) (by decide) (by decide) (by decide) (nle rfl) ?_
    intro h59 W60 A61
    rw [nar_ch (by decide)] at A61
    have A61 : Arv Z h59 a42 k44 .char (4 : Int32) [.int (123 : Int32), .int (0 : Int32), .int (0 : Int32), .int (0 : Int32)] (.int 0) := A61
    have B62 : Ext h h59 := extWr B56 W60 z48
    have B63 : Ext h38 h59 := extWr B57 W60 z49
    refine Wl.aload 79 at_77 rfl rfl ?_
    refine Wl.iconst 80 (1 : Int32) at_79 (by decide) ?_
    refine Wl.iload_n 81 at_80 rfl ?_
    refine Wl.bipush 83 (8 : Int32) at_81 (by decide) ?_
    refine Wl.iushr 84 at_83 ?_
    refine Wl.sipush 87 (255 : Int32) at_84 (by decide) ?_
    refine Wl.iand 88 at_87 ?_
    refine Wl.i2c 89 at_88 ?_
    refine Wl.castore 90 1 at_89 A61 (List.mem_of_getElem? (i := 0) rfl) (by decide) (by decide) (by decide) (nle rfl) ?_
    intro h64 W65 A66
    rw [nar_ch (i2c_ch _)] at A66
    have A66 : Arv Z h64 a42 k44 .char (4 : Int32) [.int (123 : Int32), .int (((((i1).toUInt32 >>> ((8 : Int32) &&& 31).toUInt32).toInt32 &&& (255 : Int32))).toUInt32.toUInt16.toUInt32.toInt32), .int (0 : Int32), .int (0 : Int32)] (.int 0) := A66
    have B67 : Ext h h64 := extWr B62 W65 z48
    have B68 : Ext h38 h64 := extWr B63 W65 z49
    refine Wl.aload 92 at_90 rfl rfl ?_
    refine Wl.iconst 93 (2 : Int32) at_92 (by decide) ?_
    refine Wl.iload_n 94 at_93 rfl ?_
    refine Wl.bipush 96 (16 : Int32) at_94 (by decide) ?_
    refine Wl.iushr 97 at_96 ?_
    refine Wl.sipush 100 (255 : Int32) at_97 (by decide) ?_
    refine Wl.iand 101 at_100 ?_
    refine Wl.i2c 102 at_101 ?_
    refine Wl.castore 103 2 at_102 A66 (List.mem_of_getElem? (i := 0) rfl) (by decide) (by decide) (by decide) (nle rfl) ?_
    intro h69 W70 A71
    rw [nar_ch (i2c_ch _)] at A71
    have A71 : Arv Z h69 a42 k44 .char (4 : Int32) [.int (123 : Int32), .int (((((i1).toUInt32 >>> ((8 : Int32) &&& 31).toUInt32).toInt32 &&& (255 : Int32))).toUInt32.toUInt16.toUInt32.toInt32), .int (((((i1).toUInt32 >>> ((16 : Int32) &&& 31).toUInt32).toInt32 &&& (255 : Int32))).toUInt32.toUInt16.toUInt32.toInt32), .int (0 : Int32)] (.int 0) := A71
    have B72 : Ext h h69 := extWr B67 W70 z48
    have B73 : Ext h38 h69 := extWr B68 W70 z49
    refine Wl.aload 105 at_103 rfl rfl ?_
    refine Wl.iconst 106 (3 : Int32) at_105 (by decide) ?_
    refine Wl.iload_n 107 at_106 rfl ?_
    refine Wl.bipush 109 (24 : Int32) at_107 (by decide) ?_
    refine Wl.iushr 110 at_109 ?_
    refine Wl.sipush 113 (255 : Int32) at_110 (by decide) ?_
    refine Wl.iand 114 at_113 ?_
    refine Wl.i2c 115 at_114 ?_
    refine Wl.castore 116 3 at_115 A71 (List.mem_of_getElem? (i := 0) rfl) (by decide) (by decide) (by decide) (nle rfl) ?_
    intro h74 W75 A76
    rw [nar_ch (i2c_ch _)] at A76
    have A76 : Arv Z h74 a42 k44 .char (4 : Int32) [.int (123 : Int32), .int (((((i1).toUInt32 >>> ((8 : Int32) &&& 31).toUInt32).toInt32 &&& (255 : Int32))).toUInt32.toUInt16.toUInt32.toInt32), .int (((((i1).toUInt32 >>> ((16 : Int32) &&& 31).toUInt32).toInt32 &&& (255 : Int32))).toUInt32.toUInt16.toUInt32.toInt32), .int (((((i1).toUInt32 >>> ((24 : Int32) &&& 31).toUInt32).toInt32 &&& (255 : Int32))).toUInt32.toUInt16.toUInt32.toInt32)] (.int 0) := A76
    have B77 : Ext h h74 := extWr B72 W75 z48
    have B78 : Ext h38 h74 := extWr B73 W75 z49
    refine Wl.weak (sf' := []) (k' := 2) (n' := 7) (fun _ q => nomatch q) (nle rfl) (nle rfl) ?_
    rcases and3 i2 with e | e | e | e <;> rw [e]
    · rcases and3p (((i2).toUInt32 >>> ((2 : Int32) &&& 31).toUInt32).toInt32) with f | f | f | f <;> rw [f]
      · exact law_t01 hw hcs hfm (A40.ext B78) A76 l13 l24 l35 (by decide) (i2c_mask_lat _) (i2c_mask_lat _) (i2c_mask_lat _) a14 b15 a25 b26 a36 b37 (by decide)
      · exact law_t02 hw hcs hfm (A40.ext B78) A76 l13 l24 l35 (by decide) (i2c_mask_lat _) (i2c_mask_lat _) (i2c_mask_lat _) a14 b15 a25 b26 a36 b37 (by decide)
      · exact law_t03 hw hcs hfm (A40.ext B78) A76 l13 l24 l35 (by decide) (i2c_mask_lat _) (i2c_mask_lat _) (i2c_mask_lat _) a14 b15 a25 b26 a36 b37 (by decide)
      · exact law_t04 hw hcs hfm (A40.ext B78) A76 l13 l24 l35 (by decide) (i2c_mask_lat _) (i2c_mask_lat _) (i2c_mask_lat _) a14 b15 a25 b26 a36 b37 (by decide)
    · rcases and3p (((i2).toUInt32 >>> ((2 : Int32) &&& 31).toUInt32).toInt32) with f | f | f | f <;> rw [f]
      · exact law_t11 hw hcs hfm (A40.ext B78) A76 l13 l24 l35 (by decide) (i2c_mask_lat _) (i2c_mask_lat _) (i2c_mask_lat _) a14 b15 a25 b26 a36 b37 (by decide)
      · exact law_t12 hw hcs hfm (A40.ext B78) A76 l13 l24 l35 (by decide) (i2c_mask_lat _) (i2c_mask_lat _) (i2c_mask_lat _) a14 b15 a25 b26 a36 b37 (by decide)
      · exact law_t13 hw hcs hfm (A40.ext B78) A76 l13 l24 l35 (by decide) (i2c_mask_lat _) (i2c_mask_lat _) (i2c_mask_lat _) a14 b15 a25 b26 a36 b37 (by decide)
      · exact law_t14 hw hcs hfm (A40.ext B78) A76 l13 l24 l35 (by decide) (i2c_mask_lat _) (i2c_mask_lat _) (i2c_mask_lat _) a14 b15 a25 b26 a36 b37 (by decide)
    · rcases and3p (((i2).toUInt32 >>> ((2 : Int32) &&& 31).toUInt32).toInt32) with f | f | f | f <;> rw [f]
      · exact law_t21 hw hcs hfm (A40.ext B78) A76 l13 l24 l35 (by decide) (i2c_mask_lat _) (i2c_mask_lat _) (i2c_mask_lat _) a14 b15 a25 b26 a36 b37 (by decide)
      · exact law_t22 hw hcs hfm (A40.ext B78) A76 l13 l24 l35 (by decide) (i2c_mask_lat _) (i2c_mask_lat _) (i2c_mask_lat _) a14 b15 a25 b26 a36 b37 (by decide)
      · exact law_t23 hw hcs hfm (A40.ext B78) A76 l13 l24 l35 (by decide) (i2c_mask_lat _) (i2c_mask_lat _) (i2c_mask_lat _) a14 b15 a25 b26 a36 b37 (by decide)
      · exact law_t24 hw hcs hfm (A40.ext B78) A76 l13 l24 l35 (by decide) (i2c_mask_lat _) (i2c_mask_lat _) (i2c_mask_lat _) a14 b15 a25 b26 a36 b37 (by decide)
    · rcases and3p (((i2).toUInt32 >>> ((2 : Int32) &&& 31).toUInt32).toInt32) with f | f | f | f <;> rw [f]
      · exact law_t31 hw hcs hfm (A40.ext B78) A76 l13 l24 l35 (by decide) (i2c_mask_lat _) (i2c_mask_lat _) (i2c_mask_lat _) a14 b15 a25 b26 a36 b37 (by decide)
      · exact law_t32 hw hcs hfm (A40.ext B78) A76 l13 l24 l35 (by decide) (i2c_mask_lat _) (i2c_mask_lat _) (i2c_mask_lat _) a14 b15 a25 b26 a36 b37 (by decide)
      · exact law_t33 hw hcs hfm (A40.ext B78) A76 l13 l24 l35 (by decide) (i2c_mask_lat _) (i2c_mask_lat _) (i2c_mask_lat _) a14 b15 a25 b26 a36 b37 (by decide)
      · exact law_t34 hw hcs hfm (A40.ext B78) A76 l13 l24 l35 (by decide) (i2c_mask_lat _) (i2c_mask_lat _) (i2c_mask_lat _) a14 b15 a25 b26 a36 b37 (by decide)
  · refine Wl.icmpY 77 at_68 (feq c58).2 ?_
    refine Wl.aload 79 at_77 rfl rfl ?_
    refine Wl.iconst 80 (1 : Int32) at_79 (by decide) ?_
    refine Wl.iload_n 81 at_80 rfl ?_
    refine Wl.bipush 83 (8 : Int32) at_81 (by decide) ?_
    refine Wl.iushr 84 at_83 ?_
    refine Wl.sipush 87 (255 : Int32) at_84 (by decide) ?_
    refine Wl.iand 88 at_87 ?_
    refine Wl.i2c 89 at_88 ?_
    refine Wl.castore 90 1 at_89 A55 (List.mem_of_getElem? (i := 0) rfl) (by decide) (by decide) (by decide) (nle rfl) ?_
    intro h79 W80 A81
    rw [nar_ch (i2c_ch _)] at A81
    have A81 : Arv Z h79 a42 k44 .char (4 : Int32) [.int (((i1 &&& (255 : Int32))).toUInt32.toUInt16.toUInt32.toInt32), .int (((((i1).toUInt32 >>> ((8 : Int32) &&& 31).toUInt32).toInt32 &&& (255 : Int32))).toUInt32.toUInt16.toUInt32.toInt32), .int (0 : Int32), .int (0 : Int32)] (.int 0) := A81
    have B82 : Ext h h79 := extWr B56 W80 z48
    have B83 : Ext h38 h79 := extWr B57 W80 z49
    refine Wl.aload 92 at_90 rfl rfl ?_
    refine Wl.iconst 93 (2 : Int32) at_92 (by decide) ?_
    refine Wl.iload_n 94 at_93 rfl ?_
    refine Wl.bipush 96 (16 : Int32) at_94 (by decide) ?_
    refine Wl.iushr 97 at_96 ?_
    refine Wl.sipush 100 (255 : Int32) at_97 (by decide) ?_
    refine Wl.iand 101 at_100 ?_
    refine Wl.i2c 102 at_101 ?_
    refine Wl.castore 103 2 at_102 A81 (List.mem_of_getElem? (i := 0) rfl) (by decide) (by decide) (by decide) (nle rfl) ?_
    intro h84 W85 A86
    rw [nar_ch (i2c_ch _)] at A86
    have A86 : Arv Z h84 a42 k44 .char (4 : Int32) [.int (((i1 &&& (255 : Int32))).toUInt32.toUInt16.toUInt32.toInt32), .int (((((i1).toUInt32 >>> ((8 : Int32) &&& 31).toUInt32).toInt32 &&& (255 : Int32))).toUInt32.toUInt16.toUInt32.toInt32), .int (((((i1).toUInt32 >>> ((16 : Int32) &&& 31).toUInt32).toInt32 &&& (255 : Int32))).toUInt32.toUInt16.toUInt32.toInt32), .int (0 : Int32)] (.int 0) := A86
    have B87 : Ext h h84 := extWr B82 W85 z48
    have B88 : Ext h38 h84 := extWr B83 W85 z49
    refine Wl.aload 105 at_103 rfl rfl ?_
    refine Wl.iconst 106 (3 : Int32) at_105 (by decide) ?_
    refine Wl.iload_n 107 at_106 rfl ?_
    refine Wl.bipush 109 (24 : Int32) at_107 (by decide) ?_
    refine Wl.iushr 110 at_109 ?_
    refine Wl.sipush 113 (255 : Int32) at_110 (by decide) ?_
    refine Wl.iand 114 at_113 ?_
    refine Wl.i2c 115 at_114 ?_
    refine Wl.castore 116 3 at_115 A86 (List.mem_of_getElem? (i := 0) rfl) (by decide) (by decide) (by decide) (nle rfl) ?_
    intro h89 W90 A91
    rw [nar_ch (i2c_ch _)] at A91
    have A91 : Arv Z h89 a42 k44 .char (4 : Int32) [.int (((i1 &&& (255 : Int32))).toUInt32.toUInt16.toUInt32.toInt32), .int (((((i1).toUInt32 >>> ((8 : Int32) &&& 31).toUInt32).toInt32 &&& (255 : Int32))).toUInt32.toUInt16.toUInt32.toInt32), .int (((((i1).toUInt32 >>> ((16 : Int32) &&& 31).toUInt32).toInt32 &&& (255 : Int32))).toUInt32.toUInt16.toUInt32.toInt32), .int (((((i1).toUInt32 >>> ((24 : Int32) &&& 31).toUInt32).toInt32 &&& (255 : Int32))).toUInt32.toUInt16.toUInt32.toInt32)] (.int 0) := A91
    have B92 : Ext h h89 := extWr B87 W90 z48
    have B93 : Ext h38 h89 := extWr B88 W90 z49
    refine Wl.weak (sf' := []) (k' := 2) (n' := 7) (fun _ q => nomatch q) (nle rfl) (nle rfl) ?_
    rcases and3 i2 with e | e | e | e <;> rw [e]
    · rcases and3p (((i2).toUInt32 >>> ((2 : Int32) &&& 31).toUInt32).toInt32) with f | f | f | f <;> rw [f]
      · exact law_t01 hw hcs hfm (A40.ext B93) A91 l13 l24 l35 (i2c_mask_lat _) (i2c_mask_lat _) (i2c_mask_lat _) (i2c_mask_lat _) a14 b15 a25 b26 a36 b37 c58
      · exact law_t02 hw hcs hfm (A40.ext B93) A91 l13 l24 l35 (i2c_mask_lat _) (i2c_mask_lat _) (i2c_mask_lat _) (i2c_mask_lat _) a14 b15 a25 b26 a36 b37 c58
      · exact law_t03 hw hcs hfm (A40.ext B93) A91 l13 l24 l35 (i2c_mask_lat _) (i2c_mask_lat _) (i2c_mask_lat _) (i2c_mask_lat _) a14 b15 a25 b26 a36 b37 c58
      · exact law_t04 hw hcs hfm (A40.ext B93) A91 l13 l24 l35 (i2c_mask_lat _) (i2c_mask_lat _) (i2c_mask_lat _) (i2c_mask_lat _) a14 b15 a25 b26 a36 b37 c58
    · rcases and3p (((i2).toUInt32 >>> ((2 : Int32) &&& 31).toUInt32).toInt32) with f | f | f | f <;> rw [f]
      · exact law_t11 hw hcs hfm (A40.ext B93) A91 l13 l24 l35 (i2c_mask_lat _) (i2c_mask_lat _) (i2c_mask_lat _) (i2c_mask_lat _) a14 b15 a25 b26 a36 b37 c58
      · exact law_t12 hw hcs hfm (A40.ext B93) A91 l13 l24 l35 (i2c_mask_lat _) (i2c_mask_lat _) (i2c_mask_lat _) (i2c_mask_lat _) a14 b15 a25 b26 a36 b37 c58
      · exact law_t13 hw hcs hfm (A40.ext B93) A91 l13 l24 l35 (i2c_mask_lat _) (i2c_mask_lat _) (i2c_mask_lat _) (i2c_mask_lat _) a14 b15 a25 b26 a36 b37 c58
      · exact law_t14 hw hcs hfm (A40.ext B93) A91 l13 l24 l35 (i2c_mask_lat _) (i2c_mask_lat _) (i2c_mask_lat _) (i2c_mask_lat _) a14 b15 a25 b26 a36 b37 c58
    · rcases and3p (((i2).toUInt32 >>> ((2 : Int32) &&& 31).toUInt32).toInt32) with f | f | f | f <;> rw [f]
      · exact law_t21 hw hcs hfm (A40.ext B93) A91 l13 l24 l35 (i2c_mask_lat _) (i2c_mask_lat _) (i2c_mask_lat _) (i2c_mask_lat _) a14 b15 a25 b26 a36 b37 c58
      · exact law_t22 hw hcs hfm (A40.ext B93) A91 l13 l24 l35 (i2c_mask_lat _) (i2c_mask_lat _) (i2c_mask_lat _) (i2c_mask_lat _) a14 b15 a25 b26 a36 b37 c58
      · exact law_t23 hw hcs hfm (A40.ext B93) A91 l13 l24 l35 (i2c_mask_lat _) (i2c_mask_lat _) (i2c_mask_lat _) (i2c_mask_lat _) a14 b15 a25 b26 a36 b37 c58
      · exact law_t24 hw hcs hfm (A40.ext B93) A91 l13 l24 l35 (i2c_mask_lat _) (i2c_mask_lat _) (i2c_mask_lat _) (i2c_mask_lat _) a14 b15 a25 b26 a36 b37 c58
    · rcases and3p (((i2).toUInt32 >>> ((2 : Int32) &&& 31).toUInt32).toInt32) with f | f | f | f <;> rw [f]
      · exact law_t31 hw hcs hfm (A40.ext B93) A91 l13 l24 l35 (i2c_mask_lat _) (i2c_mask_lat _) (i2c_mask_lat _) (i2c_mask_lat _) a14 b15 a25 b26 a36 b37 c58
      · exact law_t32 hw hcs hfm (A40.ext B93) A91 l13 l24 l35 (i2c_mask_lat _) (i2c_mask_lat _) (i2c_mask_lat _) (i2c_mask_lat _) a14 b15 a25 b26 a36 b37 c58
      · exact law_t33 hw hcs hfm (A40.ext B93) A91 l13 l24 l35 (i2c_mask_lat _) (i2c_mask_lat _) (i2c_mask_lat _) (i2c_mask_lat _) a14 b15 a25 b26 a36 b37 c58
      · exact law_t34 hw hcs hfm (A40.ext B93) A91 l13 l24 l35 (i2c_mask_lat _) (i2c_mask_lat _) (i2c_mask_lat _) (i2c_mask_lat _) a14 b15 a25 b26 a36 b37 c58
/-! from the case's words to the law's walk, and the owed theorems -/
set_option maxRecDepth 65536 in
set_option maxHeartbeats 40000000 in
theorem comes_1 {Post : Tables → Env → Array Value → State → Outcome → State → Prop} (hpost : ∀ tb e args s v u, (limb_1_1.after args s (.returned v) u = true ∧ limb_1_2.after args s (.returned v) u = true ∧ True) → ReturnedEndW s (.returned v) u (Jvm.fieldLocs frame_1_writes args s ++ Jvm.arrayLocs frame_1_arrays args s ++ Jvm.staticLocs frame_1_statics s) 56 7488 → Post tb e args s (.returned v) u) :
    ArmFor flags0 classFile x code maxLocals ret World_1 tables_1 room_1 Calls_1 rest_1 Pre_1 Post := by
  intro l hfl _ _ p e ha hc hk s m args below hf hA hF happ hP
  obtain ⟨hcalls, hrest, hpre⟩ := hP
  obtain ⟨-, -, -, hnamed, -, -, -, hat⟩ := (Spec.applies_iff hf).mp happ
  obtain ⟨hg, hn⟩ := and_e (Cond.before_iff.mp (show (Jvm.Cond.and given_1 narrow_1).before args s = true from hpre))
  obtain ⟨g0, r0⟩ := and_e hg
  obtain ⟨g1, r1⟩ := and_e r0
  obtain ⟨g2, r2⟩ := and_e r1
  obtain ⟨w0_, w1_, w2_, rfl⟩ : ∃ w0_ w1_ w2_ : Value, args = #[w0_, w1_, w2_] := by
    have hs : args.size = 3 := by simpa [Cond.value, given_1] using g0
    obtain ⟨L⟩ := args
    match L, hs with
    | [w0_, w1_, w2_], _ => exact ⟨w0_, w1_, w2_, rfl⟩
  have hw := fun d (hd : d ∈ tables_1) => atoms_spec (ws := Jvm.Cond.code x code maxLocals ret :: tables_1) hat d (List.mem_cons_of_mem _ hd)
  obtain ⟨hsets, hown0⟩ := atoms_of _ (rest_1_c_eq ▸ (show rest_1_c.before _ s = true from hrest))
  obtain ⟨i0, ei0⟩ := is_v g1
  obtain rfl : w0_ = (.int i0) := Option.some.inj ei0
  obtain ⟨i1, ei1⟩ := is_v g2
  obtain rfl : w1_ = (.int i1) := Option.some.inj ei1
  obtain ⟨i2, ei2⟩ := is_v r2
  obtain rfl : w2_ = (.int i2) := Option.some.inj ei2
  have hcw : Jvm.Lit.compactW.before _ s = true := hsets _ (List.mem_of_getElem? (i := 2) rfl)
  have hcs : CSon s := by
    obtain ⟨cst, ev⟩ := is_v (Cond.before_iff.mp (hsets _ (List.mem_of_getElem? (i := 1) rfl)))
    refine ⟨cst, Sta.start ev (Or.inl (hsets _ (List.mem_of_getElem? (i := 0) rfl))), fun q => ?_⟩
    have h1 := not_v (Cond.before_iff.mp (hsets _ (List.mem_of_getElem? (i := 2) rfl)))
    rw [eq_i ev (Term.int_eval 0) (by rw [q])] at h1
    cases h1
  have hfm : Fmt s := by
    obtain ⟨f, ef, rf⟩ := isR_v (Cond.before_iff.mp (hsets _ (List.mem_of_getElem? (i := 8) rfl)))
    exact ⟨f, Sta.start ef (Or.inl (hsets _ (List.mem_of_getElem? (i := 7) rfl))), rf⟩
  obtain ⟨n, o, h1, h2, h3, v, L, rfl, ⟨hq, N⟩, -, hE, hH, -⟩ := law_met (l := l) (Z := s) hw hcs hfm i0 i1 i2  p e ha hc hk s m _ below hf ((Spec.applies_iff_loose hf).mp happ).1 ⟨rfl, State.Warmed39.refl s, rfl, CHv.start (own_hEL hw) (fun q hq => hcalls.1 q hq) hcw (w26 hw) (w9 hw), ext_rfl _, Mine.nil⟩ trivial
  subst hq
  exact ⟨n, _, h1, h2, h3, hpost _ _ _ _ _ _ ⟨Cond.after_iff.mpr rfl, Cond.after_iff.mpr (eq_i res_at (Term.int_eval (1)) rfl), trivial⟩ ⟨hE.1, hE.2.1, hE.2.2.1, (hE.2.2.2.sift fun y hy => Or.inr (N y hy)).mono (by decide) (by decide)⟩⟩
theorem main_1_1 : Claimed_1_1 := comes_1 fun _ _ _ _ _ _ h hF => ⟨h.1, hF⟩
theorem main_1_2 : Claimed_1_2 := comes_1 fun _ _ _ _ _ _ h hF => ⟨h.2.1, hF⟩

end Jvm.Pilot.@@N@@
namespace Jvm.Pilot.@@N@@
open Jvm Jvm.ClassFile Sem Op Lib Jvm.Free Jvm.Stand Jvm.Pilot.@@N@@.Jvm.D
/-! MADE BY PROGRAM (witnessworld.py) out of the Statement's table words and the real class files: 27 classes; the members and pool entries that the words name. The judged class is class 1, her method 1. -/
namespace start1
open Jvm.ClassFile
def u (s : String) : CpInfo := .utf8 (stringToUtf16 s)
/-- a pool by its gaps: so many unusable entries, then the entry; so many at the end -/
def gap : Nat → List CpInfo → List CpInfo
  | 0, r => r
  | n + 1, r => .unusable :: gap n r
def poolList (es : List (Nat × CpInfo)) (last : Nat) : List CpInfo := es.foldr (fun e r => gap e.1 (e.2 :: r)) (gap last [])
def pool (es : List (Nat × CpInfo)) (last : Nat) : Array CpInfo := ⟨poolList es last⟩
def fileOf (pool : Array CpInfo) (this : Nat) (attrs : Array Attribute := #[]) (ms : Array MethodInfo := #[]) (fl : Nat := 33) (sup : Nat := 0) (ifs : Array Nat := #[]) (fds : Array FieldInfo := #[]) : ClassFile where
  minorVersion := 0
  majorVersion := 65
  constantPool := pool
  accessFlags := fl
  thisClass := this
  superClass := sup
  interfaces := ifs
  fields := fds
  methods := ms
  attributes := attrs
def plain (name : String) (sup : Option ClassId) : Class where
  name := name
  kind := .ordinary
  loader := none
  accessFlags := 33
  super := sup
  interfaces := #[]
  cf := none
  fields := #[]
  methods := #[]
  instanceTypes := #[]
  staticTypes := #[]
  resolved := #[]
  callSites := []
  init := .initialized
  statics := none
  mirror := none

def pool0 : Array CpInfo := pool [(5, u "<init>"), (0, u "()V"), (1, .class_ 10), (1, u "java/lang/Object")] 113

def k0c0 : Code := { maxStack := 0, maxLocals := 1, code := object_method_1_code, exceptionTable := #[], attributes := #[] }
def k0m0 : Method := { name := "<init>", desc := "()V", sig := { parameters := [], returnType := none }, accessFlags := 1, code := some k0c0 }
/-- java/lang/Object -/
def k0 : Class := { plain "java/lang/Object" none with
  accessFlags := 33
  interfaces := #[]
  cf := some (fileOf pool0 8 #[] #[{ accessFlags := 1, nameIndex := 5, descriptorIndex := 6, attributes := #[] }] 33 0 #[] #[])
  fields := #[]
  methods := #[k0m0]
  instanceTypes := #[]
  staticTypes := #[]
  resolved := Array.replicate 124 none
  statics := none }

def pool1 : Array CpInfo := pool [(2, .class_ 4), (1, u "java/lang/Object"), (0, u "<init>"), (0, u "()V"), (0, .methodref 8 9), (0, .class_ 10), (0, .nameAndType 11 12), (0, u "com/example/portunus/portunus/LockKeysQueueKeyPinLaw"), (0, u "pch"), (0, u "(II)C"), (0, .methodref 8 14), (0, .nameAndType 15 16), (0, u "mk"), (0, u "([CI)Ljava/lang/String;"), (0, .class_ 18), (0, u "com/example/portunus/portunus/LockKeys"), (0, .methodref 17 20), (0, .nameAndType 5 21), (0, u "(Ljava/lang/String;)V"), (0, .methodref 17 23), (0, .nameAndType 24 25), (0, u "queueKey"), (0, u "(Ljava/lang/String;)Ljava/lang/String;"), (0, .methodref 27 28), (0, .class_ 29), (0, .nameAndType 30 31), (0, u "java/lang/String"), (0, u "length"), (0, u "()I"), (0, .methodref 8 33), (0, .nameAndType 34 35), (0, u "at"), (0, u "(Ljava/lang/String;II[CI[CI)Z"), (0, .methodref 27 37), (0, .nameAndType 5 38), (0, u "([C)V"), (0, .string 40), (0, u "queue:"), (0, .methodref 27 42), (0, .nameAndType 43 44), (0, u "charAt"), (0, u "(I)C"), (0, .methodref 8 46), (0, .nameAndType 47 48), (0, u "exp"), (0, u "(I[CI[CI)C"), (2, u "law"), (0, u "(III)Z")] 5

def k1m0 : Method := { name := "<init>", desc := "()V", sig := { parameters := [], returnType := none }, accessFlags := 1, code := none }
def k1c1 : Code := { maxStack := 7, maxLocals := 12, code := code, exceptionTable := #[], attributes := #[] }
def k1m1 : Method := { name := "law", desc := "(III)Z", sig := { parameters := [.int, .int, .int], returnType := some .boolean }, accessFlags := 9, code := some k1c1 }
def k1c2 : Code := { maxStack := 2, maxLocals := 3, code := method_3_code, exceptionTable := #[], attributes := #[] }
def k1m2 : Method := { name := "pch", desc := "(II)C", sig := { parameters := [.int, .int], returnType := some .char }, accessFlags := 10, code := some k1c2 }
def k1c3 : Code := { maxStack := 7, maxLocals := 2, code := method_4_code, exceptionTable := #[], attributes := #[] }
def k1m3 : Method := { name := "mk", desc := "([CI)Ljava/lang/String;", sig := { parameters := [(.array .char), .int], returnType := some (.object "java/lang/String") }, accessFlags := 10, code := some k1c3 }
def k1c4 : Code := { maxStack := 2, maxLocals := 7, code := method_5_code, exceptionTable := #[], attributes := #[] }
def k1m4 : Method := { name := "exp", desc := "(I[CI[CI)C", sig := { parameters := [.int, (.array .char), .int, (.array .char), .int], returnType := some .char }, accessFlags := 10, code := some k1c4 }
def k1c5 : Code := { maxStack := 6, maxLocals := 7, code := method_6_code, exceptionTable := #[], attributes := #[] }
def k1m5 : Method := { name := "at", desc := "(Ljava/lang/String;II[CI[CI)Z", sig := { parameters := [(.object "java/lang/String"), .int, .int, (.array .char), .int, (.array .char), .int], returnType := some .boolean }, accessFlags := 10, code := some k1c5 }
/-- com/example/portunus/portunus/LockKeysQueueKeyPinLaw -/
def k1 : Class := { plain "com/example/portunus/portunus/LockKeysQueueKeyPinLaw" (some 0) with
  accessFlags := 49
  interfaces := #[]
  cf := some (fileOf pool1 8 #[] #[{ accessFlags := 1, nameIndex := 5, descriptorIndex := 6, attributes := #[] }, { accessFlags := 9, nameIndex := 51, descriptorIndex := 52, attributes := #[] }, { accessFlags := 10, nameIndex := 11, descriptorIndex := 12, attributes := #[] }, { accessFlags := 10, nameIndex := 15, descriptorIndex := 16, attributes := #[] }, { accessFlags := 10, nameIndex := 47, descriptorIndex := 48, attributes := #[] }, { accessFlags := 10, nameIndex := 34, descriptorIndex := 35, attributes := #[] }] 49 2 #[] #[])
  fields := #[]
  methods := #[k1m0, k1m1, k1m2, k1m3, k1m4, k1m5]
  instanceTypes := #[]
  staticTypes := #[]
  resolved := Array.replicate 58 none
  statics := none }

def pool2 : Array CpInfo := pool [(1, .class_ 2), (0, u "java/io/Serializable"), (0, .class_ 4), (0, u "java/lang/Object")] 2

/-- java/io/Serializable -/
def k2 : Class := { plain "java/io/Serializable" (some 0) with
  accessFlags := 1537
  interfaces := #[]
  cf := some (fileOf pool2 1 #[] #[] 1537 3 #[] #[])
  fields := #[]
  methods := #[]
  instanceTypes := #[]
  staticTypes := #[]
  resolved := Array.replicate 7 none
  statics := none }

def pool3 : Array CpInfo := pool [(1, .class_ 2), (0, u "java/lang/Comparable"), (0, .class_ 4), (0, u "java/lang/Object")] 7

/-- java/lang/Comparable -/
def k3 : Class := { plain "java/lang/Comparable" (some 0) with
  accessFlags := 1537
  interfaces := #[]
  cf := some (fileOf pool3 1 #[] #[] 1537 3 #[] #[])
  fields := #[]
  methods := #[]
  instanceTypes := #[]
  staticTypes := #[]
  resolved := Array.replicate 12 none
  statics := none }

def pool4 : Array CpInfo := pool [(2, .class_ 4), (1, u "java/lang/CharSequence"), (42, .class_ 48), (0, u "java/lang/CharSequence$1CodePointIterator"), (10, .class_ 60), (0, u "java/lang/CharSequence$1CharIterator"), (5, .class_ 67), (0, u "java/lang/Object")] 63

/-- java/lang/CharSequence -/
def k4 : Class := { plain "java/lang/CharSequence" (some 0) with
  accessFlags := 1537
  interfaces := #[]
  cf := some (fileOf pool4 2 #[.nestMembers #[47, 59]] #[] 1537 66 #[] #[])
  fields := #[]
  methods := #[]
  instanceTypes := #[]
  staticTypes := #[]
  resolved := Array.replicate 131 none
  statics := none }

def pool5 : Array CpInfo := pool [(1, .class_ 2), (0, u "java/lang/constant/Constable"), (0, .class_ 4), (0, u "java/lang/Object")] 6

/-- java/lang/constant/Constable -/
def k5 : Class := { plain "java/lang/constant/Constable" (some 0) with
  accessFlags := 1537
  interfaces := #[]
  cf := some (fileOf pool5 1 #[] #[] 1537 3 #[] #[])
  fields := #[]
  methods := #[]
  instanceTypes := #[]
  staticTypes := #[]
  resolved := Array.replicate 11 none
  statics := none }

def pool6 : Array CpInfo := pool [(1, .class_ 2), (0, u "java/lang/constant/ConstantDesc"), (0, .class_ 4), (0, u "java/lang/Object")] 32

/-- java/lang/constant/ConstantDesc -/
def k6 : Class := { plain "java/lang/constant/ConstantDesc" (some 0) with
  accessFlags := 1537
  interfaces := #[]
  cf := some (fileOf pool6 1 #[] #[] 1537 3 #[] #[])
  fields := #[]
  methods := #[]
  instanceTypes := #[]
  staticTypes := #[]
  resolved := Array.replicate 37 none
  statics := none }

def pool7 : Array CpInfo := pool [(1, .methodref 2 3), (0, .class_ 4), (0, .nameAndType 5 6), (0, u "java/lang/Object"), (0, u "<init>"), (0, u "()V"), (0, .string 8), (0, u ""), (0, .fieldref 10 11), (0, .class_ 12), (0, .nameAndType 13 14), (0, u "java/lang/String"), (0, u "value"), (0, u "[B"), (0, .fieldref 10 16), (0, .nameAndType 17 18), (0, u "coder"), (0, u "B"), (2, u "hash"), (0, u "I"), (2, u "hashIsZero"), (0, u "Z"), (0, .methodref 10 28), (0, .nameAndType 5 29), (0, u "([CIILjava/lang/Void;)V"), (8, .fieldref 10 39), (0, .nameAndType 40 26), (0, u "COMPACT_STRINGS"), (1, .class_ 44), (1, u "java/lang/StringUTF16"), (0, u "compress"), (1, .methodref 42 48), (0, .nameAndType 49 50), (0, u "coderFromArrayLen"), (0, u "([BI)B"), (3, .methodref 55 56), (0, .class_ 57), (0, .nameAndType 58 59), (0, u "java/util/Arrays"), (0, u "copyOfRange"), (0, u "([BII)[B"), (47, .class_ 109), (1, u "java/lang/StringLatin1"), (32, u "()Z"), (34, .methodref 42 178), (0, .nameAndType 45 179), (0, u "([CII)[B"), (13, .class_ 195), (1, u "java/lang/System"), (16, .methodref 193 213), (0, .nameAndType 214 215), (0, u "arraycopy"), (0, u "(Ljava/lang/Object;ILjava/lang/Object;II)V"), (118, u "()I"), (0, .methodref 10 336), (0, .nameAndType 17 337), (0, u "()B"), (2, u "()[B"), (22, u "([BI)C"), (27, u "(II)V"), (35, u "(I)C"), (61, .methodref 10 490), (0, .nameAndType 5 491), (0, u "(Ljava/lang/AbstractStringBuilder;Ljava/lang/Void;)V"), (0, .methodref 10 493), (0, .nameAndType 494 142), (0, u "isLatin1"), (0, .methodref 107 496), (0, .nameAndType 497 363), (0, u "charAt"), (3, u "checkIndex"), (3, .methodref 10 506), (0, .nameAndType 507 334), (0, u "length"), (24, u "getBytes"), (16, .methodref 550 506), (0, .class_ 551), (0, u "java/lang/AbstractStringBuilder"), (0, .methodref 550 553), (0, .nameAndType 554 340), (0, u "getValue"), (20, .class_ 576), (0, u "java/lang/CharSequence"), (22, u "CASE_INSENSITIVE_ORDER"), (0, u "Ljava/util/Comparator;"), (32, .methodref 10 634), (0, .nameAndType 635 636), (0, u "indexOf"), (0, u "(II)I"), (0, .methodref 107 638), (0, .nameAndType 635 639), (0, u "([BIII)I"), (52, u "isEmpty"), (72, u "(I)I"), (55, u "([BIB)V"), (188, u "([C)V"), (36, .methodref 550 493), (5, .fieldref 1054 1055), (0, .class_ 1056), (0, .nameAndType 1057 1058), (0, u "jdk/internal/util/Preconditions"), (0, u "SIOOBE_FORMATTER"), (0, u "Ljava/util/function/BiFunction;"), (0, .methodref 1054 1060), (0, .nameAndType 501 1061), (0, u "(IILjava/util/function/BiFunction;)I"), (39, u "serialPersistentFields"), (0, u "[Ljava/io/ObjectStreamField;"), (0, .class_ 1104), (0, u "java/lang/String$CaseInsensitiveComparator"), (1, .class_ 1107), (0, u "java/io/Serializable"), (0, .class_ 1109), (0, u "java/lang/Comparable"), (0, .class_ 1111), (0, u "java/lang/constant/Constable"), (0, .class_ 1113), (0, u "java/lang/constant/ConstantDesc"), (2, u "serialVersionUID"), (0, u "J"), (3, u "REPL"), (0, u "C"), (2, u "LATIN1"), (1, u "UTF16"), (105, u "(Ljava/lang/StringBuilder;)V")] 217

def k7m0 : Method := { name := "<init>", desc := "()V", sig := { parameters := [], returnType := none }, accessFlags := 1, code := none }
def k7c1 : Code := { maxStack := 5, maxLocals := 2, code := jdk_42_method_3_code, exceptionTable := #[], attributes := #[] }
def k7m1 : Method := { name := "<init>", desc := "([C)V", sig := { parameters := [(.array .char)], returnType := none }, accessFlags := 1, code := some k7c1 }
def k7c2 : Code := { maxStack := 3, maxLocals := 2, code := jdk_42_method_53_code, exceptionTable := #[], attributes := #[] }
def k7m2 : Method := { name := "<init>", desc := "(Ljava/lang/StringBuilder;)V", sig := { parameters := [(.object "java/lang/StringBuilder")], returnType := none }, accessFlags := 1, code := some k7c2 }
def k7c3 : Code := { maxStack := 2, maxLocals := 1, code := jdk_42_method_54_code, exceptionTable := #[], attributes := #[] }
def k7m3 : Method := { name := "length", desc := "()I", sig := { parameters := [], returnType := some .int }, accessFlags := 1, code := some k7c3 }
def k7c4 : Code := { maxStack := 1, maxLocals := 1, code := jdk_42_method_55_code, exceptionTable := #[], attributes := #[] }
def k7m4 : Method := { name := "isEmpty", desc := "()Z", sig := { parameters := [], returnType := some .boolean }, accessFlags := 1, code := some k7c4 }
def k7c5 : Code := { maxStack := 2, maxLocals := 2, code := jdk_42_method_56_code, exceptionTable := #[], attributes := #[] }
def k7m5 : Method := { name := "charAt", desc := "(I)C", sig := { parameters := [.int], returnType := some .char }, accessFlags := 1, code := some k7c5 }
def k7c6 : Code := { maxStack := 3, maxLocals := 2, code := jdk_42_method_79_code, exceptionTable := #[], attributes := #[] }
def k7m6 : Method := { name := "indexOf", desc := "(I)I", sig := { parameters := [.int], returnType := some .int }, accessFlags := 1, code := some k7c6 }
def k7c7 : Code := { maxStack := 4, maxLocals := 3, code := jdk_42_method_80_code, exceptionTable := #[], attributes := #[] }
def k7m7 : Method := { name := "indexOf", desc := "(II)I", sig := { parameters := [.int, .int], returnType := some .int }, accessFlags := 1, code := some k7c7 }
def k7c8 : Code := { maxStack := 5, maxLocals := 4, code := jdk_42_method_147_code, exceptionTable := #[], attributes := #[] }
def k7m8 : Method := { name := "getBytes", desc := "([BIB)V", sig := { parameters := [(.array .byte), .int, .byte], returnType := none }, accessFlags := 0, code := some k7c8 }
def k7c9 : Code := { maxStack := 4, maxLocals := 6, code := jdk_42_method_149_code, exceptionTable := #[], attributes := #[] }
def k7m9 : Method := { name := "<init>", desc := "([CIILjava/lang/Void;)V", sig := { parameters := [(.array .char), .int, .int, (.object "java/lang/Void")], returnType := none }, accessFlags := 2, code := some k7c9 }
def k7c10 : Code := { maxStack := 5, maxLocals := 5, code := jdk_42_method_150_code, exceptionTable := #[], attributes := #[] }
def k7m10 : Method := { name := "<init>", desc := "(Ljava/lang/AbstractStringBuilder;Ljava/lang/Void;)V", sig := { parameters := [(.object "java/lang/AbstractStringBuilder"), (.object "java/lang/Void")], returnType := none }, accessFlags := 0, code := some k7c10 }
def k7c11 : Code := { maxStack := 1, maxLocals := 1, code := jdk_42_method_152_code, exceptionTable := #[], attributes := #[] }
def k7m11 : Method := { name := "coder", desc := "()B", sig := { parameters := [], returnType := some .byte }, accessFlags := 0, code := some k7c11 }
def k7c12 : Code := { maxStack := 1, maxLocals := 1, code := jdk_42_method_154_code, exceptionTable := #[], attributes := #[] }
def k7m12 : Method := { name := "isLatin1", desc := "()Z", sig := { parameters := [], returnType := some .boolean }, accessFlags := 0, code := some k7c12 }
def k7c13 : Code := { maxStack := 3, maxLocals := 2, code := jdk_42_method_155_code, exceptionTable := #[], attributes := #[] }
def k7m13 : Method := { name := "checkIndex", desc := "(II)V", sig := { parameters := [.int, .int], returnType := none }, accessFlags := 8, code := some k7c13 }
/-- java/lang/String -/
def k7 : Class := { plain "java/lang/String" (some 0) with
  accessFlags := 49
  interfaces := #[2, 3, 4, 5, 6]
  cf := some (fileOf pool7 10 #[.nestMembers #[1103]] #[{ accessFlags := 1, nameIndex := 5, descriptorIndex := 6, attributes := #[] }, { accessFlags := 1, nameIndex := 5, descriptorIndex := 1010, attributes := #[] }, { accessFlags := 1, nameIndex := 5, descriptorIndex := 1233, attributes := #[] }, { accessFlags := 1, nameIndex := 507, descriptorIndex := 334, attributes := #[] }, { accessFlags := 1, nameIndex := 692, descriptorIndex := 142, attributes := #[] }, { accessFlags := 1, nameIndex := 497, descriptorIndex := 427, attributes := #[] }, { accessFlags := 1, nameIndex := 635, descriptorIndex := 765, attributes := #[] }, { accessFlags := 1, nameIndex := 635, descriptorIndex := 636, attributes := #[] }, { accessFlags := 0, nameIndex := 532, descriptorIndex := 821, attributes := #[] }, { accessFlags := 2, nameIndex := 5, descriptorIndex := 29, attributes := #[] }, { accessFlags := 0, nameIndex := 5, descriptorIndex := 491, attributes := #[] }, { accessFlags := 0, nameIndex := 17, descriptorIndex := 337, attributes := #[] }, { accessFlags := 0, nameIndex := 494, descriptorIndex := 142, attributes := #[] }, { accessFlags := 8, nameIndex := 501, descriptorIndex := 391, attributes := #[] }] 49 2 #[1106, 1108, 575, 1110, 1112] #[{ accessFlags := 18, nameIndex := 13, descriptorIndex := 14, attributes := #[] }, { accessFlags := 18, nameIndex := 17, descriptorIndex := 18, attributes := #[] }, { accessFlags := 2, nameIndex := 21, descriptorIndex := 22, attributes := #[] }, { accessFlags := 2, nameIndex := 25, descriptorIndex := 26, attributes := #[] }, { accessFlags := 26, nameIndex := 1116, descriptorIndex := 1117, attributes := #[] }, { accessFlags := 24, nameIndex := 40, descriptorIndex := 26, attributes := #[] }, { accessFlags := 26, nameIndex := 1101, descriptorIndex := 1102, attributes := #[] }, { accessFlags := 26, nameIndex := 1121, descriptorIndex := 1122, attributes := #[] }, { accessFlags := 25, nameIndex := 599, descriptorIndex := 600, attributes := #[] }, { accessFlags := 24, nameIndex := 1125, descriptorIndex := 18, attributes := #[] }, { accessFlags := 24, nameIndex := 1127, descriptorIndex := 18, attributes := #[] }])
  fields := #[{ name := "value", type := (.array .byte), accessFlags := 18, slot := 0, constantValue := 0 }, { name := "coder", type := .byte, accessFlags := 18, slot := 1, constantValue := 0 }, { name := "hash", type := .int, accessFlags := 2, slot := 2, constantValue := 0 }, { name := "hashIsZero", type := .boolean, accessFlags := 2, slot := 3, constantValue := 0 }, { name := "serialVersionUID", type := .long, accessFlags := 26, slot := 0, constantValue := 0 }, { name := "COMPACT_STRINGS", type := .boolean, accessFlags := 24, slot := 1, constantValue := 0 }, { name := "serialPersistentFields", type := (.array (.object "java/io/ObjectStreamField")), accessFlags := 26, slot := 2, constantValue := 0 }, { name := "REPL", type := .char, accessFlags := 26, slot := 3, constantValue := 0 }, { name := "CASE_INSENSITIVE_ORDER", type := (.object "java/util/Comparator"), accessFlags := 25, slot := 4, constantValue := 0 }, { name := "LATIN1", type := .byte, accessFlags := 24, slot := 5, constantValue := 0 }, { name := "UTF16", type := .byte, accessFlags := 24, slot := 6, constantValue := 0 }]
  methods := #[k7m0, k7m1, k7m2, k7m3, k7m4, k7m5, k7m6, k7m7, k7m8, k7m9, k7m10, k7m11, k7m12, k7m13]
  instanceTypes := #[(.array .byte), .byte, .int, .boolean]
  staticTypes := #[.long, .boolean, (.array (.object "java/io/ObjectStreamField")), .char, (.object "java/util/Comparator"), .byte, .byte]
  resolved := Array.replicate 1451 none
  statics := some 0 }

def pool8 : Array CpInfo := pool [(6, .class_ 8), (1, u "java/lang/Object"), (0, u "<init>"), (0, u "()V"), (1, .class_ 14), (1, u "java/lang/StringUTF16"), (31, u "$assertionsDisabled"), (0, u "Z"), (13, u "HI_BYTE_SHIFT"), (0, u "I"), (2, u "LO_BYTE_SHIFT"), (49, .methodref 12 116), (0, .nameAndType 117 118), (0, u "compress"), (0, u "([CI[BII)I"), (3, u "([CII)[B"), (138, u "coderFromArrayLen"), (0, u "([BI)B"), (106, .class_ 371), (1, u "java/lang/StringUTF16$LinesSpliterator"), (58, u "MAX_LENGTH"), (196, .class_ 628), (0, u "java/lang/StringUTF16$CodePointsSpliterator"), (0, .class_ 630), (0, u "java/lang/StringUTF16$CharsSpliterator")] 4

def k8m0 : Method := { name := "<init>", desc := "()V", sig := { parameters := [], returnType := none }, accessFlags := 0, code := none }
def k8c1 : Code := { maxStack := 2, maxLocals := 2, code := jdk_52_method_15_code, exceptionTable := #[], attributes := #[] }
def k8m1 : Method := { name := "coderFromArrayLen", desc := "([BI)B", sig := { parameters := [(.array .byte), .int], returnType := some .byte }, accessFlags := 8, code := some k8c1 }
def k8c2 : Code := { maxStack := 5, maxLocals := 6, code := jdk_52_method_16_code, exceptionTable := #[], attributes := #[] }
def k8m2 : Method := { name := "compress", desc := "([CII)[B", sig := { parameters := [(.array .char), .int, .int], returnType := some (.array .byte) }, accessFlags := 9, code := some k8c2 }
def k8c3 : Code := { maxStack := 3, maxLocals := 7, code := jdk_52_method_21_code, exceptionTable := #[], attributes := #[] }
def k8m3 : Method := { name := "compress", desc := "([CI[BII)I", sig := { parameters := [(.array .char), .int, (.array .byte), .int, .int], returnType := some .int }, accessFlags := 9, code := some k8c3 }
/-- java/lang/StringUTF16 -/
def k8 : Class := { plain "java/lang/StringUTF16" (some 0) with
  accessFlags := 48
  interfaces := #[]
  cf := some (fileOf pool8 12 #[.nestMembers #[627, 629, 369]] #[{ accessFlags := 0, nameIndex := 9, descriptorIndex := 10, attributes := #[] }, { accessFlags := 8, nameIndex := 261, descriptorIndex := 262, attributes := #[] }, { accessFlags := 9, nameIndex := 117, descriptorIndex := 122, attributes := #[] }, { accessFlags := 9, nameIndex := 117, descriptorIndex := 118, attributes := #[] }] 48 6 #[] #[{ accessFlags := 26, nameIndex := 61, descriptorIndex := 62, attributes := #[] }, { accessFlags := 26, nameIndex := 65, descriptorIndex := 62, attributes := #[] }, { accessFlags := 24, nameIndex := 430, descriptorIndex := 62, attributes := #[] }, { accessFlags := 4120, nameIndex := 46, descriptorIndex := 47, attributes := #[] }])
  fields := #[{ name := "HI_BYTE_SHIFT", type := .int, accessFlags := 26, slot := 0, constantValue := 0 }, { name := "LO_BYTE_SHIFT", type := .int, accessFlags := 26, slot := 1, constantValue := 0 }, { name := "MAX_LENGTH", type := .int, accessFlags := 24, slot := 2, constantValue := 0 }, { name := "$assertionsDisabled", type := .boolean, accessFlags := 4120, slot := 3, constantValue := 0 }]
  methods := #[k8m0, k8m1, k8m2, k8m3]
  instanceTypes := #[]
  staticTypes := #[.int, .int, .int, .boolean]
  resolved := Array.replicate 635 none
  statics := none }

def pool9 : Array CpInfo := pool [(1, .methodref 2 3), (0, .class_ 4), (0, .nameAndType 5 6), (0, u "java/lang/Object"), (0, u "<init>"), (0, u "()V"), (0, .string 8), (0, u "prefix"), (0, .methodref 10 11), (0, .class_ 12), (0, .nameAndType 13 14), (0, u "java/util/Objects"), (0, u "requireNonNull"), (0, u "(Ljava/lang/Object;Ljava/lang/String;)Ljava/lang/Object;"), (0, .methodref 16 17), (0, .class_ 18), (0, .nameAndType 19 20), (0, u "java/lang/String"), (0, u "indexOf"), (0, u "(I)I"), (2, .class_ 24), (0, u "java/lang/StringBuilder"), (0, .methodref 23 3), (2, .methodref 23 29), (0, .nameAndType 30 31), (0, u "append"), (0, u "(Ljava/lang/String;)Ljava/lang/StringBuilder;"), (0, .methodref 23 33), (0, .nameAndType 34 35), (0, u "toString"), (0, u "()Ljava/lang/String;"), (2, u "(Ljava/lang/String;)V"), (0, .fieldref 40 41), (0, .class_ 42), (0, .nameAndType 8 43), (0, u "com/example/portunus/portunus/LockKeys"), (0, u "Ljava/lang/String;"), (2, .methodref 40 47), (0, .nameAndType 48 49), (0, u "braced"), (0, u "(Ljava/lang/String;)Ljava/lang/String;"), (2, .string 53), (0, u "queue:"), (6, .string 61), (0, u "name"), (0, .methodref 16 63), (0, .nameAndType 64 65), (0, u "isEmpty"), (0, u "()Z"), (0, .methodref 16 67), (0, .nameAndType 68 69), (0, u "charAt"), (0, u "(I)C"), (2, .string 73), (0, u "{"), (0, .string 75), (0, u "}"), (0, u "DEFAULT_PREFIX"), (8, u "queueKey")] 5

def k9c0 : Code := { maxStack := 4, maxLocals := 2, code := prog_6_method_1_code, exceptionTable := #[], attributes := #[] }
def k9m0 : Method := { name := "<init>", desc := "(Ljava/lang/String;)V", sig := { parameters := [(.object "java/lang/String")], returnType := none }, accessFlags := 0, code := some k9c0 }
def k9c1 : Code := { maxStack := 2, maxLocals := 2, code := prog_6_method_4_code, exceptionTable := #[], attributes := #[] }
def k9m1 : Method := { name := "queueKey", desc := "(Ljava/lang/String;)Ljava/lang/String;", sig := { parameters := [(.object "java/lang/String")], returnType := some (.object "java/lang/String") }, accessFlags := 0, code := some k9c1 }
def k9c2 : Code := { maxStack := 4, maxLocals := 1, code := prog_6_method_8_code, exceptionTable := #[], attributes := #[] }
def k9m2 : Method := { name := "braced", desc := "(Ljava/lang/String;)Ljava/lang/String;", sig := { parameters := [(.object "java/lang/String")], returnType := some (.object "java/lang/String") }, accessFlags := 10, code := some k9c2 }
/-- com/example/portunus/portunus/LockKeys -/
def k9 : Class := { plain "com/example/portunus/portunus/LockKeys" (some 0) with
  accessFlags := 48
  interfaces := #[]
  cf := some (fileOf pool9 40 #[] #[{ accessFlags := 0, nameIndex := 5, descriptorIndex := 38, attributes := #[] }, { accessFlags := 0, nameIndex := 85, descriptorIndex := 49, attributes := #[] }, { accessFlags := 10, nameIndex := 48, descriptorIndex := 49, attributes := #[] }] 48 2 #[] #[{ accessFlags := 24, nameIndex := 76, descriptorIndex := 43, attributes := #[] }, { accessFlags := 18, nameIndex := 8, descriptorIndex := 43, attributes := #[] }])
  fields := #[{ name := "DEFAULT_PREFIX", type := (.object "java/lang/String"), accessFlags := 24, slot := 0, constantValue := 0 }, { name := "prefix", type := (.object "java/lang/String"), accessFlags := 18, slot := 0, constantValue := 0 }]
  methods := #[k9m0, k9m1, k9m2]
  instanceTypes := #[(.object "java/lang/String")]
  staticTypes := #[(.object "java/lang/String")]
  resolved := Array.replicate 91 none
  statics := none }

def pool10 : Array CpInfo := pool [(2, .class_ 4), (1, u "java/lang/Object"), (0, u "<init>"), (0, u "()V"), (35, .class_ 44), (1, u "java/util/Objects"), (0, u "requireNonNull"), (48, u "(Ljava/lang/Object;Ljava/lang/String;)Ljava/lang/Object;")] 89

def k10m0 : Method := { name := "<init>", desc := "()V", sig := { parameters := [], returnType := none }, accessFlags := 2, code := none }
def k10c1 : Code := { maxStack := 3, maxLocals := 2, code := jdk_31_method_11_code, exceptionTable := #[], attributes := #[] }
def k10m1 : Method := { name := "requireNonNull", desc := "(Ljava/lang/Object;Ljava/lang/String;)Ljava/lang/Object;", sig := { parameters := [(.object "java/lang/Object"), (.object "java/lang/String")], returnType := some (.object "java/lang/Object") }, accessFlags := 9, code := some k10c1 }
/-- java/util/Objects -/
def k10 : Class := { plain "java/util/Objects" (some 0) with
  accessFlags := 49
  interfaces := #[]
  cf := some (fileOf pool10 42 #[] #[{ accessFlags := 2, nameIndex := 5, descriptorIndex := 6, attributes := #[] }, { accessFlags := 9, nameIndex := 45, descriptorIndex := 94, attributes := #[] }] 49 2 #[] #[])
  fields := #[]
  methods := #[k10m0, k10m1]
  instanceTypes := #[]
  staticTypes := #[]
  resolved := Array.replicate 184 none
  statics := none }

def pool11 : Array CpInfo := pool [(1, .class_ 2), (0, u "java/lang/String"), (1, .class_ 6), (1, u "java/lang/Object"), (0, u "<init>"), (0, u "()V"), (0, .methodref 1 10), (0, .nameAndType 11 12), (0, u "checkIndex"), (0, u "(II)V"), (1, .class_ 16), (1, u "java/lang/StringLatin1"), (21, .methodref 39 40), (0, .class_ 41), (0, .nameAndType 42 43), (0, u "java/lang/Math"), (0, u "min"), (0, u "(II)I"), (9, u "([BI)C"), (34, .methodref 14 89), (0, .nameAndType 90 91), (0, u "canEncode"), (0, u "(I)Z"), (0, .methodref 39 93), (0, .nameAndType 94 43), (0, u "max"), (0, .methodref 14 96), (0, .nameAndType 97 98), (0, u "indexOfChar"), (0, u "([BIII)I"), (2, u "indexOf"), (19, u "$assertionsDisabled"), (0, u "Z"), (98, .class_ 223), (1, u "java/lang/StringLatin1$LinesSpliterator"), (28, u "charAt"), (137, .class_ 391), (0, u "java/lang/StringLatin1$CharsSpliterator")] 3

def k11m0 : Method := { name := "<init>", desc := "()V", sig := { parameters := [], returnType := none }, accessFlags := 0, code := none }
def k11c1 : Code := { maxStack := 2, maxLocals := 2, code := jdk_43_method_2_code, exceptionTable := #[], attributes := #[] }
def k11m1 : Method := { name := "charAt", desc := "([BI)C", sig := { parameters := [(.array .byte), .int], returnType := some .char }, accessFlags := 9, code := some k11c1 }
def k11c2 : Code := { maxStack := 2, maxLocals := 1, code := jdk_43_method_4_code, exceptionTable := #[], attributes := #[] }
def k11m2 : Method := { name := "canEncode", desc := "(I)Z", sig := { parameters := [.int], returnType := some .boolean }, accessFlags := 9, code := some k11c2 }
def k11c3 : Code := { maxStack := 4, maxLocals := 4, code := jdk_43_method_22_code, exceptionTable := #[], attributes := #[] }
def k11m3 : Method := { name := "indexOf", desc := "([BIII)I", sig := { parameters := [(.array .byte), .int, .int, .int], returnType := some .int }, accessFlags := 9, code := some k11c3 }
def k11c4 : Code := { maxStack := 2, maxLocals := 6, code := jdk_43_method_23_code, exceptionTable := #[], attributes := #[] }
def k11m4 : Method := { name := "indexOfChar", desc := "([BIII)I", sig := { parameters := [(.array .byte), .int, .int, .int], returnType := some .int }, accessFlags := 10, code := some k11c4 }
/-- java/lang/StringLatin1 -/
def k11 : Class := { plain "java/lang/StringLatin1" (some 0) with
  accessFlags := 48
  interfaces := #[]
  cf := some (fileOf pool11 14 #[.nestMembers #[390, 221]] #[{ accessFlags := 0, nameIndex := 7, descriptorIndex := 8, attributes := #[] }, { accessFlags := 9, nameIndex := 252, descriptorIndex := 53, attributes := #[] }, { accessFlags := 9, nameIndex := 90, descriptorIndex := 91, attributes := #[] }, { accessFlags := 9, nameIndex := 101, descriptorIndex := 98, attributes := #[] }, { accessFlags := 10, nameIndex := 97, descriptorIndex := 98, attributes := #[] }] 48 4 #[] #[{ accessFlags := 4120, nameIndex := 121, descriptorIndex := 122, attributes := #[] }])
  fields := #[{ name := "$assertionsDisabled", type := .boolean, accessFlags := 4120, slot := 0, constantValue := 0 }]
  methods := #[k11m0, k11m1, k11m2, k11m3, k11m4]
  instanceTypes := #[]
  staticTypes := #[.boolean]
  resolved := Array.replicate 395 none
  statics := none }

def pool12 : Array CpInfo := pool [(1, .class_ 2), (0, u "java/lang/Math"), (1, .class_ 6), (1, u "java/lang/Object"), (0, u "<init>"), (0, u "()V"), (89, .class_ 100), (1, u "java/lang/Math$RandomNumberGeneratorHolder"), (71, u "negativeZeroFloatBits"), (0, u "J"), (2, u "negativeZeroDoubleBits"), (21, u "max"), (2, u "min"), (43, u "$assertionsDisabled"), (0, u "Z"), (88, u "(II)I"), (2, u "twoToTheDoubleScaleDown"), (0, u "D"), (4, u "twoToTheDoubleScaleUp"), (9, u "E"), (3, u "PI"), (2, u "TAU"), (2, u "DEGREES_TO_RADIANS"), (0, u "RADIANS_TO_DEGREES")] 94

def k12m0 : Method := { name := "<init>", desc := "()V", sig := { parameters := [], returnType := none }, accessFlags := 2, code := none }
def k12c1 : Code := { maxStack := 2, maxLocals := 2, code := jdk_29_method_65_code, exceptionTable := #[], attributes := #[] }
def k12m1 : Method := { name := "max", desc := "(II)I", sig := { parameters := [.int, .int], returnType := some .int }, accessFlags := 9, code := some k12c1 }
def k12c2 : Code := { maxStack := 2, maxLocals := 2, code := jdk_29_method_69_code, exceptionTable := #[], attributes := #[] }
def k12m2 : Method := { name := "min", desc := "(II)I", sig := { parameters := [.int, .int], returnType := some .int }, accessFlags := 9, code := some k12c2 }
/-- java/lang/Math -/
def k12 : Class := { plain "java/lang/Math" (some 0) with
  accessFlags := 49
  interfaces := #[]
  cf := some (fileOf pool12 1 #[.nestMembers #[98]] #[{ accessFlags := 2, nameIndex := 7, descriptorIndex := 8, attributes := #[] }, { accessFlags := 9, nameIndex := 198, descriptorIndex := 335, attributes := #[] }, { accessFlags := 9, nameIndex := 201, descriptorIndex := 335, attributes := #[] }] 49 4 #[] #[{ accessFlags := 25, nameIndex := 354, descriptorIndex := 339, attributes := #[] }, { accessFlags := 25, nameIndex := 358, descriptorIndex := 339, attributes := #[] }, { accessFlags := 25, nameIndex := 361, descriptorIndex := 339, attributes := #[] }, { accessFlags := 26, nameIndex := 364, descriptorIndex := 339, attributes := #[] }, { accessFlags := 26, nameIndex := 365, descriptorIndex := 339, attributes := #[] }, { accessFlags := 26, nameIndex := 172, descriptorIndex := 173, attributes := #[] }, { accessFlags := 26, nameIndex := 176, descriptorIndex := 173, attributes := #[] }, { accessFlags := 8, nameIndex := 344, descriptorIndex := 339, attributes := #[] }, { accessFlags := 8, nameIndex := 338, descriptorIndex := 339, attributes := #[] }, { accessFlags := 4120, nameIndex := 245, descriptorIndex := 246, attributes := #[] }])
  fields := #[{ name := "E", type := .double, accessFlags := 25, slot := 0, constantValue := 0 }, { name := "PI", type := .double, accessFlags := 25, slot := 1, constantValue := 0 }, { name := "TAU", type := .double, accessFlags := 25, slot := 2, constantValue := 0 }, { name := "DEGREES_TO_RADIANS", type := .double, accessFlags := 26, slot := 3, constantValue := 0 }, { name := "RADIANS_TO_DEGREES", type := .double, accessFlags := 26, slot := 4, constantValue := 0 }, { name := "negativeZeroFloatBits", type := .long, accessFlags := 26, slot := 5, constantValue := 0 }, { name := "negativeZeroDoubleBits", type := .long, accessFlags := 26, slot := 6, constantValue := 0 }, { name := "twoToTheDoubleScaleUp", type := .double, accessFlags := 8, slot := 7, constantValue := 0 }, { name := "twoToTheDoubleScaleDown", type := .double, accessFlags := 8, slot := 8, constantValue := 0 }, { name := "$assertionsDisabled", type := .boolean, accessFlags := 4120, slot := 9, constantValue := 0 }]
  methods := #[k12m0, k12m1, k12m2]
  instanceTypes := #[]
  staticTypes := #[.double, .double, .double, .double, .double, .long, .long, .double, .double, .boolean]
  resolved := Array.replicate 460 none
  statics := none }

def pool13 : Array CpInfo := pool [(1, .class_ 2), (0, u "java/lang/Appendable"), (0, .class_ 4), (0, u "java/lang/Object")] 9

/-- java/lang/Appendable -/
def k13 : Class := { plain "java/lang/Appendable" (some 0) with
  accessFlags := 1537
  interfaces := #[]
  cf := some (fileOf pool13 1 #[] #[] 1537 3 #[] #[])
  fields := #[]
  methods := #[]
  instanceTypes := #[]
  staticTypes := #[]
  resolved := Array.replicate 14 none
  statics := none }

def pool14 : Array CpInfo := pool [(1, .class_ 2), (0, u "java/lang/String"), (0, .methodref 4 5), (0, .class_ 6), (0, .nameAndType 7 8), (0, u "java/lang/Object"), (0, u "<init>"), (0, u "()V"), (1, .class_ 12), (1, u "java/lang/AbstractStringBuilder"), (0, u "EMPTYVALUE"), (0, u "[B"), (0, .fieldref 10 16), (0, .nameAndType 17 14), (0, u "value"), (0, .fieldref 1 19), (0, .nameAndType 20 21), (0, u "COMPACT_STRINGS"), (0, u "Z"), (0, .fieldref 10 23), (0, .nameAndType 24 25), (0, u "coder"), (0, u "B"), (6, .methodref 1 33), (0, .nameAndType 34 35), (0, u "length"), (0, u "()I"), (4, .methodref 1 41), (0, .nameAndType 24 42), (0, u "()B"), (2, u "append"), (0, u "(Ljava/lang/String;)Ljava/lang/AbstractStringBuilder;"), (1, .class_ 49), (0, u "java/lang/CharSequence"), (19, u "(Ljava/lang/String;)V"), (5, u "maybeLatin1"), (3, .fieldref 10 80), (0, .nameAndType 81 82), (0, u "count"), (0, u "I"), (2, u "isLatin1"), (0, u "()Z"), (13, .methodref 10 101), (0, .nameAndType 102 103), (0, u "ensureCapacityInternal"), (0, u "(I)V"), (104, .methodref 10 209), (0, .nameAndType 210 211), (0, u "putStringAt"), (0, u "(ILjava/lang/String;)V"), (5, u "inflateIfNeededFor"), (2, .nameAndType 221 222), (0, u "getBytes"), (0, u "([BIB)V"), (174, .methodref 10 398), (0, .nameAndType 217 69), (0, .methodref 1 220), (3, u "()[B"), (40, .class_ 445), (0, u "java/lang/Appendable"), (106, u "getValue")] 56

def k14m0 : Method := { name := "<init>", desc := "()V", sig := { parameters := [], returnType := none }, accessFlags := 0, code := none }
def k14c1 : Code := { maxStack := 2, maxLocals := 2, code := jdk_68_method_2_code, exceptionTable := #[], attributes := #[] }
def k14m1 : Method := { name := "<init>", desc := "(I)V", sig := { parameters := [.int], returnType := none }, accessFlags := 0, code := some k14c1 }
def k14c2 : Code := { maxStack := 1, maxLocals := 1, code := jdk_68_method_6_code, exceptionTable := #[], attributes := #[] }
def k14m2 : Method := { name := "length", desc := "()I", sig := { parameters := [], returnType := some .int }, accessFlags := 1, code := some k14c2 }
def k14c3 : Code := { maxStack := 4, maxLocals := 3, code := jdk_68_method_9_code, exceptionTable := #[], attributes := #[] }
def k14m3 : Method := { name := "ensureCapacityInternal", desc := "(I)V", sig := { parameters := [.int], returnType := none }, accessFlags := 2, code := some k14c3 }
def k14c4 : Code := { maxStack := 3, maxLocals := 3, code := jdk_68_method_22_code, exceptionTable := #[], attributes := #[] }
def k14m4 : Method := { name := "append", desc := "(Ljava/lang/String;)Ljava/lang/AbstractStringBuilder;", sig := { parameters := [(.object "java/lang/String")], returnType := some (.object "java/lang/AbstractStringBuilder") }, accessFlags := 1, code := some k14c4 }
def k14c5 : Code := { maxStack := 1, maxLocals := 1, code := jdk_68_method_64_code, exceptionTable := #[], attributes := #[] }
def k14m5 : Method := { name := "getValue", desc := "()[B", sig := { parameters := [], returnType := some (.array .byte) }, accessFlags := 16, code := some k14c5 }
def k14c6 : Code := { maxStack := 1, maxLocals := 1, code := jdk_68_method_68_code, exceptionTable := #[], attributes := #[] }
def k14m6 : Method := { name := "isLatin1", desc := "()Z", sig := { parameters := [], returnType := some .boolean }, accessFlags := 16, code := some k14c6 }
def k14c7 : Code := { maxStack := 2, maxLocals := 2, code := jdk_68_method_71_code, exceptionTable := #[], attributes := #[] }
def k14m7 : Method := { name := "inflateIfNeededFor", desc := "(Ljava/lang/String;)V", sig := { parameters := [(.object "java/lang/String")], returnType := none }, accessFlags := 2, code := some k14c7 }
def k14c8 : Code := { maxStack := 4, maxLocals := 3, code := jdk_68_method_73_code, exceptionTable := #[], attributes := #[] }
def k14m8 : Method := { name := "putStringAt", desc := "(ILjava/lang/String;)V", sig := { parameters := [.int, (.object "java/lang/String")], returnType := none }, accessFlags := 2, code := some k14c8 }
/-- java/lang/AbstractStringBuilder -/
def k14 : Class := { plain "java/lang/AbstractStringBuilder" (some 0) with
  accessFlags := 1056
  interfaces := #[13, 4]
  cf := some (fileOf pool14 10 #[] #[{ accessFlags := 0, nameIndex := 7, descriptorIndex := 8, attributes := #[] }, { accessFlags := 0, nameIndex := 7, descriptorIndex := 103, attributes := #[] }, { accessFlags := 1, nameIndex := 34, descriptorIndex := 35, attributes := #[] }, { accessFlags := 2, nameIndex := 102, descriptorIndex := 103, attributes := #[] }, { accessFlags := 1, nameIndex := 45, descriptorIndex := 46, attributes := #[] }, { accessFlags := 16, nameIndex := 552, descriptorIndex := 403, attributes := #[] }, { accessFlags := 16, nameIndex := 85, descriptorIndex := 86, attributes := #[] }, { accessFlags := 2, nameIndex := 217, descriptorIndex := 69, attributes := #[] }, { accessFlags := 2, nameIndex := 210, descriptorIndex := 211, attributes := #[] }] 1056 4 #[444, 48] #[{ accessFlags := 0, nameIndex := 17, descriptorIndex := 14, attributes := #[] }, { accessFlags := 0, nameIndex := 24, descriptorIndex := 25, attributes := #[] }, { accessFlags := 0, nameIndex := 75, descriptorIndex := 21, attributes := #[] }, { accessFlags := 0, nameIndex := 81, descriptorIndex := 82, attributes := #[] }, { accessFlags := 26, nameIndex := 13, descriptorIndex := 14, attributes := #[] }])
  fields := #[{ name := "value", type := (.array .byte), accessFlags := 0, slot := 0, constantValue := 0 }, { name := "coder", type := .byte, accessFlags := 0, slot := 1, constantValue := 0 }, { name := "maybeLatin1", type := .boolean, accessFlags := 0, slot := 2, constantValue := 0 }, { name := "count", type := .int, accessFlags := 0, slot := 3, constantValue := 0 }, { name := "EMPTYVALUE", type := (.array .byte), accessFlags := 26, slot := 0, constantValue := 0 }]
  methods := #[k14m0, k14m1, k14m2, k14m3, k14m4, k14m5, k14m6, k14m7, k14m8]
  instanceTypes := #[(.array .byte), .byte, .boolean, .int]
  staticTypes := #[(.array .byte)]
  resolved := Array.replicate 609 none
  statics := none }

def pool15 : Array CpInfo := pool [(1, .methodref 2 3), (0, .class_ 4), (0, .nameAndType 5 6), (0, u "java/lang/AbstractStringBuilder"), (0, u "<init>"), (0, u "(I)V"), (11, .class_ 20), (1, u "java/lang/String"), (3, .class_ 26), (1, u "java/lang/StringBuilder"), (0, u "append"), (0, u "(Ljava/lang/String;)Ljava/lang/StringBuilder;"), (0, .methodref 2 30), (0, .nameAndType 27 31), (0, u "(Ljava/lang/String;)Ljava/lang/AbstractStringBuilder;"), (105, .methodref 18 138), (0, .nameAndType 5 139), (0, u "(Ljava/lang/StringBuilder;)V"), (5, u "()V"), (10, u "()I"), (186, .methodref 2 344), (0, .nameAndType 345 156), (0, u "length"), (3, .class_ 350), (0, u "java/lang/Appendable"), (0, .class_ 352), (0, u "java/io/Serializable"), (0, .class_ 354), (0, u "java/lang/Comparable"), (0, .class_ 356), (0, u "java/lang/CharSequence"), (0, u "serialVersionUID"), (0, u "J"), (40, u "toString"), (0, u "()Ljava/lang/String;")] 21

def k15c0 : Code := { maxStack := 2, maxLocals := 1, code := jdk_67_method_1_code, exceptionTable := #[], attributes := #[] }
def k15m0 : Method := { name := "<init>", desc := "()V", sig := { parameters := [], returnType := none }, accessFlags := 1, code := some k15c0 }
def k15c1 : Code := { maxStack := 2, maxLocals := 2, code := jdk_67_method_7_code, exceptionTable := #[], attributes := #[] }
def k15m1 : Method := { name := "append", desc := "(Ljava/lang/String;)Ljava/lang/StringBuilder;", sig := { parameters := [(.object "java/lang/String")], returnType := some (.object "java/lang/StringBuilder") }, accessFlags := 1, code := some k15c1 }
def k15c2 : Code := { maxStack := 3, maxLocals := 1, code := jdk_67_method_42_code, exceptionTable := #[], attributes := #[] }
def k15m2 : Method := { name := "toString", desc := "()Ljava/lang/String;", sig := { parameters := [], returnType := some (.object "java/lang/String") }, accessFlags := 1, code := some k15c2 }
def k15c3 : Code := { maxStack := 1, maxLocals := 1, code := jdk_67_method_93_code, exceptionTable := #[], attributes := #[] }
def k15m3 : Method := { name := "length", desc := "()I", sig := { parameters := [], returnType := some .int }, accessFlags := 4161, code := some k15c3 }
/-- java/lang/StringBuilder -/
def k15 : Class := { plain "java/lang/StringBuilder" (some 14) with
  accessFlags := 49
  interfaces := #[13, 2, 3, 4]
  cf := some (fileOf pool15 24 #[] #[{ accessFlags := 1, nameIndex := 5, descriptorIndex := 145, attributes := #[] }, { accessFlags := 1, nameIndex := 27, descriptorIndex := 28, attributes := #[] }, { accessFlags := 1, nameIndex := 399, descriptorIndex := 400, attributes := #[] }, { accessFlags := 4161, nameIndex := 345, descriptorIndex := 156, attributes := #[] }] 49 2 #[349, 351, 353, 355] #[{ accessFlags := 24, nameIndex := 357, descriptorIndex := 358, attributes := #[] }])
  fields := #[{ name := "serialVersionUID", type := .long, accessFlags := 24, slot := 0, constantValue := 0 }]
  methods := #[k15m0, k15m1, k15m2, k15m3]
  instanceTypes := #[(.array .byte), .byte, .boolean, .int]
  staticTypes := #[.long]
  resolved := Array.replicate 422 none
  statics := none }

def pool16 : Array CpInfo := pool [(2, .class_ 4), (1, u "java/lang/Object"), (0, u "<init>"), (0, u "()V"), (1, .class_ 10), (1, u "java/lang/System"), (0, u "allowSecurityManager"), (0, u "I"), (16, u "cons"), (0, u "Ljava/io/Console;"), (77, .class_ 110), (1, u "java/lang/System$CallersHolder"), (43, u "initialErrStream"), (0, u "Ljava/io/PrintStream;"), (19, u "security"), (0, u "Ljava/lang/SecurityManager;"), (31, .class_ 209), (0, u "java/lang/System$1"), (7, u "props"), (0, u "Ljava/util/Properties;"), (2, u "lineSeparator"), (0, u "Ljava/lang/String;"), (96, .class_ 321), (1, u "java/lang/System$LoggerFinder"), (5, .class_ 328), (0, u "java/lang/System$Logger"), (67, u "err"), (2, u "out"), (91, u "notSupportedJnuEncoding"), (15, u "in"), (17, u "initialIn"), (0, u "Ljava/io/InputStream;"), (35, u "bootLayer"), (0, u "Ljava/lang/ModuleLayer;"), (99, .class_ 664), (0, u "java/lang/System$2"), (9, u "NEVER"), (2, u "MAYBE"), (49, u "arraycopy"), (0, u "(Ljava/lang/Object;ILjava/lang/Object;II)V"), (72, .class_ 802), (0, u "java/lang/System$Logger$Level")] 31

def k16m0 : Method := { name := "<init>", desc := "()V", sig := { parameters := [], returnType := none }, accessFlags := 2, code := none }
def k16m1 : Method := { name := "arraycopy", desc := "(Ljava/lang/Object;ILjava/lang/Object;II)V", sig := { parameters := [(.object "java/lang/Object"), .int, (.object "java/lang/Object"), .int, .int], returnType := none }, accessFlags := 265, code := none }
/-- java/lang/System -/
def k16 : Class := { plain "java/lang/System" (some 0) with
  accessFlags := 49
  interfaces := #[]
  cf := some (fileOf pool16 8 #[.nestMembers #[319, 327, 801, 108, 663, 208]] #[{ accessFlags := 2, nameIndex := 5, descriptorIndex := 6, attributes := #[] }, { accessFlags := 265, nameIndex := 727, descriptorIndex := 728, attributes := #[] }] 49 2 #[] #[{ accessFlags := 25, nameIndex := 507, descriptorIndex := 526, attributes := #[] }, { accessFlags := 25, nameIndex := 399, descriptorIndex := 155, attributes := #[] }, { accessFlags := 25, nameIndex := 396, descriptorIndex := 155, attributes := #[] }, { accessFlags := 10, nameIndex := 525, descriptorIndex := 526, attributes := #[] }, { accessFlags := 26, nameIndex := 674, descriptorIndex := 12, attributes := #[] }, { accessFlags := 26, nameIndex := 677, descriptorIndex := 12, attributes := #[] }, { accessFlags := 10, nameIndex := 11, descriptorIndex := 12, attributes := #[] }, { accessFlags := 74, nameIndex := 175, descriptorIndex := 176, attributes := #[] }, { accessFlags := 10, nameIndex := 491, descriptorIndex := 222, attributes := #[] }, { accessFlags := 74, nameIndex := 29, descriptorIndex := 30, attributes := #[] }, { accessFlags := 74, nameIndex := 154, descriptorIndex := 155, attributes := #[] }, { accessFlags := 10, nameIndex := 217, descriptorIndex := 218, attributes := #[] }, { accessFlags := 10, nameIndex := 221, descriptorIndex := 222, attributes := #[] }, { accessFlags := 8, nameIndex := 562, descriptorIndex := 563, attributes := #[] }])
  fields := #[{ name := "in", type := (.object "java/io/InputStream"), accessFlags := 25, slot := 0, constantValue := 0 }, { name := "out", type := (.object "java/io/PrintStream"), accessFlags := 25, slot := 1, constantValue := 0 }, { name := "err", type := (.object "java/io/PrintStream"), accessFlags := 25, slot := 2, constantValue := 0 }, { name := "initialIn", type := (.object "java/io/InputStream"), accessFlags := 10, slot := 3, constantValue := 0 }, { name := "NEVER", type := .int, accessFlags := 26, slot := 4, constantValue := 0 }, { name := "MAYBE", type := .int, accessFlags := 26, slot := 5, constantValue := 0 }, { name := "allowSecurityManager", type := .int, accessFlags := 10, slot := 6, constantValue := 0 }, { name := "security", type := (.object "java/lang/SecurityManager"), accessFlags := 74, slot := 7, constantValue := 0 }, { name := "notSupportedJnuEncoding", type := (.object "java/lang/String"), accessFlags := 10, slot := 8, constantValue := 0 }, { name := "cons", type := (.object "java/io/Console"), accessFlags := 74, slot := 9, constantValue := 0 }, { name := "initialErrStream", type := (.object "java/io/PrintStream"), accessFlags := 74, slot := 10, constantValue := 0 }, { name := "props", type := (.object "java/util/Properties"), accessFlags := 10, slot := 11, constantValue := 0 }, { name := "lineSeparator", type := (.object "java/lang/String"), accessFlags := 10, slot := 12, constantValue := 0 }, { name := "bootLayer", type := (.object "java/lang/ModuleLayer"), accessFlags := 8, slot := 13, constantValue := 0 }]
  methods := #[k16m0, k16m1]
  instanceTypes := #[]
  staticTypes := #[(.object "java/io/InputStream"), (.object "java/io/PrintStream"), (.object "java/io/PrintStream"), (.object "java/io/InputStream"), .int, .int, .int, (.object "java/lang/SecurityManager"), (.object "java/lang/String"), (.object "java/io/Console"), (.object "java/io/PrintStream"), (.object "java/util/Properties"), (.object "java/lang/String"), (.object "java/lang/ModuleLayer")]
  resolved := Array.replicate 834 none
  statics := none }

def pool17 : Array CpInfo := pool [(2, .class_ 4), (1, u "java/lang/Object"), (0, u "<init>"), (0, u "()V"), (17, .class_ 26), (1, u "jdk/internal/util/Preconditions"), (6, u "checkIndex"), (21, .class_ 56), (0, u "jdk/internal/util/Preconditions$4"), (57, .class_ 115), (0, u "jdk/internal/util/Preconditions$1"), (7, u "SIOOBE_FORMATTER"), (0, u "Ljava/util/function/BiFunction;"), (0, .class_ 126), (0, u "jdk/internal/util/Preconditions$2"), (3, u "AIOOBE_FORMATTER"), (0, .class_ 132), (0, u "jdk/internal/util/Preconditions$3"), (3, u "IOOBE_FORMATTER"), (41, u "(IILjava/util/function/BiFunction;)I")] 15

def k17m0 : Method := { name := "<init>", desc := "()V", sig := { parameters := [], returnType := none }, accessFlags := 1, code := none }
def k17c1 : Code := { maxStack := 3, maxLocals := 3, code := jdk_41_method_11_code, exceptionTable := #[], attributes := #[] }
def k17m1 : Method := { name := "checkIndex", desc := "(IILjava/util/function/BiFunction;)I", sig := { parameters := [.int, .int, (.object "java/util/function/BiFunction")], returnType := some .int }, accessFlags := 9, code := some k17c1 }
/-- jdk/internal/util/Preconditions -/
def k17 : Class := { plain "jdk/internal/util/Preconditions" (some 0) with
  accessFlags := 33
  interfaces := #[]
  cf := some (fileOf pool17 24 #[.nestMembers #[55, 131, 125, 114]] #[{ accessFlags := 1, nameIndex := 5, descriptorIndex := 6, attributes := #[] }, { accessFlags := 9, nameIndex := 33, descriptorIndex := 178, attributes := #[] }] 33 2 #[] #[{ accessFlags := 25, nameIndex := 123, descriptorIndex := 124, attributes := #[] }, { accessFlags := 25, nameIndex := 130, descriptorIndex := 124, attributes := #[] }, { accessFlags := 25, nameIndex := 136, descriptorIndex := 124, attributes := #[] }])
  fields := #[{ name := "SIOOBE_FORMATTER", type := (.object "java/util/function/BiFunction"), accessFlags := 25, slot := 0, constantValue := 0 }, { name := "AIOOBE_FORMATTER", type := (.object "java/util/function/BiFunction"), accessFlags := 25, slot := 1, constantValue := 0 }, { name := "IOOBE_FORMATTER", type := (.object "java/util/function/BiFunction"), accessFlags := 25, slot := 2, constantValue := 0 }]
  methods := #[k17m0, k17m1]
  instanceTypes := #[]
  staticTypes := #[(.object "java/util/function/BiFunction"), (.object "java/util/function/BiFunction"), (.object "java/util/function/BiFunction")]
  resolved := Array.replicate 194 none
  statics := some 1 }

def pool18 : Array CpInfo := pool [(2, .class_ 4), (1, u "java/lang/Object"), (0, u "<init>"), (0, u "()V"), (7, .class_ 16), (1, u "java/util/Arrays"), (57, .class_ 76), (1, u "java/util/Arrays$NaturalOrder"), (36, .class_ 115), (1, u "java/util/Arrays$LegacyMergeSort"), (1, u "Z"), (21, u "copyOfRange"), (10, .methodref 151 152), (0, .class_ 153), (0, .nameAndType 154 155), (0, u "java/lang/System"), (0, u "arraycopy"), (0, u "(Ljava/lang/Object;ILjava/lang/Object;II)V"), (148, .methodref 305 306), (0, .class_ 307), (0, .nameAndType 308 309), (0, u "java/lang/Math"), (0, u "min"), (0, u "(II)I"), (29, .methodref 14 340), (0, .nameAndType 341 342), (0, u "copyOfRangeByte"), (0, u "([BII)[B"), (0, .methodref 14 344), (0, .nameAndType 345 346), (0, u "checkLength"), (0, u "(II)V"), (28, .class_ 376), (0, u "java/util/Arrays$ArrayList"), (68, u "$assertionsDisabled"), (269, u "MIN_ARRAY_SORT_GRAN"), (0, u "I"), (2, u "INSERTIONSORT_THRESHOLD"), (255, .class_ 976), (0, u "java/util/Arrays$ArrayItr")] 52

def k18m0 : Method := { name := "<init>", desc := "()V", sig := { parameters := [], returnType := none }, accessFlags := 2, code := none }
def k18c1 : Code := { maxStack := 4, maxLocals := 2, code := jdk_65_method_131_code, exceptionTable := #[], attributes := #[] }
def k18m1 : Method := { name := "checkLength", desc := "(II)V", sig := { parameters := [.int, .int], returnType := none }, accessFlags := 10, code := some k18c1 }
def k18c2 : Code := { maxStack := 3, maxLocals := 3, code := jdk_65_method_132_code, exceptionTable := #[], attributes := #[] }
def k18m2 : Method := { name := "copyOfRange", desc := "([BII)[B", sig := { parameters := [(.array .byte), .int, .int], returnType := some (.array .byte) }, accessFlags := 9, code := some k18c2 }
def k18c3 : Code := { maxStack := 6, maxLocals := 5, code := jdk_65_method_133_code, exceptionTable := #[], attributes := #[] }
def k18m3 : Method := { name := "copyOfRangeByte", desc := "([BII)[B", sig := { parameters := [(.array .byte), .int, .int], returnType := some (.array .byte) }, accessFlags := 10, code := some k18c3 }
/-- java/util/Arrays -/
def k18 : Class := { plain "java/util/Arrays" (some 0) with
  accessFlags := 49
  interfaces := #[]
  cf := some (fileOf pool18 14 #[.nestMembers #[975, 375, 113, 74]] #[{ accessFlags := 2, nameIndex := 5, descriptorIndex := 6, attributes := #[] }, { accessFlags := 10, nameIndex := 345, descriptorIndex := 346, attributes := #[] }, { accessFlags := 9, nameIndex := 139, descriptorIndex := 342, attributes := #[] }, { accessFlags := 10, nameIndex := 341, descriptorIndex := 342, attributes := #[] }] 49 2 #[] #[{ accessFlags := 26, nameIndex := 715, descriptorIndex := 716, attributes := #[] }, { accessFlags := 26, nameIndex := 719, descriptorIndex := 716, attributes := #[] }, { accessFlags := 4120, nameIndex := 445, descriptorIndex := 117, attributes := #[] }])
  fields := #[{ name := "MIN_ARRAY_SORT_GRAN", type := .int, accessFlags := 26, slot := 0, constantValue := 0 }, { name := "INSERTIONSORT_THRESHOLD", type := .int, accessFlags := 26, slot := 1, constantValue := 0 }, { name := "$assertionsDisabled", type := .boolean, accessFlags := 4120, slot := 2, constantValue := 0 }]
  methods := #[k18m0, k18m1, k18m2, k18m3]
  instanceTypes := #[]
  staticTypes := #[.int, .int, .boolean]
  resolved := Array.replicate 1029 none
  statics := none }

def pool19 : Array CpInfo := pool [(9, u "<init>"), (6, .class_ 18), (1, u "java/lang/Object"), (0, u "()V"), (1, .class_ 23), (1, u "jdk/internal/util/ArraysSupport"), (0, u "LOG2_ARRAY_LONG_INDEX_SCALE"), (0, u "I"), (2, u "U"), (0, u "Ljdk/internal/misc/Unsafe;"), (8, u "BIG_ENDIAN"), (0, u "Z"), (8, u "LOG2_BYTE_BIT_SIZE"), (4, u "LOG2_ARRAY_INT_INDEX_SCALE"), (54, u "JLA"), (0, u "Ljdk/internal/access/JavaLangAccess;"), (11, u "LOG2_ARRAY_BOOLEAN_INDEX_SCALE"), (9, u "LOG2_ARRAY_BYTE_INDEX_SCALE"), (5, u "LOG2_ARRAY_CHAR_INDEX_SCALE"), (5, u "LOG2_ARRAY_SHORT_INDEX_SCALE"), (18, u "LOG2_ARRAY_FLOAT_INDEX_SCALE"), (24, u "LOG2_ARRAY_DOUBLE_INDEX_SCALE"), (89, u "T_BOOLEAN"), (2, u "T_CHAR"), (1, u "T_FLOAT"), (1, u "T_DOUBLE"), (1, u "T_BYTE"), (1, u "T_SHORT"), (1, u "T_INT"), (1, u "T_LONG"), (1, u "SOFT_MAX_ARRAY_LENGTH")] 83

def k19m0 : Method := { name := "<init>", desc := "()V", sig := { parameters := [], returnType := none }, accessFlags := 2, code := none }
/-- jdk/internal/util/ArraysSupport -/
def k19 : Class := { plain "jdk/internal/util/ArraysSupport" (some 0) with
  accessFlags := 33
  interfaces := #[]
  cf := some (fileOf pool19 21 #[] #[{ accessFlags := 2, nameIndex := 9, descriptorIndex := 19, attributes := #[] }] 33 16 #[] #[{ accessFlags := 24, nameIndex := 28, descriptorIndex := 29, attributes := #[] }, { accessFlags := 26, nameIndex := 38, descriptorIndex := 39, attributes := #[] }, { accessFlags := 25, nameIndex := 121, descriptorIndex := 25, attributes := #[] }, { accessFlags := 25, nameIndex := 131, descriptorIndex := 25, attributes := #[] }, { accessFlags := 25, nameIndex := 137, descriptorIndex := 25, attributes := #[] }, { accessFlags := 25, nameIndex := 143, descriptorIndex := 25, attributes := #[] }, { accessFlags := 25, nameIndex := 53, descriptorIndex := 25, attributes := #[] }, { accessFlags := 25, nameIndex := 24, descriptorIndex := 25, attributes := #[] }, { accessFlags := 25, nameIndex := 162, descriptorIndex := 25, attributes := #[] }, { accessFlags := 25, nameIndex := 187, descriptorIndex := 25, attributes := #[] }, { accessFlags := 26, nameIndex := 48, descriptorIndex := 25, attributes := #[] }, { accessFlags := 25, nameIndex := 277, descriptorIndex := 25, attributes := #[] }, { accessFlags := 25, nameIndex := 280, descriptorIndex := 25, attributes := #[] }, { accessFlags := 25, nameIndex := 282, descriptorIndex := 25, attributes := #[] }, { accessFlags := 25, nameIndex := 284, descriptorIndex := 25, attributes := #[] }, { accessFlags := 25, nameIndex := 286, descriptorIndex := 25, attributes := #[] }, { accessFlags := 25, nameIndex := 288, descriptorIndex := 25, attributes := #[] }, { accessFlags := 25, nameIndex := 290, descriptorIndex := 25, attributes := #[] }, { accessFlags := 25, nameIndex := 292, descriptorIndex := 25, attributes := #[] }, { accessFlags := 26, nameIndex := 108, descriptorIndex := 109, attributes := #[] }, { accessFlags := 25, nameIndex := 294, descriptorIndex := 25, attributes := #[] }])
  fields := #[{ name := "U", type := (.object "jdk/internal/misc/Unsafe"), accessFlags := 24, slot := 0, constantValue := 0 }, { name := "BIG_ENDIAN", type := .boolean, accessFlags := 26, slot := 1, constantValue := 0 }, { name := "LOG2_ARRAY_BOOLEAN_INDEX_SCALE", type := .int, accessFlags := 25, slot := 2, constantValue := 0 }, { name := "LOG2_ARRAY_BYTE_INDEX_SCALE", type := .int, accessFlags := 25, slot := 3, constantValue := 0 }, { name := "LOG2_ARRAY_CHAR_INDEX_SCALE", type := .int, accessFlags := 25, slot := 4, constantValue := 0 }, { name := "LOG2_ARRAY_SHORT_INDEX_SCALE", type := .int, accessFlags := 25, slot := 5, constantValue := 0 }, { name := "LOG2_ARRAY_INT_INDEX_SCALE", type := .int, accessFlags := 25, slot := 6, constantValue := 0 }, { name := "LOG2_ARRAY_LONG_INDEX_SCALE", type := .int, accessFlags := 25, slot := 7, constantValue := 0 }, { name := "LOG2_ARRAY_FLOAT_INDEX_SCALE", type := .int, accessFlags := 25, slot := 8, constantValue := 0 }, { name := "LOG2_ARRAY_DOUBLE_INDEX_SCALE", type := .int, accessFlags := 25, slot := 9, constantValue := 0 }, { name := "LOG2_BYTE_BIT_SIZE", type := .int, accessFlags := 26, slot := 10, constantValue := 0 }, { name := "T_BOOLEAN", type := .int, accessFlags := 25, slot := 11, constantValue := 0 }, { name := "T_CHAR", type := .int, accessFlags := 25, slot := 12, constantValue := 0 }, { name := "T_FLOAT", type := .int, accessFlags := 25, slot := 13, constantValue := 0 }, { name := "T_DOUBLE", type := .int, accessFlags := 25, slot := 14, constantValue := 0 }, { name := "T_BYTE", type := .int, accessFlags := 25, slot := 15, constantValue := 0 }, { name := "T_SHORT", type := .int, accessFlags := 25, slot := 16, constantValue := 0 }, { name := "T_INT", type := .int, accessFlags := 25, slot := 17, constantValue := 0 }, { name := "T_LONG", type := .int, accessFlags := 25, slot := 18, constantValue := 0 }, { name := "JLA", type := (.object "jdk/internal/access/JavaLangAccess"), accessFlags := 26, slot := 19, constantValue := 0 }, { name := "SOFT_MAX_ARRAY_LENGTH", type := .int, accessFlags := 25, slot := 20, constantValue := 0 }]
  methods := #[k19m0]
  instanceTypes := #[]
  staticTypes := #[(.object "jdk/internal/misc/Unsafe"), .boolean, .int, .int, .int, .int, .int, .int, .int, .int, .int, .int, .int, .int, .int, .int, .int, .int, .int, (.object "jdk/internal/access/JavaLangAccess"), .int]
  resolved := Array.replicate 378 none
  statics := none }

def pool20 : Array CpInfo := pool [(1, u "java/lang/Cloneable"), (0, .class_ 1), (0, u "java/lang/Object"), (0, .class_ 3)] 3

/-- java/lang/Cloneable -/
def k20 : Class := { plain "java/lang/Cloneable" (some 0) with
  accessFlags := 1537
  interfaces := #[]
  cf := some (fileOf pool20 2 #[] #[] 1537 4 #[] #[])
  fields := #[]
  methods := #[]
  instanceTypes := #[]
  staticTypes := #[]
  resolved := Array.replicate 8 none
  statics := none }

/-- the primitive byte -/
def k21 : Class := { plain "byte" none with kind := .primitive 'B', accessFlags := 0x411 }
/-- [B -/
def k22 : Class := { plain "[B" (some 0) with kind := .array 21 .byte, interfaces := #[20, 2], accessFlags := 1041 }

/-- the primitive char -/
def k23 : Class := { plain "char" none with kind := .primitive 'C', accessFlags := 0x411 }
/-- [C -/
def k24 : Class := { plain "[C" (some 0) with kind := .array 23 .char, interfaces := #[20, 2], accessFlags := 1041 }

/-- the primitive int -/
def k25 : Class := { plain "int" none with kind := .primitive 'I', accessFlags := 0x411 }
/-- [I -/
def k26 : Class := { plain "[I" (some 0) with kind := .array 25 .int, interfaces := #[20, 2], accessFlags := 1041 }

def heap : Heap := #[{ cls := 7, slots := #[.long 0, .int 1, .null, .int 0, .null, .int 0, .int 0], vm := .statics 7 },
  { cls := 17, slots := #[.null, .null, .null], vm := .statics 17 }]
def classes : Array Class := #[k0, k1, k2, k3, k4, k5, k6, k7, k8, k9, k10, k11, k12, k13, k14, k15, k16, k17, k18, k19, k20, k21, k22, k23, k24, k25, k26]
def interned : List (Array UInt16 × Addr) := []
def slotsUsed : Nat := 10
def theMethod : MethodId := ⟨1, 1⟩
def args0 : Array Value := #[.int 5, .int 5, .int 5]
def aboutOver (below : List Frame) : State where
  vm := { classes := classes, interned := interned.toArray }
  heap := heap
  slotsUsed := slotsUsed
  threads := #[{ frames := .invoking theMethod args0 :: below }]
def below0 : List Frame := [.native { method := ⟨0, 0⟩, args := #[] }]
def about1 : State := aboutOver below0
def p0 : Program := .bare "" "" ""
def e0 : Env := launch0.env 0 0 0
theorem w_frames : about1.frames = Frame.invoking theMethod args0 :: below0 := rfl
set_option maxRecDepth 65536 in
theorem w_args : argsFit about1.vm theMethod args0 = true := by decide +kernel
set_option maxRecDepth 65536 in
theorem w_heap : heapFits about1 = true := by decide +kernel
set_option maxRecDepth 65536 in
theorem w_runnable : about1.curStatus? = some .runnable := by decide +kernel
set_option maxRecDepth 65536 in
theorem w_alone : about1.alone = true := by decide +kernel
set_option maxRecDepth 65536 in
theorem w_named : about1.methodNamed? x = some theMethod := by decide +kernel
set_option maxRecDepth 65536 in
theorem w_hears : about1.hears theMethod below0 = true := by decide +kernel
set_option maxRecDepth 65536 in
theorem w_ripe : about1.ripe theMethod args0 below0 = true := by decide +kernel
theorem w_running : about1.status = .running := rfl
set_option maxRecDepth 65536 in
theorem w_room : about1.hasRoom e0.platform room_1 = true :=
  launch0.hasRoom_least _ room_1 (by decide +kernel) (by decide +kernel) (by decide +kernel) (by decide +kernel) (by decide +kernel) (by decide +kernel)
theorem allAtoms_all (ts : List Jvm.Cond) (a : Array Jvm.Value) (st : Jvm.State) : (allAtoms ts).before a st = ts.all (fun c => c.before a st) := by
  induction ts with
  | nil => rfl
  | cons c t ih =>
    show (Jvm.Cond.and c (allAtoms t)).before a st = _
    rw [Jvm.Cond.before_and, ih, List.all_cons]
def words1 : List Jvm.Cond := Jvm.Cond.code x code maxLocals ret :: tables_1
/-- a 'code' word, met by the world's own term for the bytes: nothing is compared byte by byte -/
theorem code_word {y : MethodName} {bytes : ByteArray} {mx : Nat} {rt : Option FieldType} {a : Array Value} {s : State} {m : MethodId} {meth : Method} {c : Code} (h1 : s.methodNamed? y = some m) (h2 : s.vm.method? m = some meth) (h3 : meth.code = some c) (h4 : c.code = bytes)
    (h5 : (c.maxLocals == mx && c.exceptionTable.isEmpty && decide (c.maxStack ≤ mostOperands) && decide (meth.sig.returnType = rt) && !meth.locks && decide (parseMethodDescriptor y.desc = some meth.sig)) = true) : (Jvm.Cond.code y bytes mx rt).before a s = true := by
  simp only [Bool.and_eq_true, beq_iff_eq, Bool.not_eq_true', decide_eq_true_eq] at h5
  obtain ⟨⟨⟨⟨⟨g1, g2⟩, g3⟩, g4⟩, g5⟩, g6⟩ := h5
  simp [Cond.before, Cond.holds, Cond.value, h1, h2, h3, h4, g1, g2, g3, g4, g5, g6]
def isCode : Jvm.Cond → Bool
  | .code _ _ _ _ => true
  | _ => false
theorem all_split {L : List Jvm.Cond} {P : Jvm.Cond → Bool} (h1 : L.all (fun c => isCode c || P c) = true) (h2 : ∀ c ∈ L.filter isCode, P c = true) : L.all P = true := by
  refine List.all_eq_true.mpr fun c hc => ?_
  have h := List.all_eq_true.mp h1 c hc
  rcases Bool.eq_false_or_eq_true (isCode c) with hi | hi
  · exact h2 c (List.mem_filter.mpr ⟨hc, hi⟩)
  · simpa [hi] using h
set_option maxRecDepth 65536 in
theorem w_c0 : (Jvm.Cond.code x code maxLocals ret).before args0 about1 = true := code_word (m := ⟨1, 1⟩) (meth := k1m1) (c := k1c1) (by decide +kernel) rfl rfl rfl (by decide +kernel)
set_option maxRecDepth 65536 in
theorem w_c1 : (Jvm.Cond.code ({ cls := "com/example/portunus/portunus/LockKeysQueueKeyPinLaw", name := "pch", desc := "(II)C" } : Jvm.MethodName) method_3_code (3 : Nat) (Option.some Jvm.ClassFile.FieldType.char)).before args0 about1 = true := code_word (m := ⟨1, 2⟩) (meth := k1m2) (c := k1c2) (by decide +kernel) rfl rfl rfl (by decide +kernel)
set_option maxRecDepth 65536 in
theorem w_c2 : (Jvm.Cond.code ({ cls := "com/example/portunus/portunus/LockKeysQueueKeyPinLaw", name := "mk", desc := "([CI)Ljava/lang/String;" } : Jvm.MethodName) method_4_code (2 : Nat) (Option.some (Jvm.ClassFile.FieldType.object "java/lang/String"))).before args0 about1 = true := code_word (m := ⟨1, 3⟩) (meth := k1m3) (c := k1c3) (by decide +kernel) rfl rfl rfl (by decide +kernel)
set_option maxRecDepth 65536 in
theorem w_c3 : (Jvm.Cond.code ({ cls := "java/lang/String", name := "<init>", desc := "([C)V" } : Jvm.MethodName) jdk_42_method_3_code (2 : Nat) (Option.none : Option Jvm.ClassFile.FieldType)).before args0 about1 = true := code_word (m := ⟨7, 1⟩) (meth := k7m1) (c := k7c1) (by decide +kernel) rfl rfl rfl (by decide +kernel)
set_option maxRecDepth 65536 in
theorem w_c4 : (Jvm.Cond.code ({ cls := "java/lang/String", name := "<init>", desc := "([CIILjava/lang/Void;)V" } : Jvm.MethodName) jdk_42_method_149_code (6 : Nat) (Option.none : Option Jvm.ClassFile.FieldType)).before args0 about1 = true := code_word (m := ⟨7, 9⟩) (meth := k7m9) (c := k7c9) (by decide +kernel) rfl rfl rfl (by decide +kernel)
set_option maxRecDepth 65536 in
theorem w_c5 : (Jvm.Cond.code ({ cls := "java/lang/Object", name := "<init>", desc := "()V" } : Jvm.MethodName) object_method_1_code (1 : Nat) (Option.none : Option Jvm.ClassFile.FieldType)).before args0 about1 = true := code_word (m := ⟨0, 0⟩) (meth := k0m0) (c := k0c0) (by decide +kernel) rfl rfl rfl (by decide +kernel)
set_option maxRecDepth 65536 in
theorem w_c6 : (Jvm.Cond.code ({ cls := "java/lang/StringUTF16", name := "compress", desc := "([CII)[B" } : Jvm.MethodName) jdk_52_method_16_code (6 : Nat) (Option.some (Jvm.ClassFile.FieldType.array Jvm.ClassFile.FieldType.byte))).before args0 about1 = true := code_word (m := ⟨8, 2⟩) (meth := k8m2) (c := k8c2) (by decide +kernel) rfl rfl rfl (by decide +kernel)
set_option maxRecDepth 65536 in
theorem w_c7 : (Jvm.Cond.code ({ cls := "java/lang/StringUTF16", name := "compress", desc := "([CI[BII)I" } : Jvm.MethodName) jdk_52_method_21_code (7 : Nat) (Option.some Jvm.ClassFile.FieldType.int)).before args0 about1 = true := code_word (m := ⟨8, 3⟩) (meth := k8m3) (c := k8c3) (by decide +kernel) rfl rfl rfl (by decide +kernel)
set_option maxRecDepth 65536 in
theorem w_c8 : (Jvm.Cond.code ({ cls := "java/lang/StringUTF16", name := "coderFromArrayLen", desc := "([BI)B" } : Jvm.MethodName) jdk_52_method_15_code (2 : Nat) (Option.some Jvm.ClassFile.FieldType.byte)).before args0 about1 = true := code_word (m := ⟨8, 1⟩) (meth := k8m1) (c := k8c1) (by decide +kernel) rfl rfl rfl (by decide +kernel)
set_option maxRecDepth 65536 in
theorem w_c9 : (Jvm.Cond.code ({ cls := "com/example/portunus/portunus/LockKeys", name := "<init>", desc := "(Ljava/lang/String;)V" } : Jvm.MethodName) prog_6_method_1_code (2 : Nat) (Option.none : Option Jvm.ClassFile.FieldType)).before args0 about1 = true := code_word (m := ⟨9, 0⟩) (meth := k9m0) (c := k9c0) (by decide +kernel) rfl rfl rfl (by decide +kernel)
set_option maxRecDepth 65536 in
theorem w_c10 : (Jvm.Cond.code ({ cls := "java/util/Objects", name := "requireNonNull", desc := "(Ljava/lang/Object;Ljava/lang/String;)Ljava/lang/Object;" } : Jvm.MethodName) jdk_31_method_11_code (2 : Nat) (Option.some (Jvm.ClassFile.FieldType.object "java/lang/Object"))).before args0 about1 = true := code_word (m := ⟨10, 1⟩) (meth := k10m1) (c := k10c1) (by decide +kernel) rfl rfl rfl (by decide +kernel)
set_option maxRecDepth 65536 in
theorem w_c11 : (Jvm.Cond.code ({ cls := "java/lang/String", name := "indexOf", desc := "(I)I" } : Jvm.MethodName) jdk_42_method_79_code (2 : Nat) (Option.some Jvm.ClassFile.FieldType.int)).before args0 about1 = true := code_word (m := ⟨7, 6⟩) (meth := k7m6) (c := k7c6) (by decide +kernel) rfl rfl rfl (by decide +kernel)
set_option maxRecDepth 65536 in
theorem w_c12 : (Jvm.Cond.code ({ cls := "java/lang/String", name := "indexOf", desc := "(II)I" } : Jvm.MethodName) jdk_42_method_80_code (3 : Nat) (Option.some Jvm.ClassFile.FieldType.int)).before args0 about1 = true := code_word (m := ⟨7, 7⟩) (meth := k7m7) (c := k7c7) (by decide +kernel) rfl rfl rfl (by decide +kernel)
set_option maxRecDepth 65536 in
theorem w_c13 : (Jvm.Cond.code ({ cls := "java/lang/String", name := "isLatin1", desc := "()Z" } : Jvm.MethodName) jdk_42_method_154_code (1 : Nat) (Option.some Jvm.ClassFile.FieldType.boolean)).before args0 about1 = true := code_word (m := ⟨7, 12⟩) (meth := k7m12) (c := k7c12) (by decide +kernel) rfl rfl rfl (by decide +kernel)
set_option maxRecDepth 65536 in
theorem w_c14 : (Jvm.Cond.code ({ cls := "java/lang/String", name := "length", desc := "()I" } : Jvm.MethodName) jdk_42_method_54_code (1 : Nat) (Option.some Jvm.ClassFile.FieldType.int)).before args0 about1 = true := code_word (m := ⟨7, 3⟩) (meth := k7m3) (c := k7c3) (by decide +kernel) rfl rfl rfl (by decide +kernel)
set_option maxRecDepth 65536 in
theorem w_c15 : (Jvm.Cond.code ({ cls := "java/lang/String", name := "coder", desc := "()B" } : Jvm.MethodName) jdk_42_method_152_code (1 : Nat) (Option.some Jvm.ClassFile.FieldType.byte)).before args0 about1 = true := code_word (m := ⟨7, 11⟩) (meth := k7m11) (c := k7c11) (by decide +kernel) rfl rfl rfl (by decide +kernel)
set_option maxRecDepth 65536 in
theorem w_c16 : (Jvm.Cond.code ({ cls := "java/lang/StringLatin1", name := "indexOf", desc := "([BIII)I" } : Jvm.MethodName) jdk_43_method_22_code (4 : Nat) (Option.some Jvm.ClassFile.FieldType.int)).before args0 about1 = true := code_word (m := ⟨11, 3⟩) (meth := k11m3) (c := k11c3) (by decide +kernel) rfl rfl rfl (by decide +kernel)
set_option maxRecDepth 65536 in
theorem w_c17 : (Jvm.Cond.code ({ cls := "java/lang/StringLatin1", name := "canEncode", desc := "(I)Z" } : Jvm.MethodName) jdk_43_method_4_code (1 : Nat) (Option.some Jvm.ClassFile.FieldType.boolean)).before args0 about1 = true := code_word (m := ⟨11, 2⟩) (meth := k11m2) (c := k11c2) (by decide +kernel) rfl rfl rfl (by decide +kernel)
set_option maxRecDepth 65536 in
theorem w_c18 : (Jvm.Cond.code ({ cls := "java/lang/Math", name := "max", desc := "(II)I" } : Jvm.MethodName) jdk_29_method_65_code (2 : Nat) (Option.some Jvm.ClassFile.FieldType.int)).before args0 about1 = true := code_word (m := ⟨12, 1⟩) (meth := k12m1) (c := k12c1) (by decide +kernel) rfl rfl rfl (by decide +kernel)
set_option maxRecDepth 65536 in
theorem w_c19 : (Jvm.Cond.code ({ cls := "java/lang/Math", name := "min", desc := "(II)I" } : Jvm.MethodName) jdk_29_method_69_code (2 : Nat) (Option.some Jvm.ClassFile.FieldType.int)).before args0 about1 = true := code_word (m := ⟨12, 2⟩) (meth := k12m2) (c := k12c2) (by decide +kernel) rfl rfl rfl (by decide +kernel)
set_option maxRecDepth 65536 in
theorem w_c20 : (Jvm.Cond.code ({ cls := "java/lang/StringLatin1", name := "indexOfChar", desc := "([BIII)I" } : Jvm.MethodName) jdk_43_method_23_code (6 : Nat) (Option.some Jvm.ClassFile.FieldType.int)).before args0 about1 = true := code_word (m := ⟨11, 4⟩) (meth := k11m4) (c := k11c4) (by decide +kernel) rfl rfl rfl (by decide +kernel)
set_option maxRecDepth 65536 in
theorem w_c21 : (Jvm.Cond.code ({ cls := "com/example/portunus/portunus/LockKeys", name := "queueKey", desc := "(Ljava/lang/String;)Ljava/lang/String;" } : Jvm.MethodName) prog_6_method_4_code (2 : Nat) (Option.some (Jvm.ClassFile.FieldType.object "java/lang/String"))).before args0 about1 = true := code_word (m := ⟨9, 1⟩) (meth := k9m1) (c := k9c1) (by decide +kernel) rfl rfl rfl (by decide +kernel)
set_option maxRecDepth 65536 in
theorem w_c22 : (Jvm.Cond.code ({ cls := "java/lang/StringBuilder", name := "<init>", desc := "()V" } : Jvm.MethodName) jdk_67_method_1_code (1 : Nat) (Option.none : Option Jvm.ClassFile.FieldType)).before args0 about1 = true := code_word (m := ⟨15, 0⟩) (meth := k15m0) (c := k15c0) (by decide +kernel) rfl rfl rfl (by decide +kernel)
set_option maxRecDepth 65536 in
theorem w_c23 : (Jvm.Cond.code ({ cls := "java/lang/AbstractStringBuilder", name := "<init>", desc := "(I)V" } : Jvm.MethodName) jdk_68_method_2_code (2 : Nat) (Option.none : Option Jvm.ClassFile.FieldType)).before args0 about1 = true := code_word (m := ⟨14, 1⟩) (meth := k14m1) (c := k14c1) (by decide +kernel) rfl rfl rfl (by decide +kernel)
set_option maxRecDepth 65536 in
theorem w_c24 : (Jvm.Cond.code ({ cls := "java/lang/StringBuilder", name := "append", desc := "(Ljava/lang/String;)Ljava/lang/StringBuilder;" } : Jvm.MethodName) jdk_67_method_7_code (2 : Nat) (Option.some (Jvm.ClassFile.FieldType.object "java/lang/StringBuilder"))).before args0 about1 = true := code_word (m := ⟨15, 1⟩) (meth := k15m1) (c := k15c1) (by decide +kernel) rfl rfl rfl (by decide +kernel)
set_option maxRecDepth 65536 in
theorem w_c25 : (Jvm.Cond.code ({ cls := "java/lang/AbstractStringBuilder", name := "append", desc := "(Ljava/lang/String;)Ljava/lang/AbstractStringBuilder;" } : Jvm.MethodName) jdk_68_method_22_code (3 : Nat) (Option.some (Jvm.ClassFile.FieldType.object "java/lang/AbstractStringBuilder"))).before args0 about1 = true := code_word (m := ⟨14, 4⟩) (meth := k14m4) (c := k14c4) (by decide +kernel) rfl rfl rfl (by decide +kernel)
set_option maxRecDepth 65536 in
theorem w_c26 : (Jvm.Cond.code ({ cls := "java/lang/AbstractStringBuilder", name := "ensureCapacityInternal", desc := "(I)V" } : Jvm.MethodName) jdk_68_method_9_code (3 : Nat) (Option.none : Option Jvm.ClassFile.FieldType)).before args0 about1 = true := code_word (m := ⟨14, 3⟩) (meth := k14m3) (c := k14c3) (by decide +kernel) rfl rfl rfl (by decide +kernel)
set_option maxRecDepth 65536 in
theorem w_c27 : (Jvm.Cond.code ({ cls := "java/lang/AbstractStringBuilder", name := "putStringAt", desc := "(ILjava/lang/String;)V" } : Jvm.MethodName) jdk_68_method_73_code (3 : Nat) (Option.none : Option Jvm.ClassFile.FieldType)).before args0 about1 = true := code_word (m := ⟨14, 8⟩) (meth := k14m8) (c := k14c8) (by decide +kernel) rfl rfl rfl (by decide +kernel)
set_option maxRecDepth 65536 in
theorem w_c28 : (Jvm.Cond.code ({ cls := "java/lang/AbstractStringBuilder", name := "inflateIfNeededFor", desc := "(Ljava/lang/String;)V" } : Jvm.MethodName) jdk_68_method_71_code (2 : Nat) (Option.none : Option Jvm.ClassFile.FieldType)).before args0 about1 = true := code_word (m := ⟨14, 7⟩) (meth := k14m7) (c := k14c7) (by decide +kernel) rfl rfl rfl (by decide +kernel)
set_option maxRecDepth 65536 in
theorem w_c29 : (Jvm.Cond.code ({ cls := "java/lang/String", name := "getBytes", desc := "([BIB)V" } : Jvm.MethodName) jdk_42_method_147_code (4 : Nat) (Option.none : Option Jvm.ClassFile.FieldType)).before args0 about1 = true := code_word (m := ⟨7, 8⟩) (meth := k7m8) (c := k7c8) (by decide +kernel) rfl rfl rfl (by decide +kernel)
set_option maxRecDepth 65536 in
theorem w_c30 : (Jvm.Cond.code ({ cls := "com/example/portunus/portunus/LockKeys", name := "braced", desc := "(Ljava/lang/String;)Ljava/lang/String;" } : Jvm.MethodName) prog_6_method_8_code (1 : Nat) (Option.some (Jvm.ClassFile.FieldType.object "java/lang/String"))).before args0 about1 = true := code_word (m := ⟨9, 2⟩) (meth := k9m2) (c := k9c2) (by decide +kernel) rfl rfl rfl (by decide +kernel)
set_option maxRecDepth 65536 in
theorem w_c31 : (Jvm.Cond.code ({ cls := "java/lang/String", name := "isEmpty", desc := "()Z" } : Jvm.MethodName) jdk_42_method_55_code (1 : Nat) (Option.some Jvm.ClassFile.FieldType.boolean)).before args0 about1 = true := code_word (m := ⟨7, 4⟩) (meth := k7m4) (c := k7c4) (by decide +kernel) rfl rfl rfl (by decide +kernel)
set_option maxRecDepth 65536 in
theorem w_c32 : (Jvm.Cond.code ({ cls := "java/lang/String", name := "charAt", desc := "(I)C" } : Jvm.MethodName) jdk_42_method_56_code (2 : Nat) (Option.some Jvm.ClassFile.FieldType.char)).before args0 about1 = true := code_word (m := ⟨7, 5⟩) (meth := k7m5) (c := k7c5) (by decide +kernel) rfl rfl rfl (by decide +kernel)
set_option maxRecDepth 65536 in
theorem w_c33 : (Jvm.Cond.code ({ cls := "java/lang/StringLatin1", name := "charAt", desc := "([BI)C" } : Jvm.MethodName) jdk_43_method_2_code (2 : Nat) (Option.some Jvm.ClassFile.FieldType.char)).before args0 about1 = true := code_word (m := ⟨11, 1⟩) (meth := k11m1) (c := k11c1) (by decide +kernel) rfl rfl rfl (by decide +kernel)
set_option maxRecDepth 65536 in
theorem w_c34 : (Jvm.Cond.code ({ cls := "java/lang/String", name := "checkIndex", desc := "(II)V" } : Jvm.MethodName) jdk_42_method_155_code (2 : Nat) (Option.none : Option Jvm.ClassFile.FieldType)).before args0 about1 = true := code_word (m := ⟨7, 13⟩) (meth := k7m13) (c := k7c13) (by decide +kernel) rfl rfl rfl (by decide +kernel)
set_option maxRecDepth 65536 in
theorem w_c35 : (Jvm.Cond.code ({ cls := "jdk/internal/util/Preconditions", name := "checkIndex", desc := "(IILjava/util/function/BiFunction;)I" } : Jvm.MethodName) jdk_41_method_11_code (3 : Nat) (Option.some Jvm.ClassFile.FieldType.int)).before args0 about1 = true := code_word (m := ⟨17, 1⟩) (meth := k17m1) (c := k17c1) (by decide +kernel) rfl rfl rfl (by decide +kernel)
set_option maxRecDepth 65536 in
theorem w_c36 : (Jvm.Cond.code ({ cls := "java/lang/StringBuilder", name := "toString", desc := "()Ljava/lang/String;" } : Jvm.MethodName) jdk_67_method_42_code (1 : Nat) (Option.some (Jvm.ClassFile.FieldType.object "java/lang/String"))).before args0 about1 = true := code_word (m := ⟨15, 2⟩) (meth := k15m2) (c := k15c2) (by decide +kernel) rfl rfl rfl (by decide +kernel)
set_option maxRecDepth 65536 in
theorem w_c37 : (Jvm.Cond.code ({ cls := "java/lang/String", name := "<init>", desc := "(Ljava/lang/StringBuilder;)V" } : Jvm.MethodName) jdk_42_method_53_code (2 : Nat) (Option.none : Option Jvm.ClassFile.FieldType)).before args0 about1 = true := code_word (m := ⟨7, 2⟩) (meth := k7m2) (c := k7c2) (by decide +kernel) rfl rfl rfl (by decide +kernel)
set_option maxRecDepth 65536 in
theorem w_c38 : (Jvm.Cond.code ({ cls := "java/lang/String", name := "<init>", desc := "(Ljava/lang/AbstractStringBuilder;Ljava/lang/Void;)V" } : Jvm.MethodName) jdk_42_method_150_code (5 : Nat) (Option.none : Option Jvm.ClassFile.FieldType)).before args0 about1 = true := code_word (m := ⟨7, 10⟩) (meth := k7m10) (c := k7c10) (by decide +kernel) rfl rfl rfl (by decide +kernel)
set_option maxRecDepth 65536 in
theorem w_c39 : (Jvm.Cond.code ({ cls := "java/lang/AbstractStringBuilder", name := "getValue", desc := "()[B" } : Jvm.MethodName) jdk_68_method_64_code (1 : Nat) (Option.some (Jvm.ClassFile.FieldType.array Jvm.ClassFile.FieldType.byte))).before args0 about1 = true := code_word (m := ⟨14, 5⟩) (meth := k14m5) (c := k14c5) (by decide +kernel) rfl rfl rfl (by decide +kernel)
set_option maxRecDepth 65536 in
theorem w_c40 : (Jvm.Cond.code ({ cls := "java/lang/StringBuilder", name := "length", desc := "()I" } : Jvm.MethodName) jdk_67_method_93_code (1 : Nat) (Option.some Jvm.ClassFile.FieldType.int)).before args0 about1 = true := code_word (m := ⟨15, 3⟩) (meth := k15m3) (c := k15c3) (by decide +kernel) rfl rfl rfl (by decide +kernel)
set_option maxRecDepth 65536 in
theorem w_c41 : (Jvm.Cond.code ({ cls := "java/lang/AbstractStringBuilder", name := "length", desc := "()I" } : Jvm.MethodName) jdk_68_method_6_code (1 : Nat) (Option.some Jvm.ClassFile.FieldType.int)).before args0 about1 = true := code_word (m := ⟨14, 2⟩) (meth := k14m2) (c := k14c2) (by decide +kernel) rfl rfl rfl (by decide +kernel)
set_option maxRecDepth 65536 in
theorem w_c42 : (Jvm.Cond.code ({ cls := "java/lang/AbstractStringBuilder", name := "isLatin1", desc := "()Z" } : Jvm.MethodName) jdk_68_method_68_code (1 : Nat) (Option.some Jvm.ClassFile.FieldType.boolean)).before args0 about1 = true := code_word (m := ⟨14, 6⟩) (meth := k14m6) (c := k14c6) (by decide +kernel) rfl rfl rfl (by decide +kernel)
set_option maxRecDepth 65536 in
theorem w_c43 : (Jvm.Cond.code ({ cls := "java/util/Arrays", name := "copyOfRange", desc := "([BII)[B" } : Jvm.MethodName) jdk_65_method_132_code (3 : Nat) (Option.some (Jvm.ClassFile.FieldType.array Jvm.ClassFile.FieldType.byte))).before args0 about1 = true := code_word (m := ⟨18, 2⟩) (meth := k18m2) (c := k18c2) (by decide +kernel) rfl rfl rfl (by decide +kernel)
set_option maxRecDepth 65536 in
theorem w_c44 : (Jvm.Cond.code ({ cls := "java/util/Arrays", name := "copyOfRangeByte", desc := "([BII)[B" } : Jvm.MethodName) jdk_65_method_133_code (5 : Nat) (Option.some (Jvm.ClassFile.FieldType.array Jvm.ClassFile.FieldType.byte))).before args0 about1 = true := code_word (m := ⟨18, 3⟩) (meth := k18m3) (c := k18c3) (by decide +kernel) rfl rfl rfl (by decide +kernel)
set_option maxRecDepth 65536 in
theorem w_c45 : (Jvm.Cond.code ({ cls := "java/util/Arrays", name := "checkLength", desc := "(II)V" } : Jvm.MethodName) jdk_65_method_131_code (2 : Nat) (Option.none : Option Jvm.ClassFile.FieldType)).before args0 about1 = true := code_word (m := ⟨18, 1⟩) (meth := k18m1) (c := k18c1) (by decide +kernel) rfl rfl rfl (by decide +kernel)
set_option maxRecDepth 65536 in
theorem w_c46 : (Jvm.Cond.code ({ cls := "com/example/portunus/portunus/LockKeysQueueKeyPinLaw", name := "at", desc := "(Ljava/lang/String;II[CI[CI)Z" } : Jvm.MethodName) method_6_code (7 : Nat) (Option.some Jvm.ClassFile.FieldType.boolean)).before args0 about1 = true := code_word (m := ⟨1, 5⟩) (meth := k1m5) (c := k1c5) (by decide +kernel) rfl rfl rfl (by decide +kernel)
set_option maxRecDepth 65536 in
theorem w_c47 : (Jvm.Cond.code ({ cls := "com/example/portunus/portunus/LockKeysQueueKeyPinLaw", name := "exp", desc := "(I[CI[CI)C" } : Jvm.MethodName) method_5_code (7 : Nat) (Option.some Jvm.ClassFile.FieldType.char)).before args0 about1 = true := code_word (m := ⟨1, 4⟩) (meth := k1m4) (c := k1c4) (by decide +kernel) rfl rfl rfl (by decide +kernel)
def codes1 : List Jvm.Cond := [Jvm.Cond.code x code maxLocals ret, Jvm.Cond.code ({ cls := "com/example/portunus/portunus/LockKeysQueueKeyPinLaw", name := "pch", desc := "(II)C" } : Jvm.MethodName) method_3_code (3 : Nat) (Option.some Jvm.ClassFile.FieldType.char), Jvm.Cond.code ({ cls := "com/example/portunus/portunus/LockKeysQueueKeyPinLaw", name := "mk", desc := "([CI)Ljava/lang/String;" } : Jvm.MethodName) method_4_code (2 : Nat) (Option.some (Jvm.ClassFile.FieldType.object "java/lang/String")), Jvm.Cond.code ({ cls := "java/lang/String", name := "<init>", desc := "([C)V" } : Jvm.MethodName) jdk_42_method_3_code (2 : Nat) (Option.none : Option Jvm.ClassFile.FieldType), Jvm.Cond.code ({ cls := "java/lang/String", name := "<init>", desc := "([CIILjava/lang/Void;)V" } : Jvm.MethodName) jdk_42_method_149_code (6 : Nat) (Option.none : Option Jvm.ClassFile.FieldType), Jvm.Cond.code ({ cls := "java/lang/Object", name := "<init>", desc := "()V" } : Jvm.MethodName) object_method_1_code (1 : Nat) (Option.none : Option Jvm.ClassFile.FieldType), Jvm.Cond.code ({ cls := "java/lang/StringUTF16", name := "compress", desc := "([CII)[B" } : Jvm.MethodName) jdk_52_method_16_code (6 : Nat) (Option.some (Jvm.ClassFile.FieldType.array Jvm.ClassFile.FieldType.byte)), Jvm.Cond.code ({ cls := "java/lang/StringUTF16", name := "compress", desc := "([CI[BII)I" } : Jvm.MethodName) jdk_52_method_21_code (7 : Nat) (Option.some Jvm.ClassFile.FieldType.int), Jvm.Cond.code ({ cls := "java/lang/StringUTF16", name := "coderFromArrayLen", desc := "([BI)B" } : Jvm.MethodName) jdk_52_method_15_code (2 : Nat) (Option.some Jvm.ClassFile.FieldType.byte), Jvm.Cond.code ({ cls := "com/example/portunus/portunus/LockKeys", name := "<init>", desc := "(Ljava/lang/String;)V" } : Jvm.MethodName) prog_6_method_1_code (2 : Nat) (Option.none : Option Jvm.ClassFile.FieldType), Jvm.Cond.code ({ cls := "java/util/Objects", name := "requireNonNull", desc := "(Ljava/lang/Object;Ljava/lang/String;)Ljava/lang/Object;" } : Jvm.MethodName) jdk_31_method_11_code (2 : Nat) (Option.some (Jvm.ClassFile.FieldType.object "java/lang/Object")), Jvm.Cond.code ({ cls := "java/lang/String", name := "indexOf", desc := "(I)I" } : Jvm.MethodName) jdk_42_method_79_code (2 : Nat) (Option.some Jvm.ClassFile.FieldType.int), Jvm.Cond.code ({ cls := "java/lang/String", name := "indexOf", desc := "(II)I" } : Jvm.MethodName) jdk_42_method_80_code (3 : Nat) (Option.some Jvm.ClassFile.FieldType.int), Jvm.Cond.code ({ cls := "java/lang/String", name := "isLatin1", desc := "()Z" } : Jvm.MethodName) jdk_42_method_154_code (1 : Nat) (Option.some Jvm.ClassFile.FieldType.boolean), Jvm.Cond.code ({ cls := "java/lang/String", name := "length", desc := "()I" } : Jvm.MethodName) jdk_42_method_54_code (1 : Nat) (Option.some Jvm.ClassFile.FieldType.int), Jvm.Cond.code ({ cls := "java/lang/String", name := "coder", desc := "()B" } : Jvm.MethodName) jdk_42_method_152_code (1 : Nat) (Option.some Jvm.ClassFile.FieldType.byte), Jvm.Cond.code ({ cls := "java/lang/StringLatin1", name := "indexOf", desc := "([BIII)I" } : Jvm.MethodName) jdk_43_method_22_code (4 : Nat) (Option.some Jvm.ClassFile.FieldType.int), Jvm.Cond.code ({ cls := "java/lang/StringLatin1", name := "canEncode", desc := "(I)Z" } : Jvm.MethodName) jdk_43_method_4_code (1 : Nat) (Option.some Jvm.ClassFile.FieldType.boolean), Jvm.Cond.code ({ cls := "java/lang/Math", name := "max", desc := "(II)I" } : Jvm.MethodName) jdk_29_method_65_code (2 : Nat) (Option.some Jvm.ClassFile.FieldType.int), Jvm.Cond.code ({ cls := "java/lang/Math", name := "min", desc := "(II)I" } : Jvm.MethodName) jdk_29_method_69_code (2 : Nat) (Option.some Jvm.ClassFile.FieldType.int), Jvm.Cond.code ({ cls := "java/lang/StringLatin1", name := "indexOfChar", desc := "([BIII)I" } : Jvm.MethodName) jdk_43_method_23_code (6 : Nat) (Option.some Jvm.ClassFile.FieldType.int), Jvm.Cond.code ({ cls := "com/example/portunus/portunus/LockKeys", name := "queueKey", desc := "(Ljava/lang/String;)Ljava/lang/String;" } : Jvm.MethodName) prog_6_method_4_code (2 : Nat) (Option.some (Jvm.ClassFile.FieldType.object "java/lang/String")), Jvm.Cond.code ({ cls := "java/lang/StringBuilder", name := "<init>", desc := "()V" } : Jvm.MethodName) jdk_67_method_1_code (1 : Nat) (Option.none : Option Jvm.ClassFile.FieldType), Jvm.Cond.code ({ cls := "java/lang/AbstractStringBuilder", name := "<init>", desc := "(I)V" } : Jvm.MethodName) jdk_68_method_2_code (2 : Nat) (Option.none : Option Jvm.ClassFile.FieldType), Jvm.Cond.code ({ cls := "java/lang/StringBuilder", name := "append", desc := "(Ljava/lang/String;)Ljava/lang/StringBuilder;" } : Jvm.MethodName) jdk_67_method_7_code (2 : Nat) (Option.some (Jvm.ClassFile.FieldType.object "java/lang/StringBuilder")), Jvm.Cond.code ({ cls := "java/lang/AbstractStringBuilder", name := "append", desc := "(Ljava/lang/String;)Ljava/lang/AbstractStringBuilder;" } : Jvm.MethodName) jdk_68_method_22_code (3 : Nat) (Option.some (Jvm.ClassFile.FieldType.object "java/lang/AbstractStringBuilder")), Jvm.Cond.code ({ cls := "java/lang/AbstractStringBuilder", name := "ensureCapacityInternal", desc := "(I)V" } : Jvm.MethodName) jdk_68_method_9_code (3 : Nat) (Option.none : Option Jvm.ClassFile.FieldType), Jvm.Cond.code ({ cls := "java/lang/AbstractStringBuilder", name := "putStringAt", desc := "(ILjava/lang/String;)V" } : Jvm.MethodName) jdk_68_method_73_code (3 : Nat) (Option.none : Option Jvm.ClassFile.FieldType), Jvm.Cond.code ({ cls := "java/lang/AbstractStringBuilder", name := "inflateIfNeededFor", desc := "(Ljava/lang/String;)V" } : Jvm.MethodName) jdk_68_method_71_code (2 : Nat) (Option.none : Option Jvm.ClassFile.FieldType), Jvm.Cond.code ({ cls := "java/lang/String", name := "getBytes", desc := "([BIB)V" } : Jvm.MethodName) jdk_42_method_147_code (4 : Nat) (Option.none : Option Jvm.ClassFile.FieldType), Jvm.Cond.code ({ cls := "com/example/portunus/portunus/LockKeys", name := "braced", desc := "(Ljava/lang/String;)Ljava/lang/String;" } : Jvm.MethodName) prog_6_method_8_code (1 : Nat) (Option.some (Jvm.ClassFile.FieldType.object "java/lang/String")), Jvm.Cond.code ({ cls := "java/lang/String", name := "isEmpty", desc := "()Z" } : Jvm.MethodName) jdk_42_method_55_code (1 : Nat) (Option.some Jvm.ClassFile.FieldType.boolean), Jvm.Cond.code ({ cls := "java/lang/String", name := "charAt", desc := "(I)C" } : Jvm.MethodName) jdk_42_method_56_code (2 : Nat) (Option.some Jvm.ClassFile.FieldType.char), Jvm.Cond.code ({ cls := "java/lang/StringLatin1", name := "charAt", desc := "([BI)C" } : Jvm.MethodName) jdk_43_method_2_code (2 : Nat) (Option.some Jvm.ClassFile.FieldType.char), Jvm.Cond.code ({ cls := "java/lang/String", name := "checkIndex", desc := "(II)V" } : Jvm.MethodName) jdk_42_method_155_code (2 : Nat) (Option.none : Option Jvm.ClassFile.FieldType), Jvm.Cond.code ({ cls := "jdk/internal/util/Preconditions", name := "checkIndex", desc := "(IILjava/util/function/BiFunction;)I" } : Jvm.MethodName) jdk_41_method_11_code (3 : Nat) (Option.some Jvm.ClassFile.FieldType.int), Jvm.Cond.code ({ cls := "java/lang/StringBuilder", name := "toString", desc := "()Ljava/lang/String;" } : Jvm.MethodName) jdk_67_method_42_code (1 : Nat) (Option.some (Jvm.ClassFile.FieldType.object "java/lang/String")), Jvm.Cond.code ({ cls := "java/lang/String", name := "<init>", desc := "(Ljava/lang/StringBuilder;)V" } : Jvm.MethodName) jdk_42_method_53_code (2 : Nat) (Option.none : Option Jvm.ClassFile.FieldType), Jvm.Cond.code ({ cls := "java/lang/String", name := "<init>", desc := "(Ljava/lang/AbstractStringBuilder;Ljava/lang/Void;)V" } : Jvm.MethodName) jdk_42_method_150_code (5 : Nat) (Option.none : Option Jvm.ClassFile.FieldType), Jvm.Cond.code ({ cls := "java/lang/AbstractStringBuilder", name := "getValue", desc := "()[B" } : Jvm.MethodName) jdk_68_method_64_code (1 : Nat) (Option.some (Jvm.ClassFile.FieldType.array Jvm.ClassFile.FieldType.byte)), Jvm.Cond.code ({ cls := "java/lang/StringBuilder", name := "length", desc := "()I" } : Jvm.MethodName) jdk_67_method_93_code (1 : Nat) (Option.some Jvm.ClassFile.FieldType.int), Jvm.Cond.code ({ cls := "java/lang/AbstractStringBuilder", name := "length", desc := "()I" } : Jvm.MethodName) jdk_68_method_6_code (1 : Nat) (Option.some Jvm.ClassFile.FieldType.int), Jvm.Cond.code ({ cls := "java/lang/AbstractStringBuilder", name := "isLatin1", desc := "()Z" } : Jvm.MethodName) jdk_68_method_68_code (1 : Nat) (Option.some Jvm.ClassFile.FieldType.boolean), Jvm.Cond.code ({ cls := "java/util/Arrays", name := "copyOfRange", desc := "([BII)[B" } : Jvm.MethodName) jdk_65_method_132_code (3 : Nat) (Option.some (Jvm.ClassFile.FieldType.array Jvm.ClassFile.FieldType.byte)), Jvm.Cond.code ({ cls := "java/util/Arrays", name := "copyOfRangeByte", desc := "([BII)[B" } : Jvm.MethodName) jdk_65_method_133_code (5 : Nat) (Option.some (Jvm.ClassFile.FieldType.array Jvm.ClassFile.FieldType.byte)), Jvm.Cond.code ({ cls := "java/util/Arrays", name := "checkLength", desc := "(II)V" } : Jvm.MethodName) jdk_65_method_131_code (2 : Nat) (Option.none : Option Jvm.ClassFile.FieldType), Jvm.Cond.code ({ cls := "com/example/portunus/portunus/LockKeysQueueKeyPinLaw", name := "at", desc := "(Ljava/lang/String;II[CI[CI)Z" } : Jvm.MethodName) method_6_code (7 : Nat) (Option.some Jvm.ClassFile.FieldType.boolean), Jvm.Cond.code ({ cls := "com/example/portunus/portunus/LockKeysQueueKeyPinLaw", name := "exp", desc := "(I[CI[CI)C" } : Jvm.MethodName) method_5_code (7 : Nat) (Option.some Jvm.ClassFile.FieldType.char)]
set_option maxRecDepth 65536 in
theorem codes_eq : words1.filter isCode = codes1 := rfl
theorem w_codes : ∀ c ∈ words1.filter isCode, c.before args0 about1 = true := by
  rw [codes_eq]
  intro c hc
  simp only [codes1, List.mem_cons, List.not_mem_nil, or_false] at hc
  rcases hc with rfl | rfl | rfl | rfl | rfl | rfl | rfl | rfl | rfl | rfl | rfl | rfl | rfl | rfl | rfl | rfl | rfl | rfl | rfl | rfl | rfl | rfl | rfl | rfl | rfl | rfl | rfl | rfl | rfl | rfl | rfl | rfl | rfl | rfl | rfl | rfl | rfl | rfl | rfl | rfl | rfl | rfl | rfl | rfl | rfl | rfl | rfl | rfl
  · exact w_c0
  · exact w_c1
  · exact w_c2
  · exact w_c3
  · exact w_c4
  · exact w_c5
  · exact w_c6
  · exact w_c7
  · exact w_c8
  · exact w_c9
  · exact w_c10
  · exact w_c11
  · exact w_c12
  · exact w_c13
  · exact w_c14
  · exact w_c15
  · exact w_c16
  · exact w_c17
  · exact w_c18
  · exact w_c19
  · exact w_c20
  · exact w_c21
  · exact w_c22
  · exact w_c23
  · exact w_c24
  · exact w_c25
  · exact w_c26
  · exact w_c27
  · exact w_c28
  · exact w_c29
  · exact w_c30
  · exact w_c31
  · exact w_c32
  · exact w_c33
  · exact w_c34
  · exact w_c35
  · exact w_c36
  · exact w_c37
  · exact w_c38
  · exact w_c39
  · exact w_c40
  · exact w_c41
  · exact w_c42
  · exact w_c43
  · exact w_c44
  · exact w_c45
  · exact w_c46
  · exact w_c47
set_option maxRecDepth 65536 in
theorem w_t1 : (words1.take 24).all (fun c => isCode c || c.before args0 about1) = true := by decide +kernel
set_option maxRecDepth 65536 in
theorem w_t2 : ((words1.drop 24).take 24).all (fun c => isCode c || c.before args0 about1) = true := by decide +kernel
set_option maxRecDepth 65536 in
theorem w_t3 : (((words1.drop 24).drop 24).take 24).all (fun c => isCode c || c.before args0 about1) = true := by decide +kernel
set_option maxRecDepth 65536 in
theorem w_t4 : ((((words1.drop 24).drop 24).drop 24).take 24).all (fun c => isCode c || c.before args0 about1) = true := by decide +kernel
set_option maxRecDepth 65536 in
theorem w_t5 : (((((words1.drop 24).drop 24).drop 24).drop 24).take 24).all (fun c => isCode c || c.before args0 about1) = true := by decide +kernel
set_option maxRecDepth 65536 in
theorem w_t6 : ((((((words1.drop 24).drop 24).drop 24).drop 24).drop 24).take 24).all (fun c => isCode c || c.before args0 about1) = true := by decide +kernel
set_option maxRecDepth 65536 in
theorem w_t7 : (((((((words1.drop 24).drop 24).drop 24).drop 24).drop 24).drop 24).take 24).all (fun c => isCode c || c.before args0 about1) = true := by decide +kernel
set_option maxRecDepth 65536 in
theorem w_t8 : ((((((((words1.drop 24).drop 24).drop 24).drop 24).drop 24).drop 24).drop 24).take 24).all (fun c => isCode c || c.before args0 about1) = true := by decide +kernel
set_option maxRecDepth 65536 in
theorem w_t9 : (((((((((words1.drop 24).drop 24).drop 24).drop 24).drop 24).drop 24).drop 24).drop 24).take 24).all (fun c => isCode c || c.before args0 about1) = true := by decide +kernel
set_option maxRecDepth 65536 in
theorem w_t10 : (((((((((words1.drop 24).drop 24).drop 24).drop 24).drop 24).drop 24).drop 24).drop 24).drop 24).all (fun c => isCode c || c.before args0 about1) = true := by decide +kernel
theorem w_tables : (allAtoms (Jvm.Cond.code x code maxLocals ret :: tables_1)).before args0 about1 = true := by
  rw [allAtoms_all]
  show words1.all (fun c => c.before args0 about1) = true
  refine all_split ?_ w_codes
  rw [← List.take_append_drop 24 words1, List.all_append, w_t1, ← List.take_append_drop 24 (words1.drop 24), List.all_append, w_t2, ← List.take_append_drop 24 ((words1.drop 24).drop 24), List.all_append, w_t3, ← List.take_append_drop 24 (((words1.drop 24).drop 24).drop 24), List.all_append, w_t4, ← List.take_append_drop 24 ((((words1.drop 24).drop 24).drop 24).drop 24), List.all_append, w_t5, ← List.take_append_drop 24 (((((words1.drop 24).drop 24).drop 24).drop 24).drop 24), List.all_append, w_t6, ← List.take_append_drop 24 ((((((words1.drop 24).drop 24).drop 24).drop 24).drop 24).drop 24), List.all_append, w_t7, ← List.take_append_drop 24 (((((((words1.drop 24).drop 24).drop 24).drop 24).drop 24).drop 24).drop 24), List.all_append, w_t8, ← List.take_append_drop 24 ((((((((words1.drop 24).drop 24).drop 24).drop 24).drop 24).drop 24).drop 24).drop 24), List.all_append, w_t9, w_t10]
  rfl
set_option maxRecDepth 65536 in
theorem w_rest : rest_1_c.before args0 about1 = true := by decide +kernel
set_option maxRecDepth 65536 in
theorem w_case : (Jvm.Cond.and given_1 narrow_1).before args0 about1 = true := by decide +kernel
set_option maxRecDepth 65536 in
theorem w_consts : constsHeld consts_1 about1 := Jvm.Lit.constsHeldB_iff.mp (by decide +kernel)
theorem w_applies : (headSpec (Jvm.Cond.code x code maxLocals ret :: tables_1) room_1).applies x e0.platform about1 = true :=
  (Spec.applies_iff w_frames).mpr ⟨w_running, w_runnable, w_alone, w_named, w_hears, w_ripe, w_room, w_tables⟩
theorem atStart : AtStart classFile x code maxLocals ret World_1 tables_1 room_1 Calls_1 rest_1 Pre_1 launch0 p0 e0 about1 theMethod args0 below0 :=
  ⟨lists_1, trivial, launch0.admits_env _ _ _, launch0.least_env, fairChoices_fair.cas, fairChoices_fair.clock, w_frames, w_args, w_heap, w_applies, ⟨w_consts, trivial⟩, w_rest, w_case⟩
end start1
theorem witness_1 : WitnessClaimed_1 := ⟨start1.p0, start1.e0, start1.about1, start1.theMethod, start1.args0, start1.below0, start1.atStart⟩
end Jvm.Pilot.@@N@@
