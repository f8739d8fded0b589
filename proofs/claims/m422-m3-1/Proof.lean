import JvmDerived
import JvmDerived.Pilot.@@N@@Statement
import JvmDerived.Pilot.@@N@@Code
set_option linter.unusedVariables false
set_option linter.unusedSimpArgs false
namespace Jvm.OwnK
open Sem ClassFile Op Lib Bundle Jvm.Stand Jvm.Free Jvm.LawKit Jvm.RoadKit
/-! ## the end of a body, the goal, the point -/
def Fne (s : State) (n0 : Nat) (Z : State) (EL : List (String × Nat)) (nw : Bool) (rm : Room) (Q : Option Value → Heap → List Addr → Prop) (o : Outcome) (U : State) : Prop :=
  ∃ v L so, o = .returned v ∧ Q v U.heap so ∧ Fr n0 L ∧ CHr Z EL s.vm s.heap U.vm U.heap ∧ (∀ x ∈ so, n0 ≤ x ∧ x < U.heap.size ∧ Safe Z EL U.vm U.heap x) ∧ (nw = true → s.WarmedH U.vm) ∧ ReturnedEndW s o U L rm.cells rm.slots
def WP (p : Program) (e : Env) (below : List Frame) (Φ : Outcome → State → Prop) (T : State) (g : JFrame) : Prop :=
  ∃ s₂ o, Steps p.tables e below (T.setTop g) s₂ ∧ s₂.status = .running ∧ Ended s₂ below o ∧ Φ o s₂
def WS (p : Program) (l : Launch) (e : Env) (R : Room) (s : State) (m : MethodId) (args : Array Value) (below : List Frame) (meth : Method) (c : Code) (Z : State) (a0 : Array Value) (EL : List (String × Nat)) (nw : Bool) (n0 : Nat) (y : MethodName) (code : ByteArray) (maxL : Nat) (ret : Option FieldType)
    (T : State) (h : Heap) (sf : List Addr) (cells slots : Nat) : Prop :=
  ∃ locs, Stand p l e R (s.setVm T.vm) m args below meth c T locs cells slots ∧ T.heap = h ∧ s.Since T.vm h.size ∧ Z.Warmed39 T.vm ∧ T.vm.findClass y.cls = some m.cls ∧ CHr Z EL s.vm s.heap T.vm h ∧ Fr n0 locs ∧ n0 ≤ h.size ∧
    (∀ x ∈ sf, n0 ≤ x ∧ x < h.size ∧ Safe Z EL T.vm h x) ∧ EW Z a0 EL ∧ (nw = true → s.WarmedH T.vm) ∧ (p.tables.exec = Jvm.exec ∧ c.code = code ∧ meth.sig.returnType = ret ∧ meth.locks = false ∧ c.maxLocals = maxL ∧ meth.name = y.name)
def Ct (l : Launch) (Z : State) (a0 : Array Value) (EL : List (String × Nat)) (nw : Bool) (y : MethodName) (bytes : ByteArray) (maxL : Nat) (ret : Option FieldType) (rm : Room) (as' : Array Value) (h : Heap) (sf : List Addr) (n0 : Nat) (Q : Option Value → Heap → List Addr → Prop) : Prop :=
  ∀ ws, MetFree l y (head1 (Cond.code y bytes maxL ret :: ws) rm) (fun a U => a = as' ∧ Z.Warmed39 U.vm ∧ U.heap = h ∧ CHv Z EL U.vm h ∧ n0 ≤ h.size ∧ EW Z a0 EL ∧ ∀ x ∈ sf, n0 ≤ x ∧ x < h.size ∧ Safe Z EL U.vm h x) (fun _ _ _ _ _ => True)
    (fun _ U o U' => Fne U n0 Z EL nw rm Q o U')
def D (code : ByteArray) (pc : Nat) (i : Instr) (n pc' : Nat) : Prop := decode code pc = .ok (i, n) ∧ pc' = pc + n
section Base
variable {p : Program} {l : Launch} {e : Env} {R : Room} {s : State} {m : MethodId} {args : Array Value} {below : List Frame} {meth : Method} {c : Code} {Z : State} {EL : List (String × Nat)} {nw : Bool} {n0 : Nat} {y : MethodName} {code : ByteArray} {maxL : Nat} {ret : Option FieldType} {T : State} {h : Heap} {sf : List Addr} {cells slots : Nat} {Φ : Outcome → State → Prop} {a0 : Array Value} {pc pc' : Nat} {L : Array Slot} {S : List Value}
theorem WP.st {T' : State} {g g' : JFrame} (k : ∀ t, Steps p.tables e below (T'.setTop g') t → Steps p.tables e below (T.setTop g) t) (w : WP p e below Φ T' g') : WP p e below Φ T g := by
  obtain ⟨s₂, o, h1, h2⟩ := w; exact ⟨s₂, o, k _ h1, h2⟩
theorem WP.cast {g g' : JFrame} (q : g = g') (w : WP p e below Φ T g') : WP p e below Φ T g := q ▸ w
theorem WP.steps {T' : State} {g g' : JFrame} (k : Steps p.tables e below (T.setTop g) (T'.setTop g')) (w : WP p e below Φ T' g') : WP p e below Φ T g := WP.st (fun _ q => k.trans q) w

theorem WS.here (W : WS p l e R s m args below meth c Z a0 EL nw n0 y code maxL ret T h sf cells slots) : At T m c below := by obtain ⟨_, X, -⟩ := W; exact X.here
theorem WS.hx (W : WS p l e R s m args below meth c Z a0 EL nw n0 y code maxL ret T h sf cells slots) : p.tables.exec = Jvm.exec := by obtain ⟨_, _, _, _, _, _, _, _, _, _, _, _, q, -⟩ := W; exact q
theorem WS.hby (W : WS p l e R s m args below meth c Z a0 EL nw n0 y code maxL ret T h sf cells slots) : c.code = code := by obtain ⟨_, _, _, _, _, _, _, _, _, _, _, _, _, q, -⟩ := W; exact q
theorem WS.hn (W : WS p l e R s m args below meth c Z a0 EL nw n0 y code maxL ret T h sf cells slots) : n0 ≤ h.size := by obtain ⟨_, _, _, _, _, _, _, _, q, -⟩ := W; exact q
theorem WS.hT (W : WS p l e R s m args below meth c Z a0 EL nw n0 y code maxL ret T h sf cells slots) : T.heap = h := by obtain ⟨_, _, q, -⟩ := W; exact q
theorem WS.hZ (W : WS p l e R s m args below meth c Z a0 EL nw n0 y code maxL ret T h sf cells slots) : Z.Warmed39 T.vm := by obtain ⟨_, _, _, _, q, -⟩ := W; exact q
theorem WS.lt (W : WS p l e R s m args below meth c Z a0 EL nw n0 y code maxL ret T h sf cells slots) {x : Addr} (q : x ∈ sf) : x < h.size := by obtain ⟨_, _, _, _, _, _, _, _, _, w, -⟩ := W; exact (w x q).2.1
theorem WS.ge (W : WS p l e R s m args below meth c Z a0 EL nw n0 y code maxL ret T h sf cells slots) {x : Addr} (q : x ∈ sf) : n0 ≤ x := by obtain ⟨_, _, _, _, _, _, _, _, _, w, -⟩ := W; exact (w x q).1
theorem WS.hd (W : WS p l e R s m args below meth c Z a0 EL nw n0 y code maxL ret T h sf cells slots) {i : Instr} {n : Nat} (d : D code pc i n pc') : decode c.code pc = .ok (i, n) := hb W.hby d.1
theorem WS.mono (W : WS p l e R s m args below meth c Z a0 EL nw n0 y code maxL ret T h sf cells slots) {cells' slots' : Nat} {sf' : List Addr} (hc : cells ≤ cells') (hs : slots ≤ slots') (hf : ∀ x ∈ sf', x ∈ sf) : WS p l e R s m args below meth c Z a0 EL nw n0 y code maxL ret T h sf' cells' slots' := by
  obtain ⟨locs, X, a1, a2, a3, a4, a5, a6, a7, a8, a9⟩ := W
  exact ⟨locs, X.mono hc hs, a1, a2, a3, a4, a5, a6, a7, fun x hx => a8 x (hf x hx), a9⟩
/-- a step by a law of the library over the point's own start: the point behind it -/
theorem WS.pack {T' : State} {h' : Heap} {sf' : List Addr} {locs' : List Loc} {cells' slots' : Nat} (W : WS p l e R s m args below meth c Z a0 EL nw n0 y code maxL ret T h sf cells slots) (X' : Stand p l e R (s.setVm T.vm) m args below meth c T' locs' cells' slots') (eT : T'.heap = h') (N : Fr n0 locs') (hle : h.size ≤ h'.size) (K : CHv Z EL T.vm h → CHv Z EL T.vm h' ∧ ∀ y, Bk Z EL T.vm h' y → Bk Z EL T.vm h y) (hf : ∀ x ∈ sf', x ∈ sf ∨ (h.size ≤ x ∧ x < h'.size)) :
    WS p l e R s m args below meth c Z a0 EL nw n0 y code maxL ret T' h' sf' cells' slots' := by
  obtain ⟨locs, X, a1, a2, a3, a4, a5, a6, a7, a8, hE, aW, a10⟩ := W
  have C0 := K a5.1
  have C1 : CHr Z EL T.vm h T.vm h' := ⟨C0.1, hle, fun z q => Or.inl (C0.2 z q)⟩
  have C2 := CHv.at X' a3 hE C1.1
  have hS2 : (s.setVm T.vm).Since T'.vm h'.size := X'.warmed.since _
  refine ⟨locs', X'.retabled X'.warmed.wide, eT, a2.trans hS2 hle, wtrans (s := s.setVm T.vm) a3 X'.warmed, by rw [X'.warmed.alike.findClass]; exact a4, (a5.trans C1).trans C2, N, Nat.le_trans a7 hle, fun x hx => ?_, hE, fun u => State.WarmedH.trans (t := s.setVm T.vm) (aW u) X'.warmed, a10⟩
  rcases hf x hx with q | ⟨q1, q2⟩
  · obtain ⟨b1, b2, b3⟩ := a8 x q
    exact ⟨b1, Nat.lt_of_lt_of_le b2 hle, C2.safe (Nat.lt_of_lt_of_le b2 hle) (C1.safe b2 b3)⟩
  · refine ⟨Nat.le_trans a7 q1, q2, C2.safe q2 fun B => ?_⟩
    obtain ⟨cell, z⟩ := (C0.2 x B).there
    have := (Array.getElem?_eq_some_iff.mp z).1; omega
/-- nothing of the heap moved -/
theorem WS.same {T' : State} (W : WS p l e R s m args below meth c Z a0 EL nw n0 y code maxL ret T h sf cells slots) (f : ∀ locs, Stand p l e R (s.setVm T.vm) m args below meth c T locs cells slots → Stand p l e R (s.setVm T.vm) m args below meth c T' locs cells slots) (eT : T'.heap = h) : WS p l e R s m args below meth c Z a0 EL nw n0 y code maxL ret T' h sf cells slots := by
  obtain ⟨locs, X, a1, a2, a3, a4, a5, a6, a7, a8, a9⟩ := id W
  exact W.pack (f _ X) eT a6 (Nat.le_refl _) (fun H => ⟨H, fun _ q => q⟩) (fun x hx => Or.inl hx)

theorem k_aloadN (W : WS p l e R s m args below meth c Z a0 EL nw n0 y code maxL ret T h sf cells slots) {k : Fin 4} {v : Value} (d : D code pc (.aload_n k) 1 pc')   (hl : L[k.val]? = some (.val v)) (hv : v.isRef = true) (w : WP p e below Φ T (mkF m pc' L (v :: S))) : WP p e below Φ T (mkF m pc L (S)) := by
  obtain ⟨hd, rfl⟩ := d
  exact WP.st (fun _ q => XS.aloadN W.here W.hx rfl (hb W.hby hd) hl hv q) w
theorem k_aload (W : WS p l e R s m args below meth c Z a0 EL nw n0 y code maxL ret T h sf cells slots) {k : Nat} {v : Value} (d : D code pc (.aload k) 2 pc')   (hl : L[k]? = some (.val v)) (hv : v.isRef = true) (w : WP p e below Φ T (mkF m pc' L (v :: S))) : WP p e below Φ T (mkF m pc L (S)) := by
  obtain ⟨hd, rfl⟩ := d
  exact WP.st (fun _ q => XS.aload W.here W.hx rfl (hb W.hby hd) hl hv q) w
theorem k_iloadN (W : WS p l e R s m args below meth c Z a0 EL nw n0 y code maxL ret T h sf cells slots) {k : Fin 4} {v : Int32} (d : D code pc (.iload_n k) 1 pc')   (hl : L[k.val]? = some (.val (.int v))) (w : WP p e below Φ T (mkF m pc' L (.int v :: S))) : WP p e below Φ T (mkF m pc L (S)) := by
  obtain ⟨hd, rfl⟩ := d
  exact WP.st (fun _ q => XS.iloadN W.here W.hx rfl (hb W.hby hd) hl q) w
theorem k_iload (W : WS p l e R s m args below meth c Z a0 EL nw n0 y code maxL ret T h sf cells slots) {k : Nat} {v : Int32} (d : D code pc (.iload k) 2 pc')   (hl : L[k]? = some (.val (.int v))) (w : WP p e below Φ T (mkF m pc' L (.int v :: S))) : WP p e below Φ T (mkF m pc L (S)) := by
  obtain ⟨hd, rfl⟩ := d
  exact WP.st (fun _ q => XS.iload W.here W.hx rfl (hb W.hby hd) hl q) w
theorem k_lloadN (W : WS p l e R s m args below meth c Z a0 EL nw n0 y code maxL ret T h sf cells slots) {k : Fin 4} {v : Int64} (d : D code pc (.lload_n k) 1 pc')   (hl : L[k.val]? = some (.val (.long v))) (w : WP p e below Φ T (mkF m pc' L (.long v :: S))) : WP p e below Φ T (mkF m pc L (S)) := by
  obtain ⟨hd, rfl⟩ := d
  exact WP.st (fun _ q => XS.lloadN W.here W.hx rfl (hb W.hby hd) hl q) w
theorem k_lload (W : WS p l e R s m args below meth c Z a0 EL nw n0 y code maxL ret T h sf cells slots) {k : Nat} {v : Int64} (d : D code pc (.lload k) 2 pc')   (hl : L[k]? = some (.val (.long v))) (w : WP p e below Φ T (mkF m pc' L (.long v :: S))) : WP p e below Φ T (mkF m pc L (S)) := by
  obtain ⟨hd, rfl⟩ := d
  exact WP.st (fun _ q => XS.lload W.here W.hx rfl (hb W.hby hd) hl q) w
theorem k_istoreN (W : WS p l e R s m args below meth c Z a0 EL nw n0 y code maxL ret T h sf cells slots) {k : Fin 4} {x : Int32} {L' : Array Slot} (d : D code pc (.istore_n k) 1 pc')    (hl : storeLocals L k.val (.int x) = some L') (w : WP p e below Φ T (mkF m pc' L' (S))) : WP p e below Φ T (mkF m pc L (.int x :: S)) := by
  obtain ⟨hd, rfl⟩ := d
  exact WP.st (fun _ q => XS.istoreN W.here W.hx rfl (hb W.hby hd) rfl hl q) w
theorem k_istore (W : WS p l e R s m args below meth c Z a0 EL nw n0 y code maxL ret T h sf cells slots) {k : Nat} {x : Int32} {L' : Array Slot} (d : D code pc (.istore k) 2 pc')    (hl : storeLocals L k (.int x) = some L') (w : WP p e below Φ T (mkF m pc' L' (S))) : WP p e below Φ T (mkF m pc L (.int x :: S)) := by
  obtain ⟨hd, rfl⟩ := d
  exact WP.st (fun _ q => XS.istore W.here W.hx rfl (hb W.hby hd) rfl hl q) w
theorem k_lstoreN (W : WS p l e R s m args below meth c Z a0 EL nw n0 y code maxL ret T h sf cells slots) {k : Fin 4} {x : Int64} {L' : Array Slot} (d : D code pc (.lstore_n k) 1 pc')    (hl : storeLocals L k.val (.long x) = some L') (w : WP p e below Φ T (mkF m pc' L' (S))) : WP p e below Φ T (mkF m pc L (.long x :: S)) := by
  obtain ⟨hd, rfl⟩ := d
  exact WP.st (fun _ q => XS.lstoreN W.here W.hx rfl (hb W.hby hd) rfl hl q) w
theorem k_lstore (W : WS p l e R s m args below meth c Z a0 EL nw n0 y code maxL ret T h sf cells slots) {k : Nat} {x : Int64} {L' : Array Slot} (d : D code pc (.lstore k) 2 pc')    (hl : storeLocals L k (.long x) = some L') (w : WP p e below Φ T (mkF m pc' L' (S))) : WP p e below Φ T (mkF m pc L (.long x :: S)) := by
  obtain ⟨hd, rfl⟩ := d
  exact WP.st (fun _ q => XS.lstore W.here W.hx rfl (hb W.hby hd) rfl hl q) w
theorem k_astoreN (W : WS p l e R s m args below meth c Z a0 EL nw n0 y code maxL ret T h sf cells slots) {k : Fin 4} {x : Value} {L' : Array Slot} (d : D code pc (.astore_n k) 1 pc')    (hv : x.isRef = true) (hl : storeLocals L k.val x = some L') (w : WP p e below Φ T (mkF m pc' L' (S))) : WP p e below Φ T (mkF m pc L (x :: S)) := by
  obtain ⟨hd, rfl⟩ := d
  exact WP.st (fun _ q => XS.astoreN W.here W.hx rfl (hb W.hby hd) rfl hv hl q) w
theorem k_astore (W : WS p l e R s m args below meth c Z a0 EL nw n0 y code maxL ret T h sf cells slots) {k : Nat} {x : Value} {L' : Array Slot} (d : D code pc (.astore k) 2 pc')    (hv : x.isRef = true) (hl : storeLocals L k x = some L') (w : WP p e below Φ T (mkF m pc' L' (S))) : WP p e below Φ T (mkF m pc L (x :: S)) := by
  obtain ⟨hd, rfl⟩ := d
  exact WP.st (fun _ q => XS.astore W.here W.hx rfl (hb W.hby hd) rfl hv hl q) w
theorem k_iconst (W : WS p l e R s m args below meth c Z a0 EL nw n0 y code maxL ret T h sf cells slots) {i : Int} {z : Int32} (d : D code pc (.iconst i) 1 pc')   (hz : Int32.ofInt i = z) (w : WP p e below Φ T (mkF m pc' L (.int z :: S))) : WP p e below Φ T (mkF m pc L (S)) := by
  obtain ⟨hd, rfl⟩ := d
  exact WP.st (fun _ q => XS.iconst W.here W.hx rfl (hb W.hby hd) (by rw [hz]; exact q)) w
theorem k_bipush (W : WS p l e R s m args below meth c Z a0 EL nw n0 y code maxL ret T h sf cells slots) {i : Int} {z : Int32} (d : D code pc (.bipush i) 2 pc')   (hz : (Int8.ofInt i).toInt32 = z) (w : WP p e below Φ T (mkF m pc' L (.int z :: S))) : WP p e below Φ T (mkF m pc L (S)) := by
  obtain ⟨hd, rfl⟩ := d
  exact WP.st (fun _ q => XS.bipush W.here W.hx rfl (hb W.hby hd) (by rw [hz]; exact q)) w
theorem k_sipush (W : WS p l e R s m args below meth c Z a0 EL nw n0 y code maxL ret T h sf cells slots) {i : Int} {z : Int32} (d : D code pc (.sipush i) 3 pc')   (hz : (Int16.ofInt i).toInt32 = z) (w : WP p e below Φ T (mkF m pc' L (.int z :: S))) : WP p e below Φ T (mkF m pc L (S)) := by
  obtain ⟨hd, rfl⟩ := d
  exact WP.st (fun _ q => XS.sipush W.here W.hx rfl (hb W.hby hd) (by rw [hz]; exact q)) w
theorem k_lconst (W : WS p l e R s m args below meth c Z a0 EL nw n0 y code maxL ret T h sf cells slots) {k : Fin 2} {z : Int64} (d : D code pc (.lconst k) 1 pc')   (hz : Int64.ofNat k = z) (w : WP p e below Φ T (mkF m pc' L (.long z :: S))) : WP p e below Φ T (mkF m pc L (S)) := by
  obtain ⟨hd, rfl⟩ := d
  exact WP.st (fun _ q => XS.lconst W.here W.hx rfl (hb W.hby hd) (by rw [hz]; exact q)) w
theorem k_aconst (W : WS p l e R s m args below meth c Z a0 EL nw n0 y code maxL ret T h sf cells slots)  (d : D code pc (.aconst_null) 1 pc')  (w : WP p e below Φ T (mkF m pc' L (.null :: S))) : WP p e below Φ T (mkF m pc L (S)) := by
  obtain ⟨hd, rfl⟩ := d
  exact WP.st (fun _ q => XS.aconstNull W.here W.hx rfl (hb W.hby hd) q) w
theorem k_iadd (W : WS p l e R s m args below meth c Z a0 EL nw n0 y code maxL ret T h sf cells slots) {x y z : Int32} (d : D code pc (.iadd) 1 pc')  (hz : x + y = z) (w : WP p e below Φ T (mkF m pc' L (.int z :: S))) : WP p e below Φ T (mkF m pc L (.int y :: .int x :: S)) := by
  obtain ⟨hd, rfl⟩ := d
  exact WP.st (fun _ q => XS.iadd W.here W.hx rfl (hb W.hby hd) rfl (by rw [hz]; exact q)) w
theorem k_isub (W : WS p l e R s m args below meth c Z a0 EL nw n0 y code maxL ret T h sf cells slots) {x y z : Int32} (d : D code pc (.isub) 1 pc')  (hz : x - y = z) (w : WP p e below Φ T (mkF m pc' L (.int z :: S))) : WP p e below Φ T (mkF m pc L (.int y :: .int x :: S)) := by
  obtain ⟨hd, rfl⟩ := d
  exact WP.st (fun _ q => XS.isub W.here W.hx rfl (hb W.hby hd) rfl (by rw [hz]; exact q)) w
theorem k_iand (W : WS p l e R s m args below meth c Z a0 EL nw n0 y code maxL ret T h sf cells slots) {x y z : Int32} (d : D code pc (.iand) 1 pc')  (hz : x &&& y = z) (w : WP p e below Φ T (mkF m pc' L (.int z :: S))) : WP p e below Φ T (mkF m pc L (.int y :: .int x :: S)) := by
  obtain ⟨hd, rfl⟩ := d
  exact WP.st (fun _ q => XS.iand W.here W.hx rfl (hb W.hby hd) rfl (by rw [hz]; exact q)) w
theorem k_imul (W : WS p l e R s m args below meth c Z a0 EL nw n0 y code maxL ret T h sf cells slots) {x y z : Int32} (d : D code pc (.imul) 1 pc')  (hz : x * y = z) (w : WP p e below Φ T (mkF m pc' L (.int z :: S))) : WP p e below Φ T (mkF m pc L (.int y :: .int x :: S)) := by
  obtain ⟨hd, rfl⟩ := d
  exact WP.st (fun _ q => XS.imul W.here W.hx rfl (hb W.hby hd) rfl (by rw [hz]; exact q)) w
theorem k_ixor (W : WS p l e R s m args below meth c Z a0 EL nw n0 y code maxL ret T h sf cells slots) {x y z : Int32} (d : D code pc (.ixor) 1 pc')  (hz : x ^^^ y = z) (w : WP p e below Φ T (mkF m pc' L (.int z :: S))) : WP p e below Φ T (mkF m pc L (.int y :: .int x :: S)) := by
  obtain ⟨hd, rfl⟩ := d
  exact WP.st (fun _ q => XS.ixor W.here W.hx rfl (hb W.hby hd) rfl (by rw [hz]; exact q)) w
theorem k_ior (W : WS p l e R s m args below meth c Z a0 EL nw n0 y code maxL ret T h sf cells slots) {x y z : Int32} (d : D code pc (.ior) 1 pc')  (hz : x ||| y = z) (w : WP p e below Φ T (mkF m pc' L (.int z :: S))) : WP p e below Φ T (mkF m pc L (.int y :: .int x :: S)) := by
  obtain ⟨hd, rfl⟩ := d
  exact WP.st (fun _ q => XS.ior W.here W.hx rfl (hb W.hby hd) rfl (by rw [hz]; exact q)) w
theorem k_ishl (W : WS p l e R s m args below meth c Z a0 EL nw n0 y code maxL ret T h sf cells slots) {x y z : Int32} (d : D code pc (.ishl) 1 pc')  (hz : x <<< (y &&& 31) = z) (w : WP p e below Φ T (mkF m pc' L (.int z :: S))) : WP p e below Φ T (mkF m pc L (.int y :: .int x :: S)) := by
  obtain ⟨hd, rfl⟩ := d
  exact WP.st (fun _ q => XS.ishl W.here W.hx rfl (hb W.hby hd) rfl (by rw [hz]; exact q)) w
theorem k_ishr (W : WS p l e R s m args below meth c Z a0 EL nw n0 y code maxL ret T h sf cells slots) {x y z : Int32} (d : D code pc (.ishr) 1 pc')  (hz : x >>> (y &&& 31) = z) (w : WP p e below Φ T (mkF m pc' L (.int z :: S))) : WP p e below Φ T (mkF m pc L (.int y :: .int x :: S)) := by
  obtain ⟨hd, rfl⟩ := d
  exact WP.st (fun _ q => XS.ishr W.here W.hx rfl (hb W.hby hd) rfl (by rw [hz]; exact q)) w
theorem k_iushr (W : WS p l e R s m args below meth c Z a0 EL nw n0 y code maxL ret T h sf cells slots) {x y z : Int32} (d : D code pc (.iushr) 1 pc')  (hz : XT.ushr x y = z) (w : WP p e below Φ T (mkF m pc' L (.int z :: S))) : WP p e below Φ T (mkF m pc L (.int y :: .int x :: S)) := by
  obtain ⟨hd, rfl⟩ := d
  exact WP.st (fun _ q => XT.iushr W.here W.hx rfl (hb W.hby hd) rfl (by rw [hz]; exact q)) w
theorem k_idiv (W : WS p l e R s m args below meth c Z a0 EL nw n0 y code maxL ret T h sf cells slots) {x y z : Int32} (d : D code pc (.idiv) 1 pc')  (hy : y ≠ 0) (hz : x / y = z) (w : WP p e below Φ T (mkF m pc' L (.int z :: S))) : WP p e below Φ T (mkF m pc L (.int y :: .int x :: S)) := by
  obtain ⟨hd, rfl⟩ := d
  exact WP.st (fun _ q => XS.idiv W.here W.hx rfl (hb W.hby hd) rfl hy (by rw [hz]; exact q)) w
theorem k_irem (W : WS p l e R s m args below meth c Z a0 EL nw n0 y code maxL ret T h sf cells slots) {x y z : Int32} (d : D code pc (.irem) 1 pc')  (hy : y ≠ 0) (hz : x % y = z) (w : WP p e below Φ T (mkF m pc' L (.int z :: S))) : WP p e below Φ T (mkF m pc L (.int y :: .int x :: S)) := by
  obtain ⟨hd, rfl⟩ := d
  exact WP.st (fun _ q => XS.irem W.here W.hx rfl (hb W.hby hd) rfl hy (by rw [irem_eq_mod x y, hz]; exact q)) w
theorem k_ineg (W : WS p l e R s m args below meth c Z a0 EL nw n0 y code maxL ret T h sf cells slots) {x z : Int32} (d : D code pc (.ineg) 1 pc')  (hz : -x = z) (w : WP p e below Φ T (mkF m pc' L (.int z :: S))) : WP p e below Φ T (mkF m pc L (.int x :: S)) := by
  obtain ⟨hd, rfl⟩ := d
  exact WP.st (fun _ q => XS.ineg W.here W.hx rfl (hb W.hby hd) rfl (by rw [hz]; exact q)) w
theorem k_ladd (W : WS p l e R s m args below meth c Z a0 EL nw n0 y code maxL ret T h sf cells slots) {x y z : Int64} (d : D code pc (.ladd) 1 pc')  (hz : x + y = z) (w : WP p e below Φ T (mkF m pc' L (.long z :: S))) : WP p e below Φ T (mkF m pc L (.long y :: .long x :: S)) := by
  obtain ⟨hd, rfl⟩ := d
  exact WP.st (fun _ q => XS.ladd W.here W.hx rfl (hb W.hby hd) rfl (by rw [hz]; exact q)) w
theorem k_lsub (W : WS p l e R s m args below meth c Z a0 EL nw n0 y code maxL ret T h sf cells slots) {x y z : Int64} (d : D code pc (.lsub) 1 pc')  (hz : x - y = z) (w : WP p e below Φ T (mkF m pc' L (.long z :: S))) : WP p e below Φ T (mkF m pc L (.long y :: .long x :: S)) := by
  obtain ⟨hd, rfl⟩ := d
  exact WP.st (fun _ q => XS.lsub W.here W.hx rfl (hb W.hby hd) rfl (by rw [hz]; exact q)) w
theorem k_land (W : WS p l e R s m args below meth c Z a0 EL nw n0 y code maxL ret T h sf cells slots) {x y z : Int64} (d : D code pc (.land) 1 pc')  (hz : x &&& y = z) (w : WP p e below Φ T (mkF m pc' L (.long z :: S))) : WP p e below Φ T (mkF m pc L (.long y :: .long x :: S)) := by
  obtain ⟨hd, rfl⟩ := d
  exact WP.st (fun _ q => XS.land W.here W.hx rfl (hb W.hby hd) rfl (by rw [hz]; exact q)) w
theorem k_lmul (W : WS p l e R s m args below meth c Z a0 EL nw n0 y code maxL ret T h sf cells slots) {x y z : Int64} (d : D code pc (.lmul) 1 pc')  (hz : x * y = z) (w : WP p e below Φ T (mkF m pc' L (.long z :: S))) : WP p e below Φ T (mkF m pc L (.long y :: .long x :: S)) := by
  obtain ⟨hd, rfl⟩ := d
  exact WP.st (fun _ q => XS.lmul W.here W.hx rfl (hb W.hby hd) rfl (by rw [hz]; exact q)) w
theorem k_lxor (W : WS p l e R s m args below meth c Z a0 EL nw n0 y code maxL ret T h sf cells slots) {x y z : Int64} (d : D code pc (.lxor) 1 pc')  (hz : x ^^^ y = z) (w : WP p e below Φ T (mkF m pc' L (.long z :: S))) : WP p e below Φ T (mkF m pc L (.long y :: .long x :: S)) := by
  obtain ⟨hd, rfl⟩ := d
  exact WP.st (fun _ q => XS.lxor W.here W.hx rfl (hb W.hby hd) rfl (by rw [hz]; exact q)) w
theorem k_lor (W : WS p l e R s m args below meth c Z a0 EL nw n0 y code maxL ret T h sf cells slots) {x y z : Int64} (d : D code pc (.lor) 1 pc')  (hz : x ||| y = z) (w : WP p e below Φ T (mkF m pc' L (.long z :: S))) : WP p e below Φ T (mkF m pc L (.long y :: .long x :: S)) := by
  obtain ⟨hd, rfl⟩ := d
  exact WP.st (fun _ q => XS.lor W.here W.hx rfl (hb W.hby hd) rfl (by rw [hz]; exact q)) w
theorem k_lshl (W : WS p l e R s m args below meth c Z a0 EL nw n0 y code maxL ret T h sf cells slots) {x z : Int64} {y : Int32} (d : D code pc (.lshl) 1 pc')   (hz : x <<< (y.toInt64 &&& 63) = z) (w : WP p e below Φ T (mkF m pc' L (.long z :: S))) : WP p e below Φ T (mkF m pc L (.int y :: .long x :: S)) := by
  obtain ⟨hd, rfl⟩ := d
  exact WP.st (fun _ q => XT.lshl W.here W.hx rfl (hb W.hby hd) rfl (by rw [hz]; exact q)) w
theorem k_lshr (W : WS p l e R s m args below meth c Z a0 EL nw n0 y code maxL ret T h sf cells slots) {x z : Int64} {y : Int32} (d : D code pc (.lshr) 1 pc')   (hz : x >>> (y.toInt64 &&& 63) = z) (w : WP p e below Φ T (mkF m pc' L (.long z :: S))) : WP p e below Φ T (mkF m pc L (.int y :: .long x :: S)) := by
  obtain ⟨hd, rfl⟩ := d
  exact WP.st (fun _ q => XT.lshr W.here W.hx rfl (hb W.hby hd) rfl (by rw [hz]; exact q)) w
theorem k_lushr (W : WS p l e R s m args below meth c Z a0 EL nw n0 y code maxL ret T h sf cells slots) {x z : Int64} {y : Int32} (d : D code pc (.lushr) 1 pc')   (hz : XT.ushrL x y = z) (w : WP p e below Φ T (mkF m pc' L (.long z :: S))) : WP p e below Φ T (mkF m pc L (.int y :: .long x :: S)) := by
  obtain ⟨hd, rfl⟩ := d
  exact WP.st (fun _ q => XT.lushr W.here W.hx rfl (hb W.hby hd) rfl (by rw [hz]; exact q)) w
theorem k_lrem (W : WS p l e R s m args below meth c Z a0 EL nw n0 y code maxL ret T h sf cells slots) {x y z : Int64} (d : D code pc (.lrem) 1 pc')  (hy : y ≠ 0) (hz : x - (x / y) * y = z) (w : WP p e below Φ T (mkF m pc' L (.long z :: S))) : WP p e below Φ T (mkF m pc L (.long y :: .long x :: S)) := by
  obtain ⟨hd, rfl⟩ := d
  exact WP.st (fun _ q => XS.lrem W.here W.hx rfl (hb W.hby hd) rfl hy (by rw [hz]; exact q)) w
theorem k_ldiv (W : WS p l e R s m args below meth c Z a0 EL nw n0 y code maxL ret T h sf cells slots) {x y z : Int64} (d : D code pc (.ldiv) 1 pc')  (hy : y ≠ 0) (hz : x / y = z) (w : WP p e below Φ T (mkF m pc' L (.long z :: S))) : WP p e below Φ T (mkF m pc L (.long y :: .long x :: S)) := by
  obtain ⟨hd, rfl⟩ := d
  exact WP.st (fun _ q => XS.ldiv W.here W.hx rfl (hb W.hby hd) rfl hy (by rw [hz]; exact q)) w
theorem k_lneg (W : WS p l e R s m args below meth c Z a0 EL nw n0 y code maxL ret T h sf cells slots) {x z : Int64} (d : D code pc (.lneg) 1 pc')  (hz : -x = z) (w : WP p e below Φ T (mkF m pc' L (.long z :: S))) : WP p e below Φ T (mkF m pc L (.long x :: S)) := by
  obtain ⟨hd, rfl⟩ := d
  exact WP.st (fun _ q => XS.lneg W.here W.hx rfl (hb W.hby hd) rfl (by rw [hz]; exact q)) w
theorem k_lcmp (W : WS p l e R s m args below meth c Z a0 EL nw n0 y code maxL ret T h sf cells slots) {x y : Int64} {z : Int32} (d : D code pc (.lcmp) 1 pc')   (hz : XT.cmpL x y = z) (w : WP p e below Φ T (mkF m pc' L (.int z :: S))) : WP p e below Φ T (mkF m pc L (.long y :: .long x :: S)) := by
  obtain ⟨hd, rfl⟩ := d
  exact WP.st (fun _ q => XT.lcmp W.here W.hx rfl (hb W.hby hd) rfl (by rw [hz]; exact q)) w
theorem k_i2b (W : WS p l e R s m args below meth c Z a0 EL nw n0 y code maxL ret T h sf cells slots) {x z : Int32} (d : D code pc (.i2b) 1 pc')  (hz : x.toInt8.toInt32 = z) (w : WP p e below Φ T (mkF m pc' L (.int z :: S))) : WP p e below Φ T (mkF m pc L (.int x :: S)) := by
  obtain ⟨hd, rfl⟩ := d
  exact WP.st (fun _ q => XS.i2b W.here W.hx rfl (hb W.hby hd) rfl (by rw [hz]; exact q)) w
theorem k_i2c (W : WS p l e R s m args below meth c Z a0 EL nw n0 y code maxL ret T h sf cells slots) {x z : Int32} (d : D code pc (.i2c) 1 pc')  (hz : x.toUInt32.toUInt16.toUInt32.toInt32 = z) (w : WP p e below Φ T (mkF m pc' L (.int z :: S))) : WP p e below Φ T (mkF m pc L (.int x :: S)) := by
  obtain ⟨hd, rfl⟩ := d
  exact WP.st (fun _ q => XS.i2c W.here W.hx rfl (hb W.hby hd) rfl (by rw [hz]; exact q)) w
theorem k_i2s (W : WS p l e R s m args below meth c Z a0 EL nw n0 y code maxL ret T h sf cells slots) {x z : Int32} (d : D code pc (.i2s) 1 pc')  (hz : x.toInt16.toInt32 = z) (w : WP p e below Φ T (mkF m pc' L (.int z :: S))) : WP p e below Φ T (mkF m pc L (.int x :: S)) := by
  obtain ⟨hd, rfl⟩ := d
  exact WP.st (fun _ q => XS.i2s W.here W.hx rfl (hb W.hby hd) rfl (by rw [hz]; exact q)) w
theorem k_i2l (W : WS p l e R s m args below meth c Z a0 EL nw n0 y code maxL ret T h sf cells slots) {x : Int32} {z : Int64} (d : D code pc (.i2l) 1 pc')   (hz : x.toInt64 = z) (w : WP p e below Φ T (mkF m pc' L (.long z :: S))) : WP p e below Φ T (mkF m pc L (.int x :: S)) := by
  obtain ⟨hd, rfl⟩ := d
  exact WP.st (fun _ q => XS.i2l W.here W.hx rfl (hb W.hby hd) rfl (by rw [hz]; exact q)) w
theorem k_l2i (W : WS p l e R s m args below meth c Z a0 EL nw n0 y code maxL ret T h sf cells slots) {x : Int64} {z : Int32} (d : D code pc (.l2i) 1 pc')   (hz : x.toInt32 = z) (w : WP p e below Φ T (mkF m pc' L (.int z :: S))) : WP p e below Φ T (mkF m pc L (.long x :: S)) := by
  obtain ⟨hd, rfl⟩ := d
  exact WP.st (fun _ q => XS.l2i W.here W.hx rfl (hb W.hby hd) rfl (by rw [hz]; exact q)) w
theorem k_dup (W : WS p l e R s m args below meth c Z a0 EL nw n0 y code maxL ret T h sf cells slots) {x : Value} (d : D code pc (.dup) 1 pc')  (hc : x.category = 1) (w : WP p e below Φ T (mkF m pc' L (x :: x :: S))) : WP p e below Φ T (mkF m pc L (x :: S)) := by
  obtain ⟨hd, rfl⟩ := d
  exact WP.st (fun _ q => XS.dup W.here W.hx rfl (hb W.hby hd) rfl hc q) w
theorem k_pop (W : WS p l e R s m args below meth c Z a0 EL nw n0 y code maxL ret T h sf cells slots) {x : Value} (d : D code pc (.pop) 1 pc')  (hc : x.category = 1) (w : WP p e below Φ T (mkF m pc' L (S))) : WP p e below Φ T (mkF m pc L (x :: S)) := by
  obtain ⟨hd, rfl⟩ := d
  exact WP.st (fun _ q => XS.pop W.here W.hx rfl (hb W.hby hd) rfl hc q) w
theorem k_dupX1 (W : WS p l e R s m args below meth c Z a0 EL nw n0 y code maxL ret T h sf cells slots) {x z : Value} (d : D code pc (.dup_x1) 1 pc')  (hc : x.category = 1) (hc' : z.category = 1) (w : WP p e below Φ T (mkF m pc' L (x :: z :: x :: S))) : WP p e below Φ T (mkF m pc L (x :: z :: S)) := by
  obtain ⟨hd, rfl⟩ := d
  exact WP.st (fun _ q => XS.dupX1 W.here W.hx rfl (hb W.hby hd) rfl hc hc' q) w
theorem k_dup2 (W : WS p l e R s m args below meth c Z a0 EL nw n0 y code maxL ret T h sf cells slots) {x z : Value} (d : D code pc (.dup2) 1 pc')  (hc : x.category = 1) (hc' : z.category = 1) (w : WP p e below Φ T (mkF m pc' L (x :: z :: x :: z :: S))) : WP p e below Φ T (mkF m pc L (x :: z :: S)) := by
  obtain ⟨hd, rfl⟩ := d
  exact WP.st (fun _ q => XT.dup2 W.here W.hx rfl (hb W.hby hd) rfl hc hc' q) w
theorem k_dup2L (W : WS p l e R s m args below meth c Z a0 EL nw n0 y code maxL ret T h sf cells slots) {x : Int64} (d : D code pc (.dup2) 1 pc')  (w : WP p e below Φ T (mkF m pc' L (.long x :: .long x :: S))) : WP p e below Φ T (mkF m pc L (.long x :: S)) := by
  obtain ⟨hd, rfl⟩ := d
  exact WP.st (fun _ q => XT.dup2L W.here W.hx rfl (hb W.hby hd) rfl q) w
theorem k_iinc (W : WS p l e R s m args below meth c Z a0 EL nw n0 y code maxL ret T h sf cells slots) {k : Nat} {cst : Int} {x z : Int32} {L' : Array Slot} (d : D code pc (.iinc k cst) 3 pc')     (hl : L[k]? = some (.val (.int x))) (hz : x + Int32.ofInt cst = z) (hl' : storeLocals L k (.int z) = some L') (w : WP p e below Φ T (mkF m pc' L' (S))) : WP p e below Φ T (mkF m pc L (S)) := by
  obtain ⟨hd, rfl⟩ := d
  exact WP.st (fun _ q => XS.iinc W.here W.hx rfl (hb W.hby hd) hl (by rw [hz]; exact hl') q) w
theorem k_goto (W : WS p l e R s m args below meth c Z a0 EL nw n0 y code maxL ret T h sf cells slots) {o : Int} (pc1 : Nat) (d : D code pc (.goto o) 3 pc') (ho : 0 ≤ (pc : Int) + o ∧ ((pc : Int) + o).toNat = pc1) (w : WP p e below Φ T (mkF m pc1 L S)) : WP p e below Φ T (mkF m pc L S) := by
  obtain ⟨hd, rfl⟩ := d
  exact WP.st (fun _ q => XS.goto W.here W.hx rfl (pc0 := pc) (pc' := pc1) rfl (hb W.hby hd) ho.1 ho.2 q) w
def icP : ClassFile.Cond → Int32 → Prop
  | .eq, x => x = 0
  | .ne, x => ¬ x = 0
  | .lt, x => x < 0
  | .ge, x => ¬ x < 0
  | .gt, x => 0 < x
  | .le, x => ¬ 0 < x
def ic2 : ClassFile.Cond → Int32 → Int32 → Prop
  | .eq, x, y => x = y
  | .ne, x, y => ¬ x = y
  | .lt, x, y => x < y
  | .ge, x, y => ¬ x < y
  | .gt, x, y => y < x
  | .le, x, y => ¬ y < x
theorem icP_iff (cd : ClassFile.Cond) (x : Int32) : ifCond.holds cd x = true ↔ icP cd x := by
  cases cd <;> simp [ifCond.holds, icP, Int32.not_lt, Int32.not_le]
theorem ic2_iff (cd : ClassFile.Cond) (x y : Int32) : if_icmp.holds cd x y = true ↔ ic2 cd x y := by
  cases cd <;> simp [if_icmp.holds, ic2, Int32.not_lt, Int32.not_le]
theorem k_ifY (W : WS p l e R s m args below meth c Z a0 EL nw n0 y code maxL ret T h sf cells slots) {cd : ClassFile.Cond} {x : Int32} {o : Int} (pc1 : Nat) (d : D code pc (.ifCond cd o) 3 pc') (ho : 0 ≤ (pc : Int) + o ∧ ((pc : Int) + o).toNat = pc1) (hc : icP cd x) (w : WP p e below Φ T (mkF m pc1 L S)) : WP p e below Φ T (mkF m pc L (.int x :: S)) := by
  obtain ⟨hd, rfl⟩ := d
  exact WP.st (fun _ q => XS.ifYes W.here W.hx rfl (pc0 := pc) (pc' := pc1) rfl (hb W.hby hd) rfl ((icP_iff _ _).mpr hc) ho.1 ho.2 q) w
theorem k_ifN (W : WS p l e R s m args below meth c Z a0 EL nw n0 y code maxL ret T h sf cells slots) {cd : ClassFile.Cond} {x : Int32} {o : Int} (d : D code pc (.ifCond cd o) 3 pc') (hc : ¬ icP cd x) (w : WP p e below Φ T (mkF m pc' L S)) : WP p e below Φ T (mkF m pc L (.int x :: S)) := by
  obtain ⟨hd, rfl⟩ := d
  exact WP.st (fun _ q => XS.ifNo W.here W.hx rfl (hb W.hby hd) rfl (by cases hh : ifCond.holds cd x with | false => rfl | true => exact absurd ((icP_iff _ _).mp hh) hc) q) w
theorem k_if (W : WS p l e R s m args below meth c Z a0 EL nw n0 y code maxL ret T h sf cells slots) {cd : ClassFile.Cond} {x : Int32} {o : Int} (pc1 : Nat) (d : D code pc (.ifCond cd o) 3 pc') (ho : 0 ≤ (pc : Int) + o ∧ ((pc : Int) + o).toNat = pc1) (w1 : icP cd x → WP p e below Φ T (mkF m pc1 L S)) (w2 : ¬ icP cd x → WP p e below Φ T (mkF m pc' L S)) : WP p e below Φ T (mkF m pc L (.int x :: S)) := by
  by_cases q : icP cd x
  · exact k_ifY W pc1 d ho q (w1 q)
  · exact k_ifN W d q (w2 q)
theorem k_icY (W : WS p l e R s m args below meth c Z a0 EL nw n0 y code maxL ret T h sf cells slots) {cd : ClassFile.Cond} {x z : Int32} {o : Int} (pc1 : Nat) (d : D code pc (.if_icmp cd o) 3 pc') (ho : 0 ≤ (pc : Int) + o ∧ ((pc : Int) + o).toNat = pc1) (hc : ic2 cd x z) (w : WP p e below Φ T (mkF m pc1 L S)) : WP p e below Φ T (mkF m pc L (.int z :: .int x :: S)) := by
  obtain ⟨hd, rfl⟩ := d
  exact WP.st (fun _ q => XS.icmpYes W.here W.hx rfl (pc0 := pc) (pc' := pc1) rfl (hb W.hby hd) rfl ((ic2_iff _ _ _).mpr hc) ho.1 ho.2 q) w
theorem k_icN (W : WS p l e R s m args below meth c Z a0 EL nw n0 y code maxL ret T h sf cells slots) {cd : ClassFile.Cond} {x z : Int32} {o : Int} (d : D code pc (.if_icmp cd o) 3 pc') (hc : ¬ ic2 cd x z) (w : WP p e below Φ T (mkF m pc' L S)) : WP p e below Φ T (mkF m pc L (.int z :: .int x :: S)) := by
  obtain ⟨hd, rfl⟩ := d
  exact WP.st (fun _ q => XS.icmpNo W.here W.hx rfl (hb W.hby hd) rfl (by cases hh : if_icmp.holds cd x z with | false => rfl | true => exact absurd ((ic2_iff _ _ _).mp hh) hc) q) w
theorem k_ic (W : WS p l e R s m args below meth c Z a0 EL nw n0 y code maxL ret T h sf cells slots) {cd : ClassFile.Cond} {x z : Int32} {o : Int} (pc1 : Nat) (d : D code pc (.if_icmp cd o) 3 pc') (ho : 0 ≤ (pc : Int) + o ∧ ((pc : Int) + o).toNat = pc1) (w1 : ic2 cd x z → WP p e below Φ T (mkF m pc1 L S)) (w2 : ¬ ic2 cd x z → WP p e below Φ T (mkF m pc' L S)) : WP p e below Φ T (mkF m pc L (.int z :: .int x :: S)) := by
  by_cases q : ic2 cd x z
  · exact k_icY W pc1 d ho q (w1 q)
  · exact k_icN W d q (w2 q)
theorem k_nullY (W : WS p l e R s m args below meth c Z a0 EL nw n0 y code maxL ret T h sf cells slots) {o : Int} (pc1 : Nat) (d : D code pc (.ifnull o) 3 pc') (ho : 0 ≤ (pc : Int) + o ∧ ((pc : Int) + o).toNat = pc1) (w : WP p e below Φ T (mkF m pc1 L S)) : WP p e below Φ T (mkF m pc L (.null :: S)) := by
  obtain ⟨hd, rfl⟩ := d
  exact WP.st (fun _ q => XS.ifnullYes W.here W.hx rfl (pc0 := pc) (pc' := pc1) rfl (hb W.hby hd) rfl ho.1 ho.2 q) w
theorem k_nullN (W : WS p l e R s m args below meth c Z a0 EL nw n0 y code maxL ret T h sf cells slots) {o : Int} {b : Addr} (d : D code pc (.ifnull o) 3 pc') (w : WP p e below Φ T (mkF m pc' L S)) : WP p e below Φ T (mkF m pc L (.ref b :: S)) := by
  obtain ⟨hd, rfl⟩ := d
  exact WP.st (fun _ q => XS.ifnullNo W.here W.hx rfl (hb W.hby hd) rfl q) w
theorem k_nnY (W : WS p l e R s m args below meth c Z a0 EL nw n0 y code maxL ret T h sf cells slots) {o : Int} {b : Addr} (pc1 : Nat) (d : D code pc (.ifnonnull o) 3 pc') (ho : 0 ≤ (pc : Int) + o ∧ ((pc : Int) + o).toNat = pc1) (w : WP p e below Φ T (mkF m pc1 L S)) : WP p e below Φ T (mkF m pc L (.ref b :: S)) := by
  obtain ⟨hd, rfl⟩ := d
  exact WP.st (fun _ q => XS.ifnonnullYes W.here W.hx rfl (pc0 := pc) (pc' := pc1) rfl (hb W.hby hd) rfl ho.1 ho.2 q) w
theorem k_nnN (W : WS p l e R s m args below meth c Z a0 EL nw n0 y code maxL ret T h sf cells slots) {o : Int} (d : D code pc (.ifnonnull o) 3 pc') (w : WP p e below Φ T (mkF m pc' L S)) : WP p e below Φ T (mkF m pc L (.null :: S)) := by
  obtain ⟨hd, rfl⟩ := d
  exact WP.st (fun _ q => XS.ifnonnullNo W.here W.hx rfl (hb W.hby hd) rfl q) w
def acP : ACond → Value → Value → Prop
  | .eq, x, y => x = y
  | .ne, x, y => ¬ x = y
theorem k_acY (W : WS p l e R s m args below meth c Z a0 EL nw n0 y code maxL ret T h sf cells slots) {cd : ACond} {x z : Value} {o : Int} (pc1 : Nat) (d : D code pc (.if_acmp cd o) 3 pc') (h1 : x.isRef = true) (h2 : z.isRef = true) (ho : 0 ≤ (pc : Int) + o ∧ ((pc : Int) + o).toNat = pc1) (hc : acP cd x z) (w : WP p e below Φ T (mkF m pc1 L S)) : WP p e below Φ T (mkF m pc L (z :: x :: S)) := by
  obtain ⟨hd, rfl⟩ := d
  obtain ⟨locs, X, -⟩ := id W
  cases cd
  · exact WP.st (fun _ q => Jvm.RoadKit.acmp X W.hx rfl h1 h2 (pc0 := pc) (pc' := pc1) (same := true) rfl (hb W.hby hd) rfl (decide_eq_true hc) ho.1 (by simp [acV, ho.2]) q) w
  · exact WP.st (fun _ q => Jvm.RoadKit.acmp X W.hx rfl h1 h2 (pc0 := pc) (pc' := pc1) (same := false) rfl (hb W.hby hd) rfl (decide_eq_false hc) ho.1 (by simp [acV, ho.2]) q) w
theorem k_acN (W : WS p l e R s m args below meth c Z a0 EL nw n0 y code maxL ret T h sf cells slots) {cd : ACond} {x z : Value} {o : Int} (d : D code pc (.if_acmp cd o) 3 pc') (h1 : x.isRef = true) (h2 : z.isRef = true) (ho : 0 ≤ (pc : Int) + o) (hc : ¬ acP cd x z) (w : WP p e below Φ T (mkF m pc' L S)) : WP p e below Φ T (mkF m pc L (z :: x :: S)) := by
  obtain ⟨hd, rfl⟩ := d
  obtain ⟨locs, X, -⟩ := id W
  cases cd
  · exact WP.st (fun _ q => Jvm.RoadKit.acmp X W.hx rfl h1 h2 (pc0 := pc) (pc' := pc + 3) (same := false) rfl (hb W.hby hd) rfl (decide_eq_false hc) ho (by simp [acV]) q) w
  · exact WP.st (fun _ q => Jvm.RoadKit.acmp X W.hx rfl h1 h2 (pc0 := pc) (pc' := pc + 3) (same := true) rfl (hb W.hby hd) rfl (decide_eq_true (Classical.not_not.mp hc)) ho (by simp [acV]) q) w
end Base

/-! ## small facts on numbers -/
abbrev i2c (x : Int32) : Int32 := x.toUInt32.toUInt16.toUInt32.toInt32
abbrev i2b (x : Int32) : Int32 := x.toInt8.toInt32
abbrev Rg (x : Int32) (n : Int) : Prop := 0 ≤ x.toInt ∧ x.toInt < n
theorem Rg.mono {x : Int32} {n k : Int} (q : Rg x n) (h : n ≤ k) : Rg x k := ⟨q.1, Int.lt_of_lt_of_le q.2 h⟩
theorem toInt_and_nonneg (x m : Int32) (hm : 0 ≤ m.toInt) : 0 ≤ (x &&& m).toInt ∧ (x &&& m).toInt ≤ m.toInt := by
  have e1 : (x &&& m).toBitVec = x.toBitVec &&& m.toBitVec := rfl
  have h1 : m.toInt = m.toBitVec.toNat := by
    have : m.toInt = m.toBitVec.toInt := rfl
    rw [this] at hm ⊢
    rw [BitVec.toInt_eq_toNat_cond] at hm ⊢
    split at hm <;> split <;> omega
  have h2 : (x.toBitVec &&& m.toBitVec).toNat ≤ m.toBitVec.toNat := by rw [BitVec.toNat_and]; exact Nat.and_le_right
  have hm2 : 2 * m.toBitVec.toNat < 2 ^ 32 := by
    have : m.toInt < 2 ^ 31 := Int32.toInt_lt m
    omega
  have h3 : (x &&& m).toInt = (x.toBitVec &&& m.toBitVec).toNat := by
    show (x.toBitVec &&& m.toBitVec).toInt = _
    rw [BitVec.toInt_eq_toNat_cond, if_pos (by omega)]
  rw [h3, h1]; omega
theorem Rg.and (x m : Int32) {n : Int} (hm : 0 ≤ m.toInt ∧ m.toInt < n) : Rg (x &&& m) n := by
  have := toInt_and_nonneg x m hm.1; exact ⟨this.1, by omega⟩
theorem toInt_i2c (x : Int32) : (i2c x).toInt = x.toBitVec.toNat % 65536 := by
  have h : (i2c x).toBitVec = (x.toBitVec.setWidth 16).setWidth 32 := rfl
  show (i2c x).toBitVec.toInt = _
  rw [h, BitVec.toInt_eq_toNat_cond, BitVec.toNat_setWidth, BitVec.toNat_setWidth]
  have : x.toBitVec.toNat % 2 ^ 16 < 2 ^ 16 := Nat.mod_lt _ (by decide)
  rw [Nat.mod_eq_of_lt (a := x.toBitVec.toNat % 2 ^ 16) (by omega), if_pos (by omega)]
  rfl
theorem rg_i2c (x : Int32) : Rg (i2c x) 65536 := by rw [Rg, toInt_i2c]; omega
theorem natOf {x : Int32} (q : 0 ≤ x.toInt) : (x.toBitVec.toNat : Int) = x.toInt := by
  have : x.toInt = x.toBitVec.toInt := rfl
  rw [this] at q ⊢
  rw [BitVec.toInt_eq_toNat_cond] at q ⊢
  split at q <;> split <;> omega
theorem Rg.c {x : Int32} (q : Rg x 65536) : i2c x = x := by
  apply Int32.toInt_inj.mp
  have := natOf q.1; rw [toInt_i2c]; have h2 := q.2; omega
theorem Rg.nar {x : Int32} (q : Rg x 65536) : nar .char x = x := q.c
theorem Rg.fits {x : Int32} (q : Rg x 65536) : fits .char (.int x) = true := by
  have h0 : (0 : Int32) ≤ x := Int32.le_iff_toInt_le.mpr q.1
  have h1 : x ≤ 65535 := Int32.le_iff_toInt_le.mpr (by have := q.2; have e : (65535 : Int32).toInt = 65535 := by decide
                                                       omega)
  simp [Jvm.fits, h0, h1]
theorem Rg.le255 {x : Int32} (q : Rg x 256) : ¬ 255 < x := by rw [Int32.lt_iff_toInt_lt]; have := q.2; have h : (255 : Int32).toInt = 255 := by decide
                                                              omega
theorem nar_i2b (x : Int32) : nar .byte (i2b x) = i2b x := by simp [nar, i2b]
theorem fits_i2b (x : Int32) : Jvm.fits .byte (.int (i2b x)) = true := by
  have e : (i2b x).toInt = x.toInt8.toInt := Int8.toInt_toInt32 _
  have h0 : (-128 : Int32) ≤ i2b x := Int32.le_iff_toInt_le.mpr (by rw [e]; exact Int8.le_toInt _)
  have h1 : i2b x ≤ 127 := Int32.le_iff_toInt_le.mpr (by rw [e]; exact Int8.toInt_le _)
  simp [Jvm.fits, h0, h1]
theorem shr0 (x : Int32) : x >>> ((0 : Int32) &&& 31) = x := by
  have : ((0 : Int32) &&& 31) = 0 := by decide
  rw [this]; simp
theorem Rg.fin {x : Int32} (q : Rg x 256) : ∃ k : Fin 256, x = Int32.ofNat k.val := by
  obtain ⟨h1, h2⟩ := q
  obtain ⟨n, hn⟩ : ∃ n : Nat, x.toInt = n := ⟨x.toInt.toNat, (Int.toNat_of_nonneg h1).symm⟩
  refine ⟨⟨n, by omega⟩, ?_⟩
  apply Int32.toInt_inj.mp
  rw [Int32.toInt_ofNat_of_lt (by simp; omega), hn]
theorem lo_all : ∀ k : Fin 256, (i2b (Int32.ofNat k.val)) &&& 255 = Int32.ofNat k.val := by decide +kernel
theorem lo_i2b {x : Int32} (q : Rg x 256) : (i2b x) &&& 255 = x := by
  obtain ⟨k, rfl⟩ := q.fin; exact lo_all k
theorem i2b_inj {x y : Int32} (q : Rg x 256) (r : Rg y 256) (h : i2b x = i2b y) : x = y := by
  rw [← lo_i2b q, ← lo_i2b r, h]
theorem Rg.mod {x k : Int32} {n : Int} (q : Rg x n) (hk : 0 < k.toInt) : Rg (x % k) k.toInt := by
  have h : (x % k).toInt = x.toInt.tmod k.toInt := Int32.toInt_mod _ _
  rw [Rg, h]
  have h1 := q.1
  rw [Int.tmod_eq_emod_of_nonneg h1]
  exact ⟨Int.emod_nonneg _ (by omega), Int.emod_lt_of_pos _ hk⟩
theorem Rg.add {x y : Int32} {n k : Int} (q : Rg x n) (r : Rg y k) (h : n + k ≤ 2147483648) : Rg (x + y) (n + k - 1) := by
  have e : (x + y).toInt = x.toInt + y.toInt := by
    rw [Int32.toInt_add]
    have h1 := q.1; have h2 := q.2; have h3 := r.1; have h4 := r.2
    rw [Int.bmod_eq_of_le (by omega) (by omega)]
  rw [Rg, e]
  have h1 := q.1; have h2 := q.2; have h3 := r.1; have h4 := r.2
  omega
theorem toInt_land_nonneg (x m : Int64) (hm : 0 ≤ m.toInt) : 0 ≤ (x &&& m).toInt ∧ (x &&& m).toInt ≤ m.toInt := by
  have h1 : m.toInt = m.toBitVec.toNat := by
    have : m.toInt = m.toBitVec.toInt := rfl
    rw [this] at hm ⊢
    rw [BitVec.toInt_eq_toNat_cond] at hm ⊢
    split at hm <;> split <;> omega
  have h2 : (x.toBitVec &&& m.toBitVec).toNat ≤ m.toBitVec.toNat := by rw [BitVec.toNat_and]; exact Nat.and_le_right
  have hm2 : 2 * m.toBitVec.toNat < 2 ^ 64 := by
    have : m.toInt < 2 ^ 63 := Int64.toInt_lt m
    omega
  have h3 : (x &&& m).toInt = (x.toBitVec &&& m.toBitVec).toNat := by
    show (x.toBitVec &&& m.toBitVec).toInt = _
    rw [BitVec.toInt_eq_toNat_cond, if_pos (by omega)]
  rw [h3, h1]; omega
theorem lrem_rg {x y : Int64} (hx : 0 ≤ x.toInt) (hy : 0 < y.toInt) : 0 ≤ (x - x / y * y).toInt ∧ (x - x / y * y).toInt < y.toInt := by
  have hxl : x.toInt < 2 ^ 63 := Int64.toInt_lt x
  have hyl : y.toInt < 2 ^ 63 := Int64.toInt_lt y
  have e0 : x.toInt.tdiv y.toInt = x.toInt / y.toInt := Int.tdiv_eq_ediv_of_nonneg hx
  have d0 : 0 ≤ x.toInt / y.toInt := Int.ediv_nonneg hx (by omega)
  have d1 : x.toInt / y.toInt ≤ x.toInt := Int.ediv_le_self _ hx
  have e1 : (x / y).toInt = x.toInt / y.toInt := by rw [Int64.toInt_div, e0, Int.bmod_eq_of_le (by omega) (by omega)]
  have d2 : x.toInt / y.toInt * y.toInt ≤ x.toInt := Int.ediv_mul_le _ (by omega)
  have d3 : 0 ≤ x.toInt / y.toInt * y.toInt := Int.mul_nonneg d0 (by omega)
  have e2 : (x / y * y).toInt = x.toInt / y.toInt * y.toInt := by rw [Int64.toInt_mul, e1, Int.bmod_eq_of_le (by omega) (by omega)]
  have e3 : (x - x / y * y).toInt = x.toInt - x.toInt / y.toInt * y.toInt := by rw [Int64.toInt_sub, e2, Int.bmod_eq_of_le (by omega) (by omega)]
  have e4 : x.toInt % y.toInt = x.toInt - x.toInt / y.toInt * y.toInt := by
    have := Int.emod_add_mul_ediv x.toInt y.toInt; rw [Int.mul_comm] at this; omega
  rw [e3, ← e4]
  exact ⟨Int.emod_nonneg _ (by omega), Int.emod_lt_of_pos _ hy⟩
theorem cmpL_eq {x y : Int64} : XT.cmpL x y = 0 ↔ x = y := by
  unfold XT.cmpL; split
  · rename_i h; constructor
    · intro q; exact absurd q (by decide)
    · intro q; subst q; exact absurd h (Int64.lt_irrefl)
  · split <;> simp_all
theorem cmpL_lt {x y : Int64} : XT.cmpL x y < 0 ↔ x < y := by
  unfold XT.cmpL; split
  · rename_i h; constructor
    · intro q; exact absurd q (by decide)
    · intro q; rw [Int64.lt_iff_toInt_lt] at h q; omega
  · rename_i h; split
    · rename_i h2; subst h2; simp
    · rename_i h2; constructor
      · intro _; rw [Int64.lt_iff_toInt_lt] at h ⊢; have : x.toInt ≠ y.toInt := fun q => h2 (Int64.toInt_inj.mp q); omega
      · intro _; decide
theorem cmpL_gt {x y : Int64} : 0 < XT.cmpL x y ↔ y < x := by
  unfold XT.cmpL; split
  · rename_i h; constructor
    · intro _; exact h
    · intro _; decide
  · rename_i h; split
    · constructor
      · intro q; exact absurd q (by decide)
      · intro q; exact absurd q h
    · constructor
      · intro q; exact absurd q (by decide)
      · intro q; exact absurd q h
theorem bit01 {x : Int32} (q : Rg x 2) : x = 0 ∨ x = 1 := by
  have h1 := q.1; have h2 := q.2
  rcases (by omega : x.toInt = 0 ∨ x.toInt = 1) with h | h
  · exact Or.inl (Int32.toInt_inj.mp (h.trans (by decide)))
  · exact Or.inr (Int32.toInt_inj.mp (h.trans (by decide)))
theorem toInt_of {i : Nat} (h : i < 2147483648) : (Int32.ofNat i).toInt = i := Int32.toInt_ofNat_of_lt (by simpa using h)
theorem ix_of {i : Nat} (h : i < 2147483648) : ¬ Int32.ofNat i < 0 ∧ (Int32.ofNat i).toNatClampNeg = i := by
  refine ⟨?_, ?_⟩
  · rw [Int32.lt_iff_toInt_lt, toInt_of h]; simp
  · unfold Int32.toNatClampNeg; rw [toInt_of h]; rfl
theorem of_lt {i n : Nat} (h : i < n) (hn : n < 2147483648) : Int32.ofNat i < Int32.ofNat n := by
  rw [Int32.lt_iff_toInt_lt, toInt_of hn, toInt_of (by omega)]; omega
theorem of_ge {i n : Nat} (h : n ≤ i) (hn : i < 2147483648) : ¬ Int32.ofNat i < Int32.ofNat n := by
  rw [Int32.lt_iff_toInt_lt, toInt_of hn, toInt_of (by omega)]; omega
theorem of_sub {i n : Nat} (h : n ≤ i) (hi : i < 2147483648) : ¬ Int32.ofNat i - Int32.ofNat n < 0 := by
  have e : Int32.ofNat i - Int32.ofNat n = Int32.ofNat (i - n) := by
    apply Int32.toInt_inj.mp
    rw [Int32.toInt_sub, toInt_of hi, toInt_of (i := n) (by omega), toInt_of (i := i - n) (by omega), Int.bmod_eq_of_le (by omega) (by omega)]; omega
  rw [e]; exact (ix_of (by omega)).1
theorem of_inj {i n : Nat} (hi : i < 2147483648) (hn : n < 2147483648) (h : Int32.ofNat i = Int32.ofNat n) : i = n := by
  have := congrArg Int32.toInt h; rw [toInt_of hi, toInt_of hn] at this; omega
theorem of_ne0 {n : Nat} (h : 0 < n) (hn : n < 2147483648) : ¬ Int32.ofNat n = 0 := fun q => by
  have h1 := congrArg Int32.toInt q; rw [toInt_of hn] at h1
  have h2 : (0 : Int32).toInt = 0 := by decide
  omega
theorem cmp_step {cs : List Int32} {vs : List Value} {i : Nat} {ci : Int32} (hci : cs[i]? = some ci) (hl : vs.length = cs.length) : (((cs.take i).map i2b).map Value.int ++ vs.drop i).set i (.int (i2b ci)) = ((cs.take (i + 1)).map i2b).map Value.int ++ vs.drop (i + 1) := by
  have h0 : i < cs.length := (List.getElem?_eq_some_iff.mp hci).1
  have h1 : (((cs.take i).map i2b).map Value.int).length = i := by simp; omega
  have h2 : i < vs.length := by omega
  rw [List.set_append_right _ _ (by omega), h1, Nat.sub_self, List.drop_eq_getElem_cons h2, List.set_cons_zero, List.take_add_one, hci]
  simp
theorem le7 {n : Nat} (h : n ≤ 7) : ¬ (7 : Int32) < Int32.ofNat n := by
  have h7 : (7 : Int32) = Int32.ofNat 7 := rfl
  rw [h7]; exact of_ge h (by decide)
theorem of_succ (i : Nat) : Int32.ofNat i + Int32.ofInt 1 = Int32.ofNat (i + 1) := by
  rw [Int32.ofNat_add]; rfl
theorem rgS {x : Int32} {L : List Int32} {n : Int} (q : Rg x n) (r : ∀ c ∈ L, Rg c n) : ∀ c ∈ x :: L, Rg c n := fun c hc => (List.mem_cons.mp hc).elim (fun e => e ▸ q) (r c)
theorem cat_ref {v : Value} (h : v.isRef = true) : v.category = 1 := by cases v <;> simp_all [Value.isRef, Value.category]
theorem cat_i (x : Int32) : (Value.int x).category = 1 := rfl
theorem cat_l (x : Int64) : (Value.long x).category = 2 := rfl
theorem cat_r (x : Addr) : (Value.ref x).category = 1 := rfl
theorem cat_n : Value.null.category = 1 := rfl
theorem nar_refv {t : FieldType} {v : Value} (h : v.isRef = true) (ht : t.isReference = true) : narrow t v = v := by cases t <;> simp_all [narrow, FieldType.isReference]
theorem fits_refv {t : FieldType} {v : Value} (h : v.isRef = true) (ht : t.isReference = true) : Jvm.fits t v = true := by cases t <;> cases v <;> simp_all [Jvm.fits, Value.isRef, FieldType.isReference]

/-! ## what is known of a heap -/
section Facts
variable {Z : State} {h h' : Heap} {a b : Addr} {ty : FieldType} {vs : List Value} {ws : List Addr} {C : String}
def Av (Z : State) (h : Heap) (a : Addr) (ty : FieldType) (vs : List Value) : Prop :=
  ∃ c : Cell, Arr Z h a c ty ∧ c.slots.toList = vs ∧ vs.length < 2147483648 ∧ ∀ v ∈ vs, fits ty v = true
theorem Av.lt (F : Av Z h a ty vs) : a < h.size := by obtain ⟨c, A, -⟩ := F; exact A.lt
theorem Av.keep (F : Av Z h a ty vs) (K : Keep h h' ws) (q : a ∉ ws) : Av Z h' a ty vs := by obtain ⟨c, A, r⟩ := F; exact ⟨c, ⟨K.2.1 a c A.1 q, A.2⟩, r⟩
theorem Av.len (F : Av Z h a ty vs) : vs.length < 2147483648 := F.choose_spec.2.2.1
theorem fits_default (ty : FieldType) : fits ty (defaultValue ty) = true := by cases ty <;> simp [fits, defaultValue]
theorem Av.new {k : ClassId} {z : Int32} (A : Arr Z h a (newA k ty z) ty) (n : Nat) (q : z.toNatClampNeg = n) : Av Z h a ty (List.replicate n (defaultValue ty)) := by
  refine ⟨_, A, by simp [newA, q], ?_, fun v hv => ?_⟩
  · rw [List.length_replicate, ← q]; have := Int32.toInt_lt z; unfold Int32.toNatClampNeg; omega
  · rw [List.eq_of_mem_replicate hv]; exact fits_default ty
theorem Av.set {j : Nat} {v : Value} (F : Av Z h a ty vs) (W : Wr h h' a j v) (hv : fits ty v = true) : Av Z h' a ty (vs.set j v) := by
  obtain ⟨c, A, r1, r2, r3⟩ := F
  refine ⟨c.setSlot j v, A.same W, by simp [Cell.setSlot, r1], by simpa using r2, fun u hu => ?_⟩
  rcases List.mem_or_eq_of_mem_set hu with q | q
  · exact r3 u q
  · rw [q]; exact hv
theorem Av.arv (F : Av Z h a ty vs) (d : Value) : ∃ k, Arv Z h a k ty (Int32.ofNat vs.length) vs d := by
  obtain ⟨c, A, r1, r2, r3⟩ := F
  have hs : c.slots.size = vs.length := by rw [← r1]; simp
  have hx := ix_of r2
  refine ⟨c.cls, c, A, rfl, by rw [hx.2, hs], hx.1, fun k hk => ?_, fun i hi => ?_⟩
  · rw [← Array.getElem?_toList, r1, List.getD_eq_getElem?_getD, List.getElem?_eq_getElem (by omega)]; rfl
  · rw [List.getD_eq_getElem?_getD, List.getElem?_eq_getElem (by omega)]; exact r3 _ (List.getElem_mem _)
theorem Av.fitc {c : Cell} (A : Arr Z h a c ty) (r1 : c.slots.toList = vs) (r3 : ∀ v ∈ vs, fits ty v = true) : FitC Z c := fun i v hv => by
  obtain ⟨-, k, hk, comp, hkind⟩ := A.2.1
  have : v ∈ vs := by rw [← r1]; exact List.mem_of_getElem? (i := i) (by rw [Array.getElem?_toList]; exact hv)
  simp [State.fitsSlot, State.slotType?, hk, hkind, r3 v this]
theorem Av.of_arv {k : ClassId} {z : Int32} {d : Value} (F : Arv Z h a k ty z vs d) (q : z.toNatClampNeg = vs.length) : Av Z h a ty vs := by
  obtain ⟨c, A, -, r1, r2, H, G⟩ := F
  have e : c.slots.toList = vs := by
    apply List.ext_getElem?; intro i
    by_cases hi : i < c.slots.size
    · have := H i hi
      rw [Array.getElem?_toList, this, List.getD_eq_getElem?_getD]
      have hv : i < vs.length := by omega
      simp [hv]
    · rw [Array.getElem?_toList, Array.getElem?_eq_none (by omega), List.getElem?_eq_none (by omega)]
  refine ⟨c, A, e, ?_, fun v hv => ?_⟩
  · rw [← q]; have := Int32.toInt_lt z; unfold Int32.toNatClampNeg; omega
  · obtain ⟨i, hi, rfl⟩ := List.mem_iff_getElem.mp hv
    have := G i (by omega)
    rwa [List.getD_eq_getElem?_getD, List.getElem?_eq_getElem hi] at this
theorem keep_ext (E : Ext h h') (ws : List Addr) : Keep h h' ws := (Keep.refl h ws).ext E
theorem nin1 {x y : Addr} (q : x ≠ y) : x ∉ [y] := ninS q nin0
def AllExa (Z : State) (h : Heap) (C : String) (vs : List Value) : Prop := ∀ v ∈ vs, ∃ r, v = .ref r ∧ Exa Z h r C
theorem AllExa.keep (F : AllExa Z h C vs) (K : Keep h h' ws) : AllExa Z h' C vs := fun v hv => by obtain ⟨r, e, E⟩ := F v hv; exact ⟨r, e, E.keep K⟩
theorem Sta.keep {n d : String} {v : Value} (F : Sta Z h C n d v) (K : Keep h h' ws) (q : ∀ x ∈ ws, ∀ cell : Cell, h[x]? = some cell → cell.vm.isStatics = false) : Sta Z h' C n d v := by
  obtain ⟨cf, i, k, f, st, cell, h1, h2, h3, h4, h5, h6, h7⟩ := F
  exact ⟨cf, i, k, f, st, cell, h1, h2, h3, h4, K.2.1 _ _ h5 (fun hm => by have := q _ hm _ h5; rw [h6] at this; cases this), h6, h7⟩
theorem Av.plain (F : Av Z h a ty vs) : ∀ cell : Cell, h[a]? = some cell → cell.vm.isStatics = false := fun cell q => by
  obtain ⟨c, A, -⟩ := F; cases A.1.symm.trans q; exact Arr.plain A
theorem Exa.plain (F : Exa Z h a C) : ∀ cell : Cell, h[a]? = some cell → cell.vm.isStatics = false := fun cell q => by
  obtain ⟨c, _, h1, _, _, h4, _⟩ := F; cases h1.symm.trans q; exact h4
theorem ne_av {ty' : FieldType} {vs' : List Value} (F : Av Z h a ty vs) (G : Av Z h b ty' vs') (q : ty ≠ ty') : a ≠ b := fun e => by
  subst e
  obtain ⟨c, A, -⟩ := F; obtain ⟨c', A', -⟩ := G
  cases A.1.symm.trans A'.1
  obtain ⟨-, k, hk, comp, hkind⟩ := A.2.1
  obtain ⟨-, k', hk', comp', hkind'⟩ := A'.2.1
  cases hk.symm.trans hk'
  have := hkind.symm.trans hkind'
  injection this with _ e
  exact q e
theorem ne_len {vs' : List Value} (F : Av Z h a ty vs) (G : Av Z h b ty vs') (q : vs ≠ vs') : a ≠ b := fun e => by
  subst e
  obtain ⟨c, A, r, -⟩ := F; obtain ⟨c', A', r', -⟩ := G
  cases A.1.symm.trans A'.1
  exact q (r.symm.trans r')
theorem ne_exav {n : Nat} {a0 : Array Value} (E : Exa Z h a C) (w : (Cond.instantiable C n).before a0 Z = true) (F : Av Z h b ty vs) : a ≠ b := by
  obtain ⟨c, A, -⟩ := F; exact ne_arr E w A
/-- a String of Latin-1 bytes (as signed), its byte[] at b -/
def St (Z : State) (h : Heap) (a b : Addr) (bs : List Int32) : Prop :=
  Exa Z h a "java/lang/String" ∧ Fld Z h a "java/lang/String" "coder" "B" (.int 0) ∧ Fld Z h a "java/lang/String" "value" "[B" (.ref b) ∧ Av Z h b .byte (bs.map Value.int)
theorem St.keep {bs : List Int32} (F : St Z h a b bs) (K : Keep h h' ws) (q : a ∉ ws) (r : b ∉ ws) : St Z h' a b bs := ⟨F.1.keep K, F.2.1.keep K q, F.2.2.1.keep K q, F.2.2.2.keep K r⟩
end Facts

/-! ## a body's entry and its ends -/
section Ends
variable {p : Program} {l : Launch} {e : Env} {R : Room} {s : State} {m : MethodId} {args : Array Value} {below : List Frame} {meth : Method} {c : Code} {Z : State} {EL : List (String × Nat)} {nw : Bool} {n0 : Nat} {y : MethodName} {code : ByteArray} {maxL : Nat} {ret : Option FieldType} {T : State} {h : Heap} {sf : List Addr} {cells slots : Nat} {Φ : Outcome → State → Prop} {a0 : Array Value} {pc pc' : Nat} {L : Array Slot} {S : List Value} {rm : Room} {Q : Option Value → Heap → List Addr → Prop}
theorem Ct.body {as' : Array Value} (hp : plainFor y = true)
    (body : ∀ p e s m below meth c s₁, WS p l e rm s m as' below meth c Z a0 EL nw n0 y code maxL ret s₁ h sf 0 0 → WP p e below (Fne s n0 Z EL nw rm Q) s₁ (entryFrame m as' maxL)) : Ct l Z a0 EL nw y code maxL ret rm as' h sf n0 Q := by
  intro ws
  refine MetFree.of_bodySF hp hisR ?_
  intro p e s m args below meth c s₁ Bd hml hP hK
  obtain ⟨rfl, hZ, hh, hC, hn, hE, hsf⟩ := hP
  have X0 : Stand p l e rm s m args below meth c s₁ [] 0 0 := Stand.of_body Bd
  have e0 : s₁.heap = h := by rw [← hh, Bd.state]; rfl
  have ev : s₁.vm = s.vm := by rw [Bd.state]; rfl
  have hs : s.heap = h := hh
  refine body p e s m below meth c s₁ ⟨[], X0.retabled X0.warmed.wide, e0, X0.warmed.since _, wtrans hZ X0.warmed, ?_, ?_, Fr.nil _, hn, ?_, hE, fun _ => X0.warmed, Bd.exec, Bd.bytes, Bd.returns, Bd.notSynchronized, hml, (name_of_methodNamed Bd.named Bd.method).1⟩
  · rw [ev]; exact findClass_of_methodNamed Bd.named
  · rw [ev, hs]; exact CHr.refl hC
  · rw [ev]; exact hsf
theorem WS.fin (W : WS p l e R s m args below meth c Z a0 EL nw n0 y code maxL ret T h sf cells slots) (so : List Addr) (hso : ∀ x ∈ so, x ∈ sf) {v : Option Value} (hv : meth.sig.returnType = none → v = none) (hc : cells ≤ rm.cells) (hs : slots ≤ rm.slots) (q : Q v h so) :
    ∃ fs, (∀ (f : JFrame) (acts : List Action), f.method = m → f.locked = none → f.entered = [] → (doReturn e (T.setTop f) acts v).1 = T.setFrames fs) ∧ (T.setFrames fs).status = .running ∧ Ended (T.setFrames fs) below (.returned v) ∧ Fne s n0 Z EL nw rm Q (.returned v) (T.setFrames fs) := by
  obtain ⟨locs, X, a1, a2, a3, a4, a5, a6, a7, a8, a9, aW, b1, b2, b3, b4, b5⟩ := W
  obtain ⟨fs, q1, q2, q3, q4⟩ := (X.mono hc hs).leaveW a2 (by rw [a1]; exact Nat.le_refl _) hv b4
  refine ⟨fs, q1, q2, q3, v, locs, so, rfl, ?_, a6, ?_, ?_, aW, q4⟩
  · show Q v T.heap so; rw [a1]; exact q
  · show CHr Z EL s.vm s.heap T.vm T.heap; rw [a1]; exact a5
  · show ∀ x ∈ so, n0 ≤ x ∧ x < T.heap.size ∧ Safe Z EL T.vm T.heap x; rw [a1]; exact fun x hx => a8 x (hso x hx)
theorem k_ret (W : WS p l e R s m args below meth c Z a0 EL nw n0 y code maxL ret T h sf cells slots) (d : D code pc .return_ 1 pc') (hr : ret = none) (so : List Addr) (hso : ∀ x ∈ so, x ∈ sf) (hc : cells ≤ rm.cells) (hs : slots ≤ rm.slots) (q : Q none h so) : WP p e below (Fne s n0 Z EL nw rm Q) T (mkF m pc L []) := by
  have hret : meth.sig.returnType = ret := by obtain ⟨_, _, _, _, _, _, _, _, _, _, _, _, _, _, q, -⟩ := W; exact q
  obtain ⟨fs, q1, q2, q3, q4⟩ := W.fin so hso (v := none) (fun _ => rfl) hc hs q
  obtain ⟨locs, X, -⟩ := id W
  exact ⟨_, _, X.returnOut W.hx (hret.trans hr) (W.hd d) q1, q2, q3, q4⟩
theorem k_ireturn (W : WS p l e R s m args below meth c Z a0 EL nw n0 y code maxL ret T h sf cells slots) {z : Int32} (d : D code pc .ireturn 1 pc') (hr : ret = some .int) (so : List Addr) (hso : ∀ x ∈ so, x ∈ sf) (hc : cells ≤ rm.cells) (hs : slots ≤ rm.slots) (q : Q (some (.int z)) h so) : WP p e below (Fne s n0 Z EL nw rm Q) T (mkF m pc L (.int z :: S)) := by
  have hret : meth.sig.returnType = ret := by obtain ⟨_, _, _, _, _, _, _, _, _, _, _, _, _, _, q, -⟩ := W; exact q
  obtain ⟨fs, q1, q2, q3, q4⟩ := W.fin so hso (v := some (.int z)) (fun u => by rw [hret, hr] at u; cases u) hc hs q
  obtain ⟨locs, X, -⟩ := id W
  exact ⟨_, _, retOut X W.hx (hret.trans hr) rfl (Or.inl ⟨rfl, Or.inl rfl, z, rfl⟩) (W.hd d) q1, q2, q3, q4⟩
theorem k_retN (W : WS p l e R s m args below meth c Z a0 EL nw n0 y code maxL ret T h sf cells slots) {z z' : Int32} {t : FieldType} (d : D code pc .ireturn 1 pc') (hr : ret = some t) (ht : t = .boolean ∨ t = .byte ∨ t = .char ∨ t = .short) (hz : nar t z = z') (so : List Addr) (hso : ∀ x ∈ so, x ∈ sf) (hc : cells ≤ rm.cells) (hs : slots ≤ rm.slots) (q : Q (some (.int z')) h so) : WP p e below (Fne s n0 Z EL nw rm Q) T (mkF m pc L (.int z :: S)) := by
  have hret : meth.sig.returnType = ret := by obtain ⟨_, _, _, _, _, _, _, _, _, _, _, _, _, _, q, -⟩ := W; exact q
  obtain ⟨fs, q1, q2, q3, q4⟩ := W.fin so hso (v := some (.int z')) (fun u => by rw [hret, hr] at u; cases u) hc hs q
  obtain ⟨locs, X, -⟩ := id W
  subst hz
  exact ⟨_, _, retN X W.hx (t := t) (hret.trans hr) ht (W.hd d) q1, q2, q3, q4⟩
theorem k_lreturn (W : WS p l e R s m args below meth c Z a0 EL nw n0 y code maxL ret T h sf cells slots) {z : Int64} (d : D code pc .lreturn 1 pc') (hr : ret = some .long) (so : List Addr) (hso : ∀ x ∈ so, x ∈ sf) (hc : cells ≤ rm.cells) (hs : slots ≤ rm.slots) (q : Q (some (.long z)) h so) : WP p e below (Fne s n0 Z EL nw rm Q) T (mkF m pc L (.long z :: S)) := by
  have hret : meth.sig.returnType = ret := by obtain ⟨_, _, _, _, _, _, _, _, _, _, _, _, _, _, q, -⟩ := W; exact q
  obtain ⟨fs, q1, q2, q3, q4⟩ := W.fin so hso (v := some (.long z)) (fun u => by rw [hret, hr] at u; cases u) hc hs q
  obtain ⟨locs, X, -⟩ := id W
  exact ⟨_, _, retOut X W.hx (hret.trans hr) rfl (Or.inr (Or.inl ⟨rfl, rfl, z, rfl⟩)) (W.hd d) q1, q2, q3, q4⟩
theorem k_areturn (W : WS p l e R s m args below meth c Z a0 EL nw n0 y code maxL ret T h sf cells slots) {v : Value} {t : FieldType} (d : D code pc .areturn 1 pc') (hr : ret = some t) (ht : t.isReference = true) (hv : v.isRef = true) (so : List Addr) (hso : ∀ x ∈ so, x ∈ sf) (hc : cells ≤ rm.cells) (hs : slots ≤ rm.slots) (q : Q (some v) h so) : WP p e below (Fne s n0 Z EL nw rm Q) T (mkF m pc L (v :: S)) := by
  have hret : meth.sig.returnType = ret := by obtain ⟨_, _, _, _, _, _, _, _, _, _, _, _, _, _, q, -⟩ := W; exact q
  obtain ⟨fs, q1, q2, q3, q4⟩ := W.fin so hso (v := some v) (fun u => by rw [hret, hr] at u; cases u) hc hs q
  obtain ⟨locs, X, -⟩ := id W
  have hn : narrow t v = v := by cases t <;> simp_all [narrow, FieldType.isReference]
  exact ⟨_, _, retOut X W.hx (hret.trans hr) hn (Or.inr (Or.inr (Or.inr (Or.inr ⟨rfl, ht, hv⟩)))) (W.hd d) q1, q2, q3, q4⟩
end Ends

/-! ## steps on the heap -/
section Steps
variable {p : Program} {l : Launch} {e : Env} {R : Room} {s : State} {m : MethodId} {args : Array Value} {below : List Frame} {meth : Method} {c : Code} {Z : State} {EL : List (String × Nat)} {nw : Bool} {n0 : Nat} {y : MethodName} {code : ByteArray} {maxL : Nat} {ret : Option FieldType} {T : State} {h : Heap} {sf : List Addr} {cells slots : Nat} {Φ : Outcome → State → Prop} {a0 : Array Value} {pc pc' : Nat} {L : Array Slot} {S : List Value}
abbrev catS (S : List Value) : Nat := (S.map fun v => v.category).sum
theorem cat0 : catS [] = 0 := rfl
theorem catC {v : Value} {S : List Value} {a n : Nat} (h : v.category = a) (q : catS S = n) : catS (v :: S) = a + n := by
  have : catS (v :: S) = v.category + catS S := by simp [catS]
  rw [this, h, q]
abbrev Ix (j : Int32) (i : Nat) : Prop := ¬ j < 0 ∧ j.toNatClampNeg = i
theorem Ix.ok {j : Int32} {i n : Nat} (q : Ix j i) (hi : i < n) : ¬ (j < 0 ∨ n ≤ j.toNatClampNeg) := by
  rintro (u | u)
  · exact q.1 u
  · rw [q.2] at u; omega

theorem k_getF (W : WS p l e R s m args below meth c Z a0 EL nw n0 y code maxL ret T h sf cells slots) {index : Nat} {R0 O n d host : String} (dd : D code pc (.getfield index) 3 pc') (w : (Cond.fieldLink y.cls index R0 n d).before a0 Z = true ∨ (Cond.fieldLinkNest y.cls index R0 n d host).before a0 Z = true) (via : Via Z R0 O n d) {a : Addr} {v : Value} (F : Fld Z h a O n d v)
    (k : ∀ T', WS p l e R s m args below meth c Z a0 EL nw n0 y code maxL ret T' h sf cells slots → WP p e below Φ T' (mkF m pc' L (v :: S))) : WP p e below Φ T (mkF m pc L (.ref a :: S)) := by
  obtain ⟨locs, X, eT, hS, hZ, hown, hC, hN, hn, hsf, hE, hWm, b1, b2, b3, b4, b5, b6⟩ := id W
  obtain ⟨T', X', e', st⟩ := getF X W.hx hZ hown w via eT F (g := mkF m pc L (.ref a :: S)) rfl rfl (W.hd dd)
  obtain ⟨hd, rfl⟩ := dd
  exact WP.st (fun t q => st t q) (k T' (W.pack X' e' hN (Nat.le_refl _) (fun H => ⟨H, fun _ q => q⟩) (fun x hx => Or.inl hx)))

theorem k_getS (W : WS p l e R s m args below meth c Z a0 EL nw n0 y code maxL ret T h sf cells slots) {index : Nat} {R0 O n d : String} (dd : D code pc (.getstatic index) 3 pc') (w : (Cond.fieldLink y.cls index R0 n d).before a0 Z = true) (via : Via Z R0 O n d) {v : Value} (F : Sta Z h O n d v)
    (k : ∀ T', WS p l e R s m args below meth c Z a0 EL nw n0 y code maxL ret T' h sf cells slots → WP p e below Φ T' (mkF m pc' L (v :: S))) : WP p e below Φ T (mkF m pc L (S)) := by
  obtain ⟨locs, X, eT, hS, hZ, hown, hC, hN, hn, hsf, hE, hWm, b1, b2, b3, b4, b5, b6⟩ := id W
  obtain ⟨T', X', e', st⟩ := getS X W.hx hZ (host := "") hown w via eT F (g := mkF m pc L S) rfl (W.hd dd)
  obtain ⟨hd, rfl⟩ := dd
  exact WP.st (fun t q => st t q) (k T' (W.pack X' e' hN (Nat.le_refl _) (fun H => ⟨H, fun _ q => q⟩) (fun x hx => Or.inl hx)))

theorem k_putF (W : WS p l e R s m args below meth c Z a0 EL nw n0 y code maxL ret T h sf cells slots) {index kk : Nat} {R0 O n d C : String} {ty : FieldType} (dd : D code pc (.putfield index) 3 pc') (w : (Cond.fieldLink y.cls index R0 n d).before a0 Z = true) (via : Via Z R0 O n d) {a : Addr} {v v' old : Value} (ha : a ∈ sf) (F : Fld Z h a O n d old) (E : Exa Z h a C)
    (Lw : (Cond.lays C O n d).before a0 Z = true ∨ ((Cond.laysFinal C O n d).before a0 Z = true ∧ y.cls = O ∧ y.name = "<init>")) (wi : (Cond.instantiable C kk).before a0 Z = true) (hty : parseFieldDescriptor d = some ty) (hnr : narrow ty v = v') (hf : fits ty v' = true)
    (k : ∀ T' h', WS p l e R s m args below meth c Z a0 EL nw n0 y code maxL ret T' h' sf cells slots → Wr h h' a (Jvm.RoadKit.slotOf Z O n d) v' → WP p e below Φ T' (mkF m pc' L (S))) : WP p e below Φ T (mkF m pc L (v :: .ref a :: S)) := by
  obtain ⟨locs, X, eT, hS, hZ, hown, hC, hN, hn, hsf, hE, hWm, b1, b2, b3, b4, b5, b6⟩ := id W
  obtain ⟨T', h', X', e', Wh, st⟩ := putFN X W.hx hZ hown w via eT F E (Lw.imp id fun q => ⟨q.1, q.2.1, b6.trans q.2.2⟩) wi hty hnr hf (g := mkF m pc L (v :: .ref a :: S)) rfl rfl (W.hd dd)
  obtain ⟨hd, rfl⟩ := dd
  exact WP.st (fun t q => st t q) (k T' h' (W.pack X' e' (Fr.snoc X' hN (hsf a ha).1) (Nat.le_of_eq Wh.size.symm) (fun H => H.wrStep Wh (hsf a ha).2.2) (fun x hx => Or.inl hx)) Wh)

theorem k_new (W : WS p l e R s m args below meth c Z a0 EL nw n0 y code maxL ret T h sf cells slots) {index n : Nat} {C : String} (c' s' : Nat) (dd : D code pc (.new index) 3 pc') (w : (Cond.classLink y.cls index C).before a0 Z = true) (wi : (Cond.instantiable C n).before a0 Z = true) (wz : (Cond.initialized C).before a0 Z = true) (hc : cells + 1 = c' ∧ c' ≤ R.cells) (hl : slots + n = s' ∧ s' ≤ R.slots)
    (k : ∀ T' h' a, a = h.size → WS p l e R s m args below meth c Z a0 EL nw n0 y code maxL ret T' h' (a :: sf) c' s' → Ext h h' → Exa Z h' a C → (∀ {O nm d : String} {ty : FieldType}, Laid Z a0 C O nm d → parseFieldDescriptor d = some ty → Fld Z h' a O nm d (defaultValue ty)) → WP p e below Φ T' (mkF m pc' L (.ref a :: S))) : WP p e below Φ T (mkF m pc L (S)) := by
  obtain ⟨locs, X, eT, hS, hZ, hown, hC, hN, hn, hsf, hE, hWm, b1, b2, b3, b4, b5, b6⟩ := id W
  obtain ⟨rfl, hc⟩ := hc
  obtain ⟨rfl, hl⟩ := hl
  obtain ⟨T', h', X', e', E, A, Dd, -, st⟩ := newO X W.hx hZ hown w wi wz eT (g := mkF m pc L S) rfl (W.hd dd) hc hl
  obtain ⟨hd, rfl⟩ := dd
  exact WP.st (fun t q => st t q) (k T' h' _ rfl (W.pack X' e' hN E.1 (fun H => H.step fun _ _ _ q => E.2 _ _ q) (fun x hx => (List.mem_cons.mp hx).elim (fun q => Or.inr (by subst q; exact ⟨Nat.le_refl _, A.lt⟩)) Or.inl)) E A Dd)

theorem k_newarr (W : WS p l e R s m args below meth c Z a0 EL nw n0 y code maxL ret T h sf cells slots) {aty : ArrayType} {z : Int32} (n c' s' : Nat) (dd : D code pc (.newarray aty) 2 pc') (w : (Cond.arrayClass (newarray.typeOf aty)).before a0 Z = true) (hz : Ix z n) (hb : n * 8 ≤ 536870912) (hc : cells + 1 = c' ∧ c' ≤ R.cells) (hl : slots + n = s' ∧ s' ≤ R.slots)
    (k : ∀ T' h' a, a = h.size → WS p l e R s m args below meth c Z a0 EL nw n0 y code maxL ret T' h' (a :: sf) c' s' → Ext h h' → Av Z h' a (newarray.typeOf aty) (List.replicate n (defaultValue (newarray.typeOf aty))) → WP p e below Φ T' (mkF m pc' L (.ref a :: S))) : WP p e below Φ T (mkF m pc L (.int z :: S)) := by
  obtain ⟨locs, X, eT, hS, hZ, hown, hC, hN, hn, hsf, hE, hWm, b1, b2, b3, b4, b5, b6⟩ := id W
  obtain ⟨rfl, hc⟩ := hc
  obtain ⟨rfl, hl⟩ := hl
  obtain ⟨T', h', cA, X', e', E, A, st⟩ := newP X W.hx hZ w eT (g := mkF m pc L (.int z :: S)) rfl (W.hd dd) rfl hz.1 (cap := n) (Nat.le_of_eq hz.2) hb hc hl
  obtain ⟨hd, rfl⟩ := dd
  exact WP.st (fun t q => st t q) (k T' h' _ rfl (W.pack X' e' hN E.1 (fun H => H.step fun _ _ _ q => E.2 _ _ q) (fun x hx => (List.mem_cons.mp hx).elim (fun q => Or.inr (by subst q; exact ⟨Nat.le_refl _, A.lt⟩)) Or.inl)) E (Av.new A n hz.2))

theorem k_castore (W : WS p l e R s m args below meth c Z a0 EL nw n0 y code maxL ret T h sf cells slots) {a : Addr} {vs : List Value} {j x z : Int32} (i : Nat) (dd : D code pc (.castore) 1 pc') (ha : a ∈ sf) (F : Av Z h a .char vs) (hj : Ix j i) (hi : i < vs.length) (hz : nar .char x = z) (hf : fits .char (.int z) = true)
    (k : ∀ T' h', WS p l e R s m args below meth c Z a0 EL nw n0 y code maxL ret T' h' sf cells slots → Wr h h' a i (.int z) → Av Z h' a .char (vs.set i (.int z)) → WP p e below Φ T' (mkF m pc' L (S))) : WP p e below Φ T (mkF m pc L (.int x :: .int j :: .ref a :: S)) := by
  obtain ⟨locs, X, eT, hS, hZ, hown, hC, hN, hn, hsf, hE, hWm, b1, b2, b3, b4, b5, b6⟩ := id W
  obtain ⟨cl, A, r1, r2, r3⟩ := id F
  have hsz : cl.slots.size = vs.length := by rw [← r1]; simp
  obtain ⟨T', h', X', e', Wh, st⟩ := stC X W.hx hZ eT A (j := j) (x := x) (hj.ok (by rw [hsz]; exact hi)) (g := mkF m pc L (.int x :: .int j :: .ref a :: S)) rfl rfl (W.hd dd)
  rw [hj.2] at X' Wh
  subst hz
  obtain ⟨hd, rfl⟩ := dd
  exact WP.st (fun t q => st t q) (k T' h' (W.pack X' e' (Fr.snoc X' hN (hsf a ha).1) (Nat.le_of_eq Wh.size.symm) (fun H => H.wrStep Wh (hsf a ha).2.2) (fun x hx => Or.inl hx)) Wh (F.set Wh hf))

theorem k_bastore (W : WS p l e R s m args below meth c Z a0 EL nw n0 y code maxL ret T h sf cells slots) {a : Addr} {vs : List Value} {j x z : Int32} (i : Nat) (dd : D code pc (.bastore) 1 pc') (ha : a ∈ sf) (F : Av Z h a .byte vs) (hj : Ix j i) (hi : i < vs.length) (hz : nar .byte x = z) (hf : fits .byte (.int z) = true)
    (k : ∀ T' h', WS p l e R s m args below meth c Z a0 EL nw n0 y code maxL ret T' h' sf cells slots → Wr h h' a i (.int z) → Av Z h' a .byte (vs.set i (.int z)) → WP p e below Φ T' (mkF m pc' L (S))) : WP p e below Φ T (mkF m pc L (.int x :: .int j :: .ref a :: S)) := by
  obtain ⟨locs, X, eT, hS, hZ, hown, hC, hN, hn, hsf, hE, hWm, b1, b2, b3, b4, b5, b6⟩ := id W
  obtain ⟨cl, A, r1, r2, r3⟩ := id F
  have hsz : cl.slots.size = vs.length := by rw [← r1]; simp
  obtain ⟨T', h', X', e', Wh, st⟩ := stB X W.hx hZ eT A (j := j) (x := x) (hj.ok (by rw [hsz]; exact hi)) (g := mkF m pc L (.int x :: .int j :: .ref a :: S)) rfl rfl (W.hd dd)
  rw [hj.2] at X' Wh
  subst hz
  obtain ⟨hd, rfl⟩ := dd
  exact WP.st (fun t q => st t q) (k T' h' (W.pack X' e' (Fr.snoc X' hN (hsf a ha).1) (Nat.le_of_eq Wh.size.symm) (fun H => H.wrStep Wh (hsf a ha).2.2) (fun x hx => Or.inl hx)) Wh (F.set Wh hf))

theorem k_iastore (W : WS p l e R s m args below meth c Z a0 EL nw n0 y code maxL ret T h sf cells slots) {a : Addr} {vs : List Value} {j x z : Int32} (i : Nat) (dd : D code pc (.iastore) 1 pc') (ha : a ∈ sf) (F : Av Z h a .int vs) (hj : Ix j i) (hi : i < vs.length) (hz : x = z) (hf : fits .int (.int z) = true)
    (k : ∀ T' h', WS p l e R s m args below meth c Z a0 EL nw n0 y code maxL ret T' h' sf cells slots → Wr h h' a i (.int z) → Av Z h' a .int (vs.set i (.int z)) → WP p e below Φ T' (mkF m pc' L (S))) : WP p e below Φ T (mkF m pc L (.int x :: .int j :: .ref a :: S)) := by
  obtain ⟨locs, X, eT, hS, hZ, hown, hC, hN, hn, hsf, hE, hWm, b1, b2, b3, b4, b5, b6⟩ := id W
  obtain ⟨cl, A, r1, r2, r3⟩ := id F
  have hsz : cl.slots.size = vs.length := by rw [← r1]; simp
  obtain ⟨T', h', X', e', Wh, st⟩ := stI X W.hx hZ eT A (j := j) (x := x) (hj.ok (by rw [hsz]; exact hi)) (g := mkF m pc L (.int x :: .int j :: .ref a :: S)) rfl rfl (W.hd dd)
  rw [hj.2] at X' Wh
  subst hz
  obtain ⟨hd, rfl⟩ := dd
  exact WP.st (fun t q => st t q) (k T' h' (W.pack X' e' (Fr.snoc X' hN (hsf a ha).1) (Nat.le_of_eq Wh.size.symm) (fun H => H.wrStep Wh (hsf a ha).2.2) (fun x hx => Or.inl hx)) Wh (F.set Wh hf))

theorem k_sastore (W : WS p l e R s m args below meth c Z a0 EL nw n0 y code maxL ret T h sf cells slots) {a : Addr} {vs : List Value} {j x z : Int32} (i : Nat) (dd : D code pc (.sastore) 1 pc') (ha : a ∈ sf) (F : Av Z h a .short vs) (hj : Ix j i) (hi : i < vs.length) (hz : nar .short x = z) (hf : fits .short (.int z) = true)
    (k : ∀ T' h', WS p l e R s m args below meth c Z a0 EL nw n0 y code maxL ret T' h' sf cells slots → Wr h h' a i (.int z) → Av Z h' a .short (vs.set i (.int z)) → WP p e below Φ T' (mkF m pc' L (S))) : WP p e below Φ T (mkF m pc L (.int x :: .int j :: .ref a :: S)) := by
  obtain ⟨locs, X, eT, hS, hZ, hown, hC, hN, hn, hsf, hE, hWm, b1, b2, b3, b4, b5, b6⟩ := id W
  obtain ⟨cl, A, r1, r2, r3⟩ := id F
  have hsz : cl.slots.size = vs.length := by rw [← r1]; simp
  obtain ⟨T', h', X', e', Wh, st⟩ := stS X W.hx hZ eT A (j := j) (x := x) (hj.ok (by rw [hsz]; exact hi)) (g := mkF m pc L (.int x :: .int j :: .ref a :: S)) rfl rfl (W.hd dd)
  rw [hj.2] at X' Wh
  subst hz
  obtain ⟨hd, rfl⟩ := dd
  exact WP.st (fun t q => st t q) (k T' h' (W.pack X' e' (Fr.snoc X' hN (hsf a ha).1) (Nat.le_of_eq Wh.size.symm) (fun H => H.wrStep Wh (hsf a ha).2.2) (fun x hx => Or.inl hx)) Wh (F.set Wh hf))

theorem k_zastore (W : WS p l e R s m args below meth c Z a0 EL nw n0 y code maxL ret T h sf cells slots) {a : Addr} {vs : List Value} {j x z : Int32} (i : Nat) (dd : D code pc (.bastore) 1 pc') (ha : a ∈ sf) (F : Av Z h a .boolean vs) (hj : Ix j i) (hi : i < vs.length) (hz : nar .boolean x = z) (hf : fits .boolean (.int z) = true)
    (k : ∀ T' h', WS p l e R s m args below meth c Z a0 EL nw n0 y code maxL ret T' h' sf cells slots → Wr h h' a i (.int z) → Av Z h' a .boolean (vs.set i (.int z)) → WP p e below Φ T' (mkF m pc' L (S))) : WP p e below Φ T (mkF m pc L (.int x :: .int j :: .ref a :: S)) := by
  obtain ⟨locs, X, eT, hS, hZ, hown, hC, hN, hn, hsf, hE, hWm, b1, b2, b3, b4, b5, b6⟩ := id W
  obtain ⟨cl, A, r1, r2, r3⟩ := id F
  have hsz : cl.slots.size = vs.length := by rw [← r1]; simp
  obtain ⟨T', h', X', e', Wh, st⟩ := stZ X W.hx hZ eT A (j := j) (x := x) (hj.ok (by rw [hsz]; exact hi)) (g := mkF m pc L (.int x :: .int j :: .ref a :: S)) rfl rfl (W.hd dd)
  rw [hj.2] at X' Wh
  subst hz
  obtain ⟨hd, rfl⟩ := dd
  exact WP.st (fun t q => st t q) (k T' h' (W.pack X' e' (Fr.snoc X' hN (hsf a ha).1) (Nat.le_of_eq Wh.size.symm) (fun H => H.wrStep Wh (hsf a ha).2.2) (fun x hx => Or.inl hx)) Wh (F.set Wh hf))

theorem k_caload (W : WS p l e R s m args below meth c Z a0 EL nw n0 y code maxL ret T h sf cells slots) {a : Addr} {vs : List Value} {j : Int32} {v : Value} (i : Nat) (dd : D code pc (.caload) 1 pc') (F : Av Z h a .char vs) (hj : Ix j i) (hi : vs[i]? = some v)
    (w : WP p e below Φ T (mkF m pc' L (v :: S))) : WP p e below Φ T (mkF m pc L (.int j :: .ref a :: S)) := by
  obtain ⟨locs, X, eT, hS, hZ, hown, hC, hN, hn, hsf, hE, hWm, b1, b2, b3, b4, b5, b6⟩ := id W
  obtain ⟨cl, A, r1, r2, r3⟩ := id F
  have hsz : cl.slots.size = vs.length := by rw [← r1]; simp
  have hlt : i < vs.length := (List.getElem?_eq_some_iff.mp hi).1
  have hv : cl.slots[j.toNatClampNeg]? = some v := by rw [hj.2, ← Array.getElem?_toList, r1]; exact hi
  have hA : (s.setVm T.vm).isArrayOf cl .char := State.isArrayOf_alike hZ.alike A.2.1
  obtain ⟨hd, rfl⟩ := id dd
  exact WP.st (fun t q => X.caload W.hx (by rw [eT]; exact A.1) hA A.2.2 (hj.ok (by rw [hsz]; exact hlt)) hv (g := mkF m pc L (.int j :: .ref a :: S)) rfl rfl (W.hd dd) _ q) w

theorem k_iaload (W : WS p l e R s m args below meth c Z a0 EL nw n0 y code maxL ret T h sf cells slots) {a : Addr} {vs : List Value} {j : Int32} {v : Value} (i : Nat) (dd : D code pc (.iaload) 1 pc') (F : Av Z h a .int vs) (hj : Ix j i) (hi : vs[i]? = some v)
    (w : WP p e below Φ T (mkF m pc' L (v :: S))) : WP p e below Φ T (mkF m pc L (.int j :: .ref a :: S)) := by
  obtain ⟨locs, X, eT, hS, hZ, hown, hC, hN, hn, hsf, hE, hWm, b1, b2, b3, b4, b5, b6⟩ := id W
  obtain ⟨cl, A, r1, r2, r3⟩ := id F
  have hsz : cl.slots.size = vs.length := by rw [← r1]; simp
  have hlt : i < vs.length := (List.getElem?_eq_some_iff.mp hi).1
  have hv : cl.slots[j.toNatClampNeg]? = some v := by rw [hj.2, ← Array.getElem?_toList, r1]; exact hi
  have hA : (s.setVm T.vm).isArrayOf cl .int := State.isArrayOf_alike hZ.alike A.2.1
  obtain ⟨hd, rfl⟩ := id dd
  exact WP.st (fun t q => X.iaload W.hx (by rw [eT]; exact A.1) hA A.2.2 (hj.ok (by rw [hsz]; exact hlt)) hv (g := mkF m pc L (.int j :: .ref a :: S)) rfl rfl (W.hd dd) _ q) w

theorem k_baload (W : WS p l e R s m args below meth c Z a0 EL nw n0 y code maxL ret T h sf cells slots) {a : Addr} {vs : List Value} {j : Int32} {v : Value} (i : Nat) (dd : D code pc (.baload) 1 pc') (F : Av Z h a .byte vs) (hj : Ix j i) (hi : vs[i]? = some v)
    (w : WP p e below Φ T (mkF m pc' L (v :: S))) : WP p e below Φ T (mkF m pc L (.int j :: .ref a :: S)) := by
  obtain ⟨locs, X, eT, hS, hZ, hown, hC, hN, hn, hsf, hE, hWm, b1, b2, b3, b4, b5, b6⟩ := id W
  obtain ⟨cl, A, r1, r2, r3⟩ := id F
  have hsz : cl.slots.size = vs.length := by rw [← r1]; simp
  have hlt : i < vs.length := (List.getElem?_eq_some_iff.mp hi).1
  have hv : cl.slots[j.toNatClampNeg]? = some v := by rw [hj.2, ← Array.getElem?_toList, r1]; exact hi
  have hA : (s.setVm T.vm).isArrayOf cl .byte := State.isArrayOf_alike hZ.alike A.2.1
  obtain ⟨hd, rfl⟩ := id dd
  exact WP.st (fun t q => X.baloadBytes W.hx (by rw [eT]; exact A.1) hA A.2.2 (hj.ok (by rw [hsz]; exact hlt)) hv (g := mkF m pc L (.int j :: .ref a :: S)) rfl rfl (W.hd dd) _ q) w

theorem k_aaload (W : WS p l e R s m args below meth c Z a0 EL nw n0 y code maxL ret T h sf cells slots) {a : Addr} {vs : List Value} {ty : FieldType} {j : Int32} {v : Value} (i : Nat) (dd : D code pc .aaload 1 pc') (F : Av Z h a ty vs) (hty : ty.isReference = true) (hj : Ix j i) (hi : vs[i]? = some v)
    (w : WP p e below Φ T (mkF m pc' L (v :: S))) : WP p e below Φ T (mkF m pc L (.int j :: .ref a :: S)) := by
  obtain ⟨locs, X, eT, hS, hZ, hown, hC, hN, hn, hsf, hE, hWm, b1, b2, b3, b4, b5, b6⟩ := id W
  obtain ⟨cl, A, r1, r2, r3⟩ := id F
  have hsz : cl.slots.size = vs.length := by rw [← r1]; simp
  have hlt : i < vs.length := (List.getElem?_eq_some_iff.mp hi).1
  have hv : cl.slots[j.toNatClampNeg]? = some v := by rw [hj.2, ← Array.getElem?_toList, r1]; exact hi
  have hA : (s.setVm T.vm).isArrayOf cl ty := State.isArrayOf_alike hZ.alike A.2.1
  obtain ⟨hd, rfl⟩ := id dd
  exact WP.st (fun t q => X.aaload W.hx (by rw [eT]; exact A.1) hA hty A.2.2 (hj.ok (by rw [hsz]; exact hlt)) hv (g := mkF m pc L (.int j :: .ref a :: S)) rfl rfl (W.hd dd) _ q) w

theorem k_arraylength (W : WS p l e R s m args below meth c Z a0 EL nw n0 y code maxL ret T h sf cells slots) {a : Addr} {ty : FieldType} {vs : List Value} {z : Int32} (dd : D code pc .arraylength 1 pc') (F : Av Z h a ty vs) (hz : vs.length.toInt32 = z) (w : WP p e below Φ T (mkF m pc' L (.int z :: S))) : WP p e below Φ T (mkF m pc L (.ref a :: S)) := by
  obtain ⟨locs, X, eT, hS, hZ, hown, hC, hN, hn, hsf, hE, hWm, b1, b2, b3, b4, b5, b6⟩ := id W
  obtain ⟨cl, A, r1, r2, r3⟩ := id F
  have hsz : cl.slots.size = vs.length := by rw [← r1]; simp
  have hA : (s.setVm T.vm).isArrayOf cl ty := State.isArrayOf_alike hZ.alike A.2.1
  obtain ⟨hd, rfl⟩ := id dd
  exact WP.st (fun t q => X.arraylength W.hx (by rw [eT]; exact A.1) hA (g := mkF m pc L (.ref a :: S)) rfl rfl (W.hd dd) _ (by rw [hsz, hz]; exact q)) w

theorem k_cast (W : WS p l e R s m args below meth c Z a0 EL nw n0 y code maxL ret T h sf cells slots) {index : Nat} {K : String} {a : Addr} (dd : D code pc (.checkcast index) 3 pc') (w : (Cond.classLink y.cls index K).before a0 Z = true) (F : Ins Z h a K true)
    (k : ∀ T', WS p l e R s m args below meth c Z a0 EL nw n0 y code maxL ret T' h sf cells slots → WP p e below Φ T' (mkF m pc' L (.ref a :: S))) : WP p e below Φ T (mkF m pc L (.ref a :: S)) := by
  obtain ⟨locs, X, eT, hS, hZ, hown, hC, hN, hn, hsf, hE, hWm, b1, b2, b3, b4, b5, b6⟩ := id W
  obtain ⟨T', X', e', st⟩ := castY X W.hx hZ hown w eT F (g := mkF m pc L (.ref a :: S)) rfl rfl (W.hd dd)
  obtain ⟨hd, rfl⟩ := dd
  exact WP.st (fun t q => st t q) (k T' (W.pack X' e' hN (Nat.le_refl _) (fun H => ⟨H, fun _ q => q⟩) (fun x hx => Or.inl hx)))
theorem k_instY (W : WS p l e R s m args below meth c Z a0 EL nw n0 y code maxL ret T h sf cells slots) {index : Nat} {K : String} {a : Addr} (dd : D code pc (.instanceof index) 3 pc') (w : (Cond.classLink y.cls index K).before a0 Z = true) (F : Ins Z h a K true)
    (k : ∀ T', WS p l e R s m args below meth c Z a0 EL nw n0 y code maxL ret T' h sf cells slots → WP p e below Φ T' (mkF m pc' L (.int 1 :: S))) : WP p e below Φ T (mkF m pc L (.ref a :: S)) := by
  obtain ⟨locs, X, eT, hS, hZ, hown, hC, hN, hn, hsf, hE, hWm, b1, b2, b3, b4, b5, b6⟩ := id W
  obtain ⟨T', X', e', st⟩ := instY X W.hx hZ hown w eT F (g := mkF m pc L (.ref a :: S)) rfl rfl (W.hd dd)
  obtain ⟨hd, rfl⟩ := dd
  exact WP.st (fun t q => st t q) (k T' (W.pack X' e' hN (Nat.le_refl _) (fun H => ⟨H, fun _ q => q⟩) (fun x hx => Or.inl hx)))

theorem nsRoot {O K : String} {n : Nat} (w : (Cond.noSuperclass O).before a0 Z = true) (wk : (Cond.instantiable K n).before a0 Z = true) (hn : O ≠ K) : NS Z O K := by
  obtain ⟨c, k, h1, h2, h3, -, -⟩ := Cond.noSuperclass_spec w
  obtain ⟨t, -, g1, -⟩ := Cond.instantiable_spec wk
  have ne := ids_ne h1 g1 hn
  refine ⟨c, t, h1, g1, fun fuel => ?_⟩
  cases fuel with
  | zero => rfl
  | succ f => simp [Vm.isSubclassAux, ne, h2, h3]
theorem nsNo {C S K : String} {n : Nat} (w : (Cond.superclass C S).before a0 Z = true) (wk : (Cond.instantiable K n).before a0 Z = true) (q : NS Z C K) (hn : C ≠ K) : ∃ c t, Z.vm.findClass C = some c ∧ Z.vm.findClass K = some t ∧ Z.vm.assignable c t = false := by
  obtain ⟨c, t, h0, g0, n3⟩ := q
  obtain ⟨p, k, kp, h1, h2, h3, h4, h5, -, h7⟩ := Cond.superclass_spec h0 w
  obtain ⟨t', k', g1, g2, g3, g4, -⟩ := Cond.instantiable_spec wk
  cases g0.symm.trans g1
  have g5 : k'.isInterface = false := by cases hh : k'.isInterface <;> simp [hh] at g4 ⊢
  have ne := ids_ne h0 g0 hn
  refine ⟨c, t, h0, g0, ?_⟩
  show Z.vm.assignableAux (255 + 1) c t = false
  simp [Vm.assignableAux, ne, h2, g2, h5, g3, g5, Vm.isSubclass, n3]
theorem k_instN (W : WS p l e R s m args below meth c Z a0 EL nw n0 y code maxL ret T h sf cells slots) {index : Nat} {K C : String} {a : Addr} (dd : D code pc (.instanceof index) 3 pc') (w : (Cond.classLink y.cls index K).before a0 Z = true) (E : Exa Z h a C) (F : ∃ c t, Z.vm.findClass C = some c ∧ Z.vm.findClass K = some t ∧ Z.vm.assignable c t = false)
    (k : ∀ T', WS p l e R s m args below meth c Z a0 EL nw n0 y code maxL ret T' h sf cells slots → WP p e below Φ T' (mkF m pc' L (.int 0 :: S))) : WP p e below Φ T (mkF m pc L (.ref a :: S)) := by
  obtain ⟨locs, X, eT, hS, hZ, hown, hC, hN, hn, hsf, hE, hWm, b1, b2, b3, b4, b5, b6⟩ := id W
  obtain ⟨T', X', e', st⟩ := instNo X W.hx hZ hown w eT E F (g := mkF m pc L (.ref a :: S)) rfl rfl (W.hd dd)
  obtain ⟨hd, rfl⟩ := dd
  exact WP.st (fun t q => st t q) (k T' (W.pack X' e' hN (Nat.le_refl _) (fun H => ⟨H, fun _ q => q⟩) (fun x hx => Or.inl hx)))
theorem k_instNull (W : WS p l e R s m args below meth c Z a0 EL nw n0 y code maxL ret T h sf cells slots) {index : Nat} (dd : D code pc (.instanceof index) 3 pc') (w : WP p e below Φ T (mkF m pc' L (.int 0 :: S))) : WP p e below Φ T (mkF m pc L (.null :: S)) := by
  obtain ⟨locs, X, eT, hS, hZ, hown, hC, hN, hn, hsf, hE, hWm, b1, b2, b3, b4, b5, b6⟩ := id W
  obtain ⟨hd, rfl⟩ := id dd
  exact WP.st (fun t q => X.instanceofNull W.hx (g := mkF m pc L (.null :: S)) rfl rfl (W.hd dd) _ q) w
theorem k_castNull (W : WS p l e R s m args below meth c Z a0 EL nw n0 y code maxL ret T h sf cells slots) {index : Nat} (dd : D code pc (.checkcast index) 3 pc') (w : WP p e below Φ T (mkF m pc' L (.null :: S))) : WP p e below Φ T (mkF m pc L (.null :: S)) := by
  obtain ⟨locs, X, eT, hS, hZ, hown, hC, hN, hn, hsf, hE, hWm, b1, b2, b3, b4, b5, b6⟩ := id W
  obtain ⟨hd, rfl⟩ := id dd
  exact WP.st (fun t q => X.checkcastNull W.hx (g := mkF m pc L (.null :: S)) rfl rfl (W.hd dd) _ q) w

theorem k_ldcI (W : WS p l e R s m args below meth c Z a0 EL nw n0 y code maxL ret T h sf cells slots) {index : Nat} {v : Int32} (dd : D code pc (.ldc index) 2 pc') (w : (Cond.constant y.cls index v).before a0 Z = true) (k : WP p e below Φ T (mkF m pc' L (.int v :: S))) : WP p e below Φ T (mkF m pc L (S)) := by
  obtain ⟨locs, X, eT, hS, hZ, hown, hC, hN, hn, hsf, hE, hWm, b1, b2, b3, b4, b5, b6⟩ := id W
  obtain ⟨hd, rfl⟩ := id dd
  exact WP.st (fun t q => Jvm.Stand.ldcI X W.hx hown (mv (s := s.setVm T.vm) hZ w) (g := mkF m pc L S) rfl (W.hd dd) q) k
theorem k_ldc2J (W : WS p l e R s m args below meth c Z a0 EL nw n0 y code maxL ret T h sf cells slots) {index : Nat} {v : Int64} (dd : D code pc (.ldc2_w index) 3 pc') (w : (Cond.constantLong y.cls index v).before a0 Z = true) (k : WP p e below Φ T (mkF m pc' L (.long v :: S))) : WP p e below Φ T (mkF m pc L (S)) := by
  obtain ⟨locs, X, eT, hS, hZ, hown, hC, hN, hn, hsf, hE, hWm, b1, b2, b3, b4, b5, b6⟩ := id W
  obtain ⟨hd, rfl⟩ := id dd
  exact WP.st (fun t q => Jvm.Stand.ldc2J X W.hx hown (mv (s := s.setVm T.vm) hZ w) (g := mkF m pc L S) rfl (W.hd dd) q) k

theorem k_initO (W : WS p l e R s m args below meth c Z a0 EL nw n0 y code maxL ret T h sf cells slots) {index : Nat} {a : Addr} (Wd : Nat) (dd : D code pc (.invokespecial index) 3 pc') (w1 : (Cond.methodLink y.cls index Lib.objectInit).before a0 Z = true) (w2 : (Cond.instanceMethod Lib.objectInit).before a0 Z = true) (w3 : (Cond.code Lib.objectInit ⟨#[0xb1]⟩ 1 none).before a0 Z = true)
    (hL : L.size = maxL) (hW : catS S ≤ Wd) (hf : 1 ≤ R.frames) (hl : Wd + 12 ≤ R.locals) (k : ∀ T', WS p l e R s m args below meth c Z a0 EL nw n0 y code maxL ret T' h sf cells slots → WP p e below Φ T' (mkF m pc' L (S))) : WP p e below Φ T (mkF m pc L (.ref a :: S)) := by
  obtain ⟨locs, X, eT, hS, hZ, hown, hC, hN, hn, hsf, hE, hWm, b1, b2, b3, b4, b5, b6⟩ := id W
  obtain ⟨T', X', e', st⟩ := initO X W.hx hZ hown w1 w2 w3 eT (g := mkF m pc L (.ref a :: S)) rfl (hL.trans b5.symm) rfl (W.hd dd) hf (W := Wd) (by show 2 * 0 + _ ≤ _; rw [Nat.mul_zero, Nat.zero_add]; exact hW) hl
  obtain ⟨hd, rfl⟩ := dd
  exact WP.st (fun t q => st t q) (k T' (W.pack X' e' hN (Nat.le_refl _) (fun H => ⟨H, fun _ q => q⟩) (fun x hx => Or.inl hx)))

theorem k_clone (W : WS p l e R s m args below meth c Z a0 EL nw n0 y code maxL ret T h sf cells slots) {index : Nat} {ad : String} {a : Addr} {vs : List Value} {ty : FieldType} (Wd n c' s' : Nat) (dd : D code pc (.invokevirtual index) 3 pc') (w1 : (Cond.methodLink y.cls index ⟨ad, "clone", "()Ljava/lang/Object;"⟩).before a0 Z = true) (w2 : (Cond.sameMethod ad "java/lang/Object" "clone" "()Ljava/lang/Object;").before a0 Z = true) (w3 : (Cond.native ⟨"java/lang/Object", "clone", "()Ljava/lang/Object;"⟩).before a0 Z = true)
    (w4 : (Cond.instanceMethod ⟨"java/lang/Object", "clone", "()Ljava/lang/Object;"⟩).before a0 Z = true) (w5 : (Cond.selects ad ⟨ad, "clone", "()Ljava/lang/Object;"⟩ ⟨"java/lang/Object", "clone", "()Ljava/lang/Object;"⟩).before a0 Z = true) (w6 : (Cond.castable ad "java/lang/Cloneable").before a0 Z = true) (F : Av Z h a ty vs) (E : Exa Z h a ad) (hn : vs.length ≤ n)
    (hL : L.size = maxL) (hW : catS S ≤ Wd) (hf : 1 ≤ R.frames) (hlo : Wd + 14 ≤ R.locals) (hc : cells + 1 = c' ∧ c' ≤ R.cells) (hl : slots + n = s' ∧ s' ≤ R.slots)
    (k : ∀ T' h' b, b = h.size → WS p l e R s m args below meth c Z a0 EL nw n0 y code maxL ret T' h' (b :: sf) c' s' → Ext h h' → Av Z h' b ty vs → Exa Z h' b ad → WP p e below Φ T' (mkF m pc' L (.ref b :: S))) : WP p e below Φ T (mkF m pc L (.ref a :: S)) := by
  obtain ⟨locs, X, eT, hS, hZ, hown, hC, hN, hn, hsf, hE, hWm, b1, b2, b3, b4, b5, b6⟩ := id W
  obtain ⟨rfl, hc⟩ := hc
  obtain ⟨rfl, hl⟩ := hl
  obtain ⟨cl, A, r1, r2, r3⟩ := id F
  have hsz : cl.slots.size = vs.length := by rw [← r1]; simp
  obtain ⟨T', h', X', e', Eh, B, E', st⟩ := cloneA X W.hx hZ hown w1 w2 w3 w4 w5 w6 eT A E (Av.fitc A r1 r3) (g := mkF m pc L (.ref a :: S)) rfl (hL.trans b5.symm) rfl (W.hd dd) hf (W := Wd) (cap := n) (by show 2 * 0 + _ ≤ _; rw [Nat.mul_zero, Nat.zero_add]; exact hW) hlo (by omega) hc hl
  obtain ⟨hd, rfl⟩ := dd
  exact WP.st (fun t q => st t q) (k T' h' _ rfl (W.pack X' e' hN Eh.1 (fun H => H.step fun _ _ _ q => Eh.2 _ _ q) (fun x hx => (List.mem_cons.mp hx).elim (fun q => Or.inr (by subst q; exact ⟨Nat.le_refl _, B.lt⟩)) Or.inl)) Eh ⟨_, B, r1, r2, r3⟩ E')

theorem k_acopy (W : WS p l e R s m args below meth c Z a0 EL nw n0 y code maxL ret T h sf cells slots) {index : Nat} {a b : Addr} {vs ud : List Value} {ty : FieldType} {sp dp nn : Int32} (Wd i j n : Nat) (dd : D code pc (.invokestatic index) 3 pc') (w1 : (Cond.methodLink y.cls index Jvm.Stand.acN).before a0 Z = true) (w2 : (Cond.native Jvm.Stand.acN).before a0 Z = true) (w3 : (Cond.static Jvm.Stand.acN).before a0 Z = true) (w4 : (Cond.initialized "java/lang/System").before a0 Z = true)
    (F : Av Z h a ty vs) (G : Av Z h b ty ud) (hty : refKind ty = false) (hb' : b ∈ sf) (h1 : Ix sp i) (h2 : Ix dp j) (h3 : Ix nn n) (h4 : i + n ≤ vs.length) (h5 : j + n ≤ ud.length)
    (hL : L.size = maxL) (hW : catS S ≤ Wd) (hf : 1 ≤ R.frames) (hlo : Wd + 18 ≤ R.locals)
    (k : ∀ T' h', WS p l e R s m args below meth c Z a0 EL nw n0 y code maxL ret T' h' sf cells slots → Keep h h' [b] → Av Z h' b ty (ud.take j ++ (vs.drop i).take n ++ ud.drop (j + n)) → WP p e below Φ T' (mkF m pc' L (S))) : WP p e below Φ T (mkF m pc L (.int nn :: .int dp :: .ref b :: .int sp :: .ref a :: S)) := by
  obtain ⟨locs, X, eT, hS, hZ, hown, hC, hN, hn, hsf, hE, hWm, b1, b2, b3, b4, b5, b6⟩ := id W
  obtain ⟨k1, A⟩ := F.arv (defaultValue ty)
  obtain ⟨k2, B⟩ := G.arv (defaultValue ty)
  have hx1 := ix_of F.len
  have hx2 := ix_of G.len
  have hus : (vs.drop i).take n = (List.range nn.toNatClampNeg).map fun q => vs.getD (sp.toNatClampNeg + q) (defaultValue ty) := by
    rw [h1.2, h3.2]
    apply List.ext_getElem?; intro q
    by_cases hq : q < n
    · rw [List.getElem?_take_of_lt hq, List.getElem?_drop, List.getElem?_map, List.getElem?_range hq]
      show _ = some (vs.getD (i + q) (defaultValue ty))
      rw [List.getD_eq_getElem?_getD, List.getElem?_eq_getElem (by omega)]; rfl
    · rw [List.getElem?_eq_none (by rw [List.length_take]; omega), List.getElem?_eq_none (by simp; omega)]
  obtain ⟨T', h', L', X', e', N', K', B', st⟩ := cpA X W.hx hZ hown w1 w2 w3 w4 eT A B (Or.inl ⟨rfl, hty⟩) h1.1 h2.1 h3.1 (by rw [h1.2, h3.2, hx1.2]; exact h4) (by rw [h2.2, h3.2, hx2.2]; exact h5) hus (by rw [h2.2, h3.2]; exact h5) hN (hsf b hb').1 (g := mkF m pc L (.int nn :: .int dp :: .ref b :: .int sp :: .ref a :: S)) rfl (hL.trans b5.symm) rfl (W.hd dd) hf (W := Wd) (by show 2 * 0 + _ ≤ _; rw [Nat.mul_zero, Nat.zero_add]; exact hW) hlo
  rw [h2.2, h3.2] at B'
  obtain ⟨hd, rfl⟩ := dd
  exact WP.st (fun t q => st t q) (k T' h' (W.pack X' e' N' K'.1 (fun H => H.step fun z hz c q => K'.2.1 z c q (fun u => (hsf b hb').2.2 ((List.mem_singleton.mp u) ▸ hz))) (fun x hx => Or.inl hx)) K' (Av.of_arv B' (by rw [hx2.2]; simp; omega)))

theorem k_ldcO (W : WS p l e R s m args below meth c Z a0 EL nw n0 y code maxL ret T h sf cells slots) {index : Nat} {text : String} (n c' s' : Nat) (hnw : nw = false) (dd : D code pc (.ldc index) 2 pc') (w : (Cond.stringLink y.cls index text).before a0 Z = true) (wS : ∀ a ∈ Bundle.stringAtoms, a.before a0 Z = true) (hn1 : 4 * text.toList.length ≤ n ∧ n ≤ 536870912) (hc : cells + 2 = c' ∧ c' ≤ R.cells) (hl : slots + (n + 4) = s' ∧ s' ≤ R.slots)
    (k : ∀ T' h' a, WS p l e R s m args below meth c Z a0 EL nw n0 y code maxL ret T' h' sf c' s' → Ext h h' → WP p e below Φ T' (mkF m pc' L (.ref a :: S))) : WP p e below Φ T (mkF m pc L (S)) := by
  obtain ⟨locs, X, eT, hS, hZ, hown, hC, hN, hn, hsf, hE, hWm, b1, b2, b3, b4, b5, b6⟩ := id W
  obtain ⟨rfl, hc⟩ := hc
  obtain ⟨rfl, hl⟩ := hl
  obtain ⟨a, T', h', k1, X', e', E, hS', hk', hW', hown', hC', -, st⟩ := ldcOH (EL := EL) X W.hx hZ hown w wS eT hS (Nat.le_refl _) hE hC.1 (g := mkF m pc L S) rfl (W.hd dd) hn1.1 hn1.2 hc hl
  obtain ⟨hd, rfl⟩ := dd
  refine WP.st (fun t q => st t q) (k T' h' a ⟨locs, X', e', ⟨hS'.1, fun j p u v => ⟨(hS'.2 j p u v).1, Nat.lt_of_lt_of_le (hS'.2 j p u v).2 hk'⟩⟩, hW', hown', hC.trans hC', hN, Nat.le_trans hn E.1, fun x hx => ?_, hE, fun u => by (rw [hnw] at u; cases u), b1, b2, b3, b4, b5, b6⟩ E)
  obtain ⟨g1, g2, g3⟩ := hsf x hx
  exact ⟨g1, Nat.lt_of_lt_of_le g2 E.1, hC'.safe g2 g3⟩
theorem k_ldcS (W : WS p l e R s m args below meth c Z a0 EL nw n0 y code maxL ret T h sf cells slots) {index : Nat} {text : String} (bs : List Int32) (n c' s' : Nat) (hnw : nw = false) (dd : D code pc (.ldc index) 2 pc') (w : (Cond.stringLink y.cls index text).before a0 Z = true) (wS : ∀ a ∈ Bundle.stringAtoms, a.before a0 Z = true) (hmem : (y.cls, index) ∈ EL)
    (ht : (∀ c ∈ text.toList, c.toNat < 256) ∧ text.toList.map (fun c => Value.int (Jvm.Lit.byteI c.toNat.toUInt16)) = bs.map Value.int) (hlen : bs.length < 2147483648) (hn1 : 4 * text.toList.length ≤ n ∧ n ≤ 536870912) (hc : cells + 2 = c' ∧ c' ≤ R.cells) (hl : slots + (n + 4) = s' ∧ s' ≤ R.slots)
    (k : ∀ T' h' a b, WS p l e R s m args below meth c Z a0 EL nw n0 y code maxL ret T' h' sf c' s' → Ext h h' → St Z h' a b bs → (∀ x ∈ sf, x ≠ a ∧ x ≠ b) → WP p e below Φ T' (mkF m pc' L (.ref a :: S))) : WP p e below Φ T (mkF m pc L (S)) := by
  obtain ⟨locs, X, eT, hS, hZ, hown, hC, hN, hn, hsf, hE, hWm, b1, b2, b3, b4, b5, b6⟩ := id W
  obtain ⟨rfl, hc⟩ := hc
  obtain ⟨rfl, hl⟩ := hl
  have hzz : (Int32.ofNat bs.length).toNatClampNeg = (bs.map Value.int).length := by
    rw [List.length_map]; unfold Int32.toNatClampNeg; rw [Int32.toInt_ofNat_of_lt (by simpa using hlen)]; rfl
  have hz0 : ¬ Int32.ofNat bs.length < 0 := by
    rw [Int32.lt_iff_toInt_lt, Int32.toInt_ofNat_of_lt (by simpa using hlen)]; simp
  obtain ⟨a, T', h', k1, b, kk, X', e', E, hS', hk', hW', hown', G1, G2, G3, G4, -, -, hC', -, hne, st⟩ := ldcCH (EL := EL) X W.hx hZ hown w wS eT hS (Nat.le_refl _) hE hmem hC.1 (vs := bs.map Value.int) (z := Int32.ofNat bs.length) ht hz0 hzz (g := mkF m pc L S) rfl (W.hd dd) hn1.1 hn1.2 hc hl
  obtain ⟨hd, rfl⟩ := dd
  have hsf' : ∀ x ∈ sf, n0 ≤ x ∧ x < h'.size ∧ Safe Z EL T'.vm h' x := fun x hx => by
    obtain ⟨g1, g2, g3⟩ := hsf x hx
    exact ⟨g1, Nat.lt_of_lt_of_le g2 E.1, hC'.safe g2 g3⟩
  exact WP.st (fun t q => st t q) (k T' h' a b ⟨locs, X', e', ⟨hS'.1, fun j p u v => ⟨(hS'.2 j p u v).1, Nat.lt_of_lt_of_le (hS'.2 j p u v).2 hk'⟩⟩, hW', hown', hC.trans hC', hN, Nat.le_trans hn E.1, hsf', hE, fun u => by (rw [hnw] at u; cases u), b1, b2, b3, b4, b5, b6⟩ E ⟨G1, G2, G3, Av.of_arv G4 hzz⟩ (fun x hx => hne x (hsf' x hx).2.2))
end Steps

/-! ## calls by contract -/
section Calls
variable {p : Program} {l : Launch} {e : Env} {R : Room} {s : State} {m : MethodId} {args : Array Value} {below : List Frame} {meth : Method} {c : Code} {Z : State} {EL : List (String × Nat)} {nw : Bool} {n0 : Nat} {y : MethodName} {code : ByteArray} {maxL : Nat} {ret : Option FieldType} {T : State} {h : Heap} {sf : List Addr} {cells slots : Nat} {Φ : Outcome → State → Prop} {a0 : Array Value} {pc pc' : Nat} {L : Array Slot} {S : List Value}
theorem backCt {z : MethodName} {bytes : ByteArray} {mL : Nat} {rt : Option FieldType} {rm : Room} {as' : Array Value} {sfc : List Addr} {Q : Option Value → Heap → List Addr → Prop} {len Wd : Nat} {vm0 : Vm}
    (hM : Ct l Z a0 EL nw z bytes mL rt rm as' h sfc n0 Q) (hZ : Z.Warmed39 vm0) (wc : (Cond.code z bytes mL rt).before a0 Z = true) (wz : (Cond.initialized z.cls).before a0 Z = true) (hf : rm.frames + 1 ≤ R.frames) (hl : Wd + (mL + 11) + rm.locals ≤ R.locals) (hE : EW Z a0 EL) (hn : n0 ≤ h.size) (H : CHv Z EL vm0 h) (hsf : ∀ x ∈ sfc, n0 ≤ x ∧ x < h.size ∧ Safe Z EL vm0 h x) :
    BackS l R p e below (s.setVm vm0) args z len Wd (fun A a => a = as' ∧ A.U.heap = h ∧ A.cells + rm.cells ≤ R.cells ∧ A.slots + rm.slots ≤ R.slots)
      (fun A _ v B => ∃ L so, Q v B.U.heap so ∧ Fr n0 L ∧ B.locs = A.locs ++ L ∧ B.cells = A.cells + rm.cells ∧ B.slots = A.slots + rm.slots ∧ CHr Z EL vm0 h B.U.vm B.U.heap ∧ (nw = true → (s.setVm vm0).WarmedH B.U.vm) ∧ ∀ x ∈ so, n0 ≤ x ∧ x < B.U.heap.size ∧ Safe Z EL B.U.vm B.U.heap x) := by
  refine BackS.of_freeW (bytes := bytes) (maxL := mL) (ret := rt) (E := fun _ first o t L k n => k = rm.cells ∧ n = rm.slots ∧ ∃ v so, o = .returned v ∧ Q v t.heap so ∧ Fr n0 L ∧ CHr Z EL first.vm first.heap t.vm t.heap ∧ (nw = true → first.WarmedH t.vm) ∧ ∀ x ∈ so, n0 ≤ x ∧ x < t.heap.size ∧ Safe Z EL t.vm t.heap x) (hM []) hf hl ?_ ?_ (fun _ _ _ _ _ _ _ _ _ => trivial) ?_ ?_
  · intro m meth c A a Y hp
    have hU : Z.Warmed39 A.U.vm := wtrans (s := s.setVm vm0) hZ Y.warmed
    exact ⟨by show (Cond.and _ .tt).before a A.U = true; rw [Cond.before_and, mv hU wc]; rfl, mv hU wc, mv hU wz, hp.2.2.1, hp.2.2.2⟩
  · intro m meth c A a g mk Y hp
    have C := CHv.at Y hZ hE H
    refine ⟨hp.1, wtrans (s := s.setVm vm0) hZ Y.warmed, hp.2.1, C.1, hn, hE, fun x hx => ?_⟩
    obtain ⟨q1, q2, q3⟩ := hsf x hx
    exact ⟨q1, q2, C.safe q2 q3⟩
  · rintro a first o t ⟨v, L, so, q1, q2, q3, q4, q5, qw, q6⟩
    exact ⟨L, _, _, q6, rfl, rfl, v, so, q1, q2, q3, q4, qw, q5⟩
  · rintro m meth c A a g mk v t L k n Y hp - - ⟨rfl, rfl, v', so, q1, q2, q3, q4, qw, q5⟩
    cases q1
    refine ⟨L, so, q2, q3, rfl, rfl, rfl, (CHv.at Y hZ hE H).trans ?_, fun u => State.WarmedH.trans Y.warmed (qw u), q5⟩
    rw [← hp.2.1]; exact q4

theorem k_callS (W : WS p l e R s m args below meth c Z a0 EL nw n0 y code maxL ret T h sf cells slots) {z : MethodName} {bytes : ByteArray} {mL : Nat} {rt : Option FieldType} {rm : Room} {sfc : List Addr} {Q : Option Value → Heap → List Addr → Prop} (Wd c' s' : Nat) {argsL rest : List Value} {index : Nat} (dd : D code pc (.invokestatic index) 3 pc') (w1 : (Cond.methodLink y.cls index z).before a0 Z = true) (w2 : (Cond.static z).before a0 Z = true) (hy : z.cls ≠ "java/lang/invoke/MethodHandle" ∧ z.cls ≠ "java/lang/invoke/VarHandle") (hlen : ∀ sig, parseMethodDescriptor z.desc = some sig → argsL.length = sig.parameters.length) (hC : Ct l Z a0 EL nw z bytes mL rt rm argsL.toArray h sfc n0 Q) (w4 : (Cond.code z bytes mL rt).before a0 Z = true) (w3 : (Cond.initialized z.cls).before a0 Z = true) (hsfc : ∀ x ∈ sfc, x ∈ sf) (hL : L.size = maxL) (hW : catS rest ≤ Wd) (hf : rm.frames + 1 ≤ R.frames) (hl : Wd + (mL + 11) + rm.locals ≤ R.locals) (hc : cells + rm.cells = c' ∧ c' ≤ R.cells) (hs : slots + rm.slots = s' ∧ s' ≤ R.slots) (hst : S = argsL.reverse ++ rest) (hnv : ∀ h so, ¬ Q none h so)
    (k : ∀ T' h' (v : Value) so, WS p l e R s m args below meth c Z a0 EL nw n0 y code maxL ret T' h' sf c' s' → Q (some v) h' so → WP p e below Φ T' (mkF m pc' L (v :: rest))) : WP p e below Φ T (mkF m pc L S) := by
  obtain ⟨locs, X, eT, hS, hZ, hown, hC0, hN, hn, hsf, hE, hWm, b1, b2, b3, b4, b5, b6⟩ := id W
  obtain ⟨rfl, hc⟩ := hc
  obtain ⟨rfl, hs⟩ := hs
  have hB := backCt (R := R) (p := p) (e := e) (below := below) (s := s) (args := args) (len := 3) (Wd := Wd) hC hZ w4 w3 hf hl hE hn hC0.1 (fun x hx => hsf x (hsfc x hx))
  obtain ⟨v, vm₁, ⟨U', L', c1, s1⟩, -, X', hS', hg, hpost, st⟩ := callSS X W.hx hown (mvT (s := s.setVm T.vm) hZ w1) (mvT (s := s.setVm T.vm) hZ w2) (mvT (s := s.setVm T.vm) hZ w3) (mvT (s := s.setVm T.vm) hZ w4) hy hB (g := mkF m pc L S) rfl (hL.trans b5.symm) (argsL := argsL) (rest := rest) hlen hst (by show 2 * 0 + _ ≤ _; rw [Nat.mul_zero, Nat.zero_add]; exact hW) (W.hd dd) (fun vm₁ _ => ⟨rfl, eT, hc, hs⟩)
  obtain ⟨L1, so, q1, q2, q3, q4, q5, q6, qw, q7⟩ := hpost
  dsimp only [Pt.U, Pt.locs, Pt.cells, Pt.slots] at X' hS' hg q1 q2 q3 q4 q5 q6 qw q7 st
  subst q3 q4 q5
  obtain ⟨hd, rfl⟩ := dd
  have WW : WS p l e R s m args below meth c Z a0 EL nw n0 y code maxL ret U' U'.heap (so ++ sf) (cells + rm.cells) (slots + rm.slots) := by
    refine ⟨_, X', rfl, hS.trans hS' (by rw [← eT]; exact hg), State.Warmed39.trans (t := s.setVm T.vm) hZ hS'.1, by rw [hS'.1.alike.findClass]; exact hown, hC0.trans q6, hN.app q2, Nat.le_trans hn (by rw [← eT]; exact hg), fun x hx => ?_, hE, fun u => State.WarmedH.trans (t := s.setVm T.vm) (hWm u) (qw u), b1, b2, b3, b4, b5, b6⟩
    rcases List.mem_append.mp hx with u | u
    · exact q7 x u
    · obtain ⟨g1, g2, g3⟩ := hsf x u
      exact ⟨g1, Nat.lt_of_lt_of_le g2 (by rw [← eT]; exact hg), q6.safe g2 g3⟩
  cases v with
  | none => exact absurd q1 (hnv _ _)
  | some v =>
  refine WP.steps st (k _ _ v so (WS.mono (sf' := sf) WW (Nat.le_refl _) (Nat.le_refl _) (fun x hx => List.mem_append_right _ hx)) q1)

theorem k_callS0 (W : WS p l e R s m args below meth c Z a0 EL nw n0 y code maxL ret T h sf cells slots) {z : MethodName} {bytes : ByteArray} {mL : Nat} {rt : Option FieldType} {rm : Room} {sfc : List Addr} {Q : Option Value → Heap → List Addr → Prop} (Wd c' s' : Nat) {argsL rest : List Value} {index : Nat} (dd : D code pc (.invokestatic index) 3 pc') (w1 : (Cond.methodLink y.cls index z).before a0 Z = true) (w2 : (Cond.static z).before a0 Z = true) (hy : z.cls ≠ "java/lang/invoke/MethodHandle" ∧ z.cls ≠ "java/lang/invoke/VarHandle") (hlen : ∀ sig, parseMethodDescriptor z.desc = some sig → argsL.length = sig.parameters.length) (hC : Ct l Z a0 EL nw z bytes mL rt rm argsL.toArray h sfc n0 Q) (w4 : (Cond.code z bytes mL rt).before a0 Z = true) (w3 : (Cond.initialized z.cls).before a0 Z = true) (hsfc : ∀ x ∈ sfc, x ∈ sf) (hL : L.size = maxL) (hW : catS rest ≤ Wd) (hf : rm.frames + 1 ≤ R.frames) (hl : Wd + (mL + 11) + rm.locals ≤ R.locals) (hc : cells + rm.cells = c' ∧ c' ≤ R.cells) (hs : slots + rm.slots = s' ∧ s' ≤ R.slots) (hst : S = argsL.reverse ++ rest) (hnv : ∀ v h so, ¬ Q (some v) h so)
    (k : ∀ T' h'  so, WS p l e R s m args below meth c Z a0 EL nw n0 y code maxL ret T' h' sf c' s' → Q none h' so → WP p e below Φ T' (mkF m pc' L rest)) : WP p e below Φ T (mkF m pc L S) := by
  obtain ⟨locs, X, eT, hS, hZ, hown, hC0, hN, hn, hsf, hE, hWm, b1, b2, b3, b4, b5, b6⟩ := id W
  obtain ⟨rfl, hc⟩ := hc
  obtain ⟨rfl, hs⟩ := hs
  have hB := backCt (R := R) (p := p) (e := e) (below := below) (s := s) (args := args) (len := 3) (Wd := Wd) hC hZ w4 w3 hf hl hE hn hC0.1 (fun x hx => hsf x (hsfc x hx))
  obtain ⟨v, vm₁, ⟨U', L', c1, s1⟩, -, X', hS', hg, hpost, st⟩ := callSS X W.hx hown (mvT (s := s.setVm T.vm) hZ w1) (mvT (s := s.setVm T.vm) hZ w2) (mvT (s := s.setVm T.vm) hZ w3) (mvT (s := s.setVm T.vm) hZ w4) hy hB (g := mkF m pc L S) rfl (hL.trans b5.symm) (argsL := argsL) (rest := rest) hlen hst (by show 2 * 0 + _ ≤ _; rw [Nat.mul_zero, Nat.zero_add]; exact hW) (W.hd dd) (fun vm₁ _ => ⟨rfl, eT, hc, hs⟩)
  obtain ⟨L1, so, q1, q2, q3, q4, q5, q6, qw, q7⟩ := hpost
  dsimp only [Pt.U, Pt.locs, Pt.cells, Pt.slots] at X' hS' hg q1 q2 q3 q4 q5 q6 qw q7 st
  subst q3 q4 q5
  obtain ⟨hd, rfl⟩ := dd
  have WW : WS p l e R s m args below meth c Z a0 EL nw n0 y code maxL ret U' U'.heap (so ++ sf) (cells + rm.cells) (slots + rm.slots) := by
    refine ⟨_, X', rfl, hS.trans hS' (by rw [← eT]; exact hg), State.Warmed39.trans (t := s.setVm T.vm) hZ hS'.1, by rw [hS'.1.alike.findClass]; exact hown, hC0.trans q6, hN.app q2, Nat.le_trans hn (by rw [← eT]; exact hg), fun x hx => ?_, hE, fun u => State.WarmedH.trans (t := s.setVm T.vm) (hWm u) (qw u), b1, b2, b3, b4, b5, b6⟩
    rcases List.mem_append.mp hx with u | u
    · exact q7 x u
    · obtain ⟨g1, g2, g3⟩ := hsf x u
      exact ⟨g1, Nat.lt_of_lt_of_le g2 (by rw [← eT]; exact hg), q6.safe g2 g3⟩
  cases v with
  | some v => exact absurd q1 (hnv _ _ _)
  | none =>
  refine WP.steps st (k _ _ so (WS.mono (sf' := sf) WW (Nat.le_refl _) (Nat.le_refl _) (fun x hx => List.mem_append_right _ hx)) q1)

theorem k_callSn (W : WS p l e R s m args below meth c Z a0 EL nw n0 y code maxL ret T h sf cells slots) {z : MethodName} {bytes : ByteArray} {mL : Nat} {rt : Option FieldType} {rm : Room} {sfc : List Addr} {Q : Option Value → Heap → List Addr → Prop} (Wd c' s' : Nat) {argsL rest : List Value} {index : Nat} (dd : D code pc (.invokestatic index) 3 pc') (w1 : (Cond.methodLink y.cls index z).before a0 Z = true) (w2 : (Cond.static z).before a0 Z = true) (hy : z.cls ≠ "java/lang/invoke/MethodHandle" ∧ z.cls ≠ "java/lang/invoke/VarHandle") (hlen : ∀ sig, parseMethodDescriptor z.desc = some sig → argsL.length = sig.parameters.length) (hC : Ct l Z a0 EL nw z bytes mL rt rm argsL.toArray h sfc n0 Q) (w4 : (Cond.code z bytes mL rt).before a0 Z = true) (w3 : (Cond.initialized z.cls).before a0 Z = true) (hsfc : ∀ x ∈ sfc, x ∈ sf) (hL : L.size = maxL) (hW : catS rest ≤ Wd) (hf : rm.frames + 1 ≤ R.frames) (hl : Wd + (mL + 11) + rm.locals ≤ R.locals) (hc : cells + rm.cells = c' ∧ c' ≤ R.cells) (hs : slots + rm.slots = s' ∧ s' ≤ R.slots) (hst : S = argsL.reverse ++ rest) (hnv : ∀ h so, ¬ Q none h so)
    (k : ∀ T' h' (v : Value) so, WS p l e R s m args below meth c Z a0 EL nw n0 y code maxL ret T' h' (so ++ sf) c' s' → Q (some v) h' so → WP p e below Φ T' (mkF m pc' L (v :: rest))) : WP p e below Φ T (mkF m pc L S) := by
  obtain ⟨locs, X, eT, hS, hZ, hown, hC0, hN, hn, hsf, hE, hWm, b1, b2, b3, b4, b5, b6⟩ := id W
  obtain ⟨rfl, hc⟩ := hc
  obtain ⟨rfl, hs⟩ := hs
  have hB := backCt (R := R) (p := p) (e := e) (below := below) (s := s) (args := args) (len := 3) (Wd := Wd) hC hZ w4 w3 hf hl hE hn hC0.1 (fun x hx => hsf x (hsfc x hx))
  obtain ⟨v, vm₁, ⟨U', L', c1, s1⟩, -, X', hS', hg, hpost, st⟩ := callSS X W.hx hown (mvT (s := s.setVm T.vm) hZ w1) (mvT (s := s.setVm T.vm) hZ w2) (mvT (s := s.setVm T.vm) hZ w3) (mvT (s := s.setVm T.vm) hZ w4) hy hB (g := mkF m pc L S) rfl (hL.trans b5.symm) (argsL := argsL) (rest := rest) hlen hst (by show 2 * 0 + _ ≤ _; rw [Nat.mul_zero, Nat.zero_add]; exact hW) (W.hd dd) (fun vm₁ _ => ⟨rfl, eT, hc, hs⟩)
  obtain ⟨L1, so, q1, q2, q3, q4, q5, q6, qw, q7⟩ := hpost
  dsimp only [Pt.U, Pt.locs, Pt.cells, Pt.slots] at X' hS' hg q1 q2 q3 q4 q5 q6 qw q7 st
  subst q3 q4 q5
  obtain ⟨hd, rfl⟩ := dd
  have WW : WS p l e R s m args below meth c Z a0 EL nw n0 y code maxL ret U' U'.heap (so ++ sf) (cells + rm.cells) (slots + rm.slots) := by
    refine ⟨_, X', rfl, hS.trans hS' (by rw [← eT]; exact hg), State.Warmed39.trans (t := s.setVm T.vm) hZ hS'.1, by rw [hS'.1.alike.findClass]; exact hown, hC0.trans q6, hN.app q2, Nat.le_trans hn (by rw [← eT]; exact hg), fun x hx => ?_, hE, fun u => State.WarmedH.trans (t := s.setVm T.vm) (hWm u) (qw u), b1, b2, b3, b4, b5, b6⟩
    rcases List.mem_append.mp hx with u | u
    · exact q7 x u
    · obtain ⟨g1, g2, g3⟩ := hsf x u
      exact ⟨g1, Nat.lt_of_lt_of_le g2 (by rw [← eT]; exact hg), q6.safe g2 g3⟩
  cases v with
  | none => exact absurd q1 (hnv _ _)
  | some v =>
  refine WP.steps st (k _ _ v so WW q1)

theorem k_callI0 (W : WS p l e R s m args below meth c Z a0 EL nw n0 y code maxL ret T h sf cells slots) {z : MethodName} {bytes : ByteArray} {mL : Nat} {rt : Option FieldType} {rm : Room} {sfc : List Addr} {Q : Option Value → Heap → List Addr → Prop} (Wd c' s' : Nat) {argsL rest : List Value} {index : Nat} {a : Addr} (dd : D code pc (.invokespecial index) 3 pc') (hrt : rt = none) (hz : z.name = "<init>") (w1 : (Cond.methodLink y.cls index z).before a0 Z = true) (w2 : (Cond.instanceMethod z).before a0 Z = true) (hy : z.cls ≠ "java/lang/invoke/MethodHandle" ∧ z.cls ≠ "java/lang/invoke/VarHandle") (hlen : ∀ sig, parseMethodDescriptor z.desc = some sig → argsL.length = sig.parameters.length) (hC : Ct l Z a0 EL nw z bytes mL rt rm (.ref a :: argsL).toArray h sfc n0 Q) (w4 : (Cond.code z bytes mL rt).before a0 Z = true) (w3 : (Cond.initialized z.cls).before a0 Z = true) (hsfc : ∀ x ∈ sfc, x ∈ sf) (hL : L.size = maxL) (hW : catS rest ≤ Wd) (hf : rm.frames + 1 ≤ R.frames) (hl : Wd + (mL + 11) + rm.locals ≤ R.locals) (hc : cells + rm.cells = c' ∧ c' ≤ R.cells) (hs : slots + rm.slots = s' ∧ s' ≤ R.slots) (hst : S = argsL.reverse ++ .ref a :: rest) (hnv : ∀ v h so, ¬ Q (some v) h so)
    (k : ∀ T' h'  so, WS p l e R s m args below meth c Z a0 EL nw n0 y code maxL ret T' h' sf c' s' → Q none h' so → WP p e below Φ T' (mkF m pc' L rest)) : WP p e below Φ T (mkF m pc L S) := by
  obtain ⟨locs, X, eT, hS, hZ, hown, hC0, hN, hn, hsf, hE, hWm, b1, b2, b3, b4, b5, b6⟩ := id W
  obtain ⟨rfl, hc⟩ := hc
  obtain ⟨rfl, hs⟩ := hs
  have hB := backCt (R := R) (p := p) (e := e) (below := below) (s := s) (args := args) (len := 3) (Wd := Wd) hC hZ w4 w3 hf hl hE hn hC0.1 (fun x hx => hsf x (hsfc x hx))
  subst hrt
  obtain ⟨v, vm₁, ⟨U', L', c1, s1⟩, -, X', hS', hg, hpost, st⟩ := X.specialBackS W.hx (y := z) hz hown (mvT (s := s.setVm T.vm) hZ w1) (mvT (s := s.setVm T.vm) hZ w2) (mvT (s := s.setVm T.vm) hZ w4) hy hB (g := mkF m pc L S) rfl (hL.trans b5.symm) (Steps.refl _) (a := a) (argsL := argsL) (rest := rest) hlen hst (by show 2 * 0 + _ ≤ _; rw [Nat.mul_zero, Nat.zero_add]; exact hW) (W.hd dd) (fun vm₁ _ => ⟨rfl, eT, hc, hs⟩)
  obtain ⟨L1, so, q1, q2, q3, q4, q5, q6, qw, q7⟩ := hpost
  dsimp only [Pt.U, Pt.locs, Pt.cells, Pt.slots] at X' hS' hg q1 q2 q3 q4 q5 q6 qw q7 st
  subst q3 q4 q5
  obtain ⟨hd, rfl⟩ := dd
  have WW : WS p l e R s m args below meth c Z a0 EL nw n0 y code maxL ret U' U'.heap (so ++ sf) (cells + rm.cells) (slots + rm.slots) := by
    refine ⟨_, X', rfl, hS.trans hS' (by rw [← eT]; exact hg), State.Warmed39.trans (t := s.setVm T.vm) hZ hS'.1, by rw [hS'.1.alike.findClass]; exact hown, hC0.trans q6, hN.app q2, Nat.le_trans hn (by rw [← eT]; exact hg), fun x hx => ?_, hE, fun u => State.WarmedH.trans (t := s.setVm T.vm) (hWm u) (qw u), b1, b2, b3, b4, b5, b6⟩
    rcases List.mem_append.mp hx with u | u
    · exact q7 x u
    · obtain ⟨g1, g2, g3⟩ := hsf x u
      exact ⟨g1, Nat.lt_of_lt_of_le g2 (by rw [← eT]; exact hg), q6.safe g2 g3⟩
  cases v with
  | some v => exact absurd q1 (hnv _ _ _)
  | none =>
  refine WP.steps st (k _ _ so (WS.mono (sf' := sf) WW (Nat.le_refl _) (Nat.le_refl _) (fun x hx => List.mem_append_right _ hx)) q1)

theorem k_callV (W : WS p l e R s m args below meth c Z a0 EL nw n0 y code maxL ret T h sf cells slots) {z : MethodName} {bytes : ByteArray} {mL : Nat} {rt : Option FieldType} {rm : Room} {sfc : List Addr} {Q : Option Value → Heap → List Addr → Prop} (Wd c' s' : Nat) {argsL rest : List Value} {index : Nat} {a : Addr} {C : String} {z0 : MethodName} (dd : D code pc (.invokevirtual index) 3 pc') (w1 : (Cond.methodLink y.cls index z0).before a0 Z = true) (w2 : (Cond.declares z0).before a0 Z = true) (nf : ∀ s' : State, Z.Warmed39 s'.vm → NotFace s' z0) (w5 : (Cond.selects C z0 z).before a0 Z = true) (w6 : (Cond.instanceMethod z).before a0 Z = true) (hy : z0.cls ≠ "java/lang/invoke/MethodHandle" ∧ z0.cls ≠ "java/lang/invoke/VarHandle") (hlen : ∀ sig, parseMethodDescriptor z0.desc = some sig → argsL.length = sig.parameters.length) (E : Exa Z h a C) (hC : Ct l Z a0 EL nw z bytes mL rt rm (.ref a :: argsL).toArray h sfc n0 Q) (w4 : (Cond.code z bytes mL rt).before a0 Z = true) (w3 : (Cond.initialized z.cls).before a0 Z = true) (hsfc : ∀ x ∈ sfc, x ∈ sf) (hL : L.size = maxL) (hW : catS rest ≤ Wd) (hf : rm.frames + 1 ≤ R.frames) (hl : Wd + (mL + 11) + rm.locals ≤ R.locals) (hc : cells + rm.cells = c' ∧ c' ≤ R.cells) (hs : slots + rm.slots = s' ∧ s' ≤ R.slots) (hst : S = argsL.reverse ++ .ref a :: rest) (hnv : ∀ h so, ¬ Q none h so)
    (k : ∀ T' h' (v : Value) so, WS p l e R s m args below meth c Z a0 EL nw n0 y code maxL ret T' h' sf c' s' → Q (some v) h' so → WP p e below Φ T' (mkF m pc' L (v :: rest))) : WP p e below Φ T (mkF m pc L S) := by
  obtain ⟨locs, X, eT, hS, hZ, hown, hC0, hN, hn, hsf, hE, hWm, b1, b2, b3, b4, b5, b6⟩ := id W
  obtain ⟨rfl, hc⟩ := hc
  obtain ⟨rfl, hs⟩ := hs
  have hB := backCt (R := R) (p := p) (e := e) (below := below) (s := s) (args := args) (len := 3) (Wd := Wd) hC hZ w4 w3 hf hl hE hn hC0.1 (fun x hx => hsf x (hsfc x hx))
  obtain ⟨cq, kq, qa, qb, qc⟩ := isOf (s := s.setVm T.vm) hZ eT E
  obtain ⟨v, vm₁, ⟨U', L', c1, s1⟩, -, X', hS', hg, hpost, st⟩ := X.virtualBackS W.hx (y := z0) (z := z) hown (mvT (s := s.setVm T.vm) hZ w1) (mvT (s := s.setVm T.vm) hZ w2) (nf (s.setVm T.vm) hZ) (mvT (s := s.setVm T.vm) hZ w5) (mvT (s := s.setVm T.vm) hZ w6) hy hB qa qc (g := mkF m pc L S) rfl (hL.trans b5.symm) (Steps.refl _) (argsL := argsL) (rest := rest) hlen hst (by show 2 * 0 + _ ≤ _; rw [Nat.mul_zero, Nat.zero_add]; exact hW) (W.hd dd) (fun vm₁ _ => ⟨rfl, eT, hc, hs⟩)
  obtain ⟨L1, so, q1, q2, q3, q4, q5, q6, qw, q7⟩ := hpost
  dsimp only [Pt.U, Pt.locs, Pt.cells, Pt.slots] at X' hS' hg q1 q2 q3 q4 q5 q6 qw q7 st
  subst q3 q4 q5
  obtain ⟨hd, rfl⟩ := dd
  have WW : WS p l e R s m args below meth c Z a0 EL nw n0 y code maxL ret U' U'.heap (so ++ sf) (cells + rm.cells) (slots + rm.slots) := by
    refine ⟨_, X', rfl, hS.trans hS' (by rw [← eT]; exact hg), State.Warmed39.trans (t := s.setVm T.vm) hZ hS'.1, by rw [hS'.1.alike.findClass]; exact hown, hC0.trans q6, hN.app q2, Nat.le_trans hn (by rw [← eT]; exact hg), fun x hx => ?_, hE, fun u => State.WarmedH.trans (t := s.setVm T.vm) (hWm u) (qw u), b1, b2, b3, b4, b5, b6⟩
    rcases List.mem_append.mp hx with u | u
    · exact q7 x u
    · obtain ⟨g1, g2, g3⟩ := hsf x u
      exact ⟨g1, Nat.lt_of_lt_of_le g2 (by rw [← eT]; exact hg), q6.safe g2 g3⟩
  cases v with
  | none => exact absurd q1 (hnv _ _)
  | some v =>
  refine WP.steps st (k _ _ v so (WS.mono (sf' := sf) WW (Nat.le_refl _) (Nat.le_refl _) (fun x hx => List.mem_append_right _ hx)) q1)

theorem k_callV0 (W : WS p l e R s m args below meth c Z a0 EL nw n0 y code maxL ret T h sf cells slots) {z : MethodName} {bytes : ByteArray} {mL : Nat} {rt : Option FieldType} {rm : Room} {sfc : List Addr} {Q : Option Value → Heap → List Addr → Prop} (Wd c' s' : Nat) {argsL rest : List Value} {index : Nat} {a : Addr} {C : String} {z0 : MethodName} (dd : D code pc (.invokevirtual index) 3 pc') (w1 : (Cond.methodLink y.cls index z0).before a0 Z = true) (w2 : (Cond.declares z0).before a0 Z = true) (nf : ∀ s' : State, Z.Warmed39 s'.vm → NotFace s' z0) (w5 : (Cond.selects C z0 z).before a0 Z = true) (w6 : (Cond.instanceMethod z).before a0 Z = true) (hy : z0.cls ≠ "java/lang/invoke/MethodHandle" ∧ z0.cls ≠ "java/lang/invoke/VarHandle") (hlen : ∀ sig, parseMethodDescriptor z0.desc = some sig → argsL.length = sig.parameters.length) (E : Exa Z h a C) (hC : Ct l Z a0 EL nw z bytes mL rt rm (.ref a :: argsL).toArray h sfc n0 Q) (w4 : (Cond.code z bytes mL rt).before a0 Z = true) (w3 : (Cond.initialized z.cls).before a0 Z = true) (hsfc : ∀ x ∈ sfc, x ∈ sf) (hL : L.size = maxL) (hW : catS rest ≤ Wd) (hf : rm.frames + 1 ≤ R.frames) (hl : Wd + (mL + 11) + rm.locals ≤ R.locals) (hc : cells + rm.cells = c' ∧ c' ≤ R.cells) (hs : slots + rm.slots = s' ∧ s' ≤ R.slots) (hst : S = argsL.reverse ++ .ref a :: rest) (hnv : ∀ v h so, ¬ Q (some v) h so)
    (k : ∀ T' h'  so, WS p l e R s m args below meth c Z a0 EL nw n0 y code maxL ret T' h' sf c' s' → Q none h' so → WP p e below Φ T' (mkF m pc' L rest)) : WP p e below Φ T (mkF m pc L S) := by
  obtain ⟨locs, X, eT, hS, hZ, hown, hC0, hN, hn, hsf, hE, hWm, b1, b2, b3, b4, b5, b6⟩ := id W
  obtain ⟨rfl, hc⟩ := hc
  obtain ⟨rfl, hs⟩ := hs
  have hB := backCt (R := R) (p := p) (e := e) (below := below) (s := s) (args := args) (len := 3) (Wd := Wd) hC hZ w4 w3 hf hl hE hn hC0.1 (fun x hx => hsf x (hsfc x hx))
  obtain ⟨cq, kq, qa, qb, qc⟩ := isOf (s := s.setVm T.vm) hZ eT E
  obtain ⟨v, vm₁, ⟨U', L', c1, s1⟩, -, X', hS', hg, hpost, st⟩ := X.virtualBackS W.hx (y := z0) (z := z) hown (mvT (s := s.setVm T.vm) hZ w1) (mvT (s := s.setVm T.vm) hZ w2) (nf (s.setVm T.vm) hZ) (mvT (s := s.setVm T.vm) hZ w5) (mvT (s := s.setVm T.vm) hZ w6) hy hB qa qc (g := mkF m pc L S) rfl (hL.trans b5.symm) (Steps.refl _) (argsL := argsL) (rest := rest) hlen hst (by show 2 * 0 + _ ≤ _; rw [Nat.mul_zero, Nat.zero_add]; exact hW) (W.hd dd) (fun vm₁ _ => ⟨rfl, eT, hc, hs⟩)
  obtain ⟨L1, so, q1, q2, q3, q4, q5, q6, qw, q7⟩ := hpost
  dsimp only [Pt.U, Pt.locs, Pt.cells, Pt.slots] at X' hS' hg q1 q2 q3 q4 q5 q6 qw q7 st
  subst q3 q4 q5
  obtain ⟨hd, rfl⟩ := dd
  have WW : WS p l e R s m args below meth c Z a0 EL nw n0 y code maxL ret U' U'.heap (so ++ sf) (cells + rm.cells) (slots + rm.slots) := by
    refine ⟨_, X', rfl, hS.trans hS' (by rw [← eT]; exact hg), State.Warmed39.trans (t := s.setVm T.vm) hZ hS'.1, by rw [hS'.1.alike.findClass]; exact hown, hC0.trans q6, hN.app q2, Nat.le_trans hn (by rw [← eT]; exact hg), fun x hx => ?_, hE, fun u => State.WarmedH.trans (t := s.setVm T.vm) (hWm u) (qw u), b1, b2, b3, b4, b5, b6⟩
    rcases List.mem_append.mp hx with u | u
    · exact q7 x u
    · obtain ⟨g1, g2, g3⟩ := hsf x u
      exact ⟨g1, Nat.lt_of_lt_of_le g2 (by rw [← eT]; exact hg), q6.safe g2 g3⟩
  cases v with
  | some v => exact absurd q1 (hnv _ _ _)
  | none =>
  refine WP.steps st (k _ _ so (WS.mono (sf' := sf) WW (Nat.le_refl _) (Nat.le_refl _) (fun x hx => List.mem_append_right _ hx)) q1)

theorem k_callVn (W : WS p l e R s m args below meth c Z a0 EL nw n0 y code maxL ret T h sf cells slots) {z : MethodName} {bytes : ByteArray} {mL : Nat} {rt : Option FieldType} {rm : Room} {sfc : List Addr} {Q : Option Value → Heap → List Addr → Prop} (Wd c' s' : Nat) {argsL rest : List Value} {index : Nat} {a : Addr} {C : String} {z0 : MethodName} (dd : D code pc (.invokevirtual index) 3 pc') (w1 : (Cond.methodLink y.cls index z0).before a0 Z = true) (w2 : (Cond.declares z0).before a0 Z = true) (nf : ∀ s' : State, Z.Warmed39 s'.vm → NotFace s' z0) (w5 : (Cond.selects C z0 z).before a0 Z = true) (w6 : (Cond.instanceMethod z).before a0 Z = true) (hy : z0.cls ≠ "java/lang/invoke/MethodHandle" ∧ z0.cls ≠ "java/lang/invoke/VarHandle") (hlen : ∀ sig, parseMethodDescriptor z0.desc = some sig → argsL.length = sig.parameters.length) (E : Exa Z h a C) (hC : Ct l Z a0 EL nw z bytes mL rt rm (.ref a :: argsL).toArray h sfc n0 Q) (w4 : (Cond.code z bytes mL rt).before a0 Z = true) (w3 : (Cond.initialized z.cls).before a0 Z = true) (hsfc : ∀ x ∈ sfc, x ∈ sf) (hL : L.size = maxL) (hW : catS rest ≤ Wd) (hf : rm.frames + 1 ≤ R.frames) (hl : Wd + (mL + 11) + rm.locals ≤ R.locals) (hc : cells + rm.cells = c' ∧ c' ≤ R.cells) (hs : slots + rm.slots = s' ∧ s' ≤ R.slots) (hst : S = argsL.reverse ++ .ref a :: rest) (hnv : ∀ h so, ¬ Q none h so)
    (k : ∀ T' h' (v : Value) so, WS p l e R s m args below meth c Z a0 EL nw n0 y code maxL ret T' h' (so ++ sf) c' s' → Q (some v) h' so → WP p e below Φ T' (mkF m pc' L (v :: rest))) : WP p e below Φ T (mkF m pc L S) := by
  obtain ⟨locs, X, eT, hS, hZ, hown, hC0, hN, hn, hsf, hE, hWm, b1, b2, b3, b4, b5, b6⟩ := id W
  obtain ⟨rfl, hc⟩ := hc
  obtain ⟨rfl, hs⟩ := hs
  have hB := backCt (R := R) (p := p) (e := e) (below := below) (s := s) (args := args) (len := 3) (Wd := Wd) hC hZ w4 w3 hf hl hE hn hC0.1 (fun x hx => hsf x (hsfc x hx))
  obtain ⟨cq, kq, qa, qb, qc⟩ := isOf (s := s.setVm T.vm) hZ eT E
  obtain ⟨v, vm₁, ⟨U', L', c1, s1⟩, -, X', hS', hg, hpost, st⟩ := X.virtualBackS W.hx (y := z0) (z := z) hown (mvT (s := s.setVm T.vm) hZ w1) (mvT (s := s.setVm T.vm) hZ w2) (nf (s.setVm T.vm) hZ) (mvT (s := s.setVm T.vm) hZ w5) (mvT (s := s.setVm T.vm) hZ w6) hy hB qa qc (g := mkF m pc L S) rfl (hL.trans b5.symm) (Steps.refl _) (argsL := argsL) (rest := rest) hlen hst (by show 2 * 0 + _ ≤ _; rw [Nat.mul_zero, Nat.zero_add]; exact hW) (W.hd dd) (fun vm₁ _ => ⟨rfl, eT, hc, hs⟩)
  obtain ⟨L1, so, q1, q2, q3, q4, q5, q6, qw, q7⟩ := hpost
  dsimp only [Pt.U, Pt.locs, Pt.cells, Pt.slots] at X' hS' hg q1 q2 q3 q4 q5 q6 qw q7 st
  subst q3 q4 q5
  obtain ⟨hd, rfl⟩ := dd
  have WW : WS p l e R s m args below meth c Z a0 EL nw n0 y code maxL ret U' U'.heap (so ++ sf) (cells + rm.cells) (slots + rm.slots) := by
    refine ⟨_, X', rfl, hS.trans hS' (by rw [← eT]; exact hg), State.Warmed39.trans (t := s.setVm T.vm) hZ hS'.1, by rw [hS'.1.alike.findClass]; exact hown, hC0.trans q6, hN.app q2, Nat.le_trans hn (by rw [← eT]; exact hg), fun x hx => ?_, hE, fun u => State.WarmedH.trans (t := s.setVm T.vm) (hWm u) (qw u), b1, b2, b3, b4, b5, b6⟩
    rcases List.mem_append.mp hx with u | u
    · exact q7 x u
    · obtain ⟨g1, g2, g3⟩ := hsf x u
      exact ⟨g1, Nat.lt_of_lt_of_le g2 (by rw [← eT]; exact hg), q6.safe g2 g3⟩
  cases v with
  | none => exact absurd q1 (hnv _ _)
  | some v =>
  refine WP.steps st (k _ _ v so WW q1)

theorem k_callP (W : WS p l e R s m args below meth c Z a0 EL nw n0 y code maxL ret T h sf cells slots) {z : MethodName} {bytes : ByteArray} {mL : Nat} {rt : Option FieldType} {rm : Room} {sfc : List Addr} {Q : Option Value → Heap → List Addr → Prop} (Wd c' s' : Nat) {argsL rest : List Value} {index : Nat} {a : Addr} {C : String} (dd : D code pc (.invokevirtual index) 3 pc') (w1 : (Cond.methodLink y.cls index z).before a0 Z = true) (w2 : (Cond.instanceMethod z).before a0 Z = true) (w5 : (Cond.selects z.cls z z).before a0 Z = true) (w6 : (Cond.privateMethod z).before a0 Z = true) (hy : z.cls ≠ "java/lang/invoke/MethodHandle" ∧ z.cls ≠ "java/lang/invoke/VarHandle") (hlen : ∀ sig, parseMethodDescriptor z.desc = some sig → argsL.length = sig.parameters.length) (E : Exa Z h a C) (hC : Ct l Z a0 EL nw z bytes mL rt rm (.ref a :: argsL).toArray h sfc n0 Q) (w4 : (Cond.code z bytes mL rt).before a0 Z = true) (w3 : (Cond.initialized z.cls).before a0 Z = true) (hsfc : ∀ x ∈ sfc, x ∈ sf) (hL : L.size = maxL) (hW : catS rest ≤ Wd) (hf : rm.frames + 1 ≤ R.frames) (hl : Wd + (mL + 11) + rm.locals ≤ R.locals) (hc : cells + rm.cells = c' ∧ c' ≤ R.cells) (hs : slots + rm.slots = s' ∧ s' ≤ R.slots) (hst : S = argsL.reverse ++ .ref a :: rest) (hnv : ∀ h so, ¬ Q none h so)
    (k : ∀ T' h' (v : Value) so, WS p l e R s m args below meth c Z a0 EL nw n0 y code maxL ret T' h' sf c' s' → Q (some v) h' so → WP p e below Φ T' (mkF m pc' L (v :: rest))) : WP p e below Φ T (mkF m pc L S) := by
  obtain ⟨locs, X, eT, hS, hZ, hown, hC0, hN, hn, hsf, hE, hWm, b1, b2, b3, b4, b5, b6⟩ := id W
  obtain ⟨rfl, hc⟩ := hc
  obtain ⟨rfl, hs⟩ := hs
  have hB := backCt (R := R) (p := p) (e := e) (below := below) (s := s) (args := args) (len := 3) (Wd := Wd) hC hZ w4 w3 hf hl hE hn hC0.1 (fun x hx => hsf x (hsfc x hx))
  obtain ⟨cc, hc1, hc2⟩ := E.cell
  obtain ⟨v, vm₁, ⟨U', L', c1, s1⟩, -, X', hS', hg, hpost, st⟩ := X.privateBackS W.hx (y := z) hown (mvT (s := s.setVm T.vm) hZ w1) (mvT (s := s.setVm T.vm) hZ w2) (mvT (s := s.setVm T.vm) hZ w5) (Cond.privateMethod_at (mvP (s := s.setVm T.vm) hZ w6 (args := #[]))) (mvT (s := s.setVm T.vm) hZ w4) hy hB (g := mkF m pc L S) rfl (hL.trans b5.symm) (Steps.refl _) (a := a) (by rw [eT]; exact hc1) hc2 (argsL := argsL) (rest := rest) hlen hst (by show 2 * 0 + _ ≤ _; rw [Nat.mul_zero, Nat.zero_add]; exact hW) (W.hd dd) (fun vm₁ _ => ⟨rfl, eT, hc, hs⟩)
  obtain ⟨L1, so, q1, q2, q3, q4, q5, q6, qw, q7⟩ := hpost
  dsimp only [Pt.U, Pt.locs, Pt.cells, Pt.slots] at X' hS' hg q1 q2 q3 q4 q5 q6 qw q7 st
  subst q3 q4 q5
  obtain ⟨hd, rfl⟩ := dd
  have WW : WS p l e R s m args below meth c Z a0 EL nw n0 y code maxL ret U' U'.heap (so ++ sf) (cells + rm.cells) (slots + rm.slots) := by
    refine ⟨_, X', rfl, hS.trans hS' (by rw [← eT]; exact hg), State.Warmed39.trans (t := s.setVm T.vm) hZ hS'.1, by rw [hS'.1.alike.findClass]; exact hown, hC0.trans q6, hN.app q2, Nat.le_trans hn (by rw [← eT]; exact hg), fun x hx => ?_, hE, fun u => State.WarmedH.trans (t := s.setVm T.vm) (hWm u) (qw u), b1, b2, b3, b4, b5, b6⟩
    rcases List.mem_append.mp hx with u | u
    · exact q7 x u
    · obtain ⟨g1, g2, g3⟩ := hsf x u
      exact ⟨g1, Nat.lt_of_lt_of_le g2 (by rw [← eT]; exact hg), q6.safe g2 g3⟩
  cases v with
  | none => exact absurd q1 (hnv _ _)
  | some v =>
  refine WP.steps st (k _ _ v so (WS.mono (sf' := sf) WW (Nat.le_refl _) (Nat.le_refl _) (fun x hx => List.mem_append_right _ hx)) q1)

theorem k_callP0 (W : WS p l e R s m args below meth c Z a0 EL nw n0 y code maxL ret T h sf cells slots) {z : MethodName} {bytes : ByteArray} {mL : Nat} {rt : Option FieldType} {rm : Room} {sfc : List Addr} {Q : Option Value → Heap → List Addr → Prop} (Wd c' s' : Nat) {argsL rest : List Value} {index : Nat} {a : Addr} {C : String} (dd : D code pc (.invokevirtual index) 3 pc') (w1 : (Cond.methodLink y.cls index z).before a0 Z = true) (w2 : (Cond.instanceMethod z).before a0 Z = true) (w5 : (Cond.selects z.cls z z).before a0 Z = true) (w6 : (Cond.privateMethod z).before a0 Z = true) (hy : z.cls ≠ "java/lang/invoke/MethodHandle" ∧ z.cls ≠ "java/lang/invoke/VarHandle") (hlen : ∀ sig, parseMethodDescriptor z.desc = some sig → argsL.length = sig.parameters.length) (E : Exa Z h a C) (hC : Ct l Z a0 EL nw z bytes mL rt rm (.ref a :: argsL).toArray h sfc n0 Q) (w4 : (Cond.code z bytes mL rt).before a0 Z = true) (w3 : (Cond.initialized z.cls).before a0 Z = true) (hsfc : ∀ x ∈ sfc, x ∈ sf) (hL : L.size = maxL) (hW : catS rest ≤ Wd) (hf : rm.frames + 1 ≤ R.frames) (hl : Wd + (mL + 11) + rm.locals ≤ R.locals) (hc : cells + rm.cells = c' ∧ c' ≤ R.cells) (hs : slots + rm.slots = s' ∧ s' ≤ R.slots) (hst : S = argsL.reverse ++ .ref a :: rest) (hnv : ∀ v h so, ¬ Q (some v) h so)
    (k : ∀ T' h'  so, WS p l e R s m args below meth c Z a0 EL nw n0 y code maxL ret T' h' sf c' s' → Q none h' so → WP p e below Φ T' (mkF m pc' L rest)) : WP p e below Φ T (mkF m pc L S) := by
  obtain ⟨locs, X, eT, hS, hZ, hown, hC0, hN, hn, hsf, hE, hWm, b1, b2, b3, b4, b5, b6⟩ := id W
  obtain ⟨rfl, hc⟩ := hc
  obtain ⟨rfl, hs⟩ := hs
  have hB := backCt (R := R) (p := p) (e := e) (below := below) (s := s) (args := args) (len := 3) (Wd := Wd) hC hZ w4 w3 hf hl hE hn hC0.1 (fun x hx => hsf x (hsfc x hx))
  obtain ⟨cc, hc1, hc2⟩ := E.cell
  obtain ⟨v, vm₁, ⟨U', L', c1, s1⟩, -, X', hS', hg, hpost, st⟩ := X.privateBackS W.hx (y := z) hown (mvT (s := s.setVm T.vm) hZ w1) (mvT (s := s.setVm T.vm) hZ w2) (mvT (s := s.setVm T.vm) hZ w5) (Cond.privateMethod_at (mvP (s := s.setVm T.vm) hZ w6 (args := #[]))) (mvT (s := s.setVm T.vm) hZ w4) hy hB (g := mkF m pc L S) rfl (hL.trans b5.symm) (Steps.refl _) (a := a) (by rw [eT]; exact hc1) hc2 (argsL := argsL) (rest := rest) hlen hst (by show 2 * 0 + _ ≤ _; rw [Nat.mul_zero, Nat.zero_add]; exact hW) (W.hd dd) (fun vm₁ _ => ⟨rfl, eT, hc, hs⟩)
  obtain ⟨L1, so, q1, q2, q3, q4, q5, q6, qw, q7⟩ := hpost
  dsimp only [Pt.U, Pt.locs, Pt.cells, Pt.slots] at X' hS' hg q1 q2 q3 q4 q5 q6 qw q7 st
  subst q3 q4 q5
  obtain ⟨hd, rfl⟩ := dd
  have WW : WS p l e R s m args below meth c Z a0 EL nw n0 y code maxL ret U' U'.heap (so ++ sf) (cells + rm.cells) (slots + rm.slots) := by
    refine ⟨_, X', rfl, hS.trans hS' (by rw [← eT]; exact hg), State.Warmed39.trans (t := s.setVm T.vm) hZ hS'.1, by rw [hS'.1.alike.findClass]; exact hown, hC0.trans q6, hN.app q2, Nat.le_trans hn (by rw [← eT]; exact hg), fun x hx => ?_, hE, fun u => State.WarmedH.trans (t := s.setVm T.vm) (hWm u) (qw u), b1, b2, b3, b4, b5, b6⟩
    rcases List.mem_append.mp hx with u | u
    · exact q7 x u
    · obtain ⟨g1, g2, g3⟩ := hsf x u
      exact ⟨g1, Nat.lt_of_lt_of_le g2 (by rw [← eT]; exact hg), q6.safe g2 g3⟩
  cases v with
  | some v => exact absurd q1 (hnv _ _ _)
  | none =>
  refine WP.steps st (k _ _ so (WS.mono (sf' := sf) WW (Nat.le_refl _) (Nat.le_refl _) (fun x hx => List.mem_append_right _ hx)) q1)

theorem k_callPn (W : WS p l e R s m args below meth c Z a0 EL nw n0 y code maxL ret T h sf cells slots) {z : MethodName} {bytes : ByteArray} {mL : Nat} {rt : Option FieldType} {rm : Room} {sfc : List Addr} {Q : Option Value → Heap → List Addr → Prop} (Wd c' s' : Nat) {argsL rest : List Value} {index : Nat} {a : Addr} {C : String} (dd : D code pc (.invokevirtual index) 3 pc') (w1 : (Cond.methodLink y.cls index z).before a0 Z = true) (w2 : (Cond.instanceMethod z).before a0 Z = true) (w5 : (Cond.selects z.cls z z).before a0 Z = true) (w6 : (Cond.privateMethod z).before a0 Z = true) (hy : z.cls ≠ "java/lang/invoke/MethodHandle" ∧ z.cls ≠ "java/lang/invoke/VarHandle") (hlen : ∀ sig, parseMethodDescriptor z.desc = some sig → argsL.length = sig.parameters.length) (E : Exa Z h a C) (hC : Ct l Z a0 EL nw z bytes mL rt rm (.ref a :: argsL).toArray h sfc n0 Q) (w4 : (Cond.code z bytes mL rt).before a0 Z = true) (w3 : (Cond.initialized z.cls).before a0 Z = true) (hsfc : ∀ x ∈ sfc, x ∈ sf) (hL : L.size = maxL) (hW : catS rest ≤ Wd) (hf : rm.frames + 1 ≤ R.frames) (hl : Wd + (mL + 11) + rm.locals ≤ R.locals) (hc : cells + rm.cells = c' ∧ c' ≤ R.cells) (hs : slots + rm.slots = s' ∧ s' ≤ R.slots) (hst : S = argsL.reverse ++ .ref a :: rest) (hnv : ∀ h so, ¬ Q none h so)
    (k : ∀ T' h' (v : Value) so, WS p l e R s m args below meth c Z a0 EL nw n0 y code maxL ret T' h' (so ++ sf) c' s' → Q (some v) h' so → WP p e below Φ T' (mkF m pc' L (v :: rest))) : WP p e below Φ T (mkF m pc L S) := by
  obtain ⟨locs, X, eT, hS, hZ, hown, hC0, hN, hn, hsf, hE, hWm, b1, b2, b3, b4, b5, b6⟩ := id W
  obtain ⟨rfl, hc⟩ := hc
  obtain ⟨rfl, hs⟩ := hs
  have hB := backCt (R := R) (p := p) (e := e) (below := below) (s := s) (args := args) (len := 3) (Wd := Wd) hC hZ w4 w3 hf hl hE hn hC0.1 (fun x hx => hsf x (hsfc x hx))
  obtain ⟨cc, hc1, hc2⟩ := E.cell
  obtain ⟨v, vm₁, ⟨U', L', c1, s1⟩, -, X', hS', hg, hpost, st⟩ := X.privateBackS W.hx (y := z) hown (mvT (s := s.setVm T.vm) hZ w1) (mvT (s := s.setVm T.vm) hZ w2) (mvT (s := s.setVm T.vm) hZ w5) (Cond.privateMethod_at (mvP (s := s.setVm T.vm) hZ w6 (args := #[]))) (mvT (s := s.setVm T.vm) hZ w4) hy hB (g := mkF m pc L S) rfl (hL.trans b5.symm) (Steps.refl _) (a := a) (by rw [eT]; exact hc1) hc2 (argsL := argsL) (rest := rest) hlen hst (by show 2 * 0 + _ ≤ _; rw [Nat.mul_zero, Nat.zero_add]; exact hW) (W.hd dd) (fun vm₁ _ => ⟨rfl, eT, hc, hs⟩)
  obtain ⟨L1, so, q1, q2, q3, q4, q5, q6, qw, q7⟩ := hpost
  dsimp only [Pt.U, Pt.locs, Pt.cells, Pt.slots] at X' hS' hg q1 q2 q3 q4 q5 q6 qw q7 st
  subst q3 q4 q5
  obtain ⟨hd, rfl⟩ := dd
  have WW : WS p l e R s m args below meth c Z a0 EL nw n0 y code maxL ret U' U'.heap (so ++ sf) (cells + rm.cells) (slots + rm.slots) := by
    refine ⟨_, X', rfl, hS.trans hS' (by rw [← eT]; exact hg), State.Warmed39.trans (t := s.setVm T.vm) hZ hS'.1, by rw [hS'.1.alike.findClass]; exact hown, hC0.trans q6, hN.app q2, Nat.le_trans hn (by rw [← eT]; exact hg), fun x hx => ?_, hE, fun u => State.WarmedH.trans (t := s.setVm T.vm) (hWm u) (qw u), b1, b2, b3, b4, b5, b6⟩
    rcases List.mem_append.mp hx with u | u
    · exact q7 x u
    · obtain ⟨g1, g2, g3⟩ := hsf x u
      exact ⟨g1, Nat.lt_of_lt_of_le g2 (by rw [← eT]; exact hg), q6.safe g2 g3⟩
  cases v with
  | none => exact absurd q1 (hnv _ _)
  | some v =>
  refine WP.steps st (k _ _ v so WW q1)

theorem nfSel {C : String} {z0 : MethodName} (w : (Cond.selects C z0 z0).before a0 Z = true) (s' : State) (hZ : Z.Warmed39 s'.vm) : NotFace s' z0 := notFace_of_selects (args := #[]) (mvT hZ w)
end Calls

/-! ## facts out of the case's words -/
section Start
variable {args : Array Value} {Z : State} {t u : Term} {a : Addr} {C n d : String} {v : Value} {ty : FieldType} {z : Int32} {vs : List Value}
theorem eq_start (h : (Cond.eq t (Term.int z)).value args Z none Z [] = some true) : t.eval args Z none [] Z = some (.int z) := by
  have hz : (Term.int z).eval args Z none [] Z = some (.int z) := rfl
  simp only [Cond.value, hz] at h
  cases ht : t.eval args Z none [] Z with
  | none => rw [ht] at h; cases h
  | some w => cases w <;> simp [ht] at h; rw [h]
theorem eqR_start (h : (Cond.eq t u).value args Z none Z [] = some true) (hu : u.eval args Z none [] Z = some (.ref a)) : t.eval args Z none [] Z = some (.ref a) := by
  simp only [Cond.value, hu] at h
  cases ht : t.eval args Z none [] Z with
  | none => rw [ht] at h; cases h
  | some w => cases w <;> simp [ht] at h; rw [h]
theorem exa_start (h : (Cond.exactly t C).value args Z none Z [] = some true) : ∃ a, t.eval args Z none [] Z = some (.ref a) ∧ Exa Z Z.heap a C := by
  obtain ⟨a', c', cell, k, e1, e2, e3, e4, e5, rfl, e7⟩ := Cond.exactly_spec (Cond.before_iff.mpr h)
  exact ⟨a', e1, cell, k, e3, e2, e4, e5, e7⟩
theorem fld_start (ht : t.eval args Z none [] Z = some (.ref a)) (hf : (Term.field t C n d).eval args Z none [] Z = some v) : Fld Z Z.heap a C n d v := Fld.start (by simpa [Term.eval, ht] using hf)
def Els (t : Term) (args : Array Value) (Z : State) : Nat → List Value → Prop
  | _, [] => True
  | i, v :: vs => (Term.elem t (Term.int (Int32.ofNat i))).eval args Z none [] Z = some v ∧ Els t args Z (i + 1) vs
theorem Els.get : ∀ {vs : List Value} {k : Nat}, Els t args Z k vs → ∀ i, i < vs.length → (Term.elem t (Term.int (Int32.ofNat (k + i)))).eval args Z none [] Z = vs[i]?
  | [], _, _, i, hi => by simp at hi
  | v :: vs, k, h, 0, _ => by simpa using h.1
  | v :: vs, k, h, i + 1, hi => by
    have := Els.get h.2 i (by simpa using hi)
    rw [show k + (i + 1) = k + 1 + i by omega]; simpa using this
theorem ref_of_arr (h : (Cond.arrayOf t ty).value args Z none Z [] = some true) : ∃ a, t.eval args Z none [] Z = some (.ref a) := by
  simp only [Cond.value] at h
  split at h
  · cases h
  · cases ht : t.eval args Z none [] Z with
    | none => rw [ht] at h; cases h
    | some w => cases w <;> simp [ht] at h <;> exact ⟨_, rfl⟩
theorem av_start (hf : Fit Z) (ht : t.eval args Z none [] Z = some (.ref a)) (h : (Cond.arrayOf t ty).value args Z none Z [] = some true) (hl : (Term.length t).eval args Z none [] Z = some (.int z)) (hz : Int32.ofNat vs.length = z) (hv : vs.length < 2147483648) (he : Els t args Z 0 vs) : Av Z Z.heap a ty vs := by
  obtain ⟨c, A⟩ := Arr.start ht h
  have hA : Z.arrayAt? a = some c := A.fin (Vm.Alike.refl _)
  have hs : c.slots.size = vs.length := by
    simp only [Term.eval, ht, Option.bind_eq_bind, Option.bind_some, hA, Option.pure_def] at hl
    split at hl
    · rename_i hlt
      have e1 : c.slots.size.toInt32 = z := by simpa using hl
      exact of_inj (by simpa using hlt) hv (e1.trans hz.symm)
    · cases hl
  have hg : ∀ i, i < vs.length → c.slots[i]? = vs[i]? := fun i hi => by
    have q := he.get i hi
    have hx := ix_of (i := i) (by omega)
    rw [Nat.zero_add] at q
    simp only [Term.eval, ht, Option.bind_eq_bind, Option.bind_some, hA, if_neg hx.1, hx.2] at q
    exact q
  have e : c.slots.toList = vs := by
    apply List.ext_getElem?; intro i
    by_cases hi : i < vs.length
    · rw [Array.getElem?_toList]; exact hg i hi
    · rw [Array.getElem?_toList, Array.getElem?_eq_none (by omega), List.getElem?_eq_none (by omega)]
  refine ⟨c, A, e, hv, fun w hw => ?_⟩
  obtain ⟨i, hi, rfl⟩ := List.mem_iff_getElem.mp hw
  have hx := ix_of (i := i) (by omega)
  obtain ⟨w', q1, q2⟩ := elem_fit hf A (j := Int32.ofNat i) (by rintro (u | u); exact hx.1 u; rw [hx.2] at u; omega)
  rw [hx.2, hg i hi, List.getElem?_eq_getElem hi] at q1
  cases q1; exact q2
theorem exa_any {idx : List Nat} (h : (Cond.exactly t C).value args Z none Z idx = some true) : ∃ a, t.eval args Z none idx Z = some (.ref a) ∧ Exa Z Z.heap a C := by
  obtain ⟨a', c', cell, k, e1, e2, e3, e4, e5, rfl, e7⟩ := Cond.exactly_spec (args := args) (first := Z) (o := none) (s := Z) (idx := idx) (t := t) (cls := C) (by simp [Cond.holds, h])
  exact ⟨a', e1, cell, k, e3, e2, e4, e5, e7⟩
theorem all_get {c : Cond} {cell : Cell} (h : (Cond.all t c).value args Z none Z [] = some true) (ht : t.eval args Z none [] Z = some (.ref a)) (hA : Z.arrayAt? a = some cell) : ∀ i, i < cell.slots.size → c.value args Z none Z [i] = some true := by
  simp only [Cond.value, ht, hA] at h
  have key : ∀ (l : List Nat) (acc : Option Bool), l.foldl (fun acc i => match acc with | some true => c.value args Z none Z [i] | x => x) acc = some true → acc = some true ∧ ∀ i ∈ l, c.value args Z none Z [i] = some true := by
    intro l
    induction l with
    | nil => intro acc q; exact ⟨q, fun i hi => nomatch hi⟩
    | cons j l ih =>
      intro acc q
      obtain ⟨q1, q2⟩ := ih _ q
      have ha : acc = some true := by
        cases acc with
        | none => simp at q1
        | some b => cases b <;> simp at q1 ⊢
      refine ⟨ha, fun i hi => ?_⟩
      subst ha
      rcases List.mem_cons.mp hi with rfl | hi
      · exact q1
      · exact q2 i hi
  exact fun i hi => (key _ _ h).2 i (List.mem_range.mpr hi)
theorem cache_start {c2 : Cond} {C1 n1 d1 : String} (hf : Fit Z) (ht : (Term.static C1 n1 d1).eval args Z none [] Z = some (.ref a)) (h : (Cond.arrayOf (Term.static C1 n1 d1) ty).value args Z none Z [] = some true) (hl : (Term.length (Term.static C1 n1 d1)).eval args Z none [] Z = some (.int z))
    (hall : (Cond.all (Term.static C1 n1 d1) (Cond.and (Cond.exactly (Term.elem (Term.static C1 n1 d1) (Term.index 0)) C) c2)).value args Z none Z [] = some true) : ∃ vs, Av Z Z.heap a ty vs ∧ Int32.ofNat vs.length = z ∧ AllExa Z Z.heap C vs := by
  obtain ⟨c, A⟩ := Arr.start ht h
  have hA : Z.arrayAt? a = some c := A.fin (Vm.Alike.refl _)
  have hs : c.slots.size < 2147483648 ∧ c.slots.size.toInt32 = z := by
    simp only [Term.eval] at hl
    simp only [Term.eval] at ht
    rw [ht] at hl
    simp only [Option.bind_eq_bind, Option.bind_some, hA, Option.pure_def] at hl
    split at hl
    · rename_i hlt; exact ⟨by simpa using hlt, by simpa using hl⟩
    · cases hl
  refine ⟨c.slots.toList, ⟨c, A, rfl, by simpa using hs.1, fun w hw => ?_⟩, by simpa using hs.2, fun v hv => ?_⟩
  · obtain ⟨i, hi, rfl⟩ := List.mem_iff_getElem.mp hw
    have hi' : i < c.slots.size := by simpa using hi
    have hx := ix_of (i := i) (by omega)
    obtain ⟨w', q1, q2⟩ := elem_fit hf A (j := Int32.ofNat i) (by rintro (u | u); exact hx.1 u; rw [hx.2] at u; omega)
    rw [hx.2, Array.getElem?_eq_getElem hi'] at q1
    cases q1; simpa using q2
  · obtain ⟨i, hi, rfl⟩ := List.mem_iff_getElem.mp hv
    have hi' : i < c.slots.size := by simpa using hi
    obtain ⟨r, q1, q2⟩ := exa_any (and_e (all_get hall ht hA i hi')).1
    have hx := ix_of (i := i) (by omega)
    have ht2 : (Term.static C1 n1 d1).eval args Z none [i] Z = some (.ref a) := ht
    have hi2 : (Term.index 0).eval args Z none [i] Z = some (.int (Int32.ofNat i)) := rfl
    have q3 : (Term.elem (Term.static C1 n1 d1) (Term.index 0)).eval args Z none [i] Z = c.slots[i]? := by
      show (do
        let .ref a ← (Term.static C1 n1 d1).eval args Z none [i] Z | none
        let .int j ← (Term.index 0).eval args Z none [i] Z | none
        if j < 0 then none else (← Z.arrayAt? a).slots[j.toNatClampNeg]?) = _
      rw [ht2, hi2]
      simp only [Option.bind_eq_bind, Option.bind_some, hA, if_neg hx.1, hx.2]
    rw [q3, Array.getElem?_eq_getElem hi'] at q1
    exact ⟨r, by simpa using q1, q2⟩
end Start

end Jvm.OwnK
namespace Jvm.Pilot.@@N@@
open Jvm Jvm.ClassFile Sem Op Lib Jvm.Free Jvm.Stand Jvm.LawKit Jvm.RoadKit Bundle Jvm.OwnK Jvm.Pilot.@@N@@.Jvm.D
def own_EL : List (String × Nat) := [("com/example/proofs_for_datalog/proofsfordatalog/input/ProofFormatNamedPinLaw", 39), ("com/example/proofs_for_datalog/proofsfordatalog/input/ProofFormatNamedPinLaw", 49), ("com/example/proofs_for_datalog/proofsfordatalog/input/ProofFormatNamedPinLaw", 54), ("com/example/proofs_for_datalog/proofsfordatalog/input/ProofFormatNamedPinLaw", 59), ("java/lang/String", 7)]
theorem w0 {Z : State} {a0 : Array Value} (hw : ∀ d ∈ tables_1, d.before a0 Z = true) : (Jvm.Cond.classLink "com/example/proofs_for_datalog/proofsfordatalog/input/ProofFormatNamedPinLaw" (7 : Nat) "java/lang/String").before a0 Z = true := hw _ (List.mem_of_getElem? (i := 0) rfl)
theorem w1 {Z : State} {a0 : Array Value} (hw : ∀ d ∈ tables_1, d.before a0 Z = true) : (Jvm.Cond.instantiable "java/lang/String" (4 : Nat)).before a0 Z = true := hw _ (List.mem_of_getElem? (i := 1) rfl)
theorem w2 {Z : State} {a0 : Array Value} (hw : ∀ d ∈ tables_1, d.before a0 Z = true) : (Jvm.Cond.initialized "java/lang/String").before a0 Z = true := hw _ (List.mem_of_getElem? (i := 2) rfl)
theorem w3 {Z : State} {a0 : Array Value} (hw : ∀ d ∈ tables_1, d.before a0 Z = true) : (Jvm.Cond.methodLink "com/example/proofs_for_datalog/proofsfordatalog/input/ProofFormatNamedPinLaw" (9 : Nat) ({ cls := "com/example/proofs_for_datalog/proofsfordatalog/input/ProofFormatNamedPinLaw", name := "base", desc := "(I)[C" } : Jvm.MethodName)).before a0 Z = true := hw _ (List.mem_of_getElem? (i := 3) rfl)
theorem w4 {Z : State} {a0 : Array Value} (hw : ∀ d ∈ tables_1, d.before a0 Z = true) : (Jvm.Cond.static ({ cls := "com/example/proofs_for_datalog/proofsfordatalog/input/ProofFormatNamedPinLaw", name := "base", desc := "(I)[C" } : Jvm.MethodName)).before a0 Z = true := hw _ (List.mem_of_getElem? (i := 4) rfl)
theorem w5 {Z : State} {a0 : Array Value} (hw : ∀ d ∈ tables_1, d.before a0 Z = true) : (Jvm.Cond.initialized "com/example/proofs_for_datalog/proofsfordatalog/input/ProofFormatNamedPinLaw").before a0 Z = true := hw _ (List.mem_of_getElem? (i := 5) rfl)
theorem w6 {Z : State} {a0 : Array Value} (hw : ∀ d ∈ tables_1, d.before a0 Z = true) : (Jvm.Cond.code ({ cls := "com/example/proofs_for_datalog/proofsfordatalog/input/ProofFormatNamedPinLaw", name := "base", desc := "(I)[C" } : Jvm.MethodName) method_4_code (1 : Nat) (Option.some (Jvm.ClassFile.FieldType.array Jvm.ClassFile.FieldType.char))).before a0 Z = true := hw _ (List.mem_of_getElem? (i := 6) rfl)
theorem w7 {Z : State} {a0 : Array Value} (hw : ∀ d ∈ tables_1, d.before a0 Z = true) : (Jvm.Cond.arrayClass Jvm.ClassFile.FieldType.char).before a0 Z = true := hw _ (List.mem_of_getElem? (i := 7) rfl)
theorem w8 {Z : State} {a0 : Array Value} (hw : ∀ d ∈ tables_1, d.before a0 Z = true) : (Jvm.Cond.methodLink "com/example/proofs_for_datalog/proofsfordatalog/input/ProofFormatNamedPinLaw" (15 : Nat) ({ cls := "java/lang/String", name := "<init>", desc := "([C)V" } : Jvm.MethodName)).before a0 Z = true := hw _ (List.mem_of_getElem? (i := 8) rfl)
theorem w9 {Z : State} {a0 : Array Value} (hw : ∀ d ∈ tables_1, d.before a0 Z = true) : (Jvm.Cond.instanceMethod ({ cls := "java/lang/String", name := "<init>", desc := "([C)V" } : Jvm.MethodName)).before a0 Z = true := hw _ (List.mem_of_getElem? (i := 9) rfl)
theorem w10 {Z : State} {a0 : Array Value} (hw : ∀ d ∈ tables_1, d.before a0 Z = true) : (Jvm.Cond.code ({ cls := "java/lang/String", name := "<init>", desc := "([C)V" } : Jvm.MethodName) jdk_42_method_3_code (2 : Nat) (Option.none : Option Jvm.ClassFile.FieldType)).before a0 Z = true := hw _ (List.mem_of_getElem? (i := 10) rfl)
theorem w11 {Z : State} {a0 : Array Value} (hw : ∀ d ∈ tables_1, d.before a0 Z = true) : (Jvm.Cond.methodLink "java/lang/String" (27 : Nat) ({ cls := "java/lang/String", name := "<init>", desc := "([CIILjava/lang/Void;)V" } : Jvm.MethodName)).before a0 Z = true := hw _ (List.mem_of_getElem? (i := 11) rfl)
theorem w12 {Z : State} {a0 : Array Value} (hw : ∀ d ∈ tables_1, d.before a0 Z = true) : (Jvm.Cond.instanceMethod ({ cls := "java/lang/String", name := "<init>", desc := "([CIILjava/lang/Void;)V" } : Jvm.MethodName)).before a0 Z = true := hw _ (List.mem_of_getElem? (i := 12) rfl)
theorem w14 {Z : State} {a0 : Array Value} (hw : ∀ d ∈ tables_1, d.before a0 Z = true) : (Jvm.Cond.code ({ cls := "java/lang/String", name := "<init>", desc := "([CIILjava/lang/Void;)V" } : Jvm.MethodName) jdk_42_method_149_code (6 : Nat) (Option.none : Option Jvm.ClassFile.FieldType)).before a0 Z = true := hw _ (List.mem_of_getElem? (i := 14) rfl)
theorem w15 {Z : State} {a0 : Array Value} (hw : ∀ d ∈ tables_1, d.before a0 Z = true) : (Jvm.Cond.methodLink "java/lang/String" (1 : Nat) ({ cls := "java/lang/Object", name := "<init>", desc := "()V" } : Jvm.MethodName)).before a0 Z = true := hw _ (List.mem_of_getElem? (i := 15) rfl)
theorem w16 {Z : State} {a0 : Array Value} (hw : ∀ d ∈ tables_1, d.before a0 Z = true) : (Jvm.Cond.instanceMethod ({ cls := "java/lang/Object", name := "<init>", desc := "()V" } : Jvm.MethodName)).before a0 Z = true := hw _ (List.mem_of_getElem? (i := 16) rfl)
theorem w17 {Z : State} {a0 : Array Value} (hw : ∀ d ∈ tables_1, d.before a0 Z = true) : (Jvm.Cond.code ({ cls := "java/lang/Object", name := "<init>", desc := "()V" } : Jvm.MethodName) object_method_1_code (1 : Nat) (Option.none : Option Jvm.ClassFile.FieldType)).before a0 Z = true := hw _ (List.mem_of_getElem? (i := 17) rfl)
theorem w18 {Z : State} {a0 : Array Value} (hw : ∀ d ∈ tables_1, d.before a0 Z = true) : (Jvm.Cond.fieldLink "java/lang/String" (38 : Nat) "java/lang/String" "COMPACT_STRINGS" "Z").before a0 Z = true := hw _ (List.mem_of_getElem? (i := 18) rfl)
theorem w19 {Z : State} {a0 : Array Value} (hw : ∀ d ∈ tables_1, d.before a0 Z = true) : (Jvm.Cond.methodLink "java/lang/String" (177 : Nat) ({ cls := "java/lang/StringUTF16", name := "compress", desc := "([CII)[B" } : Jvm.MethodName)).before a0 Z = true := hw _ (List.mem_of_getElem? (i := 19) rfl)
theorem w20 {Z : State} {a0 : Array Value} (hw : ∀ d ∈ tables_1, d.before a0 Z = true) : (Jvm.Cond.static ({ cls := "java/lang/StringUTF16", name := "compress", desc := "([CII)[B" } : Jvm.MethodName)).before a0 Z = true := hw _ (List.mem_of_getElem? (i := 20) rfl)
theorem w21 {Z : State} {a0 : Array Value} (hw : ∀ d ∈ tables_1, d.before a0 Z = true) : (Jvm.Cond.initialized "java/lang/StringUTF16").before a0 Z = true := hw _ (List.mem_of_getElem? (i := 21) rfl)
theorem w22 {Z : State} {a0 : Array Value} (hw : ∀ d ∈ tables_1, d.before a0 Z = true) : (Jvm.Cond.code ({ cls := "java/lang/StringUTF16", name := "compress", desc := "([CII)[B" } : Jvm.MethodName) jdk_52_method_16_code (6 : Nat) (Option.some (Jvm.ClassFile.FieldType.array Jvm.ClassFile.FieldType.byte))).before a0 Z = true := hw _ (List.mem_of_getElem? (i := 22) rfl)
theorem w23 {Z : State} {a0 : Array Value} (hw : ∀ d ∈ tables_1, d.before a0 Z = true) : (Jvm.Cond.arrayClass Jvm.ClassFile.FieldType.byte).before a0 Z = true := hw _ (List.mem_of_getElem? (i := 23) rfl)
theorem w24 {Z : State} {a0 : Array Value} (hw : ∀ d ∈ tables_1, d.before a0 Z = true) : (Jvm.Cond.methodLink "java/lang/StringUTF16" (115 : Nat) ({ cls := "java/lang/StringUTF16", name := "compress", desc := "([CI[BII)I" } : Jvm.MethodName)).before a0 Z = true := hw _ (List.mem_of_getElem? (i := 24) rfl)
theorem w25 {Z : State} {a0 : Array Value} (hw : ∀ d ∈ tables_1, d.before a0 Z = true) : (Jvm.Cond.static ({ cls := "java/lang/StringUTF16", name := "compress", desc := "([CI[BII)I" } : Jvm.MethodName)).before a0 Z = true := hw _ (List.mem_of_getElem? (i := 25) rfl)
theorem w26 {Z : State} {a0 : Array Value} (hw : ∀ d ∈ tables_1, d.before a0 Z = true) : (Jvm.Cond.code ({ cls := "java/lang/StringUTF16", name := "compress", desc := "([CI[BII)I" } : Jvm.MethodName) jdk_52_method_21_code (7 : Nat) (Option.some Jvm.ClassFile.FieldType.int)).before a0 Z = true := hw _ (List.mem_of_getElem? (i := 26) rfl)
theorem w27 {Z : State} {a0 : Array Value} (hw : ∀ d ∈ tables_1, d.before a0 Z = true) : (Jvm.Cond.methodLink "java/lang/String" (47 : Nat) ({ cls := "java/lang/StringUTF16", name := "coderFromArrayLen", desc := "([BI)B" } : Jvm.MethodName)).before a0 Z = true := hw _ (List.mem_of_getElem? (i := 27) rfl)
theorem w28 {Z : State} {a0 : Array Value} (hw : ∀ d ∈ tables_1, d.before a0 Z = true) : (Jvm.Cond.static ({ cls := "java/lang/StringUTF16", name := "coderFromArrayLen", desc := "([BI)B" } : Jvm.MethodName)).before a0 Z = true := hw _ (List.mem_of_getElem? (i := 28) rfl)
theorem w29 {Z : State} {a0 : Array Value} (hw : ∀ d ∈ tables_1, d.before a0 Z = true) : (Jvm.Cond.code ({ cls := "java/lang/StringUTF16", name := "coderFromArrayLen", desc := "([BI)B" } : Jvm.MethodName) jdk_52_method_15_code (2 : Nat) (Option.some Jvm.ClassFile.FieldType.byte)).before a0 Z = true := hw _ (List.mem_of_getElem? (i := 29) rfl)
theorem w30 {Z : State} {a0 : Array Value} (hw : ∀ d ∈ tables_1, d.before a0 Z = true) : (Jvm.Cond.fieldLink "java/lang/String" (15 : Nat) "java/lang/String" "coder" "B").before a0 Z = true := hw _ (List.mem_of_getElem? (i := 30) rfl)
theorem w31 {Z : State} {a0 : Array Value} (hw : ∀ d ∈ tables_1, d.before a0 Z = true) : (Jvm.Cond.laysFinal "java/lang/String" "java/lang/String" "coder" "B").before a0 Z = true := hw _ (List.mem_of_getElem? (i := 31) rfl)
theorem w32 {Z : State} {a0 : Array Value} (hw : ∀ d ∈ tables_1, d.before a0 Z = true) : (Jvm.Cond.fieldLink "java/lang/String" (9 : Nat) "java/lang/String" "value" "[B").before a0 Z = true := hw _ (List.mem_of_getElem? (i := 32) rfl)
theorem w33 {Z : State} {a0 : Array Value} (hw : ∀ d ∈ tables_1, d.before a0 Z = true) : (Jvm.Cond.laysFinal "java/lang/String" "java/lang/String" "value" "[B").before a0 Z = true := hw _ (List.mem_of_getElem? (i := 33) rfl)
theorem w34 {Z : State} {a0 : Array Value} (hw : ∀ d ∈ tables_1, d.before a0 Z = true) : (Jvm.Cond.methodLink "com/example/proofs_for_datalog/proofsfordatalog/input/ProofFormatNamedPinLaw" (30 : Nat) ({ cls := "com/example/proofs_for_datalog/proofsfordatalog/input/ProofFormat", name := "named", desc := "(Ljava/lang/String;)Lcom/example/proofs_for_datalog/proofsfordatalog/input/ProofFormat;" } : Jvm.MethodName)).before a0 Z = true := hw _ (List.mem_of_getElem? (i := 34) rfl)
theorem w35 {Z : State} {a0 : Array Value} (hw : ∀ d ∈ tables_1, d.before a0 Z = true) : (Jvm.Cond.static ({ cls := "com/example/proofs_for_datalog/proofsfordatalog/input/ProofFormat", name := "named", desc := "(Ljava/lang/String;)Lcom/example/proofs_for_datalog/proofsfordatalog/input/ProofFormat;" } : Jvm.MethodName)).before a0 Z = true := hw _ (List.mem_of_getElem? (i := 35) rfl)
theorem w36 {Z : State} {a0 : Array Value} (hw : ∀ d ∈ tables_1, d.before a0 Z = true) : (Jvm.Cond.initialized "com/example/proofs_for_datalog/proofsfordatalog/input/ProofFormat").before a0 Z = true := hw _ (List.mem_of_getElem? (i := 36) rfl)
theorem w37 {Z : State} {a0 : Array Value} (hw : ∀ d ∈ tables_1, d.before a0 Z = true) : (Jvm.Cond.code ({ cls := "com/example/proofs_for_datalog/proofsfordatalog/input/ProofFormat", name := "named", desc := "(Ljava/lang/String;)Lcom/example/proofs_for_datalog/proofsfordatalog/input/ProofFormat;" } : Jvm.MethodName) prog_7_method_5_code (5 : Nat) (Option.some (Jvm.ClassFile.FieldType.object "com/example/proofs_for_datalog/proofsfordatalog/input/ProofFormat"))).before a0 Z = true := hw _ (List.mem_of_getElem? (i := 37) rfl)
theorem w38 {Z : State} {a0 : Array Value} (hw : ∀ d ∈ tables_1, d.before a0 Z = true) : (Jvm.Cond.methodLink "com/example/proofs_for_datalog/proofsfordatalog/input/ProofFormat" (45 : Nat) ({ cls := "com/example/proofs_for_datalog/proofsfordatalog/input/ProofFormat", name := "values", desc := "()[Lcom/example/proofs_for_datalog/proofsfordatalog/input/ProofFormat;" } : Jvm.MethodName)).before a0 Z = true := hw _ (List.mem_of_getElem? (i := 38) rfl)
theorem w39 {Z : State} {a0 : Array Value} (hw : ∀ d ∈ tables_1, d.before a0 Z = true) : (Jvm.Cond.static ({ cls := "com/example/proofs_for_datalog/proofsfordatalog/input/ProofFormat", name := "values", desc := "()[Lcom/example/proofs_for_datalog/proofsfordatalog/input/ProofFormat;" } : Jvm.MethodName)).before a0 Z = true := hw _ (List.mem_of_getElem? (i := 39) rfl)
theorem w40 {Z : State} {a0 : Array Value} (hw : ∀ d ∈ tables_1, d.before a0 Z = true) : (Jvm.Cond.code ({ cls := "com/example/proofs_for_datalog/proofsfordatalog/input/ProofFormat", name := "values", desc := "()[Lcom/example/proofs_for_datalog/proofsfordatalog/input/ProofFormat;" } : Jvm.MethodName) prog_7_method_1_code (0 : Nat) (Option.some (Jvm.ClassFile.FieldType.array (Jvm.ClassFile.FieldType.object "com/example/proofs_for_datalog/proofsfordatalog/input/ProofFormat")))).before a0 Z = true := hw _ (List.mem_of_getElem? (i := 40) rfl)
theorem w41 {Z : State} {a0 : Array Value} (hw : ∀ d ∈ tables_1, d.before a0 Z = true) : (Jvm.Cond.fieldLink "com/example/proofs_for_datalog/proofsfordatalog/input/ProofFormat" (16 : Nat) "com/example/proofs_for_datalog/proofsfordatalog/input/ProofFormat" "$VALUES" "[Lcom/example/proofs_for_datalog/proofsfordatalog/input/ProofFormat;").before a0 Z = true := hw _ (List.mem_of_getElem? (i := 41) rfl)
theorem w42 {Z : State} {a0 : Array Value} (hw : ∀ d ∈ tables_1, d.before a0 Z = true) : (Jvm.Cond.laysStatic "com/example/proofs_for_datalog/proofsfordatalog/input/ProofFormat" "$VALUES" "[Lcom/example/proofs_for_datalog/proofsfordatalog/input/ProofFormat;").before a0 Z = true := hw _ (List.mem_of_getElem? (i := 42) rfl)
theorem w43 {Z : State} {a0 : Array Value} (hw : ∀ d ∈ tables_1, d.before a0 Z = true) : (Jvm.Cond.methodLink "com/example/proofs_for_datalog/proofsfordatalog/input/ProofFormat" (20 : Nat) ({ cls := "[Lcom/example/proofs_for_datalog/proofsfordatalog/input/ProofFormat;", name := "clone", desc := "()Ljava/lang/Object;" } : Jvm.MethodName)).before a0 Z = true := hw _ (List.mem_of_getElem? (i := 43) rfl)
theorem w44 {Z : State} {a0 : Array Value} (hw : ∀ d ∈ tables_1, d.before a0 Z = true) : (Jvm.Cond.sameMethod "[Lcom/example/proofs_for_datalog/proofsfordatalog/input/ProofFormat;" "java/lang/Object" "clone" "()Ljava/lang/Object;").before a0 Z = true := hw _ (List.mem_of_getElem? (i := 44) rfl)
theorem w46 {Z : State} {a0 : Array Value} (hw : ∀ d ∈ tables_1, d.before a0 Z = true) : (Jvm.Cond.instanceMethod ({ cls := "java/lang/Object", name := "clone", desc := "()Ljava/lang/Object;" } : Jvm.MethodName)).before a0 Z = true := hw _ (List.mem_of_getElem? (i := 46) rfl)
theorem w47 {Z : State} {a0 : Array Value} (hw : ∀ d ∈ tables_1, d.before a0 Z = true) : (Jvm.Cond.selects "[Lcom/example/proofs_for_datalog/proofsfordatalog/input/ProofFormat;" ({ cls := "[Lcom/example/proofs_for_datalog/proofsfordatalog/input/ProofFormat;", name := "clone", desc := "()Ljava/lang/Object;" } : Jvm.MethodName) ({ cls := "java/lang/Object", name := "clone", desc := "()Ljava/lang/Object;" } : Jvm.MethodName)).before a0 Z = true := hw _ (List.mem_of_getElem? (i := 47) rfl)
theorem w48 {Z : State} {a0 : Array Value} (hw : ∀ d ∈ tables_1, d.before a0 Z = true) : (Jvm.Cond.native ({ cls := "java/lang/Object", name := "clone", desc := "()Ljava/lang/Object;" } : Jvm.MethodName)).before a0 Z = true := hw _ (List.mem_of_getElem? (i := 48) rfl)
theorem w49 {Z : State} {a0 : Array Value} (hw : ∀ d ∈ tables_1, d.before a0 Z = true) : (Jvm.Cond.castable "[Lcom/example/proofs_for_datalog/proofsfordatalog/input/ProofFormat;" "java/lang/Cloneable").before a0 Z = true := hw _ (List.mem_of_getElem? (i := 49) rfl)
theorem w50 {Z : State} {a0 : Array Value} (hw : ∀ d ∈ tables_1, d.before a0 Z = true) : (Jvm.Cond.laysStatic "com/example/proofs_for_datalog/proofsfordatalog/input/ProofFormat" "TREE" "Lcom/example/proofs_for_datalog/proofsfordatalog/input/ProofFormat;").before a0 Z = true := hw _ (List.mem_of_getElem? (i := 50) rfl)
theorem w51 {Z : State} {a0 : Array Value} (hw : ∀ d ∈ tables_1, d.before a0 Z = true) : (Jvm.Cond.laysStatic "com/example/proofs_for_datalog/proofsfordatalog/input/ProofFormat" "GRAPH" "Lcom/example/proofs_for_datalog/proofsfordatalog/input/ProofFormat;").before a0 Z = true := hw _ (List.mem_of_getElem? (i := 51) rfl)
theorem w52 {Z : State} {a0 : Array Value} (hw : ∀ d ∈ tables_1, d.before a0 Z = true) : (Jvm.Cond.laysStatic "com/example/proofs_for_datalog/proofsfordatalog/input/ProofFormat" "ORDERED_GRAPH" "Lcom/example/proofs_for_datalog/proofsfordatalog/input/ProofFormat;").before a0 Z = true := hw _ (List.mem_of_getElem? (i := 52) rfl)
theorem w53 {Z : State} {a0 : Array Value} (hw : ∀ d ∈ tables_1, d.before a0 Z = true) : (Jvm.Cond.laysStatic "com/example/proofs_for_datalog/proofsfordatalog/input/ProofFormat" "NEMO_TRACE" "Lcom/example/proofs_for_datalog/proofsfordatalog/input/ProofFormat;").before a0 Z = true := hw _ (List.mem_of_getElem? (i := 53) rfl)
theorem w55 {Z : State} {a0 : Array Value} (hw : ∀ d ∈ tables_1, d.before a0 Z = true) : (Jvm.Cond.classLink "com/example/proofs_for_datalog/proofsfordatalog/input/ProofFormat" (21 : Nat) "[Lcom/example/proofs_for_datalog/proofsfordatalog/input/ProofFormat;").before a0 Z = true := hw _ (List.mem_of_getElem? (i := 55) rfl)
theorem w57 {Z : State} {a0 : Array Value} (hw : ∀ d ∈ tables_1, d.before a0 Z = true) : (Jvm.Cond.fieldLink "com/example/proofs_for_datalog/proofsfordatalog/input/ProofFormat" (35 : Nat) "com/example/proofs_for_datalog/proofsfordatalog/input/ProofFormat" "id" "Ljava/lang/String;").before a0 Z = true := hw _ (List.mem_of_getElem? (i := 57) rfl)
theorem w59 {Z : State} {a0 : Array Value} (hw : ∀ d ∈ tables_1, d.before a0 Z = true) : (Jvm.Cond.methodLink "com/example/proofs_for_datalog/proofsfordatalog/input/ProofFormat" (49 : Nat) ({ cls := "java/lang/String", name := "equals", desc := "(Ljava/lang/Object;)Z" } : Jvm.MethodName)).before a0 Z = true := hw _ (List.mem_of_getElem? (i := 59) rfl)
theorem w60 {Z : State} {a0 : Array Value} (hw : ∀ d ∈ tables_1, d.before a0 Z = true) : (Jvm.Cond.declares ({ cls := "java/lang/String", name := "equals", desc := "(Ljava/lang/Object;)Z" } : Jvm.MethodName)).before a0 Z = true := hw _ (List.mem_of_getElem? (i := 60) rfl)
theorem w61 {Z : State} {a0 : Array Value} (hw : ∀ d ∈ tables_1, d.before a0 Z = true) : (Jvm.Cond.instanceMethod ({ cls := "java/lang/String", name := "equals", desc := "(Ljava/lang/Object;)Z" } : Jvm.MethodName)).before a0 Z = true := hw _ (List.mem_of_getElem? (i := 61) rfl)
theorem w62 {Z : State} {a0 : Array Value} (hw : ∀ d ∈ tables_1, d.before a0 Z = true) : (Jvm.Cond.selects "java/lang/String" ({ cls := "java/lang/String", name := "equals", desc := "(Ljava/lang/Object;)Z" } : Jvm.MethodName) ({ cls := "java/lang/String", name := "equals", desc := "(Ljava/lang/Object;)Z" } : Jvm.MethodName)).before a0 Z = true := hw _ (List.mem_of_getElem? (i := 62) rfl)
theorem w63 {Z : State} {a0 : Array Value} (hw : ∀ d ∈ tables_1, d.before a0 Z = true) : (Jvm.Cond.code ({ cls := "java/lang/String", name := "equals", desc := "(Ljava/lang/Object;)Z" } : Jvm.MethodName) jdk_42_method_66_code (3 : Nat) (Option.some Jvm.ClassFile.FieldType.boolean)).before a0 Z = true := hw _ (List.mem_of_getElem? (i := 63) rfl)
theorem w64 {Z : State} {a0 : Array Value} (hw : ∀ d ∈ tables_1, d.before a0 Z = true) : (Jvm.Cond.classLink "java/lang/String" (10 : Nat) "java/lang/String").before a0 Z = true := hw _ (List.mem_of_getElem? (i := 64) rfl)
theorem w65 {Z : State} {a0 : Array Value} (hw : ∀ d ∈ tables_1, d.before a0 Z = true) : (Jvm.Cond.methodLink "java/lang/String" (541 : Nat) ({ cls := "java/lang/StringLatin1", name := "equals", desc := "([B[B)Z" } : Jvm.MethodName)).before a0 Z = true := hw _ (List.mem_of_getElem? (i := 65) rfl)
theorem w66 {Z : State} {a0 : Array Value} (hw : ∀ d ∈ tables_1, d.before a0 Z = true) : (Jvm.Cond.static ({ cls := "java/lang/StringLatin1", name := "equals", desc := "([B[B)Z" } : Jvm.MethodName)).before a0 Z = true := hw _ (List.mem_of_getElem? (i := 66) rfl)
theorem w67 {Z : State} {a0 : Array Value} (hw : ∀ d ∈ tables_1, d.before a0 Z = true) : (Jvm.Cond.initialized "java/lang/StringLatin1").before a0 Z = true := hw _ (List.mem_of_getElem? (i := 67) rfl)
theorem w68 {Z : State} {a0 : Array Value} (hw : ∀ d ∈ tables_1, d.before a0 Z = true) : (Jvm.Cond.code ({ cls := "java/lang/StringLatin1", name := "equals", desc := "([B[B)Z" } : Jvm.MethodName) jdk_43_method_13_code (3 : Nat) (Option.some Jvm.ClassFile.FieldType.boolean)).before a0 Z = true := hw _ (List.mem_of_getElem? (i := 68) rfl)
theorem w69 {Z : State} {a0 : Array Value} (hw : ∀ d ∈ tables_1, d.before a0 Z = true) : (Jvm.Cond.methodLink "com/example/proofs_for_datalog/proofsfordatalog/input/ProofFormatNamedPinLaw" (36 : Nat) ({ cls := "com/example/proofs_for_datalog/proofsfordatalog/input/ProofFormatNamedPinLaw", name := "ref", desc := "(Ljava/lang/String;)Lcom/example/proofs_for_datalog/proofsfordatalog/input/ProofFormat;" } : Jvm.MethodName)).before a0 Z = true := hw _ (List.mem_of_getElem? (i := 69) rfl)
theorem w70 {Z : State} {a0 : Array Value} (hw : ∀ d ∈ tables_1, d.before a0 Z = true) : (Jvm.Cond.static ({ cls := "com/example/proofs_for_datalog/proofsfordatalog/input/ProofFormatNamedPinLaw", name := "ref", desc := "(Ljava/lang/String;)Lcom/example/proofs_for_datalog/proofsfordatalog/input/ProofFormat;" } : Jvm.MethodName)).before a0 Z = true := hw _ (List.mem_of_getElem? (i := 70) rfl)
theorem w71 {Z : State} {a0 : Array Value} (hw : ∀ d ∈ tables_1, d.before a0 Z = true) : (Jvm.Cond.code ({ cls := "com/example/proofs_for_datalog/proofsfordatalog/input/ProofFormatNamedPinLaw", name := "ref", desc := "(Ljava/lang/String;)Lcom/example/proofs_for_datalog/proofsfordatalog/input/ProofFormat;" } : Jvm.MethodName) method_3_code (1 : Nat) (Option.some (Jvm.ClassFile.FieldType.object "com/example/proofs_for_datalog/proofsfordatalog/input/ProofFormat"))).before a0 Z = true := hw _ (List.mem_of_getElem? (i := 71) rfl)
theorem w72 {Z : State} {a0 : Array Value} (hw : ∀ d ∈ tables_1, d.before a0 Z = true) : (Jvm.Cond.stringLink "com/example/proofs_for_datalog/proofsfordatalog/input/ProofFormatNamedPinLaw" (39 : Nat) "tree").before a0 Z = true := hw _ (List.mem_of_getElem? (i := 72) rfl)
theorem w75 {Z : State} {a0 : Array Value} (hw : ∀ d ∈ tables_1, d.before a0 Z = true) : (Jvm.Cond.methodLink "com/example/proofs_for_datalog/proofsfordatalog/input/ProofFormatNamedPinLaw" (41 : Nat) ({ cls := "java/lang/String", name := "equals", desc := "(Ljava/lang/Object;)Z" } : Jvm.MethodName)).before a0 Z = true := hw _ (List.mem_of_getElem? (i := 75) rfl)
theorem w76 {Z : State} {a0 : Array Value} (hw : ∀ d ∈ tables_1, d.before a0 Z = true) : (Jvm.Cond.fieldLink "com/example/proofs_for_datalog/proofsfordatalog/input/ProofFormatNamedPinLaw" (45 : Nat) "com/example/proofs_for_datalog/proofsfordatalog/input/ProofFormat" "TREE" "Lcom/example/proofs_for_datalog/proofsfordatalog/input/ProofFormat;").before a0 Z = true := hw _ (List.mem_of_getElem? (i := 76) rfl)
theorem w77 {Z : State} {a0 : Array Value} (hw : ∀ d ∈ tables_1, d.before a0 Z = true) : (Jvm.Cond.stringLink "com/example/proofs_for_datalog/proofsfordatalog/input/ProofFormatNamedPinLaw" (49 : Nat) "graph").before a0 Z = true := hw _ (List.mem_of_getElem? (i := 77) rfl)
theorem w78 {Z : State} {a0 : Array Value} (hw : ∀ d ∈ tables_1, d.before a0 Z = true) : (Jvm.Cond.stringLink "com/example/proofs_for_datalog/proofsfordatalog/input/ProofFormatNamedPinLaw" (54 : Nat) "ordered-graph").before a0 Z = true := hw _ (List.mem_of_getElem? (i := 78) rfl)
theorem w79 {Z : State} {a0 : Array Value} (hw : ∀ d ∈ tables_1, d.before a0 Z = true) : (Jvm.Cond.stringLink "com/example/proofs_for_datalog/proofsfordatalog/input/ProofFormatNamedPinLaw" (59 : Nat) "nemo-trace").before a0 Z = true := hw _ (List.mem_of_getElem? (i := 79) rfl)
theorem w80 {Z : State} {a0 : Array Value} (hw : ∀ d ∈ tables_1, d.before a0 Z = true) : (Jvm.Cond.fieldLink "com/example/proofs_for_datalog/proofsfordatalog/input/ProofFormatNamedPinLaw" (61 : Nat) "com/example/proofs_for_datalog/proofsfordatalog/input/ProofFormat" "NEMO_TRACE" "Lcom/example/proofs_for_datalog/proofsfordatalog/input/ProofFormat;").before a0 Z = true := hw _ (List.mem_of_getElem? (i := 80) rfl)
theorem w81 {Z : State} {a0 : Array Value} (hw : ∀ d ∈ tables_1, d.before a0 Z = true) : (Jvm.Cond.methodLink "com/example/proofs_for_datalog/proofsfordatalog/input/ProofFormatNamedPinLaw" (19 : Nat) ({ cls := "com/example/proofs_for_datalog/proofsfordatalog/input/ProofFormatNamedPinLaw", name := "longer", desc := "(IC)[C" } : Jvm.MethodName)).before a0 Z = true := hw _ (List.mem_of_getElem? (i := 81) rfl)
theorem w82 {Z : State} {a0 : Array Value} (hw : ∀ d ∈ tables_1, d.before a0 Z = true) : (Jvm.Cond.static ({ cls := "com/example/proofs_for_datalog/proofsfordatalog/input/ProofFormatNamedPinLaw", name := "longer", desc := "(IC)[C" } : Jvm.MethodName)).before a0 Z = true := hw _ (List.mem_of_getElem? (i := 82) rfl)
theorem w83 {Z : State} {a0 : Array Value} (hw : ∀ d ∈ tables_1, d.before a0 Z = true) : (Jvm.Cond.code ({ cls := "com/example/proofs_for_datalog/proofsfordatalog/input/ProofFormatNamedPinLaw", name := "longer", desc := "(IC)[C" } : Jvm.MethodName) method_5_code (2 : Nat) (Option.some (Jvm.ClassFile.FieldType.array Jvm.ClassFile.FieldType.char))).before a0 Z = true := hw _ (List.mem_of_getElem? (i := 83) rfl)
theorem w84 {Z : State} {a0 : Array Value} (hw : ∀ d ∈ tables_1, d.before a0 Z = true) : (Jvm.Cond.constant "com/example/proofs_for_datalog/proofsfordatalog/input/ProofFormatNamedPinLaw" (18 : Nat) (2147483647 : Int32)).before a0 Z = true := hw _ (List.mem_of_getElem? (i := 84) rfl)
theorem w85 {Z : State} {a0 : Array Value} (hw : ∀ d ∈ tables_1, d.before a0 Z = true) : (Jvm.Cond.fieldLink "com/example/proofs_for_datalog/proofsfordatalog/input/ProofFormatNamedPinLaw" (56 : Nat) "com/example/proofs_for_datalog/proofsfordatalog/input/ProofFormat" "ORDERED_GRAPH" "Lcom/example/proofs_for_datalog/proofsfordatalog/input/ProofFormat;").before a0 Z = true := hw _ (List.mem_of_getElem? (i := 85) rfl)
theorem w86 {Z : State} {a0 : Array Value} (hw : ∀ d ∈ tables_1, d.before a0 Z = true) : (Jvm.Cond.methodLink "com/example/proofs_for_datalog/proofsfordatalog/input/ProofFormatNamedPinLaw" (26 : Nat) ({ cls := "com/example/proofs_for_datalog/proofsfordatalog/input/ProofFormatNamedPinLaw", name := "drawn", desc := "(III)[C" } : Jvm.MethodName)).before a0 Z = true := hw _ (List.mem_of_getElem? (i := 86) rfl)
theorem w87 {Z : State} {a0 : Array Value} (hw : ∀ d ∈ tables_1, d.before a0 Z = true) : (Jvm.Cond.static ({ cls := "com/example/proofs_for_datalog/proofsfordatalog/input/ProofFormatNamedPinLaw", name := "drawn", desc := "(III)[C" } : Jvm.MethodName)).before a0 Z = true := hw _ (List.mem_of_getElem? (i := 87) rfl)
theorem w88 {Z : State} {a0 : Array Value} (hw : ∀ d ∈ tables_1, d.before a0 Z = true) : (Jvm.Cond.code ({ cls := "com/example/proofs_for_datalog/proofsfordatalog/input/ProofFormatNamedPinLaw", name := "drawn", desc := "(III)[C" } : Jvm.MethodName) method_7_code (9 : Nat) (Option.some (Jvm.ClassFile.FieldType.array Jvm.ClassFile.FieldType.char))).before a0 Z = true := hw _ (List.mem_of_getElem? (i := 88) rfl)
theorem w89 {Z : State} {a0 : Array Value} (hw : ∀ d ∈ tables_1, d.before a0 Z = true) : (Jvm.Cond.stringLink "java/lang/String" (7 : Nat) "").before a0 Z = true := hw _ (List.mem_of_getElem? (i := 89) rfl)
theorem w90 {Z : State} {a0 : Array Value} (hw : ∀ d ∈ tables_1, d.before a0 Z = true) : (Jvm.Cond.methodLink "com/example/proofs_for_datalog/proofsfordatalog/input/ProofFormatNamedPinLaw" (23 : Nat) ({ cls := "com/example/proofs_for_datalog/proofsfordatalog/input/ProofFormatNamedPinLaw", name := "shorter", desc := "(I)[C" } : Jvm.MethodName)).before a0 Z = true := hw _ (List.mem_of_getElem? (i := 90) rfl)
theorem w91 {Z : State} {a0 : Array Value} (hw : ∀ d ∈ tables_1, d.before a0 Z = true) : (Jvm.Cond.static ({ cls := "com/example/proofs_for_datalog/proofsfordatalog/input/ProofFormatNamedPinLaw", name := "shorter", desc := "(I)[C" } : Jvm.MethodName)).before a0 Z = true := hw _ (List.mem_of_getElem? (i := 91) rfl)
theorem w92 {Z : State} {a0 : Array Value} (hw : ∀ d ∈ tables_1, d.before a0 Z = true) : (Jvm.Cond.code ({ cls := "com/example/proofs_for_datalog/proofsfordatalog/input/ProofFormatNamedPinLaw", name := "shorter", desc := "(I)[C" } : Jvm.MethodName) method_6_code (1 : Nat) (Option.some (Jvm.ClassFile.FieldType.array Jvm.ClassFile.FieldType.char))).before a0 Z = true := hw _ (List.mem_of_getElem? (i := 92) rfl)
theorem w93 {Z : State} {a0 : Array Value} (hw : ∀ d ∈ tables_1, d.before a0 Z = true) : (Jvm.Cond.fieldLink "com/example/proofs_for_datalog/proofsfordatalog/input/ProofFormatNamedPinLaw" (51 : Nat) "com/example/proofs_for_datalog/proofsfordatalog/input/ProofFormat" "GRAPH" "Lcom/example/proofs_for_datalog/proofsfordatalog/input/ProofFormat;").before a0 Z = true := hw _ (List.mem_of_getElem? (i := 93) rfl)
theorem d_jdk_52_21_0 : D jdk_52_method_21_code 0 (.iconst 0) 1 1 := And.intro (by decide +kernel) rfl
theorem d_jdk_52_21_1 : D jdk_52_method_21_code 1 (.istore 5) 2 3 := And.intro (by decide +kernel) rfl
theorem d_jdk_52_21_3 : D jdk_52_method_21_code 3 (.iload 5) 2 5 := And.intro (by decide +kernel) rfl
theorem d_jdk_52_21_5 : D jdk_52_method_21_code 5 (.iload 4) 2 7 := And.intro (by decide +kernel) rfl
theorem d_jdk_52_21_7 : D jdk_52_method_21_code 7 (.if_icmp .ge 37) 3 10 := And.intro (by decide +kernel) rfl
theorem d_jdk_52_21_44 : D jdk_52_method_21_code 44 (.iload 4) 2 46 := And.intro (by decide +kernel) rfl
theorem d_jdk_52_21_46 : D jdk_52_method_21_code 46 (.ireturn) 1 47 := And.intro (by decide +kernel) rfl
theorem d_jdk_52_21_10 : D jdk_52_method_21_code 10 (.aload_n 0) 1 11 := And.intro (by decide +kernel) rfl
theorem d_jdk_52_21_11 : D jdk_52_method_21_code 11 (.iload_n 1) 1 12 := And.intro (by decide +kernel) rfl
theorem d_jdk_52_21_12 : D jdk_52_method_21_code 12 (.caload) 1 13 := And.intro (by decide +kernel) rfl
theorem d_jdk_52_21_13 : D jdk_52_method_21_code 13 (.istore 6) 2 15 := And.intro (by decide +kernel) rfl
theorem d_jdk_52_21_15 : D jdk_52_method_21_code 15 (.iload 6) 2 17 := And.intro (by decide +kernel) rfl
theorem d_jdk_52_21_17 : D jdk_52_method_21_code 17 (.sipush 255) 3 20 := And.intro (by decide +kernel) rfl
theorem d_jdk_52_21_20 : D jdk_52_method_21_code 20 (.if_icmp .le 6) 3 23 := And.intro (by decide +kernel) rfl
theorem d_jdk_52_21_26 : D jdk_52_method_21_code 26 (.aload_n 2) 1 27 := And.intro (by decide +kernel) rfl
theorem d_jdk_52_21_27 : D jdk_52_method_21_code 27 (.iload_n 3) 1 28 := And.intro (by decide +kernel) rfl
theorem d_jdk_52_21_28 : D jdk_52_method_21_code 28 (.iload 6) 2 30 := And.intro (by decide +kernel) rfl
theorem d_jdk_52_21_30 : D jdk_52_method_21_code 30 (.i2b) 1 31 := And.intro (by decide +kernel) rfl
theorem d_jdk_52_21_31 : D jdk_52_method_21_code 31 (.bastore) 1 32 := And.intro (by decide +kernel) rfl
theorem d_jdk_52_21_32 : D jdk_52_method_21_code 32 (.iinc 1 1) 3 35 := And.intro (by decide +kernel) rfl
theorem d_jdk_52_21_35 : D jdk_52_method_21_code 35 (.iinc 3 1) 3 38 := And.intro (by decide +kernel) rfl
theorem d_jdk_52_21_38 : D jdk_52_method_21_code 38 (.iinc 5 1) 3 41 := And.intro (by decide +kernel) rfl
theorem d_jdk_52_21_41 : D jdk_52_method_21_code 41 (.goto (-38)) 3 44 := And.intro (by decide +kernel) rfl
theorem pn0 : plainName "java/lang/StringUTF16" = true := by first | (simp [plainName, overriddenIn]; done) | decide +kernel
theorem d_jdk_52_16_0 : D jdk_52_method_16_code 0 (.iload_n 2) 1 1 := And.intro (by decide +kernel) rfl
theorem d_jdk_52_16_1 : D jdk_52_method_16_code 1 (.newarray .byte) 2 3 := And.intro (by decide +kernel) rfl
theorem d_jdk_52_16_3 : D jdk_52_method_16_code 3 (.astore_n 3) 1 4 := And.intro (by decide +kernel) rfl
theorem d_jdk_52_16_4 : D jdk_52_method_16_code 4 (.aload_n 0) 1 5 := And.intro (by decide +kernel) rfl
theorem d_jdk_52_16_5 : D jdk_52_method_16_code 5 (.iload_n 1) 1 6 := And.intro (by decide +kernel) rfl
theorem d_jdk_52_16_6 : D jdk_52_method_16_code 6 (.aload_n 3) 1 7 := And.intro (by decide +kernel) rfl
theorem d_jdk_52_16_7 : D jdk_52_method_16_code 7 (.iconst 0) 1 8 := And.intro (by decide +kernel) rfl
theorem d_jdk_52_16_8 : D jdk_52_method_16_code 8 (.iload_n 2) 1 9 := And.intro (by decide +kernel) rfl
theorem d_jdk_52_16_9 : D jdk_52_method_16_code 9 (.invokestatic 115) 3 12 := And.intro (by decide +kernel) rfl
theorem pd0 : parseMethodDescriptor "([CI[BII)I" = some ⟨[(.array .char), .int, (.array .byte), .int, .int], some .int⟩ := by decide +kernel
theorem d_jdk_52_16_12 : D jdk_52_method_16_code 12 (.istore 4) 2 14 := And.intro (by decide +kernel) rfl
theorem d_jdk_52_16_14 : D jdk_52_method_16_code 14 (.iload 4) 2 16 := And.intro (by decide +kernel) rfl
theorem d_jdk_52_16_16 : D jdk_52_method_16_code 16 (.iload_n 2) 1 17 := And.intro (by decide +kernel) rfl
theorem d_jdk_52_16_17 : D jdk_52_method_16_code 17 (.if_icmp .eq 40) 3 20 := And.intro (by decide +kernel) rfl
theorem d_jdk_52_16_57 : D jdk_52_method_16_code 57 (.aload_n 3) 1 58 := And.intro (by decide +kernel) rfl
theorem d_jdk_52_16_58 : D jdk_52_method_16_code 58 (.areturn) 1 59 := And.intro (by decide +kernel) rfl
theorem d_jdk_52_15_0 : D jdk_52_method_15_code 0 (.iload_n 1) 1 1 := And.intro (by decide +kernel) rfl
theorem d_jdk_52_15_1 : D jdk_52_method_15_code 1 (.aload_n 0) 1 2 := And.intro (by decide +kernel) rfl
theorem d_jdk_52_15_2 : D jdk_52_method_15_code 2 (.arraylength) 1 3 := And.intro (by decide +kernel) rfl
theorem d_jdk_52_15_3 : D jdk_52_method_15_code 3 (.isub) 1 4 := And.intro (by decide +kernel) rfl
theorem d_jdk_52_15_4 : D jdk_52_method_15_code 4 (.bipush 31) 2 6 := And.intro (by decide +kernel) rfl
theorem d_jdk_52_15_6 : D jdk_52_method_15_code 6 (.iushr) 1 7 := And.intro (by decide +kernel) rfl
theorem d_jdk_52_15_7 : D jdk_52_method_15_code 7 (.i2b) 1 8 := And.intro (by decide +kernel) rfl
theorem d_jdk_52_15_8 : D jdk_52_method_15_code 8 (.ireturn) 1 9 := And.intro (by decide +kernel) rfl
theorem d_jdk_42_149_0 : D jdk_42_method_149_code 0 (.aload_n 0) 1 1 := And.intro (by decide +kernel) rfl
theorem d_jdk_42_149_1 : D jdk_42_method_149_code 1 (.invokespecial 1) 3 4 := And.intro (by decide +kernel) rfl
theorem d_jdk_42_149_4 : D jdk_42_method_149_code 4 (.iload_n 3) 1 5 := And.intro (by decide +kernel) rfl
theorem d_jdk_42_149_5 : D jdk_42_method_149_code 5 (.ifCond .ne 22) 3 8 := And.intro (by decide +kernel) rfl
theorem d_jdk_42_149_27 : D jdk_42_method_149_code 27 (.getstatic 38) 3 30 := And.intro (by decide +kernel) rfl
theorem d_jdk_42_149_30 : D jdk_42_method_149_code 30 (.ifCond .eq 28) 3 33 := And.intro (by decide +kernel) rfl
theorem d_jdk_42_149_33 : D jdk_42_method_149_code 33 (.aload_n 1) 1 34 := And.intro (by decide +kernel) rfl
theorem d_jdk_42_149_34 : D jdk_42_method_149_code 34 (.iload_n 2) 1 35 := And.intro (by decide +kernel) rfl
theorem d_jdk_42_149_35 : D jdk_42_method_149_code 35 (.iload_n 3) 1 36 := And.intro (by decide +kernel) rfl
theorem d_jdk_42_149_36 : D jdk_42_method_149_code 36 (.invokestatic 177) 3 39 := And.intro (by decide +kernel) rfl
theorem pd1 : parseMethodDescriptor "([CII)[B" = some ⟨[(.array .char), .int, .int], some (.array .byte)⟩ := by decide +kernel
theorem d_jdk_42_149_39 : D jdk_42_method_149_code 39 (.astore 5) 2 41 := And.intro (by decide +kernel) rfl
theorem d_jdk_42_149_41 : D jdk_42_method_149_code 41 (.aload_n 0) 1 42 := And.intro (by decide +kernel) rfl
theorem d_jdk_42_149_42 : D jdk_42_method_149_code 42 (.aload 5) 2 44 := And.intro (by decide +kernel) rfl
theorem d_jdk_42_149_44 : D jdk_42_method_149_code 44 (.iload_n 3) 1 45 := And.intro (by decide +kernel) rfl
theorem d_jdk_42_149_45 : D jdk_42_method_149_code 45 (.invokestatic 47) 3 48 := And.intro (by decide +kernel) rfl
theorem pd2 : parseMethodDescriptor "([BI)B" = some ⟨[(.array .byte), .int], some .byte⟩ := by decide +kernel
theorem d_jdk_42_149_48 : D jdk_42_method_149_code 48 (.putfield 15) 3 51 := And.intro (by decide +kernel) rfl
theorem d_jdk_42_149_51 : D jdk_42_method_149_code 51 (.aload_n 0) 1 52 := And.intro (by decide +kernel) rfl
theorem d_jdk_42_149_52 : D jdk_42_method_149_code 52 (.aload 5) 2 54 := And.intro (by decide +kernel) rfl
theorem d_jdk_42_149_54 : D jdk_42_method_149_code 54 (.putfield 9) 3 57 := And.intro (by decide +kernel) rfl
theorem d_jdk_42_149_57 : D jdk_42_method_149_code 57 (.return_) 1 58 := And.intro (by decide +kernel) rfl
theorem pn1 : plainName "java/lang/String" = true := by first | (simp [plainName, overriddenIn]; done) | decide +kernel
theorem d_jdk_42_3_0 : D jdk_42_method_3_code 0 (.aload_n 0) 1 1 := And.intro (by decide +kernel) rfl
theorem d_jdk_42_3_1 : D jdk_42_method_3_code 1 (.aload_n 1) 1 2 := And.intro (by decide +kernel) rfl
theorem d_jdk_42_3_2 : D jdk_42_method_3_code 2 (.iconst 0) 1 3 := And.intro (by decide +kernel) rfl
theorem d_jdk_42_3_3 : D jdk_42_method_3_code 3 (.aload_n 1) 1 4 := And.intro (by decide +kernel) rfl
theorem d_jdk_42_3_4 : D jdk_42_method_3_code 4 (.arraylength) 1 5 := And.intro (by decide +kernel) rfl
theorem d_jdk_42_3_5 : D jdk_42_method_3_code 5 (.aconst_null) 1 6 := And.intro (by decide +kernel) rfl
theorem d_jdk_42_3_6 : D jdk_42_method_3_code 6 (.invokespecial 27) 3 9 := And.intro (by decide +kernel) rfl
theorem pd3 : parseMethodDescriptor "([CIILjava/lang/Void;)V" = some ⟨[(.array .char), .int, .int, (.object "java/lang/Void")], none⟩ := by decide +kernel
theorem d_jdk_42_3_9 : D jdk_42_method_3_code 9 (.return_) 1 10 := And.intro (by decide +kernel) rfl
theorem d_jdk_42_149_8 : D jdk_42_method_149_code 8 (.aload_n 0) 1 9 := And.intro (by decide +kernel) rfl
theorem d_jdk_42_149_9 : D jdk_42_method_149_code 9 (.ldc 7) 2 11 := And.intro (by decide +kernel) rfl
theorem d_jdk_42_149_11 : D jdk_42_method_149_code 11 (.getfield 9) 3 14 := And.intro (by decide +kernel) rfl
theorem d_jdk_42_149_14 : D jdk_42_method_149_code 14 (.putfield 9) 3 17 := And.intro (by decide +kernel) rfl
theorem d_jdk_42_149_17 : D jdk_42_method_149_code 17 (.aload_n 0) 1 18 := And.intro (by decide +kernel) rfl
theorem d_jdk_42_149_18 : D jdk_42_method_149_code 18 (.ldc 7) 2 20 := And.intro (by decide +kernel) rfl
theorem d_jdk_42_149_20 : D jdk_42_method_149_code 20 (.getfield 15) 3 23 := And.intro (by decide +kernel) rfl
theorem d_jdk_42_149_23 : D jdk_42_method_149_code 23 (.putfield 15) 3 26 := And.intro (by decide +kernel) rfl
theorem d_jdk_42_149_26 : D jdk_42_method_149_code 26 (.return_) 1 27 := And.intro (by decide +kernel) rfl
theorem d_jdk_43_13_0 : D jdk_43_method_13_code 0 (.aload_n 0) 1 1 := And.intro (by decide +kernel) rfl
theorem d_jdk_43_13_1 : D jdk_43_method_13_code 1 (.arraylength) 1 2 := And.intro (by decide +kernel) rfl
theorem d_jdk_43_13_2 : D jdk_43_method_13_code 2 (.aload_n 1) 1 3 := And.intro (by decide +kernel) rfl
theorem d_jdk_43_13_3 : D jdk_43_method_13_code 3 (.arraylength) 1 4 := And.intro (by decide +kernel) rfl
theorem d_jdk_43_13_4 : D jdk_43_method_13_code 4 (.if_icmp .ne 30) 3 7 := And.intro (by decide +kernel) rfl
theorem d_jdk_43_13_34 : D jdk_43_method_13_code 34 (.iconst 0) 1 35 := And.intro (by decide +kernel) rfl
theorem d_jdk_43_13_35 : D jdk_43_method_13_code 35 (.ireturn) 1 36 := And.intro (by decide +kernel) rfl
theorem d_jdk_43_13_7 : D jdk_43_method_13_code 7 (.iconst 0) 1 8 := And.intro (by decide +kernel) rfl
theorem d_jdk_43_13_8 : D jdk_43_method_13_code 8 (.istore_n 2) 1 9 := And.intro (by decide +kernel) rfl
theorem d_jdk_43_13_9 : D jdk_43_method_13_code 9 (.iload_n 2) 1 10 := And.intro (by decide +kernel) rfl
theorem d_jdk_43_13_10 : D jdk_43_method_13_code 10 (.aload_n 0) 1 11 := And.intro (by decide +kernel) rfl
theorem d_jdk_43_13_11 : D jdk_43_method_13_code 11 (.arraylength) 1 12 := And.intro (by decide +kernel) rfl
theorem d_jdk_43_13_12 : D jdk_43_method_13_code 12 (.if_icmp .ge 20) 3 15 := And.intro (by decide +kernel) rfl
theorem d_jdk_43_13_32 : D jdk_43_method_13_code 32 (.iconst 1) 1 33 := And.intro (by decide +kernel) rfl
theorem d_jdk_43_13_33 : D jdk_43_method_13_code 33 (.ireturn) 1 34 := And.intro (by decide +kernel) rfl
theorem d_jdk_43_13_15 : D jdk_43_method_13_code 15 (.aload_n 0) 1 16 := And.intro (by decide +kernel) rfl
theorem d_jdk_43_13_16 : D jdk_43_method_13_code 16 (.iload_n 2) 1 17 := And.intro (by decide +kernel) rfl
theorem d_jdk_43_13_17 : D jdk_43_method_13_code 17 (.baload) 1 18 := And.intro (by decide +kernel) rfl
theorem d_jdk_43_13_18 : D jdk_43_method_13_code 18 (.aload_n 1) 1 19 := And.intro (by decide +kernel) rfl
theorem d_jdk_43_13_19 : D jdk_43_method_13_code 19 (.iload_n 2) 1 20 := And.intro (by decide +kernel) rfl
theorem d_jdk_43_13_20 : D jdk_43_method_13_code 20 (.baload) 1 21 := And.intro (by decide +kernel) rfl
theorem d_jdk_43_13_21 : D jdk_43_method_13_code 21 (.if_icmp .eq 5) 3 24 := And.intro (by decide +kernel) rfl
theorem d_jdk_43_13_26 : D jdk_43_method_13_code 26 (.iinc 2 1) 3 29 := And.intro (by decide +kernel) rfl
theorem d_jdk_43_13_29 : D jdk_43_method_13_code 29 (.goto (-20)) 3 32 := And.intro (by decide +kernel) rfl
theorem d_jdk_43_13_24 : D jdk_43_method_13_code 24 (.iconst 0) 1 25 := And.intro (by decide +kernel) rfl
theorem d_jdk_43_13_25 : D jdk_43_method_13_code 25 (.ireturn) 1 26 := And.intro (by decide +kernel) rfl
theorem pn2 : plainName "java/lang/StringLatin1" = true := by first | (simp [plainName, overriddenIn]; done) | decide +kernel
theorem d_jdk_42_66_0 : D jdk_42_method_66_code 0 (.aload_n 0) 1 1 := And.intro (by decide +kernel) rfl
theorem d_jdk_42_66_1 : D jdk_42_method_66_code 1 (.aload_n 1) 1 2 := And.intro (by decide +kernel) rfl
theorem d_jdk_42_66_2 : D jdk_42_method_66_code 2 (.if_acmp .ne 5) 3 5 := And.intro (by decide +kernel) rfl
theorem d_jdk_42_66_7 : D jdk_42_method_66_code 7 (.aload_n 1) 1 8 := And.intro (by decide +kernel) rfl
theorem d_jdk_42_66_8 : D jdk_42_method_66_code 8 (.instanceof 10) 3 11 := And.intro (by decide +kernel) rfl
theorem d_jdk_42_66_11 : D jdk_42_method_66_code 11 (.ifCond .eq 43) 3 14 := And.intro (by decide +kernel) rfl
theorem d_jdk_42_66_14 : D jdk_42_method_66_code 14 (.aload_n 1) 1 15 := And.intro (by decide +kernel) rfl
theorem d_jdk_42_66_15 : D jdk_42_method_66_code 15 (.checkcast 10) 3 18 := And.intro (by decide +kernel) rfl
theorem d_jdk_42_66_18 : D jdk_42_method_66_code 18 (.astore_n 2) 1 19 := And.intro (by decide +kernel) rfl
theorem d_jdk_42_66_19 : D jdk_42_method_66_code 19 (.getstatic 38) 3 22 := And.intro (by decide +kernel) rfl
theorem d_jdk_42_66_22 : D jdk_42_method_66_code 22 (.ifCond .eq 14) 3 25 := And.intro (by decide +kernel) rfl
theorem d_jdk_42_66_25 : D jdk_42_method_66_code 25 (.aload_n 0) 1 26 := And.intro (by decide +kernel) rfl
theorem d_jdk_42_66_26 : D jdk_42_method_66_code 26 (.getfield 15) 3 29 := And.intro (by decide +kernel) rfl
theorem d_jdk_42_66_29 : D jdk_42_method_66_code 29 (.aload_n 2) 1 30 := And.intro (by decide +kernel) rfl
theorem d_jdk_42_66_30 : D jdk_42_method_66_code 30 (.getfield 15) 3 33 := And.intro (by decide +kernel) rfl
theorem d_jdk_42_66_33 : D jdk_42_method_66_code 33 (.if_icmp .ne 21) 3 36 := And.intro (by decide +kernel) rfl
theorem d_jdk_42_66_36 : D jdk_42_method_66_code 36 (.aload_n 0) 1 37 := And.intro (by decide +kernel) rfl
theorem d_jdk_42_66_37 : D jdk_42_method_66_code 37 (.getfield 9) 3 40 := And.intro (by decide +kernel) rfl
theorem d_jdk_42_66_40 : D jdk_42_method_66_code 40 (.aload_n 2) 1 41 := And.intro (by decide +kernel) rfl
theorem d_jdk_42_66_41 : D jdk_42_method_66_code 41 (.getfield 9) 3 44 := And.intro (by decide +kernel) rfl
theorem d_jdk_42_66_44 : D jdk_42_method_66_code 44 (.invokestatic 541) 3 47 := And.intro (by decide +kernel) rfl
theorem pd4 : parseMethodDescriptor "([B[B)Z" = some ⟨[(.array .byte), (.array .byte)], some .boolean⟩ := by decide +kernel
theorem d_jdk_42_66_47 : D jdk_42_method_66_code 47 (.ifCond .eq 7) 3 50 := And.intro (by decide +kernel) rfl
theorem d_jdk_42_66_50 : D jdk_42_method_66_code 50 (.iconst 1) 1 51 := And.intro (by decide +kernel) rfl
theorem d_jdk_42_66_51 : D jdk_42_method_66_code 51 (.goto 4) 3 54 := And.intro (by decide +kernel) rfl
theorem d_jdk_42_66_55 : D jdk_42_method_66_code 55 (.ireturn) 1 56 := And.intro (by decide +kernel) rfl
theorem d_jdk_42_66_54 : D jdk_42_method_66_code 54 (.iconst 0) 1 55 := And.intro (by decide +kernel) rfl
theorem d_jdk_42_66_5 : D jdk_42_method_66_code 5 (.iconst 1) 1 6 := And.intro (by decide +kernel) rfl
theorem d_jdk_42_66_6 : D jdk_42_method_66_code 6 (.ireturn) 1 7 := And.intro (by decide +kernel) rfl
theorem d_prog_7_1_0 : D prog_7_method_1_code 0 (.getstatic 16) 3 3 := And.intro (by decide +kernel) rfl
theorem d_prog_7_1_3 : D prog_7_method_1_code 3 (.invokevirtual 20) 3 6 := And.intro (by decide +kernel) rfl
theorem d_prog_7_1_6 : D prog_7_method_1_code 6 (.checkcast 21) 3 9 := And.intro (by decide +kernel) rfl
theorem d_prog_7_1_9 : D prog_7_method_1_code 9 (.areturn) 1 10 := And.intro (by decide +kernel) rfl
theorem pn3 : plainName "com/example/proofs_for_datalog/proofsfordatalog/input/ProofFormat" = true := by first | (simp [plainName, overriddenIn]; done) | decide +kernel
theorem d_prog_7_5_0 : D prog_7_method_5_code 0 (.invokestatic 45) 3 3 := And.intro (by decide +kernel) rfl
theorem pd5 : parseMethodDescriptor "()[Lcom/example/proofs_for_datalog/proofsfordatalog/input/ProofFormat;" = some ⟨[], some (.array (.object "com/example/proofs_for_datalog/proofsfordatalog/input/ProofFormat"))⟩ := by decide +kernel
theorem d_prog_7_5_3 : D prog_7_method_5_code 3 (.astore_n 1) 1 4 := And.intro (by decide +kernel) rfl
theorem d_prog_7_5_4 : D prog_7_method_5_code 4 (.aload_n 1) 1 5 := And.intro (by decide +kernel) rfl
theorem d_prog_7_5_5 : D prog_7_method_5_code 5 (.arraylength) 1 6 := And.intro (by decide +kernel) rfl
theorem d_prog_7_5_6 : D prog_7_method_5_code 6 (.istore_n 2) 1 7 := And.intro (by decide +kernel) rfl
theorem d_prog_7_5_7 : D prog_7_method_5_code 7 (.iconst 0) 1 8 := And.intro (by decide +kernel) rfl
theorem d_prog_7_5_8 : D prog_7_method_5_code 8 (.istore_n 3) 1 9 := And.intro (by decide +kernel) rfl
theorem d_prog_7_5_9 : D prog_7_method_5_code 9 (.iload_n 3) 1 10 := And.intro (by decide +kernel) rfl
theorem d_prog_7_5_10 : D prog_7_method_5_code 10 (.iload_n 2) 1 11 := And.intro (by decide +kernel) rfl
theorem d_prog_7_5_11 : D prog_7_method_5_code 11 (.if_icmp .ge 29) 3 14 := And.intro (by decide +kernel) rfl
theorem d_prog_7_5_14 : D prog_7_method_5_code 14 (.aload_n 1) 1 15 := And.intro (by decide +kernel) rfl
theorem d_prog_7_5_15 : D prog_7_method_5_code 15 (.iload_n 3) 1 16 := And.intro (by decide +kernel) rfl
theorem d_prog_7_5_16 : D prog_7_method_5_code 16 (.aaload) 1 17 := And.intro (by decide +kernel) rfl
theorem d_prog_7_5_17 : D prog_7_method_5_code 17 (.astore 4) 2 19 := And.intro (by decide +kernel) rfl
theorem d_prog_7_5_19 : D prog_7_method_5_code 19 (.aload 4) 2 21 := And.intro (by decide +kernel) rfl
theorem d_prog_7_5_21 : D prog_7_method_5_code 21 (.getfield 35) 3 24 := And.intro (by decide +kernel) rfl
theorem d_prog_7_5_24 : D prog_7_method_5_code 24 (.aload_n 0) 1 25 := And.intro (by decide +kernel) rfl
theorem d_prog_7_5_25 : D prog_7_method_5_code 25 (.invokevirtual 49) 3 28 := And.intro (by decide +kernel) rfl
theorem pd6 : parseMethodDescriptor "(Ljava/lang/Object;)Z" = some ⟨[(.object "java/lang/Object")], some .boolean⟩ := by decide +kernel
theorem d_prog_7_5_28 : D prog_7_method_5_code 28 (.ifCond .eq 6) 3 31 := And.intro (by decide +kernel) rfl
theorem d_prog_7_5_31 : D prog_7_method_5_code 31 (.aload 4) 2 33 := And.intro (by decide +kernel) rfl
theorem d_prog_7_5_33 : D prog_7_method_5_code 33 (.areturn) 1 34 := And.intro (by decide +kernel) rfl
theorem d_prog_7_5_34 : D prog_7_method_5_code 34 (.iinc 3 1) 3 37 := And.intro (by decide +kernel) rfl
theorem d_prog_7_5_37 : D prog_7_method_5_code 37 (.goto (-28)) 3 40 := And.intro (by decide +kernel) rfl
theorem d_prog_7_5_40 : D prog_7_method_5_code 40 (.aconst_null) 1 41 := And.intro (by decide +kernel) rfl
theorem d_prog_7_5_41 : D prog_7_method_5_code 41 (.areturn) 1 42 := And.intro (by decide +kernel) rfl
theorem d_method_3_0 : D method_3_code 0 (.aload_n 0) 1 1 := And.intro (by decide +kernel) rfl
theorem d_method_3_1 : D method_3_code 1 (.ifnonnull 5) 3 4 := And.intro (by decide +kernel) rfl
theorem d_method_3_6 : D method_3_code 6 (.aload_n 0) 1 7 := And.intro (by decide +kernel) rfl
theorem d_method_3_7 : D method_3_code 7 (.ldc 39) 2 9 := And.intro (by decide +kernel) rfl
theorem d_method_3_9 : D method_3_code 9 (.invokevirtual 41) 3 12 := And.intro (by decide +kernel) rfl
theorem d_method_3_12 : D method_3_code 12 (.ifCond .eq 7) 3 15 := And.intro (by decide +kernel) rfl
theorem d_method_3_15 : D method_3_code 15 (.getstatic 45) 3 18 := And.intro (by decide +kernel) rfl
theorem d_method_3_18 : D method_3_code 18 (.areturn) 1 19 := And.intro (by decide +kernel) rfl
theorem d_method_3_19 : D method_3_code 19 (.aload_n 0) 1 20 := And.intro (by decide +kernel) rfl
theorem d_method_3_20 : D method_3_code 20 (.ldc 49) 2 22 := And.intro (by decide +kernel) rfl
theorem d_method_3_22 : D method_3_code 22 (.invokevirtual 41) 3 25 := And.intro (by decide +kernel) rfl
theorem d_method_3_25 : D method_3_code 25 (.ifCond .eq 7) 3 28 := And.intro (by decide +kernel) rfl
theorem d_method_3_28 : D method_3_code 28 (.getstatic 51) 3 31 := And.intro (by decide +kernel) rfl
theorem d_method_3_31 : D method_3_code 31 (.areturn) 1 32 := And.intro (by decide +kernel) rfl
theorem d_method_3_32 : D method_3_code 32 (.aload_n 0) 1 33 := And.intro (by decide +kernel) rfl
theorem d_method_3_33 : D method_3_code 33 (.ldc 54) 2 35 := And.intro (by decide +kernel) rfl
theorem d_method_3_35 : D method_3_code 35 (.invokevirtual 41) 3 38 := And.intro (by decide +kernel) rfl
theorem d_method_3_38 : D method_3_code 38 (.ifCond .eq 7) 3 41 := And.intro (by decide +kernel) rfl
theorem d_method_3_41 : D method_3_code 41 (.getstatic 56) 3 44 := And.intro (by decide +kernel) rfl
theorem d_method_3_44 : D method_3_code 44 (.areturn) 1 45 := And.intro (by decide +kernel) rfl
theorem d_method_3_45 : D method_3_code 45 (.aload_n 0) 1 46 := And.intro (by decide +kernel) rfl
theorem d_method_3_46 : D method_3_code 46 (.ldc 59) 2 48 := And.intro (by decide +kernel) rfl
theorem d_method_3_48 : D method_3_code 48 (.invokevirtual 41) 3 51 := And.intro (by decide +kernel) rfl
theorem d_method_3_51 : D method_3_code 51 (.ifCond .eq 7) 3 54 := And.intro (by decide +kernel) rfl
theorem d_method_3_54 : D method_3_code 54 (.getstatic 61) 3 57 := And.intro (by decide +kernel) rfl
theorem d_method_3_57 : D method_3_code 57 (.areturn) 1 58 := And.intro (by decide +kernel) rfl
theorem d_method_3_58 : D method_3_code 58 (.aconst_null) 1 59 := And.intro (by decide +kernel) rfl
theorem d_method_3_59 : D method_3_code 59 (.areturn) 1 60 := And.intro (by decide +kernel) rfl
theorem pn4 : plainName "com/example/proofs_for_datalog/proofsfordatalog/input/ProofFormatNamedPinLaw" = true := by first | (simp [plainName, overriddenIn]; done) | decide +kernel
theorem d_method_3_4 : D method_3_code 4 (.aconst_null) 1 5 := And.intro (by decide +kernel) rfl
theorem d_method_3_5 : D method_3_code 5 (.areturn) 1 6 := And.intro (by decide +kernel) rfl
theorem d_method_4_0 : D method_4_code 0 (.iload_n 0) 1 1 := And.intro (by decide +kernel) rfl
theorem d_method_4_1 : D method_4_code 1 (.ifCond .ne 27) 3 4 := And.intro (by decide +kernel) rfl
theorem d_method_4_28 : D method_4_code 28 (.iload_n 0) 1 29 := And.intro (by decide +kernel) rfl
theorem d_method_4_29 : D method_4_code 29 (.iconst 1) 1 30 := And.intro (by decide +kernel) rfl
theorem d_method_4_30 : D method_4_code 30 (.if_icmp .ne 32) 3 33 := And.intro (by decide +kernel) rfl
theorem d_method_4_62 : D method_4_code 62 (.iload_n 0) 1 63 := And.intro (by decide +kernel) rfl
theorem d_method_4_63 : D method_4_code 63 (.iconst 2) 1 64 := And.intro (by decide +kernel) rfl
theorem d_method_4_64 : D method_4_code 64 (.if_icmp .ne 80) 3 67 := And.intro (by decide +kernel) rfl
theorem d_method_4_144 : D method_4_code 144 (.bipush 10) 2 146 := And.intro (by decide +kernel) rfl
theorem d_method_4_146 : D method_4_code 146 (.newarray .char) 2 148 := And.intro (by decide +kernel) rfl
theorem d_method_4_148 : D method_4_code 148 (.dup) 1 149 := And.intro (by decide +kernel) rfl
theorem d_method_4_149 : D method_4_code 149 (.iconst 0) 1 150 := And.intro (by decide +kernel) rfl
theorem d_method_4_150 : D method_4_code 150 (.bipush 110) 2 152 := And.intro (by decide +kernel) rfl
theorem d_method_4_152 : D method_4_code 152 (.castore) 1 153 := And.intro (by decide +kernel) rfl
theorem d_method_4_153 : D method_4_code 153 (.dup) 1 154 := And.intro (by decide +kernel) rfl
theorem d_method_4_154 : D method_4_code 154 (.iconst 1) 1 155 := And.intro (by decide +kernel) rfl
theorem d_method_4_155 : D method_4_code 155 (.bipush 101) 2 157 := And.intro (by decide +kernel) rfl
theorem d_method_4_157 : D method_4_code 157 (.castore) 1 158 := And.intro (by decide +kernel) rfl
theorem d_method_4_158 : D method_4_code 158 (.dup) 1 159 := And.intro (by decide +kernel) rfl
theorem d_method_4_159 : D method_4_code 159 (.iconst 2) 1 160 := And.intro (by decide +kernel) rfl
theorem d_method_4_160 : D method_4_code 160 (.bipush 109) 2 162 := And.intro (by decide +kernel) rfl
theorem d_method_4_162 : D method_4_code 162 (.castore) 1 163 := And.intro (by decide +kernel) rfl
theorem d_method_4_163 : D method_4_code 163 (.dup) 1 164 := And.intro (by decide +kernel) rfl
theorem d_method_4_164 : D method_4_code 164 (.iconst 3) 1 165 := And.intro (by decide +kernel) rfl
theorem d_method_4_165 : D method_4_code 165 (.bipush 111) 2 167 := And.intro (by decide +kernel) rfl
theorem d_method_4_167 : D method_4_code 167 (.castore) 1 168 := And.intro (by decide +kernel) rfl
theorem d_method_4_168 : D method_4_code 168 (.dup) 1 169 := And.intro (by decide +kernel) rfl
theorem d_method_4_169 : D method_4_code 169 (.iconst 4) 1 170 := And.intro (by decide +kernel) rfl
theorem d_method_4_170 : D method_4_code 170 (.bipush 45) 2 172 := And.intro (by decide +kernel) rfl
theorem d_method_4_172 : D method_4_code 172 (.castore) 1 173 := And.intro (by decide +kernel) rfl
theorem d_method_4_173 : D method_4_code 173 (.dup) 1 174 := And.intro (by decide +kernel) rfl
theorem d_method_4_174 : D method_4_code 174 (.iconst 5) 1 175 := And.intro (by decide +kernel) rfl
theorem d_method_4_175 : D method_4_code 175 (.bipush 116) 2 177 := And.intro (by decide +kernel) rfl
theorem d_method_4_177 : D method_4_code 177 (.castore) 1 178 := And.intro (by decide +kernel) rfl
theorem d_method_4_178 : D method_4_code 178 (.dup) 1 179 := And.intro (by decide +kernel) rfl
theorem d_method_4_179 : D method_4_code 179 (.bipush 6) 2 181 := And.intro (by decide +kernel) rfl
theorem d_method_4_181 : D method_4_code 181 (.bipush 114) 2 183 := And.intro (by decide +kernel) rfl
theorem d_method_4_183 : D method_4_code 183 (.castore) 1 184 := And.intro (by decide +kernel) rfl
theorem d_method_4_184 : D method_4_code 184 (.dup) 1 185 := And.intro (by decide +kernel) rfl
theorem d_method_4_185 : D method_4_code 185 (.bipush 7) 2 187 := And.intro (by decide +kernel) rfl
theorem d_method_4_187 : D method_4_code 187 (.bipush 97) 2 189 := And.intro (by decide +kernel) rfl
theorem d_method_4_189 : D method_4_code 189 (.castore) 1 190 := And.intro (by decide +kernel) rfl
theorem d_method_4_190 : D method_4_code 190 (.dup) 1 191 := And.intro (by decide +kernel) rfl
theorem d_method_4_191 : D method_4_code 191 (.bipush 8) 2 193 := And.intro (by decide +kernel) rfl
theorem d_method_4_193 : D method_4_code 193 (.bipush 99) 2 195 := And.intro (by decide +kernel) rfl
theorem d_method_4_195 : D method_4_code 195 (.castore) 1 196 := And.intro (by decide +kernel) rfl
theorem d_method_4_196 : D method_4_code 196 (.dup) 1 197 := And.intro (by decide +kernel) rfl
theorem d_method_4_197 : D method_4_code 197 (.bipush 9) 2 199 := And.intro (by decide +kernel) rfl
theorem d_method_4_199 : D method_4_code 199 (.bipush 101) 2 201 := And.intro (by decide +kernel) rfl
theorem d_method_4_201 : D method_4_code 201 (.castore) 1 202 := And.intro (by decide +kernel) rfl
theorem d_method_4_202 : D method_4_code 202 (.areturn) 1 203 := And.intro (by decide +kernel) rfl
theorem d_method_4_67 : D method_4_code 67 (.bipush 13) 2 69 := And.intro (by decide +kernel) rfl
theorem d_method_4_69 : D method_4_code 69 (.newarray .char) 2 71 := And.intro (by decide +kernel) rfl
theorem d_method_4_71 : D method_4_code 71 (.dup) 1 72 := And.intro (by decide +kernel) rfl
theorem d_method_4_72 : D method_4_code 72 (.iconst 0) 1 73 := And.intro (by decide +kernel) rfl
theorem d_method_4_73 : D method_4_code 73 (.bipush 111) 2 75 := And.intro (by decide +kernel) rfl
theorem d_method_4_75 : D method_4_code 75 (.castore) 1 76 := And.intro (by decide +kernel) rfl
theorem d_method_4_76 : D method_4_code 76 (.dup) 1 77 := And.intro (by decide +kernel) rfl
theorem d_method_4_77 : D method_4_code 77 (.iconst 1) 1 78 := And.intro (by decide +kernel) rfl
theorem d_method_4_78 : D method_4_code 78 (.bipush 114) 2 80 := And.intro (by decide +kernel) rfl
theorem d_method_4_80 : D method_4_code 80 (.castore) 1 81 := And.intro (by decide +kernel) rfl
theorem d_method_4_81 : D method_4_code 81 (.dup) 1 82 := And.intro (by decide +kernel) rfl
theorem d_method_4_82 : D method_4_code 82 (.iconst 2) 1 83 := And.intro (by decide +kernel) rfl
theorem d_method_4_83 : D method_4_code 83 (.bipush 100) 2 85 := And.intro (by decide +kernel) rfl
theorem d_method_4_85 : D method_4_code 85 (.castore) 1 86 := And.intro (by decide +kernel) rfl
theorem d_method_4_86 : D method_4_code 86 (.dup) 1 87 := And.intro (by decide +kernel) rfl
theorem d_method_4_87 : D method_4_code 87 (.iconst 3) 1 88 := And.intro (by decide +kernel) rfl
theorem d_method_4_88 : D method_4_code 88 (.bipush 101) 2 90 := And.intro (by decide +kernel) rfl
theorem d_method_4_90 : D method_4_code 90 (.castore) 1 91 := And.intro (by decide +kernel) rfl
theorem d_method_4_91 : D method_4_code 91 (.dup) 1 92 := And.intro (by decide +kernel) rfl
theorem d_method_4_92 : D method_4_code 92 (.iconst 4) 1 93 := And.intro (by decide +kernel) rfl
theorem d_method_4_93 : D method_4_code 93 (.bipush 114) 2 95 := And.intro (by decide +kernel) rfl
theorem d_method_4_95 : D method_4_code 95 (.castore) 1 96 := And.intro (by decide +kernel) rfl
theorem d_method_4_96 : D method_4_code 96 (.dup) 1 97 := And.intro (by decide +kernel) rfl
theorem d_method_4_97 : D method_4_code 97 (.iconst 5) 1 98 := And.intro (by decide +kernel) rfl
theorem d_method_4_98 : D method_4_code 98 (.bipush 101) 2 100 := And.intro (by decide +kernel) rfl
theorem d_method_4_100 : D method_4_code 100 (.castore) 1 101 := And.intro (by decide +kernel) rfl
theorem d_method_4_101 : D method_4_code 101 (.dup) 1 102 := And.intro (by decide +kernel) rfl
theorem d_method_4_102 : D method_4_code 102 (.bipush 6) 2 104 := And.intro (by decide +kernel) rfl
theorem d_method_4_104 : D method_4_code 104 (.bipush 100) 2 106 := And.intro (by decide +kernel) rfl
theorem d_method_4_106 : D method_4_code 106 (.castore) 1 107 := And.intro (by decide +kernel) rfl
theorem d_method_4_107 : D method_4_code 107 (.dup) 1 108 := And.intro (by decide +kernel) rfl
theorem d_method_4_108 : D method_4_code 108 (.bipush 7) 2 110 := And.intro (by decide +kernel) rfl
theorem d_method_4_110 : D method_4_code 110 (.bipush 45) 2 112 := And.intro (by decide +kernel) rfl
theorem d_method_4_112 : D method_4_code 112 (.castore) 1 113 := And.intro (by decide +kernel) rfl
theorem d_method_4_113 : D method_4_code 113 (.dup) 1 114 := And.intro (by decide +kernel) rfl
theorem d_method_4_114 : D method_4_code 114 (.bipush 8) 2 116 := And.intro (by decide +kernel) rfl
theorem d_method_4_116 : D method_4_code 116 (.bipush 103) 2 118 := And.intro (by decide +kernel) rfl
theorem d_method_4_118 : D method_4_code 118 (.castore) 1 119 := And.intro (by decide +kernel) rfl
theorem d_method_4_119 : D method_4_code 119 (.dup) 1 120 := And.intro (by decide +kernel) rfl
theorem d_method_4_120 : D method_4_code 120 (.bipush 9) 2 122 := And.intro (by decide +kernel) rfl
theorem d_method_4_122 : D method_4_code 122 (.bipush 114) 2 124 := And.intro (by decide +kernel) rfl
theorem d_method_4_124 : D method_4_code 124 (.castore) 1 125 := And.intro (by decide +kernel) rfl
theorem d_method_4_125 : D method_4_code 125 (.dup) 1 126 := And.intro (by decide +kernel) rfl
theorem d_method_4_126 : D method_4_code 126 (.bipush 10) 2 128 := And.intro (by decide +kernel) rfl
theorem d_method_4_128 : D method_4_code 128 (.bipush 97) 2 130 := And.intro (by decide +kernel) rfl
theorem d_method_4_130 : D method_4_code 130 (.castore) 1 131 := And.intro (by decide +kernel) rfl
theorem d_method_4_131 : D method_4_code 131 (.dup) 1 132 := And.intro (by decide +kernel) rfl
theorem d_method_4_132 : D method_4_code 132 (.bipush 11) 2 134 := And.intro (by decide +kernel) rfl
theorem d_method_4_134 : D method_4_code 134 (.bipush 112) 2 136 := And.intro (by decide +kernel) rfl
theorem d_method_4_136 : D method_4_code 136 (.castore) 1 137 := And.intro (by decide +kernel) rfl
theorem d_method_4_137 : D method_4_code 137 (.dup) 1 138 := And.intro (by decide +kernel) rfl
theorem d_method_4_138 : D method_4_code 138 (.bipush 12) 2 140 := And.intro (by decide +kernel) rfl
theorem d_method_4_140 : D method_4_code 140 (.bipush 104) 2 142 := And.intro (by decide +kernel) rfl
theorem d_method_4_142 : D method_4_code 142 (.castore) 1 143 := And.intro (by decide +kernel) rfl
theorem d_method_4_143 : D method_4_code 143 (.areturn) 1 144 := And.intro (by decide +kernel) rfl
theorem d_method_4_33 : D method_4_code 33 (.iconst 5) 1 34 := And.intro (by decide +kernel) rfl
theorem d_method_4_34 : D method_4_code 34 (.newarray .char) 2 36 := And.intro (by decide +kernel) rfl
theorem d_method_4_36 : D method_4_code 36 (.dup) 1 37 := And.intro (by decide +kernel) rfl
theorem d_method_4_37 : D method_4_code 37 (.iconst 0) 1 38 := And.intro (by decide +kernel) rfl
theorem d_method_4_38 : D method_4_code 38 (.bipush 103) 2 40 := And.intro (by decide +kernel) rfl
theorem d_method_4_40 : D method_4_code 40 (.castore) 1 41 := And.intro (by decide +kernel) rfl
theorem d_method_4_41 : D method_4_code 41 (.dup) 1 42 := And.intro (by decide +kernel) rfl
theorem d_method_4_42 : D method_4_code 42 (.iconst 1) 1 43 := And.intro (by decide +kernel) rfl
theorem d_method_4_43 : D method_4_code 43 (.bipush 114) 2 45 := And.intro (by decide +kernel) rfl
theorem d_method_4_45 : D method_4_code 45 (.castore) 1 46 := And.intro (by decide +kernel) rfl
theorem d_method_4_46 : D method_4_code 46 (.dup) 1 47 := And.intro (by decide +kernel) rfl
theorem d_method_4_47 : D method_4_code 47 (.iconst 2) 1 48 := And.intro (by decide +kernel) rfl
theorem d_method_4_48 : D method_4_code 48 (.bipush 97) 2 50 := And.intro (by decide +kernel) rfl
theorem d_method_4_50 : D method_4_code 50 (.castore) 1 51 := And.intro (by decide +kernel) rfl
theorem d_method_4_51 : D method_4_code 51 (.dup) 1 52 := And.intro (by decide +kernel) rfl
theorem d_method_4_52 : D method_4_code 52 (.iconst 3) 1 53 := And.intro (by decide +kernel) rfl
theorem d_method_4_53 : D method_4_code 53 (.bipush 112) 2 55 := And.intro (by decide +kernel) rfl
theorem d_method_4_55 : D method_4_code 55 (.castore) 1 56 := And.intro (by decide +kernel) rfl
theorem d_method_4_56 : D method_4_code 56 (.dup) 1 57 := And.intro (by decide +kernel) rfl
theorem d_method_4_57 : D method_4_code 57 (.iconst 4) 1 58 := And.intro (by decide +kernel) rfl
theorem d_method_4_58 : D method_4_code 58 (.bipush 104) 2 60 := And.intro (by decide +kernel) rfl
theorem d_method_4_60 : D method_4_code 60 (.castore) 1 61 := And.intro (by decide +kernel) rfl
theorem d_method_4_61 : D method_4_code 61 (.areturn) 1 62 := And.intro (by decide +kernel) rfl
theorem d_method_4_4 : D method_4_code 4 (.iconst 4) 1 5 := And.intro (by decide +kernel) rfl
theorem d_method_4_5 : D method_4_code 5 (.newarray .char) 2 7 := And.intro (by decide +kernel) rfl
theorem d_method_4_7 : D method_4_code 7 (.dup) 1 8 := And.intro (by decide +kernel) rfl
theorem d_method_4_8 : D method_4_code 8 (.iconst 0) 1 9 := And.intro (by decide +kernel) rfl
theorem d_method_4_9 : D method_4_code 9 (.bipush 116) 2 11 := And.intro (by decide +kernel) rfl
theorem d_method_4_11 : D method_4_code 11 (.castore) 1 12 := And.intro (by decide +kernel) rfl
theorem d_method_4_12 : D method_4_code 12 (.dup) 1 13 := And.intro (by decide +kernel) rfl
theorem d_method_4_13 : D method_4_code 13 (.iconst 1) 1 14 := And.intro (by decide +kernel) rfl
theorem d_method_4_14 : D method_4_code 14 (.bipush 114) 2 16 := And.intro (by decide +kernel) rfl
theorem d_method_4_16 : D method_4_code 16 (.castore) 1 17 := And.intro (by decide +kernel) rfl
theorem d_method_4_17 : D method_4_code 17 (.dup) 1 18 := And.intro (by decide +kernel) rfl
theorem d_method_4_18 : D method_4_code 18 (.iconst 2) 1 19 := And.intro (by decide +kernel) rfl
theorem d_method_4_19 : D method_4_code 19 (.bipush 101) 2 21 := And.intro (by decide +kernel) rfl
theorem d_method_4_21 : D method_4_code 21 (.castore) 1 22 := And.intro (by decide +kernel) rfl
theorem d_method_4_22 : D method_4_code 22 (.dup) 1 23 := And.intro (by decide +kernel) rfl
theorem d_method_4_23 : D method_4_code 23 (.iconst 3) 1 24 := And.intro (by decide +kernel) rfl
theorem d_method_4_24 : D method_4_code 24 (.bipush 101) 2 26 := And.intro (by decide +kernel) rfl
theorem d_method_4_26 : D method_4_code 26 (.castore) 1 27 := And.intro (by decide +kernel) rfl
theorem d_method_4_27 : D method_4_code 27 (.areturn) 1 28 := And.intro (by decide +kernel) rfl
theorem d_method_5_0 : D method_5_code 0 (.iload_n 0) 1 1 := And.intro (by decide +kernel) rfl
theorem d_method_5_1 : D method_5_code 1 (.ifCond .ne 31) 3 4 := And.intro (by decide +kernel) rfl
theorem d_method_5_32 : D method_5_code 32 (.iload_n 0) 1 33 := And.intro (by decide +kernel) rfl
theorem d_method_5_33 : D method_5_code 33 (.iconst 1) 1 34 := And.intro (by decide +kernel) rfl
theorem d_method_5_34 : D method_5_code 34 (.if_icmp .ne 37) 3 37 := And.intro (by decide +kernel) rfl
theorem d_method_5_71 : D method_5_code 71 (.iload_n 0) 1 72 := And.intro (by decide +kernel) rfl
theorem d_method_5_72 : D method_5_code 72 (.iconst 2) 1 73 := And.intro (by decide +kernel) rfl
theorem d_method_5_73 : D method_5_code 73 (.if_icmp .ne 85) 3 76 := And.intro (by decide +kernel) rfl
theorem d_method_5_158 : D method_5_code 158 (.bipush 11) 2 160 := And.intro (by decide +kernel) rfl
theorem d_method_5_160 : D method_5_code 160 (.newarray .char) 2 162 := And.intro (by decide +kernel) rfl
theorem d_method_5_162 : D method_5_code 162 (.dup) 1 163 := And.intro (by decide +kernel) rfl
theorem d_method_5_163 : D method_5_code 163 (.iconst 0) 1 164 := And.intro (by decide +kernel) rfl
theorem d_method_5_164 : D method_5_code 164 (.bipush 110) 2 166 := And.intro (by decide +kernel) rfl
theorem d_method_5_166 : D method_5_code 166 (.castore) 1 167 := And.intro (by decide +kernel) rfl
theorem d_method_5_167 : D method_5_code 167 (.dup) 1 168 := And.intro (by decide +kernel) rfl
theorem d_method_5_168 : D method_5_code 168 (.iconst 1) 1 169 := And.intro (by decide +kernel) rfl
theorem d_method_5_169 : D method_5_code 169 (.bipush 101) 2 171 := And.intro (by decide +kernel) rfl
theorem d_method_5_171 : D method_5_code 171 (.castore) 1 172 := And.intro (by decide +kernel) rfl
theorem d_method_5_172 : D method_5_code 172 (.dup) 1 173 := And.intro (by decide +kernel) rfl
theorem d_method_5_173 : D method_5_code 173 (.iconst 2) 1 174 := And.intro (by decide +kernel) rfl
theorem d_method_5_174 : D method_5_code 174 (.bipush 109) 2 176 := And.intro (by decide +kernel) rfl
theorem d_method_5_176 : D method_5_code 176 (.castore) 1 177 := And.intro (by decide +kernel) rfl
theorem d_method_5_177 : D method_5_code 177 (.dup) 1 178 := And.intro (by decide +kernel) rfl
theorem d_method_5_178 : D method_5_code 178 (.iconst 3) 1 179 := And.intro (by decide +kernel) rfl
theorem d_method_5_179 : D method_5_code 179 (.bipush 111) 2 181 := And.intro (by decide +kernel) rfl
theorem d_method_5_181 : D method_5_code 181 (.castore) 1 182 := And.intro (by decide +kernel) rfl
theorem d_method_5_182 : D method_5_code 182 (.dup) 1 183 := And.intro (by decide +kernel) rfl
theorem d_method_5_183 : D method_5_code 183 (.iconst 4) 1 184 := And.intro (by decide +kernel) rfl
theorem d_method_5_184 : D method_5_code 184 (.bipush 45) 2 186 := And.intro (by decide +kernel) rfl
theorem d_method_5_186 : D method_5_code 186 (.castore) 1 187 := And.intro (by decide +kernel) rfl
theorem d_method_5_187 : D method_5_code 187 (.dup) 1 188 := And.intro (by decide +kernel) rfl
theorem d_method_5_188 : D method_5_code 188 (.iconst 5) 1 189 := And.intro (by decide +kernel) rfl
theorem d_method_5_189 : D method_5_code 189 (.bipush 116) 2 191 := And.intro (by decide +kernel) rfl
theorem d_method_5_191 : D method_5_code 191 (.castore) 1 192 := And.intro (by decide +kernel) rfl
theorem d_method_5_192 : D method_5_code 192 (.dup) 1 193 := And.intro (by decide +kernel) rfl
theorem d_method_5_193 : D method_5_code 193 (.bipush 6) 2 195 := And.intro (by decide +kernel) rfl
theorem d_method_5_195 : D method_5_code 195 (.bipush 114) 2 197 := And.intro (by decide +kernel) rfl
theorem d_method_5_197 : D method_5_code 197 (.castore) 1 198 := And.intro (by decide +kernel) rfl
theorem d_method_5_198 : D method_5_code 198 (.dup) 1 199 := And.intro (by decide +kernel) rfl
theorem d_method_5_199 : D method_5_code 199 (.bipush 7) 2 201 := And.intro (by decide +kernel) rfl
theorem d_method_5_201 : D method_5_code 201 (.bipush 97) 2 203 := And.intro (by decide +kernel) rfl
theorem d_method_5_203 : D method_5_code 203 (.castore) 1 204 := And.intro (by decide +kernel) rfl
theorem d_method_5_204 : D method_5_code 204 (.dup) 1 205 := And.intro (by decide +kernel) rfl
theorem d_method_5_205 : D method_5_code 205 (.bipush 8) 2 207 := And.intro (by decide +kernel) rfl
theorem d_method_5_207 : D method_5_code 207 (.bipush 99) 2 209 := And.intro (by decide +kernel) rfl
theorem d_method_5_209 : D method_5_code 209 (.castore) 1 210 := And.intro (by decide +kernel) rfl
theorem d_method_5_210 : D method_5_code 210 (.dup) 1 211 := And.intro (by decide +kernel) rfl
theorem d_method_5_211 : D method_5_code 211 (.bipush 9) 2 213 := And.intro (by decide +kernel) rfl
theorem d_method_5_213 : D method_5_code 213 (.bipush 101) 2 215 := And.intro (by decide +kernel) rfl
theorem d_method_5_215 : D method_5_code 215 (.castore) 1 216 := And.intro (by decide +kernel) rfl
theorem d_method_5_216 : D method_5_code 216 (.dup) 1 217 := And.intro (by decide +kernel) rfl
theorem d_method_5_217 : D method_5_code 217 (.bipush 10) 2 219 := And.intro (by decide +kernel) rfl
theorem d_method_5_219 : D method_5_code 219 (.iload_n 1) 1 220 := And.intro (by decide +kernel) rfl
theorem d_method_5_220 : D method_5_code 220 (.castore) 1 221 := And.intro (by decide +kernel) rfl
theorem d_method_5_221 : D method_5_code 221 (.areturn) 1 222 := And.intro (by decide +kernel) rfl
theorem d_method_5_76 : D method_5_code 76 (.bipush 14) 2 78 := And.intro (by decide +kernel) rfl
theorem d_method_5_78 : D method_5_code 78 (.newarray .char) 2 80 := And.intro (by decide +kernel) rfl
theorem d_method_5_80 : D method_5_code 80 (.dup) 1 81 := And.intro (by decide +kernel) rfl
theorem d_method_5_81 : D method_5_code 81 (.iconst 0) 1 82 := And.intro (by decide +kernel) rfl
theorem d_method_5_82 : D method_5_code 82 (.bipush 111) 2 84 := And.intro (by decide +kernel) rfl
theorem d_method_5_84 : D method_5_code 84 (.castore) 1 85 := And.intro (by decide +kernel) rfl
theorem d_method_5_85 : D method_5_code 85 (.dup) 1 86 := And.intro (by decide +kernel) rfl
theorem d_method_5_86 : D method_5_code 86 (.iconst 1) 1 87 := And.intro (by decide +kernel) rfl
theorem d_method_5_87 : D method_5_code 87 (.bipush 114) 2 89 := And.intro (by decide +kernel) rfl
theorem d_method_5_89 : D method_5_code 89 (.castore) 1 90 := And.intro (by decide +kernel) rfl
theorem d_method_5_90 : D method_5_code 90 (.dup) 1 91 := And.intro (by decide +kernel) rfl
theorem d_method_5_91 : D method_5_code 91 (.iconst 2) 1 92 := And.intro (by decide +kernel) rfl
theorem d_method_5_92 : D method_5_code 92 (.bipush 100) 2 94 := And.intro (by decide +kernel) rfl
theorem d_method_5_94 : D method_5_code 94 (.castore) 1 95 := And.intro (by decide +kernel) rfl
theorem d_method_5_95 : D method_5_code 95 (.dup) 1 96 := And.intro (by decide +kernel) rfl
theorem d_method_5_96 : D method_5_code 96 (.iconst 3) 1 97 := And.intro (by decide +kernel) rfl
theorem d_method_5_97 : D method_5_code 97 (.bipush 101) 2 99 := And.intro (by decide +kernel) rfl
theorem d_method_5_99 : D method_5_code 99 (.castore) 1 100 := And.intro (by decide +kernel) rfl
theorem d_method_5_100 : D method_5_code 100 (.dup) 1 101 := And.intro (by decide +kernel) rfl
theorem d_method_5_101 : D method_5_code 101 (.iconst 4) 1 102 := And.intro (by decide +kernel) rfl
theorem d_method_5_102 : D method_5_code 102 (.bipush 114) 2 104 := And.intro (by decide +kernel) rfl
theorem d_method_5_104 : D method_5_code 104 (.castore) 1 105 := And.intro (by decide +kernel) rfl
theorem d_method_5_105 : D method_5_code 105 (.dup) 1 106 := And.intro (by decide +kernel) rfl
theorem d_method_5_106 : D method_5_code 106 (.iconst 5) 1 107 := And.intro (by decide +kernel) rfl
theorem d_method_5_107 : D method_5_code 107 (.bipush 101) 2 109 := And.intro (by decide +kernel) rfl
theorem d_method_5_109 : D method_5_code 109 (.castore) 1 110 := And.intro (by decide +kernel) rfl
theorem d_method_5_110 : D method_5_code 110 (.dup) 1 111 := And.intro (by decide +kernel) rfl
theorem d_method_5_111 : D method_5_code 111 (.bipush 6) 2 113 := And.intro (by decide +kernel) rfl
theorem d_method_5_113 : D method_5_code 113 (.bipush 100) 2 115 := And.intro (by decide +kernel) rfl
theorem d_method_5_115 : D method_5_code 115 (.castore) 1 116 := And.intro (by decide +kernel) rfl
theorem d_method_5_116 : D method_5_code 116 (.dup) 1 117 := And.intro (by decide +kernel) rfl
theorem d_method_5_117 : D method_5_code 117 (.bipush 7) 2 119 := And.intro (by decide +kernel) rfl
theorem d_method_5_119 : D method_5_code 119 (.bipush 45) 2 121 := And.intro (by decide +kernel) rfl
theorem d_method_5_121 : D method_5_code 121 (.castore) 1 122 := And.intro (by decide +kernel) rfl
theorem d_method_5_122 : D method_5_code 122 (.dup) 1 123 := And.intro (by decide +kernel) rfl
theorem d_method_5_123 : D method_5_code 123 (.bipush 8) 2 125 := And.intro (by decide +kernel) rfl
theorem d_method_5_125 : D method_5_code 125 (.bipush 103) 2 127 := And.intro (by decide +kernel) rfl
theorem d_method_5_127 : D method_5_code 127 (.castore) 1 128 := And.intro (by decide +kernel) rfl
theorem d_method_5_128 : D method_5_code 128 (.dup) 1 129 := And.intro (by decide +kernel) rfl
theorem d_method_5_129 : D method_5_code 129 (.bipush 9) 2 131 := And.intro (by decide +kernel) rfl
theorem d_method_5_131 : D method_5_code 131 (.bipush 114) 2 133 := And.intro (by decide +kernel) rfl
theorem d_method_5_133 : D method_5_code 133 (.castore) 1 134 := And.intro (by decide +kernel) rfl
theorem d_method_5_134 : D method_5_code 134 (.dup) 1 135 := And.intro (by decide +kernel) rfl
theorem d_method_5_135 : D method_5_code 135 (.bipush 10) 2 137 := And.intro (by decide +kernel) rfl
theorem d_method_5_137 : D method_5_code 137 (.bipush 97) 2 139 := And.intro (by decide +kernel) rfl
theorem d_method_5_139 : D method_5_code 139 (.castore) 1 140 := And.intro (by decide +kernel) rfl
theorem d_method_5_140 : D method_5_code 140 (.dup) 1 141 := And.intro (by decide +kernel) rfl
theorem d_method_5_141 : D method_5_code 141 (.bipush 11) 2 143 := And.intro (by decide +kernel) rfl
theorem d_method_5_143 : D method_5_code 143 (.bipush 112) 2 145 := And.intro (by decide +kernel) rfl
theorem d_method_5_145 : D method_5_code 145 (.castore) 1 146 := And.intro (by decide +kernel) rfl
theorem d_method_5_146 : D method_5_code 146 (.dup) 1 147 := And.intro (by decide +kernel) rfl
theorem d_method_5_147 : D method_5_code 147 (.bipush 12) 2 149 := And.intro (by decide +kernel) rfl
theorem d_method_5_149 : D method_5_code 149 (.bipush 104) 2 151 := And.intro (by decide +kernel) rfl
theorem d_method_5_151 : D method_5_code 151 (.castore) 1 152 := And.intro (by decide +kernel) rfl
theorem d_method_5_152 : D method_5_code 152 (.dup) 1 153 := And.intro (by decide +kernel) rfl
theorem d_method_5_153 : D method_5_code 153 (.bipush 13) 2 155 := And.intro (by decide +kernel) rfl
theorem d_method_5_155 : D method_5_code 155 (.iload_n 1) 1 156 := And.intro (by decide +kernel) rfl
theorem d_method_5_156 : D method_5_code 156 (.castore) 1 157 := And.intro (by decide +kernel) rfl
theorem d_method_5_157 : D method_5_code 157 (.areturn) 1 158 := And.intro (by decide +kernel) rfl
theorem d_method_5_37 : D method_5_code 37 (.bipush 6) 2 39 := And.intro (by decide +kernel) rfl
theorem d_method_5_39 : D method_5_code 39 (.newarray .char) 2 41 := And.intro (by decide +kernel) rfl
theorem d_method_5_41 : D method_5_code 41 (.dup) 1 42 := And.intro (by decide +kernel) rfl
theorem d_method_5_42 : D method_5_code 42 (.iconst 0) 1 43 := And.intro (by decide +kernel) rfl
theorem d_method_5_43 : D method_5_code 43 (.bipush 103) 2 45 := And.intro (by decide +kernel) rfl
theorem d_method_5_45 : D method_5_code 45 (.castore) 1 46 := And.intro (by decide +kernel) rfl
theorem d_method_5_46 : D method_5_code 46 (.dup) 1 47 := And.intro (by decide +kernel) rfl
theorem d_method_5_47 : D method_5_code 47 (.iconst 1) 1 48 := And.intro (by decide +kernel) rfl
theorem d_method_5_48 : D method_5_code 48 (.bipush 114) 2 50 := And.intro (by decide +kernel) rfl
theorem d_method_5_50 : D method_5_code 50 (.castore) 1 51 := And.intro (by decide +kernel) rfl
theorem d_method_5_51 : D method_5_code 51 (.dup) 1 52 := And.intro (by decide +kernel) rfl
theorem d_method_5_52 : D method_5_code 52 (.iconst 2) 1 53 := And.intro (by decide +kernel) rfl
theorem d_method_5_53 : D method_5_code 53 (.bipush 97) 2 55 := And.intro (by decide +kernel) rfl
theorem d_method_5_55 : D method_5_code 55 (.castore) 1 56 := And.intro (by decide +kernel) rfl
theorem d_method_5_56 : D method_5_code 56 (.dup) 1 57 := And.intro (by decide +kernel) rfl
theorem d_method_5_57 : D method_5_code 57 (.iconst 3) 1 58 := And.intro (by decide +kernel) rfl
theorem d_method_5_58 : D method_5_code 58 (.bipush 112) 2 60 := And.intro (by decide +kernel) rfl
theorem d_method_5_60 : D method_5_code 60 (.castore) 1 61 := And.intro (by decide +kernel) rfl
theorem d_method_5_61 : D method_5_code 61 (.dup) 1 62 := And.intro (by decide +kernel) rfl
theorem d_method_5_62 : D method_5_code 62 (.iconst 4) 1 63 := And.intro (by decide +kernel) rfl
theorem d_method_5_63 : D method_5_code 63 (.bipush 104) 2 65 := And.intro (by decide +kernel) rfl
theorem d_method_5_65 : D method_5_code 65 (.castore) 1 66 := And.intro (by decide +kernel) rfl
theorem d_method_5_66 : D method_5_code 66 (.dup) 1 67 := And.intro (by decide +kernel) rfl
theorem d_method_5_67 : D method_5_code 67 (.iconst 5) 1 68 := And.intro (by decide +kernel) rfl
theorem d_method_5_68 : D method_5_code 68 (.iload_n 1) 1 69 := And.intro (by decide +kernel) rfl
theorem d_method_5_69 : D method_5_code 69 (.castore) 1 70 := And.intro (by decide +kernel) rfl
theorem d_method_5_70 : D method_5_code 70 (.areturn) 1 71 := And.intro (by decide +kernel) rfl
theorem d_method_5_4 : D method_5_code 4 (.iconst 5) 1 5 := And.intro (by decide +kernel) rfl
theorem d_method_5_5 : D method_5_code 5 (.newarray .char) 2 7 := And.intro (by decide +kernel) rfl
theorem d_method_5_7 : D method_5_code 7 (.dup) 1 8 := And.intro (by decide +kernel) rfl
theorem d_method_5_8 : D method_5_code 8 (.iconst 0) 1 9 := And.intro (by decide +kernel) rfl
theorem d_method_5_9 : D method_5_code 9 (.bipush 116) 2 11 := And.intro (by decide +kernel) rfl
theorem d_method_5_11 : D method_5_code 11 (.castore) 1 12 := And.intro (by decide +kernel) rfl
theorem d_method_5_12 : D method_5_code 12 (.dup) 1 13 := And.intro (by decide +kernel) rfl
theorem d_method_5_13 : D method_5_code 13 (.iconst 1) 1 14 := And.intro (by decide +kernel) rfl
theorem d_method_5_14 : D method_5_code 14 (.bipush 114) 2 16 := And.intro (by decide +kernel) rfl
theorem d_method_5_16 : D method_5_code 16 (.castore) 1 17 := And.intro (by decide +kernel) rfl
theorem d_method_5_17 : D method_5_code 17 (.dup) 1 18 := And.intro (by decide +kernel) rfl
theorem d_method_5_18 : D method_5_code 18 (.iconst 2) 1 19 := And.intro (by decide +kernel) rfl
theorem d_method_5_19 : D method_5_code 19 (.bipush 101) 2 21 := And.intro (by decide +kernel) rfl
theorem d_method_5_21 : D method_5_code 21 (.castore) 1 22 := And.intro (by decide +kernel) rfl
theorem d_method_5_22 : D method_5_code 22 (.dup) 1 23 := And.intro (by decide +kernel) rfl
theorem d_method_5_23 : D method_5_code 23 (.iconst 3) 1 24 := And.intro (by decide +kernel) rfl
theorem d_method_5_24 : D method_5_code 24 (.bipush 101) 2 26 := And.intro (by decide +kernel) rfl
theorem d_method_5_26 : D method_5_code 26 (.castore) 1 27 := And.intro (by decide +kernel) rfl
theorem d_method_5_27 : D method_5_code 27 (.dup) 1 28 := And.intro (by decide +kernel) rfl
theorem d_method_5_28 : D method_5_code 28 (.iconst 4) 1 29 := And.intro (by decide +kernel) rfl
theorem d_method_5_29 : D method_5_code 29 (.iload_n 1) 1 30 := And.intro (by decide +kernel) rfl
theorem d_method_5_30 : D method_5_code 30 (.castore) 1 31 := And.intro (by decide +kernel) rfl
theorem d_method_5_31 : D method_5_code 31 (.areturn) 1 32 := And.intro (by decide +kernel) rfl
theorem d_method_6_0 : D method_6_code 0 (.iload_n 0) 1 1 := And.intro (by decide +kernel) rfl
theorem d_method_6_1 : D method_6_code 1 (.ifCond .ne 22) 3 4 := And.intro (by decide +kernel) rfl
theorem d_method_6_23 : D method_6_code 23 (.iload_n 0) 1 24 := And.intro (by decide +kernel) rfl
theorem d_method_6_24 : D method_6_code 24 (.iconst 1) 1 25 := And.intro (by decide +kernel) rfl
theorem d_method_6_25 : D method_6_code 25 (.if_icmp .ne 27) 3 28 := And.intro (by decide +kernel) rfl
theorem d_method_6_52 : D method_6_code 52 (.iload_n 0) 1 53 := And.intro (by decide +kernel) rfl
theorem d_method_6_53 : D method_6_code 53 (.iconst 2) 1 54 := And.intro (by decide +kernel) rfl
theorem d_method_6_54 : D method_6_code 54 (.if_icmp .ne 74) 3 57 := And.intro (by decide +kernel) rfl
theorem d_method_6_128 : D method_6_code 128 (.bipush 9) 2 130 := And.intro (by decide +kernel) rfl
theorem d_method_6_130 : D method_6_code 130 (.newarray .char) 2 132 := And.intro (by decide +kernel) rfl
theorem d_method_6_132 : D method_6_code 132 (.dup) 1 133 := And.intro (by decide +kernel) rfl
theorem d_method_6_133 : D method_6_code 133 (.iconst 0) 1 134 := And.intro (by decide +kernel) rfl
theorem d_method_6_134 : D method_6_code 134 (.bipush 110) 2 136 := And.intro (by decide +kernel) rfl
theorem d_method_6_136 : D method_6_code 136 (.castore) 1 137 := And.intro (by decide +kernel) rfl
theorem d_method_6_137 : D method_6_code 137 (.dup) 1 138 := And.intro (by decide +kernel) rfl
theorem d_method_6_138 : D method_6_code 138 (.iconst 1) 1 139 := And.intro (by decide +kernel) rfl
theorem d_method_6_139 : D method_6_code 139 (.bipush 101) 2 141 := And.intro (by decide +kernel) rfl
theorem d_method_6_141 : D method_6_code 141 (.castore) 1 142 := And.intro (by decide +kernel) rfl
theorem d_method_6_142 : D method_6_code 142 (.dup) 1 143 := And.intro (by decide +kernel) rfl
theorem d_method_6_143 : D method_6_code 143 (.iconst 2) 1 144 := And.intro (by decide +kernel) rfl
theorem d_method_6_144 : D method_6_code 144 (.bipush 109) 2 146 := And.intro (by decide +kernel) rfl
theorem d_method_6_146 : D method_6_code 146 (.castore) 1 147 := And.intro (by decide +kernel) rfl
theorem d_method_6_147 : D method_6_code 147 (.dup) 1 148 := And.intro (by decide +kernel) rfl
theorem d_method_6_148 : D method_6_code 148 (.iconst 3) 1 149 := And.intro (by decide +kernel) rfl
theorem d_method_6_149 : D method_6_code 149 (.bipush 111) 2 151 := And.intro (by decide +kernel) rfl
theorem d_method_6_151 : D method_6_code 151 (.castore) 1 152 := And.intro (by decide +kernel) rfl
theorem d_method_6_152 : D method_6_code 152 (.dup) 1 153 := And.intro (by decide +kernel) rfl
theorem d_method_6_153 : D method_6_code 153 (.iconst 4) 1 154 := And.intro (by decide +kernel) rfl
theorem d_method_6_154 : D method_6_code 154 (.bipush 45) 2 156 := And.intro (by decide +kernel) rfl
theorem d_method_6_156 : D method_6_code 156 (.castore) 1 157 := And.intro (by decide +kernel) rfl
theorem d_method_6_157 : D method_6_code 157 (.dup) 1 158 := And.intro (by decide +kernel) rfl
theorem d_method_6_158 : D method_6_code 158 (.iconst 5) 1 159 := And.intro (by decide +kernel) rfl
theorem d_method_6_159 : D method_6_code 159 (.bipush 116) 2 161 := And.intro (by decide +kernel) rfl
theorem d_method_6_161 : D method_6_code 161 (.castore) 1 162 := And.intro (by decide +kernel) rfl
theorem d_method_6_162 : D method_6_code 162 (.dup) 1 163 := And.intro (by decide +kernel) rfl
theorem d_method_6_163 : D method_6_code 163 (.bipush 6) 2 165 := And.intro (by decide +kernel) rfl
theorem d_method_6_165 : D method_6_code 165 (.bipush 114) 2 167 := And.intro (by decide +kernel) rfl
theorem d_method_6_167 : D method_6_code 167 (.castore) 1 168 := And.intro (by decide +kernel) rfl
theorem d_method_6_168 : D method_6_code 168 (.dup) 1 169 := And.intro (by decide +kernel) rfl
theorem d_method_6_169 : D method_6_code 169 (.bipush 7) 2 171 := And.intro (by decide +kernel) rfl
theorem d_method_6_171 : D method_6_code 171 (.bipush 97) 2 173 := And.intro (by decide +kernel) rfl
theorem d_method_6_173 : D method_6_code 173 (.castore) 1 174 := And.intro (by decide +kernel) rfl
theorem d_method_6_174 : D method_6_code 174 (.dup) 1 175 := And.intro (by decide +kernel) rfl
theorem d_method_6_175 : D method_6_code 175 (.bipush 8) 2 177 := And.intro (by decide +kernel) rfl
theorem d_method_6_177 : D method_6_code 177 (.bipush 99) 2 179 := And.intro (by decide +kernel) rfl
theorem d_method_6_179 : D method_6_code 179 (.castore) 1 180 := And.intro (by decide +kernel) rfl
theorem d_method_6_180 : D method_6_code 180 (.areturn) 1 181 := And.intro (by decide +kernel) rfl
theorem d_method_6_57 : D method_6_code 57 (.bipush 12) 2 59 := And.intro (by decide +kernel) rfl
theorem d_method_6_59 : D method_6_code 59 (.newarray .char) 2 61 := And.intro (by decide +kernel) rfl
theorem d_method_6_61 : D method_6_code 61 (.dup) 1 62 := And.intro (by decide +kernel) rfl
theorem d_method_6_62 : D method_6_code 62 (.iconst 0) 1 63 := And.intro (by decide +kernel) rfl
theorem d_method_6_63 : D method_6_code 63 (.bipush 111) 2 65 := And.intro (by decide +kernel) rfl
theorem d_method_6_65 : D method_6_code 65 (.castore) 1 66 := And.intro (by decide +kernel) rfl
theorem d_method_6_66 : D method_6_code 66 (.dup) 1 67 := And.intro (by decide +kernel) rfl
theorem d_method_6_67 : D method_6_code 67 (.iconst 1) 1 68 := And.intro (by decide +kernel) rfl
theorem d_method_6_68 : D method_6_code 68 (.bipush 114) 2 70 := And.intro (by decide +kernel) rfl
theorem d_method_6_70 : D method_6_code 70 (.castore) 1 71 := And.intro (by decide +kernel) rfl
theorem d_method_6_71 : D method_6_code 71 (.dup) 1 72 := And.intro (by decide +kernel) rfl
theorem d_method_6_72 : D method_6_code 72 (.iconst 2) 1 73 := And.intro (by decide +kernel) rfl
theorem d_method_6_73 : D method_6_code 73 (.bipush 100) 2 75 := And.intro (by decide +kernel) rfl
theorem d_method_6_75 : D method_6_code 75 (.castore) 1 76 := And.intro (by decide +kernel) rfl
theorem d_method_6_76 : D method_6_code 76 (.dup) 1 77 := And.intro (by decide +kernel) rfl
theorem d_method_6_77 : D method_6_code 77 (.iconst 3) 1 78 := And.intro (by decide +kernel) rfl
theorem d_method_6_78 : D method_6_code 78 (.bipush 101) 2 80 := And.intro (by decide +kernel) rfl
theorem d_method_6_80 : D method_6_code 80 (.castore) 1 81 := And.intro (by decide +kernel) rfl
theorem d_method_6_81 : D method_6_code 81 (.dup) 1 82 := And.intro (by decide +kernel) rfl
theorem d_method_6_82 : D method_6_code 82 (.iconst 4) 1 83 := And.intro (by decide +kernel) rfl
theorem d_method_6_83 : D method_6_code 83 (.bipush 114) 2 85 := And.intro (by decide +kernel) rfl
theorem d_method_6_85 : D method_6_code 85 (.castore) 1 86 := And.intro (by decide +kernel) rfl
theorem d_method_6_86 : D method_6_code 86 (.dup) 1 87 := And.intro (by decide +kernel) rfl
theorem d_method_6_87 : D method_6_code 87 (.iconst 5) 1 88 := And.intro (by decide +kernel) rfl
theorem d_method_6_88 : D method_6_code 88 (.bipush 101) 2 90 := And.intro (by decide +kernel) rfl
theorem d_method_6_90 : D method_6_code 90 (.castore) 1 91 := And.intro (by decide +kernel) rfl
theorem d_method_6_91 : D method_6_code 91 (.dup) 1 92 := And.intro (by decide +kernel) rfl
theorem d_method_6_92 : D method_6_code 92 (.bipush 6) 2 94 := And.intro (by decide +kernel) rfl
theorem d_method_6_94 : D method_6_code 94 (.bipush 100) 2 96 := And.intro (by decide +kernel) rfl
theorem d_method_6_96 : D method_6_code 96 (.castore) 1 97 := And.intro (by decide +kernel) rfl
theorem d_method_6_97 : D method_6_code 97 (.dup) 1 98 := And.intro (by decide +kernel) rfl
theorem d_method_6_98 : D method_6_code 98 (.bipush 7) 2 100 := And.intro (by decide +kernel) rfl
theorem d_method_6_100 : D method_6_code 100 (.bipush 45) 2 102 := And.intro (by decide +kernel) rfl
theorem d_method_6_102 : D method_6_code 102 (.castore) 1 103 := And.intro (by decide +kernel) rfl
theorem d_method_6_103 : D method_6_code 103 (.dup) 1 104 := And.intro (by decide +kernel) rfl
theorem d_method_6_104 : D method_6_code 104 (.bipush 8) 2 106 := And.intro (by decide +kernel) rfl
theorem d_method_6_106 : D method_6_code 106 (.bipush 103) 2 108 := And.intro (by decide +kernel) rfl
theorem d_method_6_108 : D method_6_code 108 (.castore) 1 109 := And.intro (by decide +kernel) rfl
theorem d_method_6_109 : D method_6_code 109 (.dup) 1 110 := And.intro (by decide +kernel) rfl
theorem d_method_6_110 : D method_6_code 110 (.bipush 9) 2 112 := And.intro (by decide +kernel) rfl
theorem d_method_6_112 : D method_6_code 112 (.bipush 114) 2 114 := And.intro (by decide +kernel) rfl
theorem d_method_6_114 : D method_6_code 114 (.castore) 1 115 := And.intro (by decide +kernel) rfl
theorem d_method_6_115 : D method_6_code 115 (.dup) 1 116 := And.intro (by decide +kernel) rfl
theorem d_method_6_116 : D method_6_code 116 (.bipush 10) 2 118 := And.intro (by decide +kernel) rfl
theorem d_method_6_118 : D method_6_code 118 (.bipush 97) 2 120 := And.intro (by decide +kernel) rfl
theorem d_method_6_120 : D method_6_code 120 (.castore) 1 121 := And.intro (by decide +kernel) rfl
theorem d_method_6_121 : D method_6_code 121 (.dup) 1 122 := And.intro (by decide +kernel) rfl
theorem d_method_6_122 : D method_6_code 122 (.bipush 11) 2 124 := And.intro (by decide +kernel) rfl
theorem d_method_6_124 : D method_6_code 124 (.bipush 112) 2 126 := And.intro (by decide +kernel) rfl
theorem d_method_6_126 : D method_6_code 126 (.castore) 1 127 := And.intro (by decide +kernel) rfl
theorem d_method_6_127 : D method_6_code 127 (.areturn) 1 128 := And.intro (by decide +kernel) rfl
theorem d_method_6_28 : D method_6_code 28 (.iconst 4) 1 29 := And.intro (by decide +kernel) rfl
theorem d_method_6_29 : D method_6_code 29 (.newarray .char) 2 31 := And.intro (by decide +kernel) rfl
theorem d_method_6_31 : D method_6_code 31 (.dup) 1 32 := And.intro (by decide +kernel) rfl
theorem d_method_6_32 : D method_6_code 32 (.iconst 0) 1 33 := And.intro (by decide +kernel) rfl
theorem d_method_6_33 : D method_6_code 33 (.bipush 103) 2 35 := And.intro (by decide +kernel) rfl
theorem d_method_6_35 : D method_6_code 35 (.castore) 1 36 := And.intro (by decide +kernel) rfl
theorem d_method_6_36 : D method_6_code 36 (.dup) 1 37 := And.intro (by decide +kernel) rfl
theorem d_method_6_37 : D method_6_code 37 (.iconst 1) 1 38 := And.intro (by decide +kernel) rfl
theorem d_method_6_38 : D method_6_code 38 (.bipush 114) 2 40 := And.intro (by decide +kernel) rfl
theorem d_method_6_40 : D method_6_code 40 (.castore) 1 41 := And.intro (by decide +kernel) rfl
theorem d_method_6_41 : D method_6_code 41 (.dup) 1 42 := And.intro (by decide +kernel) rfl
theorem d_method_6_42 : D method_6_code 42 (.iconst 2) 1 43 := And.intro (by decide +kernel) rfl
theorem d_method_6_43 : D method_6_code 43 (.bipush 97) 2 45 := And.intro (by decide +kernel) rfl
theorem d_method_6_45 : D method_6_code 45 (.castore) 1 46 := And.intro (by decide +kernel) rfl
theorem d_method_6_46 : D method_6_code 46 (.dup) 1 47 := And.intro (by decide +kernel) rfl
theorem d_method_6_47 : D method_6_code 47 (.iconst 3) 1 48 := And.intro (by decide +kernel) rfl
theorem d_method_6_48 : D method_6_code 48 (.bipush 112) 2 50 := And.intro (by decide +kernel) rfl
theorem d_method_6_50 : D method_6_code 50 (.castore) 1 51 := And.intro (by decide +kernel) rfl
theorem d_method_6_51 : D method_6_code 51 (.areturn) 1 52 := And.intro (by decide +kernel) rfl
theorem d_method_6_4 : D method_6_code 4 (.iconst 3) 1 5 := And.intro (by decide +kernel) rfl
theorem d_method_6_5 : D method_6_code 5 (.newarray .char) 2 7 := And.intro (by decide +kernel) rfl
theorem d_method_6_7 : D method_6_code 7 (.dup) 1 8 := And.intro (by decide +kernel) rfl
theorem d_method_6_8 : D method_6_code 8 (.iconst 0) 1 9 := And.intro (by decide +kernel) rfl
theorem d_method_6_9 : D method_6_code 9 (.bipush 116) 2 11 := And.intro (by decide +kernel) rfl
theorem d_method_6_11 : D method_6_code 11 (.castore) 1 12 := And.intro (by decide +kernel) rfl
theorem d_method_6_12 : D method_6_code 12 (.dup) 1 13 := And.intro (by decide +kernel) rfl
theorem d_method_6_13 : D method_6_code 13 (.iconst 1) 1 14 := And.intro (by decide +kernel) rfl
theorem d_method_6_14 : D method_6_code 14 (.bipush 114) 2 16 := And.intro (by decide +kernel) rfl
theorem d_method_6_16 : D method_6_code 16 (.castore) 1 17 := And.intro (by decide +kernel) rfl
theorem d_method_6_17 : D method_6_code 17 (.dup) 1 18 := And.intro (by decide +kernel) rfl
theorem d_method_6_18 : D method_6_code 18 (.iconst 2) 1 19 := And.intro (by decide +kernel) rfl
theorem d_method_6_19 : D method_6_code 19 (.bipush 101) 2 21 := And.intro (by decide +kernel) rfl
theorem d_method_6_21 : D method_6_code 21 (.castore) 1 22 := And.intro (by decide +kernel) rfl
theorem d_method_6_22 : D method_6_code 22 (.areturn) 1 23 := And.intro (by decide +kernel) rfl
theorem d_method_7_0 : D method_7_code 0 (.iload_n 1) 1 1 := And.intro (by decide +kernel) rfl
theorem d_method_7_1 : D method_7_code 1 (.sipush 255) 3 4 := And.intro (by decide +kernel) rfl
theorem d_method_7_4 : D method_7_code 4 (.iand) 1 5 := And.intro (by decide +kernel) rfl
theorem d_method_7_5 : D method_7_code 5 (.i2c) 1 6 := And.intro (by decide +kernel) rfl
theorem d_method_7_6 : D method_7_code 6 (.istore_n 3) 1 7 := And.intro (by decide +kernel) rfl
theorem d_method_7_7 : D method_7_code 7 (.iload_n 1) 1 8 := And.intro (by decide +kernel) rfl
theorem d_method_7_8 : D method_7_code 8 (.bipush 8) 2 10 := And.intro (by decide +kernel) rfl
theorem d_method_7_10 : D method_7_code 10 (.iushr) 1 11 := And.intro (by decide +kernel) rfl
theorem d_method_7_11 : D method_7_code 11 (.sipush 255) 3 14 := And.intro (by decide +kernel) rfl
theorem d_method_7_14 : D method_7_code 14 (.iand) 1 15 := And.intro (by decide +kernel) rfl
theorem d_method_7_15 : D method_7_code 15 (.i2c) 1 16 := And.intro (by decide +kernel) rfl
theorem d_method_7_16 : D method_7_code 16 (.istore 4) 2 18 := And.intro (by decide +kernel) rfl
theorem d_method_7_18 : D method_7_code 18 (.iload_n 1) 1 19 := And.intro (by decide +kernel) rfl
theorem d_method_7_19 : D method_7_code 19 (.bipush 16) 2 21 := And.intro (by decide +kernel) rfl
theorem d_method_7_21 : D method_7_code 21 (.iushr) 1 22 := And.intro (by decide +kernel) rfl
theorem d_method_7_22 : D method_7_code 22 (.sipush 255) 3 25 := And.intro (by decide +kernel) rfl
theorem d_method_7_25 : D method_7_code 25 (.iand) 1 26 := And.intro (by decide +kernel) rfl
theorem d_method_7_26 : D method_7_code 26 (.i2c) 1 27 := And.intro (by decide +kernel) rfl
theorem d_method_7_27 : D method_7_code 27 (.istore 5) 2 29 := And.intro (by decide +kernel) rfl
theorem d_method_7_29 : D method_7_code 29 (.iload_n 1) 1 30 := And.intro (by decide +kernel) rfl
theorem d_method_7_30 : D method_7_code 30 (.bipush 24) 2 32 := And.intro (by decide +kernel) rfl
theorem d_method_7_32 : D method_7_code 32 (.iushr) 1 33 := And.intro (by decide +kernel) rfl
theorem d_method_7_33 : D method_7_code 33 (.sipush 255) 3 36 := And.intro (by decide +kernel) rfl
theorem d_method_7_36 : D method_7_code 36 (.iand) 1 37 := And.intro (by decide +kernel) rfl
theorem d_method_7_37 : D method_7_code 37 (.i2c) 1 38 := And.intro (by decide +kernel) rfl
theorem d_method_7_38 : D method_7_code 38 (.istore 6) 2 40 := And.intro (by decide +kernel) rfl
theorem d_method_7_40 : D method_7_code 40 (.iload_n 2) 1 41 := And.intro (by decide +kernel) rfl
theorem d_method_7_41 : D method_7_code 41 (.sipush 255) 3 44 := And.intro (by decide +kernel) rfl
theorem d_method_7_44 : D method_7_code 44 (.iand) 1 45 := And.intro (by decide +kernel) rfl
theorem d_method_7_45 : D method_7_code 45 (.i2c) 1 46 := And.intro (by decide +kernel) rfl
theorem d_method_7_46 : D method_7_code 46 (.istore 7) 2 48 := And.intro (by decide +kernel) rfl
theorem d_method_7_48 : D method_7_code 48 (.iload_n 2) 1 49 := And.intro (by decide +kernel) rfl
theorem d_method_7_49 : D method_7_code 49 (.bipush 8) 2 51 := And.intro (by decide +kernel) rfl
theorem d_method_7_51 : D method_7_code 51 (.iushr) 1 52 := And.intro (by decide +kernel) rfl
theorem d_method_7_52 : D method_7_code 52 (.sipush 255) 3 55 := And.intro (by decide +kernel) rfl
theorem d_method_7_55 : D method_7_code 55 (.iand) 1 56 := And.intro (by decide +kernel) rfl
theorem d_method_7_56 : D method_7_code 56 (.i2c) 1 57 := And.intro (by decide +kernel) rfl
theorem d_method_7_57 : D method_7_code 57 (.istore 8) 2 59 := And.intro (by decide +kernel) rfl
theorem d_method_7_59 : D method_7_code 59 (.iload_n 0) 1 60 := And.intro (by decide +kernel) rfl
theorem d_method_7_60 : D method_7_code 60 (.ifCond .ne 7) 3 63 := And.intro (by decide +kernel) rfl
theorem d_method_7_67 : D method_7_code 67 (.iload_n 0) 1 68 := And.intro (by decide +kernel) rfl
theorem d_method_7_68 : D method_7_code 68 (.iconst 1) 1 69 := And.intro (by decide +kernel) rfl
theorem d_method_7_69 : D method_7_code 69 (.if_icmp .ne 11) 3 72 := And.intro (by decide +kernel) rfl
theorem d_method_7_80 : D method_7_code 80 (.iload_n 0) 1 81 := And.intro (by decide +kernel) rfl
theorem d_method_7_81 : D method_7_code 81 (.iconst 2) 1 82 := And.intro (by decide +kernel) rfl
theorem d_method_7_82 : D method_7_code 82 (.if_icmp .ne 16) 3 85 := And.intro (by decide +kernel) rfl
theorem d_method_7_98 : D method_7_code 98 (.iload_n 0) 1 99 := And.intro (by decide +kernel) rfl
theorem d_method_7_99 : D method_7_code 99 (.iconst 3) 1 100 := And.intro (by decide +kernel) rfl
theorem d_method_7_100 : D method_7_code 100 (.if_icmp .ne 21) 3 103 := And.intro (by decide +kernel) rfl
theorem d_method_7_121 : D method_7_code 121 (.iload_n 0) 1 122 := And.intro (by decide +kernel) rfl
theorem d_method_7_122 : D method_7_code 122 (.iconst 4) 1 123 := And.intro (by decide +kernel) rfl
theorem d_method_7_123 : D method_7_code 123 (.if_icmp .ne 26) 3 126 := And.intro (by decide +kernel) rfl
theorem d_method_7_149 : D method_7_code 149 (.iload_n 0) 1 150 := And.intro (by decide +kernel) rfl
theorem d_method_7_150 : D method_7_code 150 (.iconst 5) 1 151 := And.intro (by decide +kernel) rfl
theorem d_method_7_151 : D method_7_code 151 (.if_icmp .ne 31) 3 154 := And.intro (by decide +kernel) rfl
theorem d_method_7_182 : D method_7_code 182 (.bipush 6) 2 184 := And.intro (by decide +kernel) rfl
theorem d_method_7_184 : D method_7_code 184 (.newarray .char) 2 186 := And.intro (by decide +kernel) rfl
theorem d_method_7_186 : D method_7_code 186 (.dup) 1 187 := And.intro (by decide +kernel) rfl
theorem d_method_7_187 : D method_7_code 187 (.iconst 0) 1 188 := And.intro (by decide +kernel) rfl
theorem d_method_7_188 : D method_7_code 188 (.iload_n 3) 1 189 := And.intro (by decide +kernel) rfl
theorem d_method_7_189 : D method_7_code 189 (.castore) 1 190 := And.intro (by decide +kernel) rfl
theorem d_method_7_190 : D method_7_code 190 (.dup) 1 191 := And.intro (by decide +kernel) rfl
theorem d_method_7_191 : D method_7_code 191 (.iconst 1) 1 192 := And.intro (by decide +kernel) rfl
theorem d_method_7_192 : D method_7_code 192 (.iload 4) 2 194 := And.intro (by decide +kernel) rfl
theorem d_method_7_194 : D method_7_code 194 (.castore) 1 195 := And.intro (by decide +kernel) rfl
theorem d_method_7_195 : D method_7_code 195 (.dup) 1 196 := And.intro (by decide +kernel) rfl
theorem d_method_7_196 : D method_7_code 196 (.iconst 2) 1 197 := And.intro (by decide +kernel) rfl
theorem d_method_7_197 : D method_7_code 197 (.iload 5) 2 199 := And.intro (by decide +kernel) rfl
theorem d_method_7_199 : D method_7_code 199 (.castore) 1 200 := And.intro (by decide +kernel) rfl
theorem d_method_7_200 : D method_7_code 200 (.dup) 1 201 := And.intro (by decide +kernel) rfl
theorem d_method_7_201 : D method_7_code 201 (.iconst 3) 1 202 := And.intro (by decide +kernel) rfl
theorem d_method_7_202 : D method_7_code 202 (.iload 6) 2 204 := And.intro (by decide +kernel) rfl
theorem d_method_7_204 : D method_7_code 204 (.castore) 1 205 := And.intro (by decide +kernel) rfl
theorem d_method_7_205 : D method_7_code 205 (.dup) 1 206 := And.intro (by decide +kernel) rfl
theorem d_method_7_206 : D method_7_code 206 (.iconst 4) 1 207 := And.intro (by decide +kernel) rfl
theorem d_method_7_207 : D method_7_code 207 (.iload 7) 2 209 := And.intro (by decide +kernel) rfl
theorem d_method_7_209 : D method_7_code 209 (.castore) 1 210 := And.intro (by decide +kernel) rfl
theorem d_method_7_210 : D method_7_code 210 (.dup) 1 211 := And.intro (by decide +kernel) rfl
theorem d_method_7_211 : D method_7_code 211 (.iconst 5) 1 212 := And.intro (by decide +kernel) rfl
theorem d_method_7_212 : D method_7_code 212 (.iload 8) 2 214 := And.intro (by decide +kernel) rfl
theorem d_method_7_214 : D method_7_code 214 (.castore) 1 215 := And.intro (by decide +kernel) rfl
theorem d_method_7_215 : D method_7_code 215 (.areturn) 1 216 := And.intro (by decide +kernel) rfl
theorem d_method_7_154 : D method_7_code 154 (.iconst 5) 1 155 := And.intro (by decide +kernel) rfl
theorem d_method_7_155 : D method_7_code 155 (.newarray .char) 2 157 := And.intro (by decide +kernel) rfl
theorem d_method_7_157 : D method_7_code 157 (.dup) 1 158 := And.intro (by decide +kernel) rfl
theorem d_method_7_158 : D method_7_code 158 (.iconst 0) 1 159 := And.intro (by decide +kernel) rfl
theorem d_method_7_159 : D method_7_code 159 (.iload_n 3) 1 160 := And.intro (by decide +kernel) rfl
theorem d_method_7_160 : D method_7_code 160 (.castore) 1 161 := And.intro (by decide +kernel) rfl
theorem d_method_7_161 : D method_7_code 161 (.dup) 1 162 := And.intro (by decide +kernel) rfl
theorem d_method_7_162 : D method_7_code 162 (.iconst 1) 1 163 := And.intro (by decide +kernel) rfl
theorem d_method_7_163 : D method_7_code 163 (.iload 4) 2 165 := And.intro (by decide +kernel) rfl
theorem d_method_7_165 : D method_7_code 165 (.castore) 1 166 := And.intro (by decide +kernel) rfl
theorem d_method_7_166 : D method_7_code 166 (.dup) 1 167 := And.intro (by decide +kernel) rfl
theorem d_method_7_167 : D method_7_code 167 (.iconst 2) 1 168 := And.intro (by decide +kernel) rfl
theorem d_method_7_168 : D method_7_code 168 (.iload 5) 2 170 := And.intro (by decide +kernel) rfl
theorem d_method_7_170 : D method_7_code 170 (.castore) 1 171 := And.intro (by decide +kernel) rfl
theorem d_method_7_171 : D method_7_code 171 (.dup) 1 172 := And.intro (by decide +kernel) rfl
theorem d_method_7_172 : D method_7_code 172 (.iconst 3) 1 173 := And.intro (by decide +kernel) rfl
theorem d_method_7_173 : D method_7_code 173 (.iload 6) 2 175 := And.intro (by decide +kernel) rfl
theorem d_method_7_175 : D method_7_code 175 (.castore) 1 176 := And.intro (by decide +kernel) rfl
theorem d_method_7_176 : D method_7_code 176 (.dup) 1 177 := And.intro (by decide +kernel) rfl
theorem d_method_7_177 : D method_7_code 177 (.iconst 4) 1 178 := And.intro (by decide +kernel) rfl
theorem d_method_7_178 : D method_7_code 178 (.iload 7) 2 180 := And.intro (by decide +kernel) rfl
theorem d_method_7_180 : D method_7_code 180 (.castore) 1 181 := And.intro (by decide +kernel) rfl
theorem d_method_7_181 : D method_7_code 181 (.areturn) 1 182 := And.intro (by decide +kernel) rfl
theorem d_method_7_126 : D method_7_code 126 (.iconst 4) 1 127 := And.intro (by decide +kernel) rfl
theorem d_method_7_127 : D method_7_code 127 (.newarray .char) 2 129 := And.intro (by decide +kernel) rfl
theorem d_method_7_129 : D method_7_code 129 (.dup) 1 130 := And.intro (by decide +kernel) rfl
theorem d_method_7_130 : D method_7_code 130 (.iconst 0) 1 131 := And.intro (by decide +kernel) rfl
theorem d_method_7_131 : D method_7_code 131 (.iload_n 3) 1 132 := And.intro (by decide +kernel) rfl
theorem d_method_7_132 : D method_7_code 132 (.castore) 1 133 := And.intro (by decide +kernel) rfl
theorem d_method_7_133 : D method_7_code 133 (.dup) 1 134 := And.intro (by decide +kernel) rfl
theorem d_method_7_134 : D method_7_code 134 (.iconst 1) 1 135 := And.intro (by decide +kernel) rfl
theorem d_method_7_135 : D method_7_code 135 (.iload 4) 2 137 := And.intro (by decide +kernel) rfl
theorem d_method_7_137 : D method_7_code 137 (.castore) 1 138 := And.intro (by decide +kernel) rfl
theorem d_method_7_138 : D method_7_code 138 (.dup) 1 139 := And.intro (by decide +kernel) rfl
theorem d_method_7_139 : D method_7_code 139 (.iconst 2) 1 140 := And.intro (by decide +kernel) rfl
theorem d_method_7_140 : D method_7_code 140 (.iload 5) 2 142 := And.intro (by decide +kernel) rfl
theorem d_method_7_142 : D method_7_code 142 (.castore) 1 143 := And.intro (by decide +kernel) rfl
theorem d_method_7_143 : D method_7_code 143 (.dup) 1 144 := And.intro (by decide +kernel) rfl
theorem d_method_7_144 : D method_7_code 144 (.iconst 3) 1 145 := And.intro (by decide +kernel) rfl
theorem d_method_7_145 : D method_7_code 145 (.iload 6) 2 147 := And.intro (by decide +kernel) rfl
theorem d_method_7_147 : D method_7_code 147 (.castore) 1 148 := And.intro (by decide +kernel) rfl
theorem d_method_7_148 : D method_7_code 148 (.areturn) 1 149 := And.intro (by decide +kernel) rfl
theorem d_method_7_103 : D method_7_code 103 (.iconst 3) 1 104 := And.intro (by decide +kernel) rfl
theorem d_method_7_104 : D method_7_code 104 (.newarray .char) 2 106 := And.intro (by decide +kernel) rfl
theorem d_method_7_106 : D method_7_code 106 (.dup) 1 107 := And.intro (by decide +kernel) rfl
theorem d_method_7_107 : D method_7_code 107 (.iconst 0) 1 108 := And.intro (by decide +kernel) rfl
theorem d_method_7_108 : D method_7_code 108 (.iload_n 3) 1 109 := And.intro (by decide +kernel) rfl
theorem d_method_7_109 : D method_7_code 109 (.castore) 1 110 := And.intro (by decide +kernel) rfl
theorem d_method_7_110 : D method_7_code 110 (.dup) 1 111 := And.intro (by decide +kernel) rfl
theorem d_method_7_111 : D method_7_code 111 (.iconst 1) 1 112 := And.intro (by decide +kernel) rfl
theorem d_method_7_112 : D method_7_code 112 (.iload 4) 2 114 := And.intro (by decide +kernel) rfl
theorem d_method_7_114 : D method_7_code 114 (.castore) 1 115 := And.intro (by decide +kernel) rfl
theorem d_method_7_115 : D method_7_code 115 (.dup) 1 116 := And.intro (by decide +kernel) rfl
theorem d_method_7_116 : D method_7_code 116 (.iconst 2) 1 117 := And.intro (by decide +kernel) rfl
theorem d_method_7_117 : D method_7_code 117 (.iload 5) 2 119 := And.intro (by decide +kernel) rfl
theorem d_method_7_119 : D method_7_code 119 (.castore) 1 120 := And.intro (by decide +kernel) rfl
theorem d_method_7_120 : D method_7_code 120 (.areturn) 1 121 := And.intro (by decide +kernel) rfl
theorem d_method_7_85 : D method_7_code 85 (.iconst 2) 1 86 := And.intro (by decide +kernel) rfl
theorem d_method_7_86 : D method_7_code 86 (.newarray .char) 2 88 := And.intro (by decide +kernel) rfl
theorem d_method_7_88 : D method_7_code 88 (.dup) 1 89 := And.intro (by decide +kernel) rfl
theorem d_method_7_89 : D method_7_code 89 (.iconst 0) 1 90 := And.intro (by decide +kernel) rfl
theorem d_method_7_90 : D method_7_code 90 (.iload_n 3) 1 91 := And.intro (by decide +kernel) rfl
theorem d_method_7_91 : D method_7_code 91 (.castore) 1 92 := And.intro (by decide +kernel) rfl
theorem d_method_7_92 : D method_7_code 92 (.dup) 1 93 := And.intro (by decide +kernel) rfl
theorem d_method_7_93 : D method_7_code 93 (.iconst 1) 1 94 := And.intro (by decide +kernel) rfl
theorem d_method_7_94 : D method_7_code 94 (.iload 4) 2 96 := And.intro (by decide +kernel) rfl
theorem d_method_7_96 : D method_7_code 96 (.castore) 1 97 := And.intro (by decide +kernel) rfl
theorem d_method_7_97 : D method_7_code 97 (.areturn) 1 98 := And.intro (by decide +kernel) rfl
theorem d_method_7_72 : D method_7_code 72 (.iconst 1) 1 73 := And.intro (by decide +kernel) rfl
theorem d_method_7_73 : D method_7_code 73 (.newarray .char) 2 75 := And.intro (by decide +kernel) rfl
theorem d_method_7_75 : D method_7_code 75 (.dup) 1 76 := And.intro (by decide +kernel) rfl
theorem d_method_7_76 : D method_7_code 76 (.iconst 0) 1 77 := And.intro (by decide +kernel) rfl
theorem d_method_7_77 : D method_7_code 77 (.iload_n 3) 1 78 := And.intro (by decide +kernel) rfl
theorem d_method_7_78 : D method_7_code 78 (.castore) 1 79 := And.intro (by decide +kernel) rfl
theorem d_method_7_79 : D method_7_code 79 (.areturn) 1 80 := And.intro (by decide +kernel) rfl
theorem d_method_7_63 : D method_7_code 63 (.iconst 0) 1 64 := And.intro (by decide +kernel) rfl
theorem d_method_7_64 : D method_7_code 64 (.newarray .char) 2 66 := And.intro (by decide +kernel) rfl
theorem d_method_7_66 : D method_7_code 66 (.areturn) 1 67 := And.intro (by decide +kernel) rfl
theorem d_code_0 : D code 0 (.iload_n 0) 1 1 := And.intro at_0 rfl
theorem d_code_1 : D code 1 (.iconst 3) 1 2 := And.intro at_1 rfl
theorem d_code_2 : D code 2 (.iand) 1 3 := And.intro at_2 rfl
theorem d_code_3 : D code 3 (.istore 5) 2 5 := And.intro at_3 rfl
theorem d_code_5 : D code 5 (.iload_n 0) 1 6 := And.intro at_5 rfl
theorem d_code_6 : D code 6 (.iconst 2) 1 7 := And.intro at_6 rfl
theorem d_code_7 : D code 7 (.iushr) 1 8 := And.intro at_7 rfl
theorem d_code_8 : D code 8 (.iconst 3) 1 9 := And.intro at_8 rfl
theorem d_code_9 : D code 9 (.iand) 1 10 := And.intro at_9 rfl
theorem d_code_10 : D code 10 (.istore 6) 2 12 := And.intro at_10 rfl
theorem d_code_12 : D code 12 (.iload_n 2) 1 13 := And.intro at_12 rfl
theorem d_code_13 : D code 13 (.sipush 255) 3 16 := And.intro at_13 rfl
theorem d_code_16 : D code 16 (.iand) 1 17 := And.intro at_16 rfl
theorem d_code_17 : D code 17 (.i2c) 1 18 := And.intro at_17 rfl
theorem d_code_18 : D code 18 (.istore 7) 2 20 := And.intro at_18 rfl
theorem d_code_20 : D code 20 (.iload 6) 2 22 := And.intro at_20 rfl
theorem d_code_22 : D code 22 (.ifCond .ne 20) 3 25 := And.intro at_22 rfl
theorem d_code_42 : D code 42 (.iload 6) 2 44 := And.intro at_42 rfl
theorem d_code_44 : D code 44 (.iconst 1) 1 45 := And.intro at_44 rfl
theorem d_code_45 : D code 45 (.if_icmp .ne 37) 3 48 := And.intro at_45 rfl
theorem d_code_82 : D code 82 (.iload 6) 2 84 := And.intro at_82 rfl
theorem d_code_84 : D code 84 (.iconst 2) 1 85 := And.intro at_84 rfl
theorem d_code_85 : D code 85 (.if_icmp .ne 45) 3 88 := And.intro at_85 rfl
theorem d_code_130 : D code 130 (.iload_n 1) 1 131 := And.intro at_130 rfl
theorem d_code_131 : D code 131 (.bipush 7) 2 133 := And.intro at_131 rfl
theorem d_code_133 : D code 133 (.iand) 1 134 := And.intro at_133 rfl
theorem d_code_134 : D code 134 (.istore 9) 2 136 := And.intro at_134 rfl
theorem d_code_136 : D code 136 (.iload 9) 2 138 := And.intro at_136 rfl
theorem d_code_138 : D code 138 (.bipush 7) 2 140 := And.intro at_138 rfl
theorem d_code_140 : D code 140 (.if_icmp .ne 9) 3 143 := And.intro at_140 rfl
theorem d_code_149 : D code 149 (.new 7) 3 152 := And.intro at_149 rfl
theorem d_code_152 : D code 152 (.dup) 1 153 := And.intro at_152 rfl
theorem d_code_153 : D code 153 (.iload 9) 2 155 := And.intro at_153 rfl
theorem d_code_155 : D code 155 (.iload_n 3) 1 156 := And.intro at_155 rfl
theorem d_code_156 : D code 156 (.iload 4) 2 158 := And.intro at_156 rfl
theorem d_code_158 : D code 158 (.invokestatic 26) 3 161 := And.intro at_158 rfl
theorem pd7 : parseMethodDescriptor "(III)[C" = some ⟨[.int, .int, .int], some (.array .char)⟩ := by decide +kernel
theorem d_code_161 : D code 161 (.invokespecial 15) 3 164 := And.intro at_161 rfl
theorem pd8 : parseMethodDescriptor "([C)V" = some ⟨[(.array .char)], none⟩ := by decide +kernel
theorem d_code_164 : D code 164 (.astore 8) 2 166 := And.intro at_164 rfl
theorem d_code_166 : D code 166 (.aload 8) 2 168 := And.intro at_166 rfl
theorem d_code_168 : D code 168 (.invokestatic 30) 3 171 := And.intro at_168 rfl
theorem pd9 : parseMethodDescriptor "(Ljava/lang/String;)Lcom/example/proofs_for_datalog/proofsfordatalog/input/ProofFormat;" = some ⟨[(.object "java/lang/String")], some (.object "com/example/proofs_for_datalog/proofsfordatalog/input/ProofFormat")⟩ := by decide +kernel
theorem d_code_171 : D code 171 (.astore 9) 2 173 := And.intro at_171 rfl
theorem d_code_173 : D code 173 (.aload 9) 2 175 := And.intro at_173 rfl
theorem d_code_175 : D code 175 (.aload 8) 2 177 := And.intro at_175 rfl
theorem d_code_177 : D code 177 (.invokestatic 36) 3 180 := And.intro at_177 rfl
theorem d_code_180 : D code 180 (.if_acmp .ne 7) 3 183 := And.intro at_180 rfl
theorem d_code_183 : D code 183 (.iconst 1) 1 184 := And.intro at_183 rfl
theorem d_code_184 : D code 184 (.goto 4) 3 187 := And.intro at_184 rfl
theorem d_code_188 : D code 188 (.ireturn) 1 189 := And.intro at_188 rfl
theorem d_code_143 : D code 143 (.aconst_null) 1 144 := And.intro at_143 rfl
theorem d_code_144 : D code 144 (.astore 8) 2 146 := And.intro at_144 rfl
theorem d_code_146 : D code 146 (.goto 20) 3 149 := And.intro at_146 rfl
theorem d_code_88 : D code 88 (.iload_n 1) 1 89 := And.intro at_88 rfl
theorem d_code_89 : D code 89 (.iconst 1) 1 90 := And.intro at_89 rfl
theorem d_code_90 : D code 90 (.iand) 1 91 := And.intro at_90 rfl
theorem d_code_91 : D code 91 (.ifCond .ne 22) 3 94 := And.intro at_91 rfl
theorem d_code_113 : D code 113 (.new 7) 3 116 := And.intro at_113 rfl
theorem d_code_116 : D code 116 (.dup) 1 117 := And.intro at_116 rfl
theorem d_code_117 : D code 117 (.iload 5) 2 119 := And.intro at_117 rfl
theorem d_code_119 : D code 119 (.invokestatic 23) 3 122 := And.intro at_119 rfl
theorem pd10 : parseMethodDescriptor "(I)[C" = some ⟨[.int], some (.array .char)⟩ := by decide +kernel
theorem d_code_122 : D code 122 (.invokespecial 15) 3 125 := And.intro at_122 rfl
theorem d_code_125 : D code 125 (.astore 8) 2 127 := And.intro at_125 rfl
theorem d_code_127 : D code 127 (.goto 39) 3 130 := And.intro at_127 rfl
theorem d_code_94 : D code 94 (.new 7) 3 97 := And.intro at_94 rfl
theorem d_code_97 : D code 97 (.dup) 1 98 := And.intro at_97 rfl
theorem d_code_98 : D code 98 (.iload 5) 2 100 := And.intro at_98 rfl
theorem d_code_100 : D code 100 (.iload 7) 2 102 := And.intro at_100 rfl
theorem d_code_102 : D code 102 (.invokestatic 19) 3 105 := And.intro at_102 rfl
theorem pd11 : parseMethodDescriptor "(IC)[C" = some ⟨[.int, .char], some (.array .char)⟩ := by decide +kernel
theorem d_code_105 : D code 105 (.invokespecial 15) 3 108 := And.intro at_105 rfl
theorem d_code_108 : D code 108 (.astore 8) 2 110 := And.intro at_108 rfl
theorem d_code_110 : D code 110 (.goto 56) 3 113 := And.intro at_110 rfl
theorem d_code_48 : D code 48 (.iload 5) 2 50 := And.intro at_48 rfl
theorem d_code_50 : D code 50 (.invokestatic 9) 3 53 := And.intro at_50 rfl
theorem d_code_53 : D code 53 (.astore 9) 2 55 := And.intro at_53 rfl
theorem d_code_55 : D code 55 (.aload 9) 2 57 := And.intro at_55 rfl
theorem d_code_57 : D code 57 (.iload_n 1) 1 58 := And.intro at_57 rfl
theorem d_code_58 : D code 58 (.ldc 18) 2 60 := And.intro at_58 rfl
theorem d_code_60 : D code 60 (.iand) 1 61 := And.intro at_60 rfl
theorem d_code_61 : D code 61 (.aload 9) 2 63 := And.intro at_61 rfl
theorem d_code_63 : D code 63 (.arraylength) 1 64 := And.intro at_63 rfl
theorem d_code_64 : D code 64 (.irem) 1 65 := And.intro at_64 rfl
theorem d_code_65 : D code 65 (.iload 7) 2 67 := And.intro at_65 rfl
theorem d_code_67 : D code 67 (.castore) 1 68 := And.intro at_67 rfl
theorem d_code_68 : D code 68 (.new 7) 3 71 := And.intro at_68 rfl
theorem d_code_71 : D code 71 (.dup) 1 72 := And.intro at_71 rfl
theorem d_code_72 : D code 72 (.aload 9) 2 74 := And.intro at_72 rfl
theorem d_code_74 : D code 74 (.invokespecial 15) 3 77 := And.intro at_74 rfl
theorem d_code_77 : D code 77 (.astore 8) 2 79 := And.intro at_77 rfl
theorem d_code_79 : D code 79 (.goto 87) 3 82 := And.intro at_79 rfl
theorem d_code_25 : D code 25 (.new 7) 3 28 := And.intro at_25 rfl
theorem d_code_28 : D code 28 (.dup) 1 29 := And.intro at_28 rfl
theorem d_code_29 : D code 29 (.iload 5) 2 31 := And.intro at_29 rfl
theorem d_code_31 : D code 31 (.invokestatic 9) 3 34 := And.intro at_31 rfl
theorem d_code_34 : D code 34 (.invokespecial 15) 3 37 := And.intro at_34 rfl
theorem d_code_37 : D code 37 (.astore 8) 2 39 := And.intro at_37 rfl
theorem d_code_39 : D code 39 (.goto 127) 3 42 := And.intro at_39 rfl
theorem own_EW {Z : State} {a0 : Array Value} (hw : ∀ d ∈ tables_1, d.before a0 Z = true) : EW Z a0 own_EL := (EW.cons (w72 hw) (by decide) (EW.cons (w77 hw) (by decide) (EW.cons (w78 hw) (by decide) (EW.cons (w79 hw) (by decide) (EW.cons (w89 hw) (by decide) EW.nil)))))
theorem wS {Z : State} {a0 : Array Value} (hw : ∀ d ∈ tables_1, d.before a0 Z = true) : ∀ a ∈ Bundle.stringAtoms, a.before a0 Z = true := fun a ha => hw a ((by decide +kernel : ∀ a ∈ Bundle.stringAtoms, a ∈ tables_1) a ha)
set_option maxRecDepth 65536 in
set_option maxHeartbeats 40000000 in
theorem ct_cmp5 (l : Launch) (Z : State) (a0 : Array Value) (hw : ∀ d ∈ tables_1, d.before a0 Z = true) (n0 : Nat) (h0 : Heap) (a b : Addr) (cs : List Int32) (vs : List Value) (A0 : Av Z h0 a .char (cs.map Value.int)) (B0 : Av Z h0 b .byte vs) (hlen : vs.length = cs.length) (hR : ∀ c ∈ cs, Rg c 256) : Ct l Z a0 own_EL false (⟨"java/lang/StringUTF16", "compress", "([CI[BII)I"⟩ : MethodName) jdk_52_method_21_code 7 (Option.some Jvm.ClassFile.FieldType.int) ({ frames := 0, cells := 0, slots := 0, locals := 0 } : Room) #[(.ref a), (.int (0 : Int32)), (.ref b), (.int (0 : Int32)), (.int (Int32.ofNat cs.length))] h0 [b] n0 (fun v h so => v = some (.int (Int32.ofNat cs.length)) ∧ Keep h0 h [b] ∧ Av Z h b .byte ((cs.map i2b).map Value.int)) := by
  refine Ct.body (plainFor_of_name pn0) ?_
  intro p e s m below meth c T W
  refine WP.cast (g' := (mkF m 0 #[.val (.ref a), .val (.int (0 : Int32)), .val (.ref b), .val (.int (0 : Int32)), .val (.int (Int32.ofNat cs.length)), .unset, .unset] [])) (by simp [entryFrame, mkF, argsToLocals, cat_i, cat_l, cat_r, cat_n]) ?_
  have hN : cs.length < 2147483648 := by have := A0.len; simpa using this
  have hab : a ≠ b := ne_av A0 B0 (by decide)
  refine k_iconst W d_jdk_52_21_0 (z := (0 : Int32)) rfl ?_
  refine k_istore W d_jdk_52_21_1 (L' := #[.val (.ref a), .val (.int (0 : Int32)), .val (.ref b), .val (.int (0 : Int32)), .val (.int (Int32.ofNat cs.length)), .val (.int (0 : Int32)), .unset]) rfl ?_
  have loop : ∀ (k i : Nat) (T : State) (h : Heap) (s6 : Slot), i + k = cs.length → (s6 = .unset ∨ ∃ w, s6 = .val w ∧ w.category = 1) → WS p l e ({ frames := 0, cells := 0, slots := 0, locals := 0 } : Room) s m #[(.ref a), (.int (0 : Int32)), (.ref b), (.int (0 : Int32)), (.int (Int32.ofNat cs.length))] below meth c Z a0 own_EL false n0 (⟨"java/lang/StringUTF16", "compress", "([CI[BII)I"⟩ : MethodName) jdk_52_method_21_code 7 (Option.some Jvm.ClassFile.FieldType.int) T h [b] 0 0 → Keep h0 h [b] → Av Z h b .byte (((cs.take i).map i2b).map Value.int ++ vs.drop i) → WP p e below (Fne s n0 Z own_EL false ({ frames := 0, cells := 0, slots := 0, locals := 0 } : Room) (fun v h so => v = some (.int (Int32.ofNat cs.length)) ∧ Keep h0 h [b] ∧ Av Z h b .byte ((cs.map i2b).map Value.int))) T (mkF m 3 #[.val (.ref a), .val (.int (Int32.ofNat i)), .val (.ref b), .val (.int (Int32.ofNat i)), .val (.int (Int32.ofNat cs.length)), .val (.int (Int32.ofNat i)), s6] []) := by
    intro k
    induction k with
    | zero =>
      intro i T h s6 hi h6 W KB AB
      obtain rfl : i = cs.length := by omega
      refine k_iload W d_jdk_52_21_3 rfl ?_
      refine k_iload W d_jdk_52_21_5 rfl ?_
      refine k_icY W 44 d_jdk_52_21_7 (by decide) (show ¬ (Int32.ofNat cs.length) < (Int32.ofNat cs.length) from (of_ge (Nat.le_refl _) hN)) ?_
      refine k_iload W d_jdk_52_21_44 rfl ?_
      exact k_ireturn W d_jdk_52_21_46 rfl [] (fun x hx => nomatch hx) (Nat.le_of_ble_eq_true rfl) (Nat.le_of_ble_eq_true rfl) ⟨rfl, KB, by rw [List.take_length, List.drop_eq_nil_of_le (by omega), List.append_nil] at AB; exact AB⟩
    | succ k ih =>
      intro i T h s6 hi h6 W KB AB
      have hlt : i < cs.length := by omega
      obtain ⟨ci, hci⟩ : ∃ c, cs[i]? = some c := ⟨_, List.getElem?_eq_getElem hlt⟩
      have hRi : Rg ci 256 := hR _ (List.mem_of_getElem? hci)
      refine k_iload W d_jdk_52_21_3 rfl ?_
      refine k_iload W d_jdk_52_21_5 rfl ?_
      refine k_icN W d_jdk_52_21_7 (show ¬ (¬ (Int32.ofNat i) < (Int32.ofNat cs.length)) from (fun q => q (of_lt hlt hN))) ?_
      refine k_aloadN W d_jdk_52_21_10 rfl rfl ?_
      refine k_iloadN W d_jdk_52_21_11 rfl ?_
      refine k_caload W (v := (.int ci)) i d_jdk_52_21_12 (A0.keep KB (nin1 hab)) (ix_of (by omega)) (by simp [hci]) ?_
      refine k_istore W d_jdk_52_21_13 (L' := #[.val (.ref a), .val (.int (Int32.ofNat i)), .val (.ref b), .val (.int (Int32.ofNat i)), .val (.int (Int32.ofNat cs.length)), .val (.int (Int32.ofNat i)), .val (.int ci)]) (XS.store1 rfl h6 rfl) ?_
      refine k_iload W d_jdk_52_21_15 rfl ?_
      refine k_sipush W d_jdk_52_21_17 (z := (255 : Int32)) rfl ?_
      refine k_icY W 26 d_jdk_52_21_20 (by decide) (show ¬ (255 : Int32) < ci from (Rg.le255 hRi)) ?_
      refine k_aloadN W d_jdk_52_21_26 rfl rfl ?_
      refine k_iloadN W d_jdk_52_21_27 rfl ?_
      refine k_iload W d_jdk_52_21_28 rfl ?_
      refine k_i2b W d_jdk_52_21_30 (z := (i2b ci)) rfl ?_
      refine k_bastore W (z := (i2b ci)) i d_jdk_52_21_31 (List.mem_of_getElem? (i := 0) rfl) AB (ix_of (by omega)) (by simp; omega) (nar_i2b _) (fits_i2b _) fun T h1 W Wr1 A1 => ?_
      have K1 : Keep h h1 [b] := Keep.of_wr Wr1
      refine k_iinc W d_jdk_52_21_32 rfl (z := (Int32.ofNat (i + 1))) (of_succ i) (L' := #[.val (.ref a), .val (.int (Int32.ofNat (i + 1))), .val (.ref b), .val (.int (Int32.ofNat i)), .val (.int (Int32.ofNat cs.length)), .val (.int (Int32.ofNat i)), .val (.int ci)]) rfl ?_
      refine k_iinc W d_jdk_52_21_35 rfl (z := (Int32.ofNat (i + 1))) (of_succ i) (L' := #[.val (.ref a), .val (.int (Int32.ofNat (i + 1))), .val (.ref b), .val (.int (Int32.ofNat (i + 1))), .val (.int (Int32.ofNat cs.length)), .val (.int (Int32.ofNat i)), .val (.int ci)]) rfl ?_
      refine k_iinc W d_jdk_52_21_38 rfl (z := (Int32.ofNat (i + 1))) (of_succ i) (L' := #[.val (.ref a), .val (.int (Int32.ofNat (i + 1))), .val (.ref b), .val (.int (Int32.ofNat (i + 1))), .val (.int (Int32.ofNat cs.length)), .val (.int (Int32.ofNat (i + 1))), .val (.int ci)]) rfl ?_
      refine k_goto W 3 d_jdk_52_21_41 (by decide) ?_
      refine ih (i + 1) T h1 _ (by omega) (Or.inr ⟨_, rfl, rfl⟩) W (KB.trans K1 (fun x hx => Or.inl hx)) ?_
      have hh := A1
      rw [cmp_step hci hlen] at hh; exact hh
  exact loop cs.length 0 T h0 .unset (by omega) (Or.inl rfl) W (Keep.refl _ _) (by simpa using B0)
set_option maxRecDepth 65536 in
set_option maxHeartbeats 40000000 in
theorem ct_cmp3 (l : Launch) (Z : State) (a0 : Array Value) (hw : ∀ d ∈ tables_1, d.before a0 Z = true) (n0 : Nat) (h0 : Heap) (a : Addr) (cs : List Int32) (N : Nat) (A0 : Av Z h0 a .char (cs.map Value.int)) (hR : ∀ c ∈ cs, Rg c 256) (hN : cs.length ≤ N) (hN2 : N ≤ 67108864) : Ct l Z a0 own_EL false (⟨"java/lang/StringUTF16", "compress", "([CII)[B"⟩ : MethodName) jdk_52_method_16_code 6 (Option.some (Jvm.ClassFile.FieldType.array Jvm.ClassFile.FieldType.byte)) ({ frames := 1, cells := 1, slots := N, locals := 18 } : Room) #[(.ref a), (.int (0 : Int32)), (.int (Int32.ofNat cs.length))] h0 [] n0 (fun v h so => ∃ b, v = some (.ref b) ∧ h0.size ≤ b ∧ Keep h0 h [] ∧ Av Z h b .byte ((cs.map i2b).map Value.int)) := by
  refine Ct.body (plainFor_of_name pn0) ?_
  intro p e s m below meth c T W
  refine WP.cast (g' := (mkF m 0 #[.val (.ref a), .val (.int (0 : Int32)), .val (.int (Int32.ofNat cs.length)), .unset, .unset, .unset] [])) (by simp [entryFrame, mkF, argsToLocals, cat_i, cat_l, cat_r, cat_n]) ?_
  refine k_iloadN W d_jdk_52_16_0 rfl ?_
  refine k_newarr W cs.length 1 (0 + cs.length) d_jdk_52_16_1 (w23 hw) (ix_of (by omega)) (by omega) ⟨rfl, Nat.le_of_ble_eq_true rfl⟩ ⟨rfl, (by show 0 + cs.length ≤ N; omega)⟩ fun T h2 a3 g3 W E3 A3 => ?_
  have K3 : Keep h0 h2 [] := keep_ext E3 []
  have A3 : Av Z h2 a3 .byte (List.replicate cs.length (defaultValue .byte)) := A3
  refine k_astoreN W d_jdk_52_16_3 rfl (L' := #[.val (.ref a), .val (.int (0 : Int32)), .val (.int (Int32.ofNat cs.length)), .val (.ref a3), .unset, .unset]) rfl ?_
  refine k_aloadN W d_jdk_52_16_4 rfl rfl ?_
  refine k_iloadN W d_jdk_52_16_5 rfl ?_
  refine k_aloadN W d_jdk_52_16_6 rfl rfl ?_
  refine k_iconst W d_jdk_52_16_7 (z := (0 : Int32)) rfl ?_
  refine k_iloadN W d_jdk_52_16_8 rfl ?_
  have f4 := (A0.keep K3 nin0)
  refine k_callS W 0 1 ((0 + cs.length) + 0) (argsL := [(.ref a), (.int (0 : Int32)), (.ref a3), (.int (0 : Int32)), (.int (Int32.ofNat cs.length))]) (rest := []) d_jdk_52_16_9 (w24 hw) (w25 hw) (by decide) (lenOf pd0 rfl) (ct_cmp5 l Z a0 hw n0 h2 a a3 cs (List.replicate cs.length (defaultValue .byte)) f4 A3 (by simp) hR) (w26 hw) (w21 hw) (fun x hx => hx) rfl (Nat.le_of_eq rfl) (Nat.le_of_ble_eq_true rfl) (Nat.le_of_ble_eq_true rfl) ⟨rfl, Nat.le_of_ble_eq_true rfl⟩ ⟨rfl, (by show 0 + cs.length ≤ N; omega)⟩ rfl (fun _ _ q => nomatch q.1) fun T h5 v so W hQ => ?_
  obtain ⟨hv, K5, B5⟩ := hQ
  obtain rfl := Option.some.inj hv
  refine k_istore W d_jdk_52_16_12 (L' := #[.val (.ref a), .val (.int (0 : Int32)), .val (.int (Int32.ofNat cs.length)), .val (.ref a3), .val (.int (Int32.ofNat cs.length)), .unset]) rfl ?_
  refine k_iload W d_jdk_52_16_14 rfl ?_
  refine k_iloadN W d_jdk_52_16_16 rfl ?_
  refine k_icY W 57 d_jdk_52_16_17 (by decide) (show (Int32.ofNat cs.length) = (Int32.ofNat cs.length) from rfl) ?_
  refine k_aloadN W d_jdk_52_16_57 rfl rfl ?_
  have KK6 : Keep h0 h2 [] := (Keep.refl h0 []).trans K3 all0
  have KK7 : Keep h0 h5 [] := KK6.trans K5 (allS (Or.inr (Nat.le_of_eq g3.symm)) all0)
  exact k_areturn W d_jdk_52_16_58 rfl rfl rfl [] (fun x hx => nomatch hx) (Nat.le_of_ble_eq_true rfl) (by show 0 + cs.length + 0 ≤ N; omega) ⟨_, rfl, (Nat.le_of_eq g3.symm), KK7, B5⟩
set_option maxRecDepth 65536 in
set_option maxHeartbeats 40000000 in
theorem ct_cfal (l : Launch) (Z : State) (a0 : Array Value) (hw : ∀ d ∈ tables_1, d.before a0 Z = true) (n0 : Nat) (h0 : Heap) (b : Addr) (vs : List Value) (B0 : Av Z h0 b .byte vs) : Ct l Z a0 own_EL false (⟨"java/lang/StringUTF16", "coderFromArrayLen", "([BI)B"⟩ : MethodName) jdk_52_method_15_code 2 (Option.some Jvm.ClassFile.FieldType.byte) ({ frames := 0, cells := 0, slots := 0, locals := 0 } : Room) #[(.ref b), (.int (Int32.ofNat vs.length))] h0 [] n0 (fun v h so => v = some (.int (0 : Int32)) ∧ h0 = h ∧ so = []) := by
  refine Ct.body (plainFor_of_name pn0) ?_
  intro p e s m below meth c T W
  refine WP.cast (g' := (mkF m 0 #[.val (.ref b), .val (.int (Int32.ofNat vs.length))] [])) (by simp [entryFrame, mkF, argsToLocals, cat_i, cat_l, cat_r, cat_n]) ?_
  refine k_iloadN W d_jdk_52_15_0 rfl ?_
  refine k_aloadN W d_jdk_52_15_1 rfl rfl ?_
  refine k_arraylength W (z := (Int32.ofNat vs.length)) d_jdk_52_15_2 B0 rfl ?_
  refine k_isub W d_jdk_52_15_3 (z := ((Int32.ofNat vs.length) - (Int32.ofNat vs.length))) rfl ?_
  refine k_bipush W d_jdk_52_15_4 (z := (31 : Int32)) rfl ?_
  obtain ⟨v8, ev8⟩ : ∃ z : Int32, z = (XT.ushr ((Int32.ofNat vs.length) - (Int32.ofNat vs.length)) (31 : Int32)) := ⟨_, rfl⟩
  refine k_iushr W d_jdk_52_15_6 ev8.symm ?_
  refine k_i2b W d_jdk_52_15_7 (z := (i2b v8)) rfl ?_
  exact k_retN W (t := .byte) (z' := (0 : Int32)) d_jdk_52_15_8 rfl (by simp) (by subst_vars; rw [Int32.sub_self]; decide) [] (fun x hx => nomatch hx) (Nat.le_of_ble_eq_true rfl) (Nat.le_of_ble_eq_true rfl) ⟨rfl, rfl, rfl⟩
set_option maxRecDepth 65536 in
set_option maxHeartbeats 40000000 in
theorem ct_sinit4 (l : Launch) (Z : State) (a0 : Array Value) (hw : ∀ d ∈ tables_1, d.before a0 Z = true) (n0 : Nat) (h0 : Heap) (x a : Addr) (cs : List Int32) (N : Nat) (zc : Int32) (v0 c0 : Value) (E0 : Exa Z h0 x "java/lang/String") (V0 : Fld Z h0 x "java/lang/String" "value" "[B" v0) (C0 : Fld Z h0 x "java/lang/String" "coder" "B" c0) (A0 : Av Z h0 a .char (cs.map Value.int)) (P0 : Sta Z h0 "java/lang/String" "COMPACT_STRINGS" "Z" (.int zc)) (hzc : zc ≠ 0) (hR : ∀ c ∈ cs, Rg c 256) (hp : 0 < cs.length) (hN : cs.length ≤ N) (hN2 : N ≤ 67108864) : Ct l Z a0 own_EL false (⟨"java/lang/String", "<init>", "([CIILjava/lang/Void;)V"⟩ : MethodName) jdk_42_method_149_code 6 (Option.none : Option Jvm.ClassFile.FieldType) ({ frames := 2, cells := 1, slots := N, locals := 35 } : Room) #[(.ref x), (.ref a), (.int (0 : Int32)), (.int (Int32.ofNat cs.length)), .null] h0 [x] n0 (fun v h so => v = none ∧ ∃ b, h0.size ≤ b ∧ Keep h0 h [x] ∧ St Z h x b (cs.map i2b)) := by
  refine Ct.body (plainFor_of_name pn1) ?_
  intro p e s m below meth c T W
  refine WP.cast (g' := (mkF m 0 #[.val (.ref x), .val (.ref a), .val (.int (0 : Int32)), .val (.int (Int32.ofNat cs.length)), .val .null, .unset] [])) (by simp [entryFrame, mkF, argsToLocals, cat_i, cat_l, cat_r, cat_n]) ?_
  have hL : cs.length < 2147483648 := by omega
  have hnz : ¬ Int32.ofNat cs.length = 0 := of_ne0 hp hL
  refine k_aloadN W d_jdk_42_149_0 rfl rfl ?_
  refine k_initO W 0 d_jdk_42_149_1 (w15 hw) (w16 hw) (w17 hw) rfl (Nat.le_of_eq rfl) (Nat.le_of_ble_eq_true rfl) (Nat.le_of_ble_eq_true rfl) fun T W => ?_
  refine k_iloadN W d_jdk_42_149_4 rfl ?_
  refine k_ifY W 27 d_jdk_42_149_5 (by decide) (show ¬ (Int32.ofNat cs.length) = 0 from hnz) ?_
  refine k_getS W d_jdk_42_149_27 (w18 hw) Via.refl P0 fun T W => ?_
  refine k_ifN W d_jdk_42_149_30 (show ¬ (zc = 0) from hzc) ?_
  refine k_aloadN W d_jdk_42_149_33 rfl rfl ?_
  refine k_iloadN W d_jdk_42_149_34 rfl ?_
  refine k_iloadN W d_jdk_42_149_35 rfl ?_
  refine k_callS W 0 1 (0 + N) (argsL := [(.ref a), (.int (0 : Int32)), (.int (Int32.ofNat cs.length))]) (rest := []) d_jdk_42_149_36 (w19 hw) (w20 hw) (by decide) (lenOf pd1 rfl) (ct_cmp3 l Z a0 hw n0 h0 a cs N A0 hR hN hN2) (w22 hw) (w21 hw) (fun x hx => nomatch hx) rfl (Nat.le_of_eq rfl) (Nat.le_of_ble_eq_true rfl) (Nat.le_of_ble_eq_true rfl) ⟨rfl, Nat.le_of_ble_eq_true rfl⟩ ⟨rfl, (by show 0 + N ≤ N; omega)⟩ rfl (fun _ _ ⟨_, q, _⟩ => nomatch q) fun T h9 v so W hQ => ?_
  obtain ⟨b9, hv, g9, K9, B9⟩ := hQ
  obtain rfl := Option.some.inj hv
  refine k_astore W d_jdk_42_149_39 rfl (L' := #[.val (.ref x), .val (.ref a), .val (.int (0 : Int32)), .val (.int (Int32.ofNat cs.length)), .val .null, .val (.ref b9)]) rfl ?_
  refine k_aloadN W d_jdk_42_149_41 rfl rfl ?_
  refine k_aload W d_jdk_42_149_42 rfl rfl ?_
  refine k_iloadN W d_jdk_42_149_44 rfl ?_
  have hvl : ((cs.map i2b).map Value.int).length = cs.length := by simp
  have hqc := ct_cfal l Z a0 hw n0 h9 b9 ((cs.map i2b).map Value.int) B9
  rw [hvl] at hqc
  refine k_callS W 1 1 ((0 + N) + 0) (argsL := [(.ref b9), (.int (Int32.ofNat cs.length))]) (rest := [(.ref x)]) d_jdk_42_149_45 (w27 hw) (w28 hw) (by decide) (lenOf pd2 rfl) hqc (w29 hw) (w21 hw) (fun x hx => nomatch hx) rfl (Nat.le_of_eq rfl) (Nat.le_of_ble_eq_true rfl) (Nat.le_of_ble_eq_true rfl) ⟨rfl, Nat.le_of_ble_eq_true rfl⟩ ⟨rfl, (by show 0 + N ≤ N; omega)⟩ rfl (fun _ _ q => nomatch q.1) fun T h10 v so W hQ => ?_
  obtain ⟨hv, rfl, -⟩ := hQ
  obtain rfl := Option.some.inj hv
  have f11 := (C0.keep K9 nin0)
  have f12 := (E0.keep K9)
  refine k_putF W d_jdk_42_149_48 (w30 hw) Via.refl (v' := (.int (0 : Int32))) (List.mem_of_getElem? (i := 0) rfl) f11 f12 (Or.inr ⟨(w31 hw), rfl, rfl⟩) (w1 hw) (ty := .byte) (by decide) (by decide) (by decide) fun T h13 W Wr13 => ?_
  have K13 : Keep h9 h13 [x] := Keep.of_wr Wr13
  refine k_aloadN W d_jdk_42_149_51 rfl rfl ?_
  refine k_aload W d_jdk_42_149_52 rfl rfl ?_
  have f14 := ((V0.keep K9 nin0).other Wr13 (Or.inr (slot_ne (Or.inr (w33 hw)) (Or.inr (w31 hw)) (by decide) (t := (.array .byte)) (t' := .byte) (by decide) (by decide))))
  have f15 := (f12.keep K13)
  refine k_putF W d_jdk_42_149_54 (w32 hw) Via.refl (v' := (.ref b9)) (List.mem_of_getElem? (i := 0) rfl) f14 f15 (Or.inr ⟨(w33 hw), rfl, rfl⟩) (w1 hw) (ty := (.array .byte)) (by decide) rfl rfl fun T h16 W Wr16 => ?_
  have K16 : Keep h13 h16 [x] := Keep.of_wr Wr16
  have KK17 : Keep h0 h9 [x] := (Keep.refl h0 [x]).trans K9 all0
  have KK18 : Keep h0 h13 [x] := KK17.trans K13 (allS (Or.inl (List.mem_of_getElem? (i := 0) rfl)) all0)
  have KK19 : Keep h0 h16 [x] := KK18.trans K16 (allS (Or.inl (List.mem_of_getElem? (i := 0) rfl)) all0)
  have f20 := (f15.keep K16)
  have f21 := ((Fld.same Wr13 f11).other Wr16 (Or.inr (slot_ne (Or.inr (w31 hw)) (Or.inr (w33 hw)) (by decide) (t := .byte) (t' := (.array .byte)) (by decide) (by decide))))
  have ne22 : b9 ≠ x := (Ne.symm (Nat.ne_of_lt (Nat.lt_of_lt_of_le E0.lt g9)))
  have f23 := ((B9.keep K13 (ninS ne22 nin0)).keep K16 (ninS ne22 nin0))
  exact k_ret W d_jdk_42_149_57 rfl [] (fun x hx => nomatch hx) (Nat.le_of_ble_eq_true rfl) (by show 0 + N ≤ N; omega) ⟨rfl, _, g9, KK19, f20, f21, (Fld.same Wr16 f14), f23⟩
set_option maxRecDepth 65536 in
set_option maxHeartbeats 40000000 in
theorem ct_sinit (l : Launch) (Z : State) (a0 : Array Value) (hw : ∀ d ∈ tables_1, d.before a0 Z = true) (n0 : Nat) (h0 : Heap) (x a : Addr) (cs : List Int32) (N : Nat) (zc : Int32) (v0 c0 : Value) (E0 : Exa Z h0 x "java/lang/String") (V0 : Fld Z h0 x "java/lang/String" "value" "[B" v0) (C0 : Fld Z h0 x "java/lang/String" "coder" "B" c0) (A0 : Av Z h0 a .char (cs.map Value.int)) (P0 : Sta Z h0 "java/lang/String" "COMPACT_STRINGS" "Z" (.int zc)) (hzc : zc ≠ 0) (hR : ∀ c ∈ cs, Rg c 256) (hp : 0 < cs.length) (hN : cs.length ≤ N) (hN2 : N ≤ 67108864) : Ct l Z a0 own_EL false (⟨"java/lang/String", "<init>", "([C)V"⟩ : MethodName) jdk_42_method_3_code 2 (Option.none : Option Jvm.ClassFile.FieldType) ({ frames := 3, cells := 1, slots := N, locals := 52 } : Room) #[(.ref x), (.ref a)] h0 [x] n0 (fun v h so => v = none ∧ ∃ b, h0.size ≤ b ∧ Keep h0 h [x] ∧ St Z h x b (cs.map i2b)) := by
  refine Ct.body (plainFor_of_name pn1) ?_
  intro p e s m below meth c T W
  refine WP.cast (g' := (mkF m 0 #[.val (.ref x), .val (.ref a)] [])) (by simp [entryFrame, mkF, argsToLocals, cat_i, cat_l, cat_r, cat_n]) ?_
  refine k_aloadN W d_jdk_42_3_0 rfl rfl ?_
  refine k_aloadN W d_jdk_42_3_1 rfl rfl ?_
  refine k_iconst W d_jdk_42_3_2 (z := (0 : Int32)) rfl ?_
  refine k_aloadN W d_jdk_42_3_3 rfl rfl ?_
  refine k_arraylength W (z := (Int32.ofNat cs.length)) d_jdk_42_3_4 A0 (by first | (rw [List.length_map]; done) | (rw [List.length_map]; rfl)) ?_
  refine k_aconst W d_jdk_42_3_5 ?_
  refine k_callI0 W 0 1 (0 + N) (argsL := [(.ref a), (.int (0 : Int32)), (.int (Int32.ofNat cs.length)), .null]) (rest := []) (a := x) d_jdk_42_3_6 rfl rfl (w11 hw) (w12 hw) (by decide) (lenOf pd3 rfl) (ct_sinit4 l Z a0 hw n0 h0 x a cs N zc v0 c0 E0 V0 C0 A0 P0 hzc hR hp hN hN2) (w14 hw) (w2 hw) (fun x hx => hx) rfl (Nat.le_of_eq rfl) (Nat.le_of_ble_eq_true rfl) (Nat.le_of_ble_eq_true rfl) ⟨rfl, Nat.le_of_ble_eq_true rfl⟩ ⟨rfl, (by show 0 + N ≤ N; omega)⟩ rfl (fun _ _ _ q => nomatch q.1) fun T h24 so W hQ => ?_
  have hq24 := hQ.2
  exact k_ret W d_jdk_42_3_9 rfl [] (fun x hx => nomatch hx) (Nat.le_of_ble_eq_true rfl) (by show 0 + N ≤ N; omega) ⟨rfl, hq24⟩
set_option maxRecDepth 65536 in
set_option maxHeartbeats 40000000 in
theorem ct_sinitE4 (l : Launch) (Z : State) (a0 : Array Value) (hw : ∀ d ∈ tables_1, d.before a0 Z = true) (n0 : Nat) (h0 : Heap) (x a : Addr) (sfx : List Addr) (v0 c0 : Value) (E0 : Exa Z h0 x "java/lang/String") (V0 : Fld Z h0 x "java/lang/String" "value" "[B" v0) (C0 : Fld Z h0 x "java/lang/String" "coder" "B" c0) : Ct l Z a0 own_EL false (⟨"java/lang/String", "<init>", "([CIILjava/lang/Void;)V"⟩ : MethodName) jdk_42_method_149_code 6 (Option.none : Option Jvm.ClassFile.FieldType) ({ frames := 1, cells := 4, slots := 8, locals := 12 } : Room) #[(.ref x), (.ref a), (.int (0 : Int32)), (.int (0 : Int32)), .null] h0 (x :: sfx) n0 (fun v h so => v = none ∧ ∃ b, Keep h0 h [x] ∧ St Z h x b [] ∧ ∀ z ∈ x :: sfx, z ≠ b) := by
  refine Ct.body (plainFor_of_name pn1) ?_
  intro p e s m below meth c T W
  refine WP.cast (g' := (mkF m 0 #[.val (.ref x), .val (.ref a), .val (.int (0 : Int32)), .val (.int (0 : Int32)), .val .null, .unset] [])) (by simp [entryFrame, mkF, argsToLocals, cat_i, cat_l, cat_r, cat_n]) ?_
  refine k_aloadN W d_jdk_42_149_0 rfl rfl ?_
  refine k_initO W 0 d_jdk_42_149_1 (w15 hw) (w16 hw) (w17 hw) rfl (Nat.le_of_eq rfl) (Nat.le_of_ble_eq_true rfl) (Nat.le_of_ble_eq_true rfl) fun T W => ?_
  refine k_iloadN W d_jdk_42_149_4 rfl ?_
  refine k_ifN W d_jdk_42_149_5 (show ¬ (¬ (0 : Int32) = 0) by decide) ?_
  refine k_aloadN W d_jdk_42_149_8 rfl rfl ?_
  refine k_ldcS W [] 0 2 4 rfl d_jdk_42_149_9 (w89 hw) (wS hw) (by decide) ⟨by decide, by decide⟩ (by decide) ⟨by decide, by decide⟩ ⟨rfl, Nat.le_of_ble_eq_true rfl⟩ ⟨rfl, Nat.le_of_ble_eq_true rfl⟩ fun T h25 a25 b25 W E25 S25 N25 => ?_
  have K25 : Keep h0 h25 [] := keep_ext E25 []
  refine k_getF W d_jdk_42_149_11 (host := "") (Or.inl (w32 hw)) Via.refl S25.2.2.1 fun T W => ?_
  have f26 := (V0.keep K25 nin0)
  have f27 := (E0.keep K25)
  refine k_putF W d_jdk_42_149_14 (w32 hw) Via.refl (v' := (.ref b25)) (List.mem_of_getElem? (i := 0) rfl) f26 f27 (Or.inr ⟨(w33 hw), rfl, rfl⟩) (w1 hw) (ty := (.array .byte)) (by decide) rfl rfl fun T h28 W Wr28 => ?_
  have K28 : Keep h25 h28 [x] := Keep.of_wr Wr28
  refine k_aloadN W d_jdk_42_149_17 rfl rfl ?_
  refine k_ldcS W [] 0 4 8 rfl d_jdk_42_149_18 (w89 hw) (wS hw) (by decide) ⟨by decide, by decide⟩ (by decide) ⟨by decide, by decide⟩ ⟨rfl, Nat.le_of_ble_eq_true rfl⟩ ⟨rfl, Nat.le_of_ble_eq_true rfl⟩ fun T h29 a29 b29 W E29 S29 N29 => ?_
  have K29 : Keep h28 h29 [] := keep_ext E29 []
  refine k_getF W d_jdk_42_149_20 (host := "") (Or.inl (w30 hw)) Via.refl S29.2.1 fun T W => ?_
  have f30 := (((C0.keep K25 nin0).other Wr28 (Or.inr (slot_ne (Or.inr (w31 hw)) (Or.inr (w33 hw)) (by decide) (t := .byte) (t' := (.array .byte)) (by decide) (by decide)))).keep K29 nin0)
  have f31 := ((f27.keep K28).keep K29)
  refine k_putF W d_jdk_42_149_23 (w30 hw) Via.refl (v' := (.int (0 : Int32))) (List.mem_of_getElem? (i := 0) rfl) f30 f31 (Or.inr ⟨(w31 hw), rfl, rfl⟩) (w1 hw) (ty := .byte) (by decide) (by decide) (by decide) fun T h32 W Wr32 => ?_
  have K32 : Keep h29 h32 [x] := Keep.of_wr Wr32
  have KK33 : Keep h0 h25 [x] := (Keep.refl h0 [x]).trans K25 all0
  have KK34 : Keep h0 h28 [x] := KK33.trans K28 (allS (Or.inl (List.mem_of_getElem? (i := 0) rfl)) all0)
  have KK35 : Keep h0 h29 [x] := KK34.trans K29 all0
  have KK36 : Keep h0 h32 [x] := KK35.trans K32 (allS (Or.inl (List.mem_of_getElem? (i := 0) rfl)) all0)
  have f37 := (f31.keep K32)
  have f38 := (((Fld.same Wr28 f26).keep K29 nin0).other Wr32 (Or.inr (slot_ne (Or.inr (w33 hw)) (Or.inr (w31 hw)) (by decide) (t := (.array .byte)) (t' := .byte) (by decide) (by decide))))
  have ne39 : a25 ≠ x := (Ne.symm (N25 _ (List.mem_of_getElem? (i := 0) rfl)).1)
  have ne40 : b25 ≠ x := (Ne.symm (N25 _ (List.mem_of_getElem? (i := 0) rfl)).2)
  have f41 := (((S25.keep K28 (ninS ne39 nin0) (ninS ne40 nin0)).keep K29 nin0 nin0).keep K32 (ninS ne39 nin0) (ninS ne40 nin0))
  exact k_ret W d_jdk_42_149_26 rfl [] (fun x hx => nomatch hx) (Nat.le_of_ble_eq_true rfl) (Nat.le_of_ble_eq_true rfl) ⟨rfl, b25, KK36, ⟨f37, (Fld.same Wr32 f30), f38, f41.2.2.2⟩, fun z hz => (N25 z hz).2⟩
set_option maxRecDepth 65536 in
set_option maxHeartbeats 40000000 in
theorem ct_sinitE (l : Launch) (Z : State) (a0 : Array Value) (hw : ∀ d ∈ tables_1, d.before a0 Z = true) (n0 : Nat) (h0 : Heap) (x a : Addr) (sfx : List Addr) (v0 c0 : Value) (E0 : Exa Z h0 x "java/lang/String") (V0 : Fld Z h0 x "java/lang/String" "value" "[B" v0) (C0 : Fld Z h0 x "java/lang/String" "coder" "B" c0) (A0 : Av Z h0 a .char []) : Ct l Z a0 own_EL false (⟨"java/lang/String", "<init>", "([C)V"⟩ : MethodName) jdk_42_method_3_code 2 (Option.none : Option Jvm.ClassFile.FieldType) ({ frames := 2, cells := 4, slots := 8, locals := 29 } : Room) #[(.ref x), (.ref a)] h0 (x :: sfx) n0 (fun v h so => v = none ∧ ∃ b, Keep h0 h [x] ∧ St Z h x b [] ∧ ∀ z ∈ x :: sfx, z ≠ b) := by
  refine Ct.body (plainFor_of_name pn1) ?_
  intro p e s m below meth c T W
  refine WP.cast (g' := (mkF m 0 #[.val (.ref x), .val (.ref a)] [])) (by simp [entryFrame, mkF, argsToLocals, cat_i, cat_l, cat_r, cat_n]) ?_
  refine k_aloadN W d_jdk_42_3_0 rfl rfl ?_
  refine k_aloadN W d_jdk_42_3_1 rfl rfl ?_
  refine k_iconst W d_jdk_42_3_2 (z := (0 : Int32)) rfl ?_
  refine k_aloadN W d_jdk_42_3_3 rfl rfl ?_
  refine k_arraylength W (z := (0 : Int32)) d_jdk_42_3_4 A0 rfl ?_
  refine k_aconst W d_jdk_42_3_5 ?_
  refine k_callI0 W 0 4 8 (argsL := [(.ref a), (.int (0 : Int32)), (.int (0 : Int32)), .null]) (rest := []) (a := x) d_jdk_42_3_6 rfl rfl (w11 hw) (w12 hw) (by decide) (lenOf pd3 rfl) (ct_sinitE4 l Z a0 hw n0 h0 x a sfx v0 c0 E0 V0 C0) (w14 hw) (w2 hw) (fun x hx => hx) rfl (Nat.le_of_eq rfl) (Nat.le_of_ble_eq_true rfl) (Nat.le_of_ble_eq_true rfl) ⟨rfl, Nat.le_of_ble_eq_true rfl⟩ ⟨rfl, Nat.le_of_ble_eq_true rfl⟩ rfl (fun _ _ _ q => nomatch q.1) fun T h42 so W hQ => ?_
  have hq42 := hQ.2
  exact k_ret W d_jdk_42_3_9 rfl [] (fun x hx => nomatch hx) (Nat.le_of_ble_eq_true rfl) (Nat.le_of_ble_eq_true rfl) ⟨rfl, hq42⟩
set_option maxRecDepth 65536 in
set_option maxHeartbeats 40000000 in
theorem ct_leq (l : Launch) (Z : State) (a0 : Array Value) (hw : ∀ d ∈ tables_1, d.before a0 Z = true) (n0 : Nat) (h0 : Heap) (a b : Addr) (as bs : List Int32) (A0 : Av Z h0 a .byte (as.map Value.int)) (B0 : Av Z h0 b .byte (bs.map Value.int)) : Ct l Z a0 own_EL false (⟨"java/lang/StringLatin1", "equals", "([B[B)Z"⟩ : MethodName) jdk_43_method_13_code 3 (Option.some Jvm.ClassFile.FieldType.boolean) ({ frames := 0, cells := 0, slots := 0, locals := 0 } : Room) #[(.ref a), (.ref b)] h0 [] n0 (fun v h so => ((as = bs ∧ v = some (.int (1 : Int32))) ∨ (as ≠ bs ∧ v = some (.int (0 : Int32)))) ∧ h0 = h) := by
  refine Ct.body (plainFor_of_name pn2) ?_
  intro p e s m below meth c T W
  refine WP.cast (g' := (mkF m 0 #[.val (.ref a), .val (.ref b), .unset] [])) (by simp [entryFrame, mkF, argsToLocals, cat_i, cat_l, cat_r, cat_n]) ?_
  have hA : as.length < 2147483648 := by have := A0.len; simpa using this
  have hB : bs.length < 2147483648 := by have := B0.len; simpa using this
  refine k_aloadN W d_jdk_43_13_0 rfl rfl ?_
  refine k_arraylength W (z := (Int32.ofNat as.length)) d_jdk_43_13_1 A0 (by first | (rw [List.length_map]; done) | (rw [List.length_map]; rfl)) ?_
  refine k_aloadN W d_jdk_43_13_2 rfl rfl ?_
  refine k_arraylength W (z := (Int32.ofNat bs.length)) d_jdk_43_13_3 B0 (by first | (rw [List.length_map]; done) | (rw [List.length_map]; rfl)) ?_
  refine k_ic W 34 d_jdk_43_13_4 (by decide) (fun (hc43 : ¬ (Int32.ofNat as.length) = (Int32.ofNat bs.length)) => ?_) (fun (hc43 : ¬ (¬ (Int32.ofNat as.length) = (Int32.ofNat bs.length))) => ?_)
  · --
    refine k_iconst W d_jdk_43_13_34 (z := (0 : Int32)) rfl ?_
    exact k_retN W (t := .boolean) (z' := (0 : Int32)) d_jdk_43_13_35 rfl (by simp) (by decide) [] (fun x hx => nomatch hx) (Nat.le_of_ble_eq_true rfl) (Nat.le_of_ble_eq_true rfl) ⟨Or.inr ⟨fun q => hc43 (by rw [q]), rfl⟩, rfl⟩
  · --
    have hl : as.length = bs.length := of_inj hA hB (Classical.not_not.mp hc43)
    refine k_iconst W d_jdk_43_13_7 (z := (0 : Int32)) rfl ?_
    refine k_istoreN W d_jdk_43_13_8 (L' := #[.val (.ref a), .val (.ref b), .val (.int (0 : Int32))]) rfl ?_
    have loop : ∀ (k i : Nat) (T : State), i + k = as.length → as.take i = bs.take i → WS p l e ({ frames := 0, cells := 0, slots := 0, locals := 0 } : Room) s m #[(.ref a), (.ref b)] below meth c Z a0 own_EL false n0 (⟨"java/lang/StringLatin1", "equals", "([B[B)Z"⟩ : MethodName) jdk_43_method_13_code 3 (Option.some Jvm.ClassFile.FieldType.boolean) T h0 [] 0 0 → WP p e below (Fne s n0 Z own_EL false ({ frames := 0, cells := 0, slots := 0, locals := 0 } : Room) (fun v h so => ((as = bs ∧ v = some (.int (1 : Int32))) ∨ (as ≠ bs ∧ v = some (.int (0 : Int32)))) ∧ h0 = h)) T (mkF m 9 #[.val (.ref a), .val (.ref b), .val (.int (Int32.ofNat i))] []) := by
      intro k
      induction k with
      | zero =>
        intro i T hi hE W
        obtain rfl : i = as.length := by omega
        refine k_iloadN W d_jdk_43_13_9 rfl ?_
        refine k_aloadN W d_jdk_43_13_10 rfl rfl ?_
        refine k_arraylength W (z := (Int32.ofNat as.length)) d_jdk_43_13_11 A0 (by first | (rw [List.length_map]; done) | (rw [List.length_map]; rfl)) ?_
        refine k_icY W 32 d_jdk_43_13_12 (by decide) (show ¬ (Int32.ofNat as.length) < (Int32.ofNat as.length) from (of_ge (Nat.le_refl _) hA)) ?_
        refine k_iconst W d_jdk_43_13_32 (z := (1 : Int32)) rfl ?_
        exact k_retN W (t := .boolean) (z' := (1 : Int32)) d_jdk_43_13_33 rfl (by simp) (by decide) [] (fun x hx => nomatch hx) (Nat.le_of_ble_eq_true rfl) (Nat.le_of_ble_eq_true rfl) ⟨Or.inl ⟨by rw [List.take_length, hl, List.take_length] at hE; exact hE, rfl⟩, rfl⟩
      | succ k ih =>
        intro i T hi hE W
        have h1 : i < as.length := by omega
        have h2 : i < bs.length := by omega
        obtain ⟨x, hx⟩ : ∃ c, as[i]? = some c := ⟨_, List.getElem?_eq_getElem h1⟩
        obtain ⟨y, hy⟩ : ∃ c, bs[i]? = some c := ⟨_, List.getElem?_eq_getElem h2⟩
        have hs : ∀ zs : List Int32, ∀ z, zs[i]? = some z → zs.take (i + 1) = zs.take i ++ [z] := fun zs z q => by rw [List.take_succ, q]; rfl
        refine k_iloadN W d_jdk_43_13_9 rfl ?_
        refine k_aloadN W d_jdk_43_13_10 rfl rfl ?_
        refine k_arraylength W (z := (Int32.ofNat as.length)) d_jdk_43_13_11 A0 (by first | (rw [List.length_map]; done) | (rw [List.length_map]; rfl)) ?_
        refine k_icN W d_jdk_43_13_12 (show ¬ (¬ (Int32.ofNat i) < (Int32.ofNat as.length)) from (fun q => q (of_lt h1 hA))) ?_
        refine k_aloadN W d_jdk_43_13_15 rfl rfl ?_
        refine k_iloadN W d_jdk_43_13_16 rfl ?_
        refine k_baload W (v := (.int x)) i d_jdk_43_13_17 A0 (ix_of (by omega)) (by simp [hx]) ?_
        refine k_aloadN W d_jdk_43_13_18 rfl rfl ?_
        refine k_iloadN W d_jdk_43_13_19 rfl ?_
        refine k_baload W (v := (.int y)) i d_jdk_43_13_20 B0 (ix_of (by omega)) (by simp [hy]) ?_
        refine k_ic W 26 d_jdk_43_13_21 (by decide) (fun (hc44 : x = y) => ?_) (fun (hc44 : ¬ (x = y)) => ?_)
        · -- pc 26
          refine k_iinc W d_jdk_43_13_26 rfl (z := (Int32.ofNat (i + 1))) (of_succ i) (L' := #[.val (.ref a), .val (.ref b), .val (.int (Int32.ofNat (i + 1)))]) rfl ?_
          refine k_goto W 9 d_jdk_43_13_29 (by decide) ?_
          exact ih (i + 1) T (by omega) (by rw [hs as x hx, hs bs y hy, hE, hc44]) W
        · -- pc 24
          refine k_iconst W d_jdk_43_13_24 (z := (0 : Int32)) rfl ?_
          exact k_retN W (t := .boolean) (z' := (0 : Int32)) d_jdk_43_13_25 rfl (by simp) (by decide) [] (fun x hx => nomatch hx) (Nat.le_of_ble_eq_true rfl) (Nat.le_of_ble_eq_true rfl) ⟨Or.inr ⟨fun q => hc44 (by rw [q, hy] at hx; exact (Option.some.inj hx).symm), rfl⟩, rfl⟩
    exact loop as.length 0 T (by omega) (by simp) W
set_option maxRecDepth 65536 in
set_option maxHeartbeats 40000000 in
theorem ct_seq (l : Launch) (Z : State) (a0 : Array Value) (hw : ∀ d ∈ tables_1, d.before a0 Z = true) (n0 : Nat) (h0 : Heap) (x a y b : Addr) (as bs : List Int32) (zc : Int32) (hne : x ≠ y) (S0 : St Z h0 x a as) (S1 : St Z h0 y b bs) (P0 : Sta Z h0 "java/lang/String" "COMPACT_STRINGS" "Z" (.int zc)) (hzc : zc ≠ 0) : Ct l Z a0 own_EL false (⟨"java/lang/String", "equals", "(Ljava/lang/Object;)Z"⟩ : MethodName) jdk_42_method_66_code 3 (Option.some Jvm.ClassFile.FieldType.boolean) ({ frames := 1, cells := 0, slots := 0, locals := 14 } : Room) #[(.ref x), (.ref y)] h0 [] n0 (fun v h so => ((as = bs ∧ v = some (.int (1 : Int32))) ∨ (as ≠ bs ∧ v = some (.int (0 : Int32)))) ∧ h0 = h) := by
  refine Ct.body (plainFor_of_name pn1) ?_
  intro p e s m below meth c T W
  refine WP.cast (g' := (mkF m 0 #[.val (.ref x), .val (.ref y), .unset] [])) (by simp [entryFrame, mkF, argsToLocals, cat_i, cat_l, cat_r, cat_n]) ?_
  refine k_aloadN W d_jdk_42_66_0 rfl rfl ?_
  refine k_aloadN W d_jdk_42_66_1 rfl rfl ?_
  refine k_acY W 7 d_jdk_42_66_2 rfl rfl (by decide) (fun q => hne (Value.ref.inj q)) ?_
  refine k_aloadN W d_jdk_42_66_7 rfl rfl ?_
  refine k_instY W d_jdk_42_66_8 (w64 hw) (Ins.self S1.1) fun T W => ?_
  refine k_ifN W d_jdk_42_66_11 (show ¬ ((1 : Int32) = 0) by decide) ?_
  refine k_aloadN W d_jdk_42_66_14 rfl rfl ?_
  refine k_cast W d_jdk_42_66_15 (w64 hw) (Ins.self S1.1) fun T W => ?_
  refine k_astoreN W d_jdk_42_66_18 rfl (L' := #[.val (.ref x), .val (.ref y), .val (.ref y)]) rfl ?_
  refine k_getS W d_jdk_42_66_19 (w18 hw) Via.refl P0 fun T W => ?_
  refine k_ifN W d_jdk_42_66_22 (show ¬ (zc = 0) from hzc) ?_
  refine k_aloadN W d_jdk_42_66_25 rfl rfl ?_
  refine k_getF W d_jdk_42_66_26 (host := "") (Or.inl (w30 hw)) Via.refl S0.2.1 fun T W => ?_
  refine k_aloadN W d_jdk_42_66_29 rfl rfl ?_
  refine k_getF W d_jdk_42_66_30 (host := "") (Or.inl (w30 hw)) Via.refl S1.2.1 fun T W => ?_
  refine k_icN W d_jdk_42_66_33 (show ¬ (¬ (0 : Int32) = (0 : Int32)) from (fun q => q rfl)) ?_
  refine k_aloadN W d_jdk_42_66_36 rfl rfl ?_
  refine k_getF W d_jdk_42_66_37 (host := "") (Or.inl (w32 hw)) Via.refl S0.2.2.1 fun T W => ?_
  refine k_aloadN W d_jdk_42_66_40 rfl rfl ?_
  refine k_getF W d_jdk_42_66_41 (host := "") (Or.inl (w32 hw)) Via.refl S1.2.2.1 fun T W => ?_
  refine k_callS W 0 0 0 (argsL := [(.ref a), (.ref b)]) (rest := []) d_jdk_42_66_44 (w65 hw) (w66 hw) (by decide) (lenOf pd4 rfl) (ct_leq l Z a0 hw n0 h0 a b as bs S0.2.2.2 S1.2.2.2) (w68 hw) (w67 hw) (fun x hx => hx) rfl (Nat.le_of_eq rfl) (Nat.le_of_ble_eq_true rfl) (Nat.le_of_ble_eq_true rfl) ⟨rfl, Nat.le_of_ble_eq_true rfl⟩ ⟨rfl, Nat.le_of_ble_eq_true rfl⟩ rfl (fun _ _ q => by rcases q.1 with ⟨_, u⟩ | ⟨_, u⟩ <;> cases u) fun T h45 v so W hQ => ?_
  obtain ⟨hQ, rfl⟩ := hQ
  rcases hQ with ⟨he, hv⟩ | ⟨he, hv⟩
  · --
    obtain rfl := Option.some.inj hv
    refine k_ifN W d_jdk_42_66_47 (show ¬ ((1 : Int32) = 0) by decide) ?_
    refine k_iconst W d_jdk_42_66_50 (z := (1 : Int32)) rfl ?_
    refine k_goto W 55 d_jdk_42_66_51 (by decide) ?_
    exact k_retN W (t := .boolean) (z' := (1 : Int32)) d_jdk_42_66_55 rfl (by simp) (by decide) [] (fun x hx => nomatch hx) (Nat.le_of_ble_eq_true rfl) (Nat.le_of_ble_eq_true rfl) ⟨Or.inl ⟨he, rfl⟩, rfl⟩
  · --
    obtain rfl := Option.some.inj hv
    refine k_ifY W 54 d_jdk_42_66_47 (by decide) (show (0 : Int32) = 0 by decide) ?_
    refine k_iconst W d_jdk_42_66_54 (z := (0 : Int32)) rfl ?_
    exact k_retN W (t := .boolean) (z' := (0 : Int32)) d_jdk_42_66_55 rfl (by simp) (by decide) [] (fun x hx => nomatch hx) (Nat.le_of_ble_eq_true rfl) (Nat.le_of_ble_eq_true rfl) ⟨Or.inr ⟨he, rfl⟩, rfl⟩
set_option maxRecDepth 65536 in
set_option maxHeartbeats 40000000 in
theorem ct_seqI (l : Launch) (Z : State) (a0 : Array Value) (hw : ∀ d ∈ tables_1, d.before a0 Z = true) (n0 : Nat) (h0 : Heap) (x : Addr) : Ct l Z a0 own_EL false (⟨"java/lang/String", "equals", "(Ljava/lang/Object;)Z"⟩ : MethodName) jdk_42_method_66_code 3 (Option.some Jvm.ClassFile.FieldType.boolean) ({ frames := 0, cells := 0, slots := 0, locals := 0 } : Room) #[(.ref x), (.ref x)] h0 [] n0 (fun v h so => v = some (.int (1 : Int32)) ∧ h0 = h ∧ so = []) := by
  refine Ct.body (plainFor_of_name pn1) ?_
  intro p e s m below meth c T W
  refine WP.cast (g' := (mkF m 0 #[.val (.ref x), .val (.ref x), .unset] [])) (by simp [entryFrame, mkF, argsToLocals, cat_i, cat_l, cat_r, cat_n]) ?_
  refine k_aloadN W d_jdk_42_66_0 rfl rfl ?_
  refine k_aloadN W d_jdk_42_66_1 rfl rfl ?_
  refine k_acN W d_jdk_42_66_2 rfl rfl (by decide) (fun q => q rfl) ?_
  refine k_iconst W d_jdk_42_66_5 (z := (1 : Int32)) rfl ?_
  exact k_retN W (t := .boolean) (z' := (1 : Int32)) d_jdk_42_66_6 rfl (by simp) (by decide) [] (fun x hx => nomatch hx) (Nat.le_of_ble_eq_true rfl) (Nat.le_of_ble_eq_true rfl) ⟨rfl, rfl, rfl⟩
set_option maxRecDepth 65536 in
set_option maxHeartbeats 40000000 in
theorem ct_seqN (l : Launch) (Z : State) (a0 : Array Value) (hw : ∀ d ∈ tables_1, d.before a0 Z = true) (n0 : Nat) (h0 : Heap) (x : Addr) : Ct l Z a0 own_EL false (⟨"java/lang/String", "equals", "(Ljava/lang/Object;)Z"⟩ : MethodName) jdk_42_method_66_code 3 (Option.some Jvm.ClassFile.FieldType.boolean) ({ frames := 0, cells := 0, slots := 0, locals := 0 } : Room) #[(.ref x), .null] h0 [] n0 (fun v h so => v = some (.int (0 : Int32)) ∧ h0 = h ∧ so = []) := by
  refine Ct.body (plainFor_of_name pn1) ?_
  intro p e s m below meth c T W
  refine WP.cast (g' := (mkF m 0 #[.val (.ref x), .val .null, .unset] [])) (by simp [entryFrame, mkF, argsToLocals, cat_i, cat_l, cat_r, cat_n]) ?_
  refine k_aloadN W d_jdk_42_66_0 rfl rfl ?_
  refine k_aloadN W d_jdk_42_66_1 rfl rfl ?_
  refine k_acY W 7 d_jdk_42_66_2 rfl rfl (by decide) (fun q => nomatch q) ?_
  refine k_aloadN W d_jdk_42_66_7 rfl rfl ?_
  refine k_instNull W d_jdk_42_66_8 ?_
  refine k_ifY W 54 d_jdk_42_66_11 (by decide) (show (0 : Int32) = 0 by decide) ?_
  refine k_iconst W d_jdk_42_66_54 (z := (0 : Int32)) rfl ?_
  exact k_retN W (t := .boolean) (z' := (0 : Int32)) d_jdk_42_66_55 rfl (by simp) (by decide) [] (fun x hx => nomatch hx) (Nat.le_of_ble_eq_true rfl) (Nat.le_of_ble_eq_true rfl) ⟨rfl, rfl, rfl⟩
def own_pick (a b c d : Addr) (bs : List Int32) : Value := if bs = [(116 : Int32), (114 : Int32), (101 : Int32), (101 : Int32)] then .ref a else if bs = [(103 : Int32), (114 : Int32), (97 : Int32), (112 : Int32), (104 : Int32)] then .ref b else if bs = [(111 : Int32), (114 : Int32), (100 : Int32), (101 : Int32), (114 : Int32), (101 : Int32), (100 : Int32), (45 : Int32), (103 : Int32), (114 : Int32), (97 : Int32), (112 : Int32), (104 : Int32)] then .ref c else if bs = [(110 : Int32), (101 : Int32), (109 : Int32), (111 : Int32), (45 : Int32), (116 : Int32), (114 : Int32), (97 : Int32), (99 : Int32), (101 : Int32)] then .ref d else .null
theorem own_pick_ref {a b c d : Addr} {bs : List Int32} : (own_pick a b c d bs).isRef = true := by
  unfold own_pick; (repeat' split) <;> rfl
set_option maxRecDepth 65536 in
set_option maxHeartbeats 40000000 in
theorem ct_vals (l : Launch) (Z : State) (a0 : Array Value) (hw : ∀ d ∈ tables_1, d.before a0 Z = true) (n0 : Nat) (h0 : Heap) (eT eG eO eN : Addr) (arr : Addr) (AR : Av Z h0 arr (.object "com/example/proofs_for_datalog/proofsfordatalog/input/ProofFormat") [(.ref eT), (.ref eG), (.ref eO), (.ref eN)]) (AX : Exa Z h0 arr "[Lcom/example/proofs_for_datalog/proofsfordatalog/input/ProofFormat;") (SA : Sta Z h0 "com/example/proofs_for_datalog/proofsfordatalog/input/ProofFormat" "$VALUES" "[Lcom/example/proofs_for_datalog/proofsfordatalog/input/ProofFormat;" (.ref arr)) : Ct l Z a0 own_EL false (⟨"com/example/proofs_for_datalog/proofsfordatalog/input/ProofFormat", "values", "()[Lcom/example/proofs_for_datalog/proofsfordatalog/input/ProofFormat;"⟩ : MethodName) prog_7_method_1_code 0 (Option.some (Jvm.ClassFile.FieldType.array (Jvm.ClassFile.FieldType.object "com/example/proofs_for_datalog/proofsfordatalog/input/ProofFormat"))) ({ frames := 1, cells := 1, slots := 4, locals := 14 } : Room) #[] h0 [] n0 (fun v h so => ∃ x, v = some (.ref x) ∧ h0.size ≤ x ∧ Keep h0 h [] ∧ Av Z h x (.object "com/example/proofs_for_datalog/proofsfordatalog/input/ProofFormat") [(.ref eT), (.ref eG), (.ref eO), (.ref eN)]) := by
  refine Ct.body (plainFor_of_name pn3) ?_
  intro p e s m below meth c T W
  refine WP.cast (g' := (mkF m 0 #[] [])) (by simp [entryFrame, mkF, argsToLocals, cat_i, cat_l, cat_r, cat_n]) ?_
  refine k_getS W d_prog_7_1_0 (w41 hw) Via.refl SA fun T W => ?_
  refine k_clone W 0 4 1 4 d_prog_7_1_3 (w43 hw) (w44 hw) (w48 hw) (w46 hw) (w47 hw) (w49 hw) AR AX (Nat.le_of_ble_eq_true rfl) rfl (Nat.le_of_eq rfl) (Nat.le_of_ble_eq_true rfl) (Nat.le_of_ble_eq_true rfl) ⟨rfl, Nat.le_of_ble_eq_true rfl⟩ ⟨rfl, Nat.le_of_ble_eq_true rfl⟩ fun T h46 a47 g47 W E47 A47 X47 => ?_
  have K47 : Keep h0 h46 [] := keep_ext E47 []
  refine k_cast W d_prog_7_1_6 (w55 hw) (Ins.self X47) fun T W => ?_
  have KK48 : Keep h0 h46 [] := (Keep.refl h0 []).trans K47 all0
  exact k_areturn W d_prog_7_1_9 rfl rfl rfl [] (fun x hx => nomatch hx) (Nat.le_of_ble_eq_true rfl) (Nat.le_of_ble_eq_true rfl) ⟨_, rfl, (Nat.le_of_eq g47.symm), KK48, A47⟩
set_option maxRecDepth 65536 in
set_option maxHeartbeats 40000000 in
theorem ct_named (l : Launch) (Z : State) (a0 : Array Value) (hw : ∀ d ∈ tables_1, d.before a0 Z = true) (n0 : Nat) (h0 : Heap) (eT eG eO eN : Addr) (sT bT : Addr) (sG bG : Addr) (sO bO : Addr) (sN bN : Addr) (arr : Addr) (x bx : Addr) (bs : List Int32) (zc : Int32) (nT : sT ≠ x) (nG : sG ≠ x) (nO : sO ≠ x) (nN : sN ≠ x) (XxT : Exa Z h0 eT "com/example/proofs_for_datalog/proofsfordatalog/input/ProofFormat") (LT : Fld Z h0 eT "com/example/proofs_for_datalog/proofsfordatalog/input/ProofFormat" "id" "Ljava/lang/String;" (.ref sT)) (TT : St Z h0 sT bT [(116 : Int32), (114 : Int32), (101 : Int32), (101 : Int32)]) (XxG : Exa Z h0 eG "com/example/proofs_for_datalog/proofsfordatalog/input/ProofFormat") (LG : Fld Z h0 eG "com/example/proofs_for_datalog/proofsfordatalog/input/ProofFormat" "id" "Ljava/lang/String;" (.ref sG)) (TG : St Z h0 sG bG [(103 : Int32), (114 : Int32), (97 : Int32), (112 : Int32), (104 : Int32)]) (XxO : Exa Z h0 eO "com/example/proofs_for_datalog/proofsfordatalog/input/ProofFormat") (LO : Fld Z h0 eO "com/example/proofs_for_datalog/proofsfordatalog/input/ProofFormat" "id" "Ljava/lang/String;" (.ref sO)) (TO : St Z h0 sO bO [(111 : Int32), (114 : Int32), (100 : Int32), (101 : Int32), (114 : Int32), (101 : Int32), (100 : Int32), (45 : Int32), (103 : Int32), (114 : Int32), (97 : Int32), (112 : Int32), (104 : Int32)]) (XxN : Exa Z h0 eN "com/example/proofs_for_datalog/proofsfordatalog/input/ProofFormat") (LN : Fld Z h0 eN "com/example/proofs_for_datalog/proofsfordatalog/input/ProofFormat" "id" "Ljava/lang/String;" (.ref sN)) (TN : St Z h0 sN bN [(110 : Int32), (101 : Int32), (109 : Int32), (111 : Int32), (45 : Int32), (116 : Int32), (114 : Int32), (97 : Int32), (99 : Int32), (101 : Int32)]) (AR : Av Z h0 arr (.object "com/example/proofs_for_datalog/proofsfordatalog/input/ProofFormat") [(.ref eT), (.ref eG), (.ref eO), (.ref eN)]) (AX : Exa Z h0 arr "[Lcom/example/proofs_for_datalog/proofsfordatalog/input/ProofFormat;") (SA : Sta Z h0 "com/example/proofs_for_datalog/proofsfordatalog/input/ProofFormat" "$VALUES" "[Lcom/example/proofs_for_datalog/proofsfordatalog/input/ProofFormat;" (.ref arr)) (P0 : Sta Z h0 "java/lang/String" "COMPACT_STRINGS" "Z" (.int zc)) (hzc : zc ≠ 0) (SX : St Z h0 x bx bs) : Ct l Z a0 own_EL false (⟨"com/example/proofs_for_datalog/proofsfordatalog/input/ProofFormat", "named", "(Ljava/lang/String;)Lcom/example/proofs_for_datalog/proofsfordatalog/input/ProofFormat;"⟩ : MethodName) prog_7_method_5_code 5 (Option.some (Jvm.ClassFile.FieldType.object "com/example/proofs_for_datalog/proofsfordatalog/input/ProofFormat")) ({ frames := 2, cells := 1, slots := 4, locals := 28 } : Room) #[(.ref x)] h0 [] n0 (fun v h so => v = some (own_pick eT eG eO eN bs) ∧ Keep h0 h []) := by
  refine Ct.body (plainFor_of_name pn3) ?_
  intro p e s m below meth c T W
  refine WP.cast (g' := (mkF m 0 #[.val (.ref x), .unset, .unset, .unset, .unset] [])) (by simp [entryFrame, mkF, argsToLocals, cat_i, cat_l, cat_r, cat_n]) ?_
  refine k_callS W 0 1 4 (argsL := []) (rest := []) d_prog_7_5_0 (w38 hw) (w39 hw) (by decide) (lenOf pd5 rfl) (ct_vals l Z a0 hw n0 h0 eT eG eO eN arr AR AX SA) (w40 hw) (w36 hw) (fun x hx => hx) rfl (Nat.le_of_eq rfl) (Nat.le_of_ble_eq_true rfl) (Nat.le_of_ble_eq_true rfl) ⟨rfl, Nat.le_of_ble_eq_true rfl⟩ ⟨rfl, Nat.le_of_ble_eq_true rfl⟩ rfl (fun _ _ ⟨_, q, _⟩ => nomatch q) fun T h49 v so W hQ => ?_
  obtain ⟨x49, hv, g49, K49, A49⟩ := hQ
  obtain rfl := Option.some.inj hv
  refine k_astoreN W d_prog_7_5_3 rfl (L' := #[.val (.ref x), .val (.ref x49), .unset, .unset, .unset]) rfl ?_
  refine k_aloadN W d_prog_7_5_4 rfl rfl ?_
  refine k_arraylength W (z := (4 : Int32)) d_prog_7_5_5 A49 rfl ?_
  refine k_istoreN W d_prog_7_5_6 (L' := #[.val (.ref x), .val (.ref x49), .val (.int (4 : Int32)), .unset, .unset]) rfl ?_
  refine k_iconst W d_prog_7_5_7 (z := (0 : Int32)) rfl ?_
  refine k_istoreN W d_prog_7_5_8 (L' := #[.val (.ref x), .val (.ref x49), .val (.int (4 : Int32)), .val (.int (0 : Int32)), .unset]) rfl ?_
  refine k_iloadN W d_prog_7_5_9 rfl ?_
  refine k_iloadN W d_prog_7_5_10 rfl ?_
  refine k_icN W d_prog_7_5_11 (show ¬ (¬ (0 : Int32) < (4 : Int32)) by decide) ?_
  refine k_aloadN W d_prog_7_5_14 rfl rfl ?_
  refine k_iloadN W d_prog_7_5_15 rfl ?_
  refine k_aaload W (v := (.ref eT)) 0 d_prog_7_5_16 A49 rfl (by decide) rfl ?_
  refine k_astore W d_prog_7_5_17 rfl (L' := #[.val (.ref x), .val (.ref x49), .val (.int (4 : Int32)), .val (.int (0 : Int32)), .val (.ref eT)]) rfl ?_
  refine k_aload W d_prog_7_5_19 rfl rfl ?_
  have f50 := (LT.keep K49 nin0)
  refine k_getF W d_prog_7_5_21 (host := "") (Or.inl (w57 hw)) Via.refl f50 fun T W => ?_
  refine k_aloadN W d_prog_7_5_24 rfl rfl ?_
  have f51 := (TT.keep K49 nin0 nin0)
  have f52 := (SX.keep K49 nin0 nin0)
  have f53 := (Sta.keep P0 K49 ns0)
  refine k_callV W 0 1 4 (argsL := [(.ref x)]) (rest := []) (a := sT) (C := "java/lang/String") (z0 := (⟨"java/lang/String", "equals", "(Ljava/lang/Object;)Z"⟩ : MethodName)) (z := (⟨"java/lang/String", "equals", "(Ljava/lang/Object;)Z"⟩ : MethodName)) d_prog_7_5_25 (w59 hw) (w60 hw) (nfSel (w62 hw)) (w62 hw) (w61 hw) (by decide) (lenOf pd6 rfl) f51.1 (ct_seq l Z a0 hw n0 h49 sT bT x bx [(116 : Int32), (114 : Int32), (101 : Int32), (101 : Int32)] bs zc nT f51 f52 f53 hzc) (w63 hw) (w2 hw) (fun x hx => hx) rfl (Nat.le_of_eq rfl) (Nat.le_of_ble_eq_true rfl) (Nat.le_of_ble_eq_true rfl) ⟨rfl, Nat.le_of_ble_eq_true rfl⟩ ⟨rfl, Nat.le_of_ble_eq_true rfl⟩ rfl (fun _ _ q => by rcases q.1 with ⟨_, u⟩ | ⟨_, u⟩ <;> cases u) fun T h55 v so W hQ => ?_
  obtain ⟨hQ, rfl⟩ := hQ
  rcases hQ with ⟨heq54, hv⟩ | ⟨heq54, hv⟩
  · --
    obtain rfl := Option.some.inj hv
    refine k_ifN W d_prog_7_5_28 (show ¬ ((1 : Int32) = 0) by decide) ?_
    refine k_aload W d_prog_7_5_31 rfl rfl ?_
    have KK56 : Keep h0 h49 [] := (Keep.refl h0 []).trans K49 all0
    exact k_areturn W d_prog_7_5_33 rfl rfl rfl [] (fun x hx => nomatch hx) (Nat.le_of_ble_eq_true rfl) (Nat.le_of_ble_eq_true rfl) ⟨by unfold own_pick; rw [if_pos heq54.symm], KK56⟩
  · --
    obtain rfl := Option.some.inj hv
    refine k_ifY W 34 d_prog_7_5_28 (by decide) (show (0 : Int32) = 0 by decide) ?_
    refine k_iinc W d_prog_7_5_34 rfl (z := (1 : Int32)) (by decide) (L' := #[.val (.ref x), .val (.ref x49), .val (.int (4 : Int32)), .val (.int (1 : Int32)), .val (.ref eT)]) rfl ?_
    refine k_goto W 9 d_prog_7_5_37 (by decide) ?_
    refine k_iloadN W d_prog_7_5_9 rfl ?_
    refine k_iloadN W d_prog_7_5_10 rfl ?_
    refine k_icN W d_prog_7_5_11 (show ¬ (¬ (1 : Int32) < (4 : Int32)) by decide) ?_
    refine k_aloadN W d_prog_7_5_14 rfl rfl ?_
    refine k_iloadN W d_prog_7_5_15 rfl ?_
    refine k_aaload W (v := (.ref eG)) 1 d_prog_7_5_16 A49 rfl (by decide) rfl ?_
    refine k_astore W d_prog_7_5_17 rfl (L' := #[.val (.ref x), .val (.ref x49), .val (.int (4 : Int32)), .val (.int (1 : Int32)), .val (.ref eG)]) rfl ?_
    refine k_aload W d_prog_7_5_19 rfl rfl ?_
    have f57 := (LG.keep K49 nin0)
    refine k_getF W d_prog_7_5_21 (host := "") (Or.inl (w57 hw)) Via.refl f57 fun T W => ?_
    refine k_aloadN W d_prog_7_5_24 rfl rfl ?_
    have f58 := (TG.keep K49 nin0 nin0)
    refine k_callV W 0 1 4 (argsL := [(.ref x)]) (rest := []) (a := sG) (C := "java/lang/String") (z0 := (⟨"java/lang/String", "equals", "(Ljava/lang/Object;)Z"⟩ : MethodName)) (z := (⟨"java/lang/String", "equals", "(Ljava/lang/Object;)Z"⟩ : MethodName)) d_prog_7_5_25 (w59 hw) (w60 hw) (nfSel (w62 hw)) (w62 hw) (w61 hw) (by decide) (lenOf pd6 rfl) f58.1 (ct_seq l Z a0 hw n0 h49 sG bG x bx [(103 : Int32), (114 : Int32), (97 : Int32), (112 : Int32), (104 : Int32)] bs zc nG f58 f52 f53 hzc) (w63 hw) (w2 hw) (fun x hx => hx) rfl (Nat.le_of_eq rfl) (Nat.le_of_ble_eq_true rfl) (Nat.le_of_ble_eq_true rfl) ⟨rfl, Nat.le_of_ble_eq_true rfl⟩ ⟨rfl, Nat.le_of_ble_eq_true rfl⟩ rfl (fun _ _ q => by rcases q.1 with ⟨_, u⟩ | ⟨_, u⟩ <;> cases u) fun T h60 v so W hQ => ?_
    obtain ⟨hQ, rfl⟩ := hQ
    rcases hQ with ⟨heq59, hv⟩ | ⟨heq59, hv⟩
    · --
      obtain rfl := Option.some.inj hv
      refine k_ifN W d_prog_7_5_28 (show ¬ ((1 : Int32) = 0) by decide) ?_
      refine k_aload W d_prog_7_5_31 rfl rfl ?_
      have KK61 : Keep h0 h49 [] := (Keep.refl h0 []).trans K49 all0
      exact k_areturn W d_prog_7_5_33 rfl rfl rfl [] (fun x hx => nomatch hx) (Nat.le_of_ble_eq_true rfl) (Nat.le_of_ble_eq_true rfl) ⟨by unfold own_pick; rw [if_neg (fun q => heq54 q.symm), if_pos heq59.symm], KK61⟩
    · --
      obtain rfl := Option.some.inj hv
      refine k_ifY W 34 d_prog_7_5_28 (by decide) (show (0 : Int32) = 0 by decide) ?_
      refine k_iinc W d_prog_7_5_34 rfl (z := (2 : Int32)) (by decide) (L' := #[.val (.ref x), .val (.ref x49), .val (.int (4 : Int32)), .val (.int (2 : Int32)), .val (.ref eG)]) rfl ?_
      refine k_goto W 9 d_prog_7_5_37 (by decide) ?_
      refine k_iloadN W d_prog_7_5_9 rfl ?_
      refine k_iloadN W d_prog_7_5_10 rfl ?_
      refine k_icN W d_prog_7_5_11 (show ¬ (¬ (2 : Int32) < (4 : Int32)) by decide) ?_
      refine k_aloadN W d_prog_7_5_14 rfl rfl ?_
      refine k_iloadN W d_prog_7_5_15 rfl ?_
      refine k_aaload W (v := (.ref eO)) 2 d_prog_7_5_16 A49 rfl (by decide) rfl ?_
      refine k_astore W d_prog_7_5_17 rfl (L' := #[.val (.ref x), .val (.ref x49), .val (.int (4 : Int32)), .val (.int (2 : Int32)), .val (.ref eO)]) rfl ?_
      refine k_aload W d_prog_7_5_19 rfl rfl ?_
      have f62 := (LO.keep K49 nin0)
      refine k_getF W d_prog_7_5_21 (host := "") (Or.inl (w57 hw)) Via.refl f62 fun T W => ?_
      refine k_aloadN W d_prog_7_5_24 rfl rfl ?_
      have f63 := (TO.keep K49 nin0 nin0)
      refine k_callV W 0 1 4 (argsL := [(.ref x)]) (rest := []) (a := sO) (C := "java/lang/String") (z0 := (⟨"java/lang/String", "equals", "(Ljava/lang/Object;)Z"⟩ : MethodName)) (z := (⟨"java/lang/String", "equals", "(Ljava/lang/Object;)Z"⟩ : MethodName)) d_prog_7_5_25 (w59 hw) (w60 hw) (nfSel (w62 hw)) (w62 hw) (w61 hw) (by decide) (lenOf pd6 rfl) f63.1 (ct_seq l Z a0 hw n0 h49 sO bO x bx [(111 : Int32), (114 : Int32), (100 : Int32), (101 : Int32), (114 : Int32), (101 : Int32), (100 : Int32), (45 : Int32), (103 : Int32), (114 : Int32), (97 : Int32), (112 : Int32), (104 : Int32)] bs zc nO f63 f52 f53 hzc) (w63 hw) (w2 hw) (fun x hx => hx) rfl (Nat.le_of_eq rfl) (Nat.le_of_ble_eq_true rfl) (Nat.le_of_ble_eq_true rfl) ⟨rfl, Nat.le_of_ble_eq_true rfl⟩ ⟨rfl, Nat.le_of_ble_eq_true rfl⟩ rfl (fun _ _ q => by rcases q.1 with ⟨_, u⟩ | ⟨_, u⟩ <;> cases u) fun T h65 v so W hQ => ?_
      obtain ⟨hQ, rfl⟩ := hQ
      rcases hQ with ⟨heq64, hv⟩ | ⟨heq64, hv⟩
      · --
        obtain rfl := Option.some.inj hv
        refine k_ifN W d_prog_7_5_28 (show ¬ ((1 : Int32) = 0) by decide) ?_
        refine k_aload W d_prog_7_5_31 rfl rfl ?_
        have KK66 : Keep h0 h49 [] := (Keep.refl h0 []).trans K49 all0
        exact k_areturn W d_prog_7_5_33 rfl rfl rfl [] (fun x hx => nomatch hx) (Nat.le_of_ble_eq_true rfl) (Nat.le_of_ble_eq_true rfl) ⟨by unfold own_pick; rw [if_neg (fun q => heq54 q.symm), if_neg (fun q => heq59 q.symm), if_pos heq64.symm], KK66⟩
      · --
        obtain rfl := Option.some.inj hv
        refine k_ifY W 34 d_prog_7_5_28 (by decide) (show (0 : Int32) = 0 by decide) ?_
        refine k_iinc W d_prog_7_5_34 rfl (z := (3 : Int32)) (by decide) (L' := #[.val (.ref x), .val (.ref x49), .val (.int (4 : Int32)), .val (.int (3 : Int32)), .val (.ref eO)]) rfl ?_
        refine k_goto W 9 d_prog_7_5_37 (by decide) ?_
        refine k_iloadN W d_prog_7_5_9 rfl ?_
        refine k_iloadN W d_prog_7_5_10 rfl ?_
        refine k_icN W d_prog_7_5_11 (show ¬ (¬ (3 : Int32) < (4 : Int32)) by decide) ?_
        refine k_aloadN W d_prog_7_5_14 rfl rfl ?_
        refine k_iloadN W d_prog_7_5_15 rfl ?_
        refine k_aaload W (v := (.ref eN)) 3 d_prog_7_5_16 A49 rfl (by decide) rfl ?_
        refine k_astore W d_prog_7_5_17 rfl (L' := #[.val (.ref x), .val (.ref x49), .val (.int (4 : Int32)), .val (.int (3 : Int32)), .val (.ref eN)]) rfl ?_
        refine k_aload W d_prog_7_5_19 rfl rfl ?_
        have f67 := (LN.keep K49 nin0)
        refine k_getF W d_prog_7_5_21 (host := "") (Or.inl (w57 hw)) Via.refl f67 fun T W => ?_
        refine k_aloadN W d_prog_7_5_24 rfl rfl ?_
        have f68 := (TN.keep K49 nin0 nin0)
        refine k_callV W 0 1 4 (argsL := [(.ref x)]) (rest := []) (a := sN) (C := "java/lang/String") (z0 := (⟨"java/lang/String", "equals", "(Ljava/lang/Object;)Z"⟩ : MethodName)) (z := (⟨"java/lang/String", "equals", "(Ljava/lang/Object;)Z"⟩ : MethodName)) d_prog_7_5_25 (w59 hw) (w60 hw) (nfSel (w62 hw)) (w62 hw) (w61 hw) (by decide) (lenOf pd6 rfl) f68.1 (ct_seq l Z a0 hw n0 h49 sN bN x bx [(110 : Int32), (101 : Int32), (109 : Int32), (111 : Int32), (45 : Int32), (116 : Int32), (114 : Int32), (97 : Int32), (99 : Int32), (101 : Int32)] bs zc nN f68 f52 f53 hzc) (w63 hw) (w2 hw) (fun x hx => hx) rfl (Nat.le_of_eq rfl) (Nat.le_of_ble_eq_true rfl) (Nat.le_of_ble_eq_true rfl) ⟨rfl, Nat.le_of_ble_eq_true rfl⟩ ⟨rfl, Nat.le_of_ble_eq_true rfl⟩ rfl (fun _ _ q => by rcases q.1 with ⟨_, u⟩ | ⟨_, u⟩ <;> cases u) fun T h70 v so W hQ => ?_
        obtain ⟨hQ, rfl⟩ := hQ
        rcases hQ with ⟨heq69, hv⟩ | ⟨heq69, hv⟩
        · --
          obtain rfl := Option.some.inj hv
          refine k_ifN W d_prog_7_5_28 (show ¬ ((1 : Int32) = 0) by decide) ?_
          refine k_aload W d_prog_7_5_31 rfl rfl ?_
          have KK71 : Keep h0 h49 [] := (Keep.refl h0 []).trans K49 all0
          exact k_areturn W d_prog_7_5_33 rfl rfl rfl [] (fun x hx => nomatch hx) (Nat.le_of_ble_eq_true rfl) (Nat.le_of_ble_eq_true rfl) ⟨by unfold own_pick; rw [if_neg (fun q => heq54 q.symm), if_neg (fun q => heq59 q.symm), if_neg (fun q => heq64 q.symm), if_pos heq69.symm], KK71⟩
        · --
          obtain rfl := Option.some.inj hv
          refine k_ifY W 34 d_prog_7_5_28 (by decide) (show (0 : Int32) = 0 by decide) ?_
          refine k_iinc W d_prog_7_5_34 rfl (z := (4 : Int32)) (by decide) (L' := #[.val (.ref x), .val (.ref x49), .val (.int (4 : Int32)), .val (.int (4 : Int32)), .val (.ref eN)]) rfl ?_
          refine k_goto W 9 d_prog_7_5_37 (by decide) ?_
          refine k_iloadN W d_prog_7_5_9 rfl ?_
          refine k_iloadN W d_prog_7_5_10 rfl ?_
          refine k_icY W 40 d_prog_7_5_11 (by decide) (show ¬ (4 : Int32) < (4 : Int32) by decide) ?_
          refine k_aconst W d_prog_7_5_40 ?_
          have KK72 : Keep h0 h49 [] := (Keep.refl h0 []).trans K49 all0
          exact k_areturn W d_prog_7_5_41 rfl rfl rfl [] (fun x hx => nomatch hx) (Nat.le_of_ble_eq_true rfl) (Nat.le_of_ble_eq_true rfl) ⟨by unfold own_pick; rw [if_neg (fun q => heq54 q.symm), if_neg (fun q => heq59 q.symm), if_neg (fun q => heq64 q.symm), if_neg (fun q => heq69 q.symm)], KK72⟩
set_option maxRecDepth 65536 in
set_option maxHeartbeats 40000000 in
theorem ct_namedN (l : Launch) (Z : State) (a0 : Array Value) (hw : ∀ d ∈ tables_1, d.before a0 Z = true) (n0 : Nat) (h0 : Heap) (eT eG eO eN : Addr) (sT bT : Addr) (sG bG : Addr) (sO bO : Addr) (sN bN : Addr) (arr : Addr) (zc : Int32) (XxT : Exa Z h0 eT "com/example/proofs_for_datalog/proofsfordatalog/input/ProofFormat") (LT : Fld Z h0 eT "com/example/proofs_for_datalog/proofsfordatalog/input/ProofFormat" "id" "Ljava/lang/String;" (.ref sT)) (TT : St Z h0 sT bT [(116 : Int32), (114 : Int32), (101 : Int32), (101 : Int32)]) (XxG : Exa Z h0 eG "com/example/proofs_for_datalog/proofsfordatalog/input/ProofFormat") (LG : Fld Z h0 eG "com/example/proofs_for_datalog/proofsfordatalog/input/ProofFormat" "id" "Ljava/lang/String;" (.ref sG)) (TG : St Z h0 sG bG [(103 : Int32), (114 : Int32), (97 : Int32), (112 : Int32), (104 : Int32)]) (XxO : Exa Z h0 eO "com/example/proofs_for_datalog/proofsfordatalog/input/ProofFormat") (LO : Fld Z h0 eO "com/example/proofs_for_datalog/proofsfordatalog/input/ProofFormat" "id" "Ljava/lang/String;" (.ref sO)) (TO : St Z h0 sO bO [(111 : Int32), (114 : Int32), (100 : Int32), (101 : Int32), (114 : Int32), (101 : Int32), (100 : Int32), (45 : Int32), (103 : Int32), (114 : Int32), (97 : Int32), (112 : Int32), (104 : Int32)]) (XxN : Exa Z h0 eN "com/example/proofs_for_datalog/proofsfordatalog/input/ProofFormat") (LN : Fld Z h0 eN "com/example/proofs_for_datalog/proofsfordatalog/input/ProofFormat" "id" "Ljava/lang/String;" (.ref sN)) (TN : St Z h0 sN bN [(110 : Int32), (101 : Int32), (109 : Int32), (111 : Int32), (45 : Int32), (116 : Int32), (114 : Int32), (97 : Int32), (99 : Int32), (101 : Int32)]) (AR : Av Z h0 arr (.object "com/example/proofs_for_datalog/proofsfordatalog/input/ProofFormat") [(.ref eT), (.ref eG), (.ref eO), (.ref eN)]) (AX : Exa Z h0 arr "[Lcom/example/proofs_for_datalog/proofsfordatalog/input/ProofFormat;") (SA : Sta Z h0 "com/example/proofs_for_datalog/proofsfordatalog/input/ProofFormat" "$VALUES" "[Lcom/example/proofs_for_datalog/proofsfordatalog/input/ProofFormat;" (.ref arr)) (P0 : Sta Z h0 "java/lang/String" "COMPACT_STRINGS" "Z" (.int zc)) (hzc : zc ≠ 0) : Ct l Z a0 own_EL false (⟨"com/example/proofs_for_datalog/proofsfordatalog/input/ProofFormat", "named", "(Ljava/lang/String;)Lcom/example/proofs_for_datalog/proofsfordatalog/input/ProofFormat;"⟩ : MethodName) prog_7_method_5_code 5 (Option.some (Jvm.ClassFile.FieldType.object "com/example/proofs_for_datalog/proofsfordatalog/input/ProofFormat")) ({ frames := 2, cells := 1, slots := 4, locals := 25 } : Room) #[.null] h0 [] n0 (fun v h so => v = some .null ∧ Keep h0 h []) := by
  refine Ct.body (plainFor_of_name pn3) ?_
  intro p e s m below meth c T W
  refine WP.cast (g' := (mkF m 0 #[.val .null, .unset, .unset, .unset, .unset] [])) (by simp [entryFrame, mkF, argsToLocals, cat_i, cat_l, cat_r, cat_n]) ?_
  refine k_callS W 0 1 4 (argsL := []) (rest := []) d_prog_7_5_0 (w38 hw) (w39 hw) (by decide) (lenOf pd5 rfl) (ct_vals l Z a0 hw n0 h0 eT eG eO eN arr AR AX SA) (w40 hw) (w36 hw) (fun x hx => hx) rfl (Nat.le_of_eq rfl) (Nat.le_of_ble_eq_true rfl) (Nat.le_of_ble_eq_true rfl) ⟨rfl, Nat.le_of_ble_eq_true rfl⟩ ⟨rfl, Nat.le_of_ble_eq_true rfl⟩ rfl (fun _ _ ⟨_, q, _⟩ => nomatch q) fun T h73 v so W hQ => ?_
  obtain ⟨x73, hv, g73, K73, A73⟩ := hQ
  obtain rfl := Option.some.inj hv
  refine k_astoreN W d_prog_7_5_3 rfl (L' := #[.val .null, .val (.ref x73), .unset, .unset, .unset]) rfl ?_
  refine k_aloadN W d_prog_7_5_4 rfl rfl ?_
  refine k_arraylength W (z := (4 : Int32)) d_prog_7_5_5 A73 rfl ?_
  refine k_istoreN W d_prog_7_5_6 (L' := #[.val .null, .val (.ref x73), .val (.int (4 : Int32)), .unset, .unset]) rfl ?_
  refine k_iconst W d_prog_7_5_7 (z := (0 : Int32)) rfl ?_
  refine k_istoreN W d_prog_7_5_8 (L' := #[.val .null, .val (.ref x73), .val (.int (4 : Int32)), .val (.int (0 : Int32)), .unset]) rfl ?_
  refine k_iloadN W d_prog_7_5_9 rfl ?_
  refine k_iloadN W d_prog_7_5_10 rfl ?_
  refine k_icN W d_prog_7_5_11 (show ¬ (¬ (0 : Int32) < (4 : Int32)) by decide) ?_
  refine k_aloadN W d_prog_7_5_14 rfl rfl ?_
  refine k_iloadN W d_prog_7_5_15 rfl ?_
  refine k_aaload W (v := (.ref eT)) 0 d_prog_7_5_16 A73 rfl (by decide) rfl ?_
  refine k_astore W d_prog_7_5_17 rfl (L' := #[.val .null, .val (.ref x73), .val (.int (4 : Int32)), .val (.int (0 : Int32)), .val (.ref eT)]) rfl ?_
  refine k_aload W d_prog_7_5_19 rfl rfl ?_
  have f74 := (LT.keep K73 nin0)
  refine k_getF W d_prog_7_5_21 (host := "") (Or.inl (w57 hw)) Via.refl f74 fun T W => ?_
  refine k_aloadN W d_prog_7_5_24 rfl rfl ?_
  have f76 := (TT.keep K73 nin0 nin0)
  refine k_callV W 0 1 4 (argsL := [.null]) (rest := []) (a := sT) (C := "java/lang/String") (z0 := (⟨"java/lang/String", "equals", "(Ljava/lang/Object;)Z"⟩ : MethodName)) (z := (⟨"java/lang/String", "equals", "(Ljava/lang/Object;)Z"⟩ : MethodName)) d_prog_7_5_25 (w59 hw) (w60 hw) (nfSel (w62 hw)) (w62 hw) (w61 hw) (by decide) (lenOf pd6 rfl) f76.1 (ct_seqN l Z a0 hw n0 h73 sT) (w63 hw) (w2 hw) (fun x hx => hx) rfl (Nat.le_of_eq rfl) (Nat.le_of_ble_eq_true rfl) (Nat.le_of_ble_eq_true rfl) ⟨rfl, Nat.le_of_ble_eq_true rfl⟩ ⟨rfl, Nat.le_of_ble_eq_true rfl⟩ rfl (fun _ _ q => nomatch q.1) fun T h75 v so W hQ => ?_
  obtain ⟨hv, rfl, -⟩ := hQ
  obtain rfl := Option.some.inj hv
  refine k_ifY W 34 d_prog_7_5_28 (by decide) (show (0 : Int32) = 0 by decide) ?_
  refine k_iinc W d_prog_7_5_34 rfl (z := (1 : Int32)) (by decide) (L' := #[.val .null, .val (.ref x73), .val (.int (4 : Int32)), .val (.int (1 : Int32)), .val (.ref eT)]) rfl ?_
  refine k_goto W 9 d_prog_7_5_37 (by decide) ?_
  refine k_iloadN W d_prog_7_5_9 rfl ?_
  refine k_iloadN W d_prog_7_5_10 rfl ?_
  refine k_icN W d_prog_7_5_11 (show ¬ (¬ (1 : Int32) < (4 : Int32)) by decide) ?_
  refine k_aloadN W d_prog_7_5_14 rfl rfl ?_
  refine k_iloadN W d_prog_7_5_15 rfl ?_
  refine k_aaload W (v := (.ref eG)) 1 d_prog_7_5_16 A73 rfl (by decide) rfl ?_
  refine k_astore W d_prog_7_5_17 rfl (L' := #[.val .null, .val (.ref x73), .val (.int (4 : Int32)), .val (.int (1 : Int32)), .val (.ref eG)]) rfl ?_
  refine k_aload W d_prog_7_5_19 rfl rfl ?_
  have f77 := (LG.keep K73 nin0)
  refine k_getF W d_prog_7_5_21 (host := "") (Or.inl (w57 hw)) Via.refl f77 fun T W => ?_
  refine k_aloadN W d_prog_7_5_24 rfl rfl ?_
  have f79 := (TG.keep K73 nin0 nin0)
  refine k_callV W 0 1 4 (argsL := [.null]) (rest := []) (a := sG) (C := "java/lang/String") (z0 := (⟨"java/lang/String", "equals", "(Ljava/lang/Object;)Z"⟩ : MethodName)) (z := (⟨"java/lang/String", "equals", "(Ljava/lang/Object;)Z"⟩ : MethodName)) d_prog_7_5_25 (w59 hw) (w60 hw) (nfSel (w62 hw)) (w62 hw) (w61 hw) (by decide) (lenOf pd6 rfl) f79.1 (ct_seqN l Z a0 hw n0 h73 sG) (w63 hw) (w2 hw) (fun x hx => hx) rfl (Nat.le_of_eq rfl) (Nat.le_of_ble_eq_true rfl) (Nat.le_of_ble_eq_true rfl) ⟨rfl, Nat.le_of_ble_eq_true rfl⟩ ⟨rfl, Nat.le_of_ble_eq_true rfl⟩ rfl (fun _ _ q => nomatch q.1) fun T h78 v so W hQ => ?_
  obtain ⟨hv, rfl, -⟩ := hQ
  obtain rfl := Option.some.inj hv
  refine k_ifY W 34 d_prog_7_5_28 (by decide) (show (0 : Int32) = 0 by decide) ?_
  refine k_iinc W d_prog_7_5_34 rfl (z := (2 : Int32)) (by decide) (L' := #[.val .null, .val (.ref x73), .val (.int (4 : Int32)), .val (.int (2 : Int32)), .val (.ref eG)]) rfl ?_
  refine k_goto W 9 d_prog_7_5_37 (by decide) ?_
  refine k_iloadN W d_prog_7_5_9 rfl ?_
  refine k_iloadN W d_prog_7_5_10 rfl ?_
  refine k_icN W d_prog_7_5_11 (show ¬ (¬ (2 : Int32) < (4 : Int32)) by decide) ?_
  refine k_aloadN W d_prog_7_5_14 rfl rfl ?_
  refine k_iloadN W d_prog_7_5_15 rfl ?_
  refine k_aaload W (v := (.ref eO)) 2 d_prog_7_5_16 A73 rfl (by decide) rfl ?_
  refine k_astore W d_prog_7_5_17 rfl (L' := #[.val .null, .val (.ref x73), .val (.int (4 : Int32)), .val (.int (2 : Int32)), .val (.ref eO)]) rfl ?_
  refine k_aload W d_prog_7_5_19 rfl rfl ?_
  have f80 := (LO.keep K73 nin0)
  refine k_getF W d_prog_7_5_21 (host := "") (Or.inl (w57 hw)) Via.refl f80 fun T W => ?_
  refine k_aloadN W d_prog_7_5_24 rfl rfl ?_
  have f82 := (TO.keep K73 nin0 nin0)
  refine k_callV W 0 1 4 (argsL := [.null]) (rest := []) (a := sO) (C := "java/lang/String") (z0 := (⟨"java/lang/String", "equals", "(Ljava/lang/Object;)Z"⟩ : MethodName)) (z := (⟨"java/lang/String", "equals", "(Ljava/lang/Object;)Z"⟩ : MethodName)) d_prog_7_5_25 (w59 hw) (w60 hw) (nfSel (w62 hw)) (w62 hw) (w61 hw) (by decide) (lenOf pd6 rfl) f82.1 (ct_seqN l Z a0 hw n0 h73 sO) (w63 hw) (w2 hw) (fun x hx => hx) rfl (Nat.le_of_eq rfl) (Nat.le_of_ble_eq_true rfl) (Nat.le_of_ble_eq_true rfl) ⟨rfl, Nat.le_of_ble_eq_true rfl⟩ ⟨rfl, Nat.le_of_ble_eq_true rfl⟩ rfl (fun _ _ q => nomatch q.1) fun T h81 v so W hQ => ?_
  obtain ⟨hv, rfl, -⟩ := hQ
  obtain rfl := Option.some.inj hv
  refine k_ifY W 34 d_prog_7_5_28 (by decide) (show (0 : Int32) = 0 by decide) ?_
  refine k_iinc W d_prog_7_5_34 rfl (z := (3 : Int32)) (by decide) (L' := #[.val .null, .val (.ref x73), .val (.int (4 : Int32)), .val (.int (3 : Int32)), .val (.ref eO)]) rfl ?_
  refine k_goto W 9 d_prog_7_5_37 (by decide) ?_
  refine k_iloadN W d_prog_7_5_9 rfl ?_
  refine k_iloadN W d_prog_7_5_10 rfl ?_
  refine k_icN W d_prog_7_5_11 (show ¬ (¬ (3 : Int32) < (4 : Int32)) by decide) ?_
  refine k_aloadN W d_prog_7_5_14 rfl rfl ?_
  refine k_iloadN W d_prog_7_5_15 rfl ?_
  refine k_aaload W (v := (.ref eN)) 3 d_prog_7_5_16 A73 rfl (by decide) rfl ?_
  refine k_astore W d_prog_7_5_17 rfl (L' := #[.val .null, .val (.ref x73), .val (.int (4 : Int32)), .val (.int (3 : Int32)), .val (.ref eN)]) rfl ?_
  refine k_aload W d_prog_7_5_19 rfl rfl ?_
  have f83 := (LN.keep K73 nin0)
  refine k_getF W d_prog_7_5_21 (host := "") (Or.inl (w57 hw)) Via.refl f83 fun T W => ?_
  refine k_aloadN W d_prog_7_5_24 rfl rfl ?_
  have f85 := (TN.keep K73 nin0 nin0)
  refine k_callV W 0 1 4 (argsL := [.null]) (rest := []) (a := sN) (C := "java/lang/String") (z0 := (⟨"java/lang/String", "equals", "(Ljava/lang/Object;)Z"⟩ : MethodName)) (z := (⟨"java/lang/String", "equals", "(Ljava/lang/Object;)Z"⟩ : MethodName)) d_prog_7_5_25 (w59 hw) (w60 hw) (nfSel (w62 hw)) (w62 hw) (w61 hw) (by decide) (lenOf pd6 rfl) f85.1 (ct_seqN l Z a0 hw n0 h73 sN) (w63 hw) (w2 hw) (fun x hx => hx) rfl (Nat.le_of_eq rfl) (Nat.le_of_ble_eq_true rfl) (Nat.le_of_ble_eq_true rfl) ⟨rfl, Nat.le_of_ble_eq_true rfl⟩ ⟨rfl, Nat.le_of_ble_eq_true rfl⟩ rfl (fun _ _ q => nomatch q.1) fun T h84 v so W hQ => ?_
  obtain ⟨hv, rfl, -⟩ := hQ
  obtain rfl := Option.some.inj hv
  refine k_ifY W 34 d_prog_7_5_28 (by decide) (show (0 : Int32) = 0 by decide) ?_
  refine k_iinc W d_prog_7_5_34 rfl (z := (4 : Int32)) (by decide) (L' := #[.val .null, .val (.ref x73), .val (.int (4 : Int32)), .val (.int (4 : Int32)), .val (.ref eN)]) rfl ?_
  refine k_goto W 9 d_prog_7_5_37 (by decide) ?_
  refine k_iloadN W d_prog_7_5_9 rfl ?_
  refine k_iloadN W d_prog_7_5_10 rfl ?_
  refine k_icY W 40 d_prog_7_5_11 (by decide) (show ¬ (4 : Int32) < (4 : Int32) by decide) ?_
  refine k_aconst W d_prog_7_5_40 ?_
  have KK86 : Keep h0 h73 [] := (Keep.refl h0 []).trans K73 all0
  exact k_areturn W d_prog_7_5_41 rfl rfl rfl [] (fun x hx => nomatch hx) (Nat.le_of_ble_eq_true rfl) (Nat.le_of_ble_eq_true rfl) ⟨rfl, KK86⟩
set_option maxRecDepth 65536 in
set_option maxHeartbeats 40000000 in
theorem ct_ref (l : Launch) (Z : State) (a0 : Array Value) (hw : ∀ d ∈ tables_1, d.before a0 Z = true) (n0 : Nat) (h0 : Heap) (eT eG eO eN : Addr) (x bx : Addr) (bs : List Int32) (zc : Int32) (QT : Sta Z h0 "com/example/proofs_for_datalog/proofsfordatalog/input/ProofFormat" "TREE" "Lcom/example/proofs_for_datalog/proofsfordatalog/input/ProofFormat;" (.ref eT)) (QG : Sta Z h0 "com/example/proofs_for_datalog/proofsfordatalog/input/ProofFormat" "GRAPH" "Lcom/example/proofs_for_datalog/proofsfordatalog/input/ProofFormat;" (.ref eG)) (QO : Sta Z h0 "com/example/proofs_for_datalog/proofsfordatalog/input/ProofFormat" "ORDERED_GRAPH" "Lcom/example/proofs_for_datalog/proofsfordatalog/input/ProofFormat;" (.ref eO)) (QN : Sta Z h0 "com/example/proofs_for_datalog/proofsfordatalog/input/ProofFormat" "NEMO_TRACE" "Lcom/example/proofs_for_datalog/proofsfordatalog/input/ProofFormat;" (.ref eN)) (SX : St Z h0 x bx bs) (P0 : Sta Z h0 "java/lang/String" "COMPACT_STRINGS" "Z" (.int zc)) (hzc : zc ≠ 0) : Ct l Z a0 own_EL false (⟨"com/example/proofs_for_datalog/proofsfordatalog/input/ProofFormatNamedPinLaw", "ref", "(Ljava/lang/String;)Lcom/example/proofs_for_datalog/proofsfordatalog/input/ProofFormat;"⟩ : MethodName) method_3_code 1 (Option.some (Jvm.ClassFile.FieldType.object "com/example/proofs_for_datalog/proofsfordatalog/input/ProofFormat")) ({ frames := 2, cells := 8, slots := 144, locals := 28 } : Room) #[(.ref x)] h0 [x] n0 (fun v h so => v = some (own_pick eT eG eO eN bs) ∧ Keep h0 h []) := by
  refine Ct.body (plainFor_of_name pn4) ?_
  intro p e s m below meth c T W
  refine WP.cast (g' := (mkF m 0 #[.val (.ref x)] [])) (by simp [entryFrame, mkF, argsToLocals, cat_i, cat_l, cat_r, cat_n]) ?_
  refine k_aloadN W d_method_3_0 rfl rfl ?_
  refine k_nnY W 6 d_method_3_1 (by decide) ?_
  refine k_aloadN W d_method_3_6 rfl rfl ?_
  refine k_ldcS W [(116 : Int32), (114 : Int32), (101 : Int32), (101 : Int32)] 16 2 20 rfl d_method_3_7 (w72 hw) (wS hw) (by decide) ⟨by decide, by decide⟩ (by decide) ⟨by decide, by decide⟩ ⟨rfl, Nat.le_of_ble_eq_true rfl⟩ ⟨rfl, Nat.le_of_ble_eq_true rfl⟩ fun T h87 a87 b87 W E87 S87 N87 => ?_
  have K87 : Keep h0 h87 [] := keep_ext E87 []
  have f88 := (SX.keep K87 nin0 nin0)
  have f89 := (Sta.keep P0 K87 ns0)
  have ne91 : x ≠ a87 := (N87 _ (List.mem_of_getElem? (i := 0) rfl)).1
  refine k_callV W 0 2 20 (argsL := [(.ref a87)]) (rest := []) (a := x) (C := "java/lang/String") (z0 := (⟨"java/lang/String", "equals", "(Ljava/lang/Object;)Z"⟩ : MethodName)) (z := (⟨"java/lang/String", "equals", "(Ljava/lang/Object;)Z"⟩ : MethodName)) d_method_3_9 (w75 hw) (w60 hw) (nfSel (w62 hw)) (w62 hw) (w61 hw) (by decide) (lenOf pd6 rfl) f88.1 (ct_seq l Z a0 hw n0 h87 x bx a87 b87 bs [(116 : Int32), (114 : Int32), (101 : Int32), (101 : Int32)] zc ne91 f88 S87 f89 hzc) (w63 hw) (w2 hw) (fun x hx => nomatch hx) rfl (Nat.le_of_eq rfl) (Nat.le_of_ble_eq_true rfl) (Nat.le_of_ble_eq_true rfl) ⟨rfl, Nat.le_of_ble_eq_true rfl⟩ ⟨rfl, Nat.le_of_ble_eq_true rfl⟩ rfl (fun _ _ q => by rcases q.1 with ⟨_, u⟩ | ⟨_, u⟩ <;> cases u) fun T h92 v so W hQ => ?_
  obtain ⟨hQ, rfl⟩ := hQ
  rcases hQ with ⟨heq90, hv⟩ | ⟨heq90, hv⟩
  · --
    obtain rfl := Option.some.inj hv
    refine k_ifN W d_method_3_12 (show ¬ ((1 : Int32) = 0) by decide) ?_
    have f93 := (Sta.keep QT K87 ns0)
    refine k_getS W d_method_3_15 (w76 hw) Via.refl f93 fun T W => ?_
    have KK94 : Keep h0 h87 [] := (Keep.refl h0 []).trans K87 all0
    exact k_areturn W d_method_3_18 rfl rfl rfl [] (fun x hx => nomatch hx) (Nat.le_of_ble_eq_true rfl) (Nat.le_of_ble_eq_true rfl) ⟨by unfold own_pick; rw [if_pos heq90], KK94⟩
  · --
    obtain rfl := Option.some.inj hv
    refine k_ifY W 19 d_method_3_12 (by decide) (show (0 : Int32) = 0 by decide) ?_
    refine k_aloadN W d_method_3_19 rfl rfl ?_
    refine k_ldcS W [(103 : Int32), (114 : Int32), (97 : Int32), (112 : Int32), (104 : Int32)] 20 4 44 rfl d_method_3_20 (w77 hw) (wS hw) (by decide) ⟨by decide, by decide⟩ (by decide) ⟨by decide, by decide⟩ ⟨rfl, Nat.le_of_ble_eq_true rfl⟩ ⟨rfl, Nat.le_of_ble_eq_true rfl⟩ fun T h95 a95 b95 W E95 S95 N95 => ?_
    have K95 : Keep h87 h95 [] := keep_ext E95 []
    have f96 := (f88.keep K95 nin0 nin0)
    have f97 := (Sta.keep f89 K95 ns0)
    have ne99 : x ≠ a95 := (N95 _ (List.mem_of_getElem? (i := 0) rfl)).1
    refine k_callV W 0 4 44 (argsL := [(.ref a95)]) (rest := []) (a := x) (C := "java/lang/String") (z0 := (⟨"java/lang/String", "equals", "(Ljava/lang/Object;)Z"⟩ : MethodName)) (z := (⟨"java/lang/String", "equals", "(Ljava/lang/Object;)Z"⟩ : MethodName)) d_method_3_22 (w75 hw) (w60 hw) (nfSel (w62 hw)) (w62 hw) (w61 hw) (by decide) (lenOf pd6 rfl) f96.1 (ct_seq l Z a0 hw n0 h95 x bx a95 b95 bs [(103 : Int32), (114 : Int32), (97 : Int32), (112 : Int32), (104 : Int32)] zc ne99 f96 S95 f97 hzc) (w63 hw) (w2 hw) (fun x hx => nomatch hx) rfl (Nat.le_of_eq rfl) (Nat.le_of_ble_eq_true rfl) (Nat.le_of_ble_eq_true rfl) ⟨rfl, Nat.le_of_ble_eq_true rfl⟩ ⟨rfl, Nat.le_of_ble_eq_true rfl⟩ rfl (fun _ _ q => by rcases q.1 with ⟨_, u⟩ | ⟨_, u⟩ <;> cases u) fun T h100 v so W hQ => ?_
    obtain ⟨hQ, rfl⟩ := hQ
    rcases hQ with ⟨heq98, hv⟩ | ⟨heq98, hv⟩
    · --
      obtain rfl := Option.some.inj hv
      refine k_ifN W d_method_3_25 (show ¬ ((1 : Int32) = 0) by decide) ?_
      have f101 := (Sta.keep (Sta.keep QG K87 ns0) K95 ns0)
      refine k_getS W d_method_3_28 (w93 hw) Via.refl f101 fun T W => ?_
      have KK102 : Keep h0 h87 [] := (Keep.refl h0 []).trans K87 all0
      have KK103 : Keep h0 h95 [] := KK102.trans K95 all0
      exact k_areturn W d_method_3_31 rfl rfl rfl [] (fun x hx => nomatch hx) (Nat.le_of_ble_eq_true rfl) (Nat.le_of_ble_eq_true rfl) ⟨by unfold own_pick; rw [if_neg heq90, if_pos heq98], KK103⟩
    · --
      obtain rfl := Option.some.inj hv
      refine k_ifY W 32 d_method_3_25 (by decide) (show (0 : Int32) = 0 by decide) ?_
      refine k_aloadN W d_method_3_32 rfl rfl ?_
      refine k_ldcS W [(111 : Int32), (114 : Int32), (100 : Int32), (101 : Int32), (114 : Int32), (101 : Int32), (100 : Int32), (45 : Int32), (103 : Int32), (114 : Int32), (97 : Int32), (112 : Int32), (104 : Int32)] 52 6 100 rfl d_method_3_33 (w78 hw) (wS hw) (by decide) ⟨by decide, by decide⟩ (by decide) ⟨by decide, by decide⟩ ⟨rfl, Nat.le_of_ble_eq_true rfl⟩ ⟨rfl, Nat.le_of_ble_eq_true rfl⟩ fun T h104 a104 b104 W E104 S104 N104 => ?_
      have K104 : Keep h95 h104 [] := keep_ext E104 []
      have f105 := (f96.keep K104 nin0 nin0)
      have f106 := (Sta.keep f97 K104 ns0)
      have ne108 : x ≠ a104 := (N104 _ (List.mem_of_getElem? (i := 0) rfl)).1
      refine k_callV W 0 6 100 (argsL := [(.ref a104)]) (rest := []) (a := x) (C := "java/lang/String") (z0 := (⟨"java/lang/String", "equals", "(Ljava/lang/Object;)Z"⟩ : MethodName)) (z := (⟨"java/lang/String", "equals", "(Ljava/lang/Object;)Z"⟩ : MethodName)) d_method_3_35 (w75 hw) (w60 hw) (nfSel (w62 hw)) (w62 hw) (w61 hw) (by decide) (lenOf pd6 rfl) f105.1 (ct_seq l Z a0 hw n0 h104 x bx a104 b104 bs [(111 : Int32), (114 : Int32), (100 : Int32), (101 : Int32), (114 : Int32), (101 : Int32), (100 : Int32), (45 : Int32), (103 : Int32), (114 : Int32), (97 : Int32), (112 : Int32), (104 : Int32)] zc ne108 f105 S104 f106 hzc) (w63 hw) (w2 hw) (fun x hx => nomatch hx) rfl (Nat.le_of_eq rfl) (Nat.le_of_ble_eq_true rfl) (Nat.le_of_ble_eq_true rfl) ⟨rfl, Nat.le_of_ble_eq_true rfl⟩ ⟨rfl, Nat.le_of_ble_eq_true rfl⟩ rfl (fun _ _ q => by rcases q.1 with ⟨_, u⟩ | ⟨_, u⟩ <;> cases u) fun T h109 v so W hQ => ?_
      obtain ⟨hQ, rfl⟩ := hQ
      rcases hQ with ⟨heq107, hv⟩ | ⟨heq107, hv⟩
      · --
        obtain rfl := Option.some.inj hv
        refine k_ifN W d_method_3_38 (show ¬ ((1 : Int32) = 0) by decide) ?_
        have f110 := (Sta.keep (Sta.keep (Sta.keep QO K87 ns0) K95 ns0) K104 ns0)
        refine k_getS W d_method_3_41 (w85 hw) Via.refl f110 fun T W => ?_
        have KK111 : Keep h0 h87 [] := (Keep.refl h0 []).trans K87 all0
        have KK112 : Keep h0 h95 [] := KK111.trans K95 all0
        have KK113 : Keep h0 h104 [] := KK112.trans K104 all0
        exact k_areturn W d_method_3_44 rfl rfl rfl [] (fun x hx => nomatch hx) (Nat.le_of_ble_eq_true rfl) (Nat.le_of_ble_eq_true rfl) ⟨by unfold own_pick; rw [if_neg heq90, if_neg heq98, if_pos heq107], KK113⟩
      · --
        obtain rfl := Option.some.inj hv
        refine k_ifY W 45 d_method_3_38 (by decide) (show (0 : Int32) = 0 by decide) ?_
        refine k_aloadN W d_method_3_45 rfl rfl ?_
        refine k_ldcS W [(110 : Int32), (101 : Int32), (109 : Int32), (111 : Int32), (45 : Int32), (116 : Int32), (114 : Int32), (97 : Int32), (99 : Int32), (101 : Int32)] 40 8 144 rfl d_method_3_46 (w79 hw) (wS hw) (by decide) ⟨by decide, by decide⟩ (by decide) ⟨by decide, by decide⟩ ⟨rfl, Nat.le_of_ble_eq_true rfl⟩ ⟨rfl, Nat.le_of_ble_eq_true rfl⟩ fun T h114 a114 b114 W E114 S114 N114 => ?_
        have K114 : Keep h104 h114 [] := keep_ext E114 []
        have f115 := (f105.keep K114 nin0 nin0)
        have f116 := (Sta.keep f106 K114 ns0)
        have ne118 : x ≠ a114 := (N114 _ (List.mem_of_getElem? (i := 0) rfl)).1
        refine k_callV W 0 8 144 (argsL := [(.ref a114)]) (rest := []) (a := x) (C := "java/lang/String") (z0 := (⟨"java/lang/String", "equals", "(Ljava/lang/Object;)Z"⟩ : MethodName)) (z := (⟨"java/lang/String", "equals", "(Ljava/lang/Object;)Z"⟩ : MethodName)) d_method_3_48 (w75 hw) (w60 hw) (nfSel (w62 hw)) (w62 hw) (w61 hw) (by decide) (lenOf pd6 rfl) f115.1 (ct_seq l Z a0 hw n0 h114 x bx a114 b114 bs [(110 : Int32), (101 : Int32), (109 : Int32), (111 : Int32), (45 : Int32), (116 : Int32), (114 : Int32), (97 : Int32), (99 : Int32), (101 : Int32)] zc ne118 f115 S114 f116 hzc) (w63 hw) (w2 hw) (fun x hx => nomatch hx) rfl (Nat.le_of_eq rfl) (Nat.le_of_ble_eq_true rfl) (Nat.le_of_ble_eq_true rfl) ⟨rfl, Nat.le_of_ble_eq_true rfl⟩ ⟨rfl, Nat.le_of_ble_eq_true rfl⟩ rfl (fun _ _ q => by rcases q.1 with ⟨_, u⟩ | ⟨_, u⟩ <;> cases u) fun T h119 v so W hQ => ?_
        obtain ⟨hQ, rfl⟩ := hQ
        rcases hQ with ⟨heq117, hv⟩ | ⟨heq117, hv⟩
        · --
          obtain rfl := Option.some.inj hv
          refine k_ifN W d_method_3_51 (show ¬ ((1 : Int32) = 0) by decide) ?_
          have f120 := (Sta.keep (Sta.keep (Sta.keep (Sta.keep QN K87 ns0) K95 ns0) K104 ns0) K114 ns0)
          refine k_getS W d_method_3_54 (w80 hw) Via.refl f120 fun T W => ?_
          have KK121 : Keep h0 h87 [] := (Keep.refl h0 []).trans K87 all0
          have KK122 : Keep h0 h95 [] := KK121.trans K95 all0
          have KK123 : Keep h0 h104 [] := KK122.trans K104 all0
          have KK124 : Keep h0 h114 [] := KK123.trans K114 all0
          exact k_areturn W d_method_3_57 rfl rfl rfl [] (fun x hx => nomatch hx) (Nat.le_of_ble_eq_true rfl) (Nat.le_of_ble_eq_true rfl) ⟨by unfold own_pick; rw [if_neg heq90, if_neg heq98, if_neg heq107, if_pos heq117], KK124⟩
        · --
          obtain rfl := Option.some.inj hv
          refine k_ifY W 58 d_method_3_51 (by decide) (show (0 : Int32) = 0 by decide) ?_
          refine k_aconst W d_method_3_58 ?_
          have KK125 : Keep h0 h87 [] := (Keep.refl h0 []).trans K87 all0
          have KK126 : Keep h0 h95 [] := KK125.trans K95 all0
          have KK127 : Keep h0 h104 [] := KK126.trans K104 all0
          have KK128 : Keep h0 h114 [] := KK127.trans K114 all0
          exact k_areturn W d_method_3_59 rfl rfl rfl [] (fun x hx => nomatch hx) (Nat.le_of_ble_eq_true rfl) (Nat.le_of_ble_eq_true rfl) ⟨by unfold own_pick; rw [if_neg heq90, if_neg heq98, if_neg heq107, if_neg heq117], KK128⟩
set_option maxRecDepth 65536 in
set_option maxHeartbeats 40000000 in
theorem ct_refN (l : Launch) (Z : State) (a0 : Array Value) (hw : ∀ d ∈ tables_1, d.before a0 Z = true) (n0 : Nat) (h0 : Heap) : Ct l Z a0 own_EL false (⟨"com/example/proofs_for_datalog/proofsfordatalog/input/ProofFormatNamedPinLaw", "ref", "(Ljava/lang/String;)Lcom/example/proofs_for_datalog/proofsfordatalog/input/ProofFormat;"⟩ : MethodName) method_3_code 1 (Option.some (Jvm.ClassFile.FieldType.object "com/example/proofs_for_datalog/proofsfordatalog/input/ProofFormat")) ({ frames := 0, cells := 0, slots := 0, locals := 0 } : Room) #[.null] h0 [] n0 (fun v h so => v = some .null ∧ h0 = h ∧ so = []) := by
  refine Ct.body (plainFor_of_name pn4) ?_
  intro p e s m below meth c T W
  refine WP.cast (g' := (mkF m 0 #[.val .null] [])) (by simp [entryFrame, mkF, argsToLocals, cat_i, cat_l, cat_r, cat_n]) ?_
  refine k_aloadN W d_method_3_0 rfl rfl ?_
  refine k_nnN W d_method_3_1 ?_
  refine k_aconst W d_method_3_4 ?_
  exact k_areturn W d_method_3_5 rfl rfl rfl [] (fun x hx => nomatch hx) (Nat.le_of_ble_eq_true rfl) (Nat.le_of_ble_eq_true rfl) ⟨rfl, rfl, rfl⟩
set_option maxRecDepth 65536 in
set_option maxHeartbeats 40000000 in
theorem ct_base (l : Launch) (Z : State) (a0 : Array Value) (hw : ∀ d ∈ tables_1, d.before a0 Z = true) (n0 : Nat) (h0 : Heap) (p0 : Int32) : Ct l Z a0 own_EL false (⟨"com/example/proofs_for_datalog/proofsfordatalog/input/ProofFormatNamedPinLaw", "base", "(I)[C"⟩ : MethodName) method_4_code 1 (Option.some (Jvm.ClassFile.FieldType.array Jvm.ClassFile.FieldType.char)) ({ frames := 0, cells := 1, slots := 13, locals := 0 } : Room) #[(.int p0)] h0 [] n0 (fun v h so => ∃ (x : Addr) (cs : List Int32), v = some (.ref x) ∧ h0.size ≤ x ∧ Keep h0 h [] ∧ Av Z h x .char (cs.map Value.int) ∧ 0 < cs.length ∧ cs.length ≤ 14 ∧ (∀ c ∈ cs, Rg c 256) ∧ so = [x]) := by
  refine Ct.body (plainFor_of_name pn4) ?_
  intro p e s m below meth c T W
  refine WP.cast (g' := (mkF m 0 #[.val (.int p0)] [])) (by simp [entryFrame, mkF, argsToLocals, cat_i, cat_l, cat_r, cat_n]) ?_
  refine k_iloadN W d_method_4_0 rfl ?_
  refine k_if W 28 d_method_4_1 (by decide) (fun (hc129 : ¬ p0 = 0) => ?_) (fun (hc129 : ¬ (¬ p0 = 0)) => ?_)
  · -- pc 28
    refine k_iloadN W d_method_4_28 rfl ?_
    refine k_iconst W d_method_4_29 (z := (1 : Int32)) rfl ?_
    refine k_ic W 62 d_method_4_30 (by decide) (fun (hc130 : ¬ p0 = (1 : Int32)) => ?_) (fun (hc130 : ¬ (¬ p0 = (1 : Int32))) => ?_)
    · -- pc 62
      refine k_iloadN W d_method_4_62 rfl ?_
      refine k_iconst W d_method_4_63 (z := (2 : Int32)) rfl ?_
      refine k_ic W 144 d_method_4_64 (by decide) (fun (hc131 : ¬ p0 = (2 : Int32)) => ?_) (fun (hc131 : ¬ (¬ p0 = (2 : Int32))) => ?_)
      · -- pc 144
        refine k_bipush W d_method_4_144 (z := (10 : Int32)) rfl ?_
        refine k_newarr W 10 1 10 d_method_4_146 (w7 hw) (by decide) (by decide) ⟨rfl, Nat.le_of_ble_eq_true rfl⟩ ⟨rfl, Nat.le_of_ble_eq_true rfl⟩ fun T h132 a133 g133 W E133 A133 => ?_
        have K133 : Keep h0 h132 [] := keep_ext E133 []
        have A133 : Av Z h132 a133 .char [(.int (0 : Int32)), (.int (0 : Int32)), (.int (0 : Int32)), (.int (0 : Int32)), (.int (0 : Int32)), (.int (0 : Int32)), (.int (0 : Int32)), (.int (0 : Int32)), (.int (0 : Int32)), (.int (0 : Int32))] := A133
        refine k_dup W d_method_4_148 rfl ?_
        refine k_iconst W d_method_4_149 (z := (0 : Int32)) rfl ?_
        refine k_bipush W d_method_4_150 (z := (110 : Int32)) rfl ?_
        refine k_castore W (z := (110 : Int32)) 0 d_method_4_152 (List.mem_of_getElem? (i := 0) rfl) A133 (by decide) (Nat.le_of_ble_eq_true rfl) (by decide) (by decide) fun T h134 W Wr134 A134 => ?_
        have K134 : Keep h132 h134 [a133] := Keep.of_wr Wr134
        have A134 : Av Z h134 a133 .char [(.int (110 : Int32)), (.int (0 : Int32)), (.int (0 : Int32)), (.int (0 : Int32)), (.int (0 : Int32)), (.int (0 : Int32)), (.int (0 : Int32)), (.int (0 : Int32)), (.int (0 : Int32)), (.int (0 : Int32))] := A134
        refine k_dup W d_method_4_153 rfl ?_
        refine k_iconst W d_method_4_154 (z := (1 : Int32)) rfl ?_
        refine k_bipush W d_method_4_155 (z := (101 : Int32)) rfl ?_
        refine k_castore W (z := (101 : Int32)) 1 d_method_4_157 (List.mem_of_getElem? (i := 0) rfl) A134 (by decide) (Nat.le_of_ble_eq_true rfl) (by decide) (by decide) fun T h135 W Wr135 A135 => ?_
        have K135 : Keep h134 h135 [a133] := Keep.of_wr Wr135
        have A135 : Av Z h135 a133 .char [(.int (110 : Int32)), (.int (101 : Int32)), (.int (0 : Int32)), (.int (0 : Int32)), (.int (0 : Int32)), (.int (0 : Int32)), (.int (0 : Int32)), (.int (0 : Int32)), (.int (0 : Int32)), (.int (0 : Int32))] := A135
        refine k_dup W d_method_4_158 rfl ?_
        refine k_iconst W d_method_4_159 (z := (2 : Int32)) rfl ?_
        refine k_bipush W d_method_4_160 (z := (109 : Int32)) rfl ?_
        refine k_castore W (z := (109 : Int32)) 2 d_method_4_162 (List.mem_of_getElem? (i := 0) rfl) A135 (by decide) (Nat.le_of_ble_eq_true rfl) (by decide) (by decide) fun T h136 W Wr136 A136 => ?_
        have K136 : Keep h135 h136 [a133] := Keep.of_wr Wr136
        have A136 : Av Z h136 a133 .char [(.int (110 : Int32)), (.int (101 : Int32)), (.int (109 : Int32)), (.int (0 : Int32)), (.int (0 : Int32)), (.int (0 : Int32)), (.int (0 : Int32)), (.int (0 : Int32)), (.int (0 : Int32)), (.int (0 : Int32))] := A136
        refine k_dup W d_method_4_163 rfl ?_
        refine k_iconst W d_method_4_164 (z := (3 : Int32)) rfl ?_
        refine k_bipush W d_method_4_165 (z := (111 : Int32)) rfl ?_
        refine k_castore W (z := (111 : Int32)) 3 d_method_4_167 (List.mem_of_getElem? (i := 0) rfl) A136 (by decide) (Nat.le_of_ble_eq_true rfl) (by decide) (by decide) fun T h137 W Wr137 A137 => ?_
        have K137 : Keep h136 h137 [a133] := Keep.of_wr Wr137
        have A137 : Av Z h137 a133 .char [(.int (110 : Int32)), (.int (101 : Int32)), (.int (109 : Int32)), (.int (111 : Int32)), (.int (0 : Int32)), (.int (0 : Int32)), (.int (0 : Int32)), (.int (0 : Int32)), (.int (0 : Int32)), (.int (0 : Int32))] := A137
        refine k_dup W d_method_4_168 rfl ?_
        refine k_iconst W d_method_4_169 (z := (4 : Int32)) rfl ?_
        refine k_bipush W d_method_4_170 (z := (45 : Int32)) rfl ?_
        refine k_castore W (z := (45 : Int32)) 4 d_method_4_172 (List.mem_of_getElem? (i := 0) rfl) A137 (by decide) (Nat.le_of_ble_eq_true rfl) (by decide) (by decide) fun T h138 W Wr138 A138 => ?_
        have K138 : Keep h137 h138 [a133] := Keep.of_wr Wr138
        have A138 : Av Z h138 a133 .char [(.int (110 : Int32)), (.int (101 : Int32)), (.int (109 : Int32)), (.int (111 : Int32)), (.int (45 : Int32)), (.int (0 : Int32)), (.int (0 : Int32)), (.int (0 : Int32)), (.int (0 : Int32)), (.int (0 : Int32))] := A138
        refine k_dup W d_method_4_173 rfl ?_
        refine k_iconst W d_method_4_174 (z := (5 : Int32)) rfl ?_
        refine k_bipush W d_method_4_175 (z := (116 : Int32)) rfl ?_
        refine k_castore W (z := (116 : Int32)) 5 d_method_4_177 (List.mem_of_getElem? (i := 0) rfl) A138 (by decide) (Nat.le_of_ble_eq_true rfl) (by decide) (by decide) fun T h139 W Wr139 A139 => ?_
        have K139 : Keep h138 h139 [a133] := Keep.of_wr Wr139
        have A139 : Av Z h139 a133 .char [(.int (110 : Int32)), (.int (101 : Int32)), (.int (109 : Int32)), (.int (111 : Int32)), (.int (45 : Int32)), (.int (116 : Int32)), (.int (0 : Int32)), (.int (0 : Int32)), (.int (0 : Int32)), (.int (0 : Int32))] := A139
        refine k_dup W d_method_4_178 rfl ?_
        refine k_bipush W d_method_4_179 (z := (6 : Int32)) rfl ?_
        refine k_bipush W d_method_4_181 (z := (114 : Int32)) rfl ?_
        refine k_castore W (z := (114 : Int32)) 6 d_method_4_183 (List.mem_of_getElem? (i := 0) rfl) A139 (by decide) (Nat.le_of_ble_eq_true rfl) (by decide) (by decide) fun T h140 W Wr140 A140 => ?_
        have K140 : Keep h139 h140 [a133] := Keep.of_wr Wr140
        have A140 : Av Z h140 a133 .char [(.int (110 : Int32)), (.int (101 : Int32)), (.int (109 : Int32)), (.int (111 : Int32)), (.int (45 : Int32)), (.int (116 : Int32)), (.int (114 : Int32)), (.int (0 : Int32)), (.int (0 : Int32)), (.int (0 : Int32))] := A140
        refine k_dup W d_method_4_184 rfl ?_
        refine k_bipush W d_method_4_185 (z := (7 : Int32)) rfl ?_
        refine k_bipush W d_method_4_187 (z := (97 : Int32)) rfl ?_
        refine k_castore W (z := (97 : Int32)) 7 d_method_4_189 (List.mem_of_getElem? (i := 0) rfl) A140 (by decide) (Nat.le_of_ble_eq_true rfl) (by decide) (by decide) fun T h141 W Wr141 A141 => ?_
        have K141 : Keep h140 h141 [a133] := Keep.of_wr Wr141
        have A141 : Av Z h141 a133 .char [(.int (110 : Int32)), (.int (101 : Int32)), (.int (109 : Int32)), (.int (111 : Int32)), (.int (45 : Int32)), (.int (116 : Int32)), (.int (114 : Int32)), (.int (97 : Int32)), (.int (0 : Int32)), (.int (0 : Int32))] := A141
        refine k_dup W d_method_4_190 rfl ?_
        refine k_bipush W d_method_4_191 (z := (8 : Int32)) rfl ?_
        refine k_bipush W d_method_4_193 (z := (99 : Int32)) rfl ?_
        refine k_castore W (z := (99 : Int32)) 8 d_method_4_195 (List.mem_of_getElem? (i := 0) rfl) A141 (by decide) (Nat.le_of_ble_eq_true rfl) (by decide) (by decide) fun T h142 W Wr142 A142 => ?_
        have K142 : Keep h141 h142 [a133] := Keep.of_wr Wr142
        have A142 : Av Z h142 a133 .char [(.int (110 : Int32)), (.int (101 : Int32)), (.int (109 : Int32)), (.int (111 : Int32)), (.int (45 : Int32)), (.int (116 : Int32)), (.int (114 : Int32)), (.int (97 : Int32)), (.int (99 : Int32)), (.int (0 : Int32))] := A142
        refine k_dup W d_method_4_196 rfl ?_
        refine k_bipush W d_method_4_197 (z := (9 : Int32)) rfl ?_
        refine k_bipush W d_method_4_199 (z := (101 : Int32)) rfl ?_
        refine k_castore W (z := (101 : Int32)) 9 d_method_4_201 (List.mem_of_getElem? (i := 0) rfl) A142 (by decide) (Nat.le_of_ble_eq_true rfl) (by decide) (by decide) fun T h143 W Wr143 A143 => ?_
        have K143 : Keep h142 h143 [a133] := Keep.of_wr Wr143
        have A143 : Av Z h143 a133 .char [(.int (110 : Int32)), (.int (101 : Int32)), (.int (109 : Int32)), (.int (111 : Int32)), (.int (45 : Int32)), (.int (116 : Int32)), (.int (114 : Int32)), (.int (97 : Int32)), (.int (99 : Int32)), (.int (101 : Int32))] := A143
        have KK144 : Keep h0 h132 [] := (Keep.refl h0 []).trans K133 all0
        have KK145 : Keep h0 h134 [] := KK144.trans K134 (allS (Or.inr (Nat.le_of_eq g133.symm)) all0)
        have KK146 : Keep h0 h135 [] := KK145.trans K135 (allS (Or.inr (Nat.le_of_eq g133.symm)) all0)
        have KK147 : Keep h0 h136 [] := KK146.trans K136 (allS (Or.inr (Nat.le_of_eq g133.symm)) all0)
        have KK148 : Keep h0 h137 [] := KK147.trans K137 (allS (Or.inr (Nat.le_of_eq g133.symm)) all0)
        have KK149 : Keep h0 h138 [] := KK148.trans K138 (allS (Or.inr (Nat.le_of_eq g133.symm)) all0)
        have KK150 : Keep h0 h139 [] := KK149.trans K139 (allS (Or.inr (Nat.le_of_eq g133.symm)) all0)
        have KK151 : Keep h0 h140 [] := KK150.trans K140 (allS (Or.inr (Nat.le_of_eq g133.symm)) all0)
        have KK152 : Keep h0 h141 [] := KK151.trans K141 (allS (Or.inr (Nat.le_of_eq g133.symm)) all0)
        have KK153 : Keep h0 h142 [] := KK152.trans K142 (allS (Or.inr (Nat.le_of_eq g133.symm)) all0)
        have KK154 : Keep h0 h143 [] := KK153.trans K143 (allS (Or.inr (Nat.le_of_eq g133.symm)) all0)
        exact k_areturn W d_method_4_202 rfl rfl rfl [a133] (fun x hx => by simp only [List.mem_cons, List.not_mem_nil, or_false] at hx; rcases hx with rfl; all_goals first | exact (List.mem_of_getElem? (i := 0) rfl)) (Nat.le_of_ble_eq_true rfl) (Nat.le_of_ble_eq_true rfl) ⟨_, [(110 : Int32), (101 : Int32), (109 : Int32), (111 : Int32), (45 : Int32), (116 : Int32), (114 : Int32), (97 : Int32), (99 : Int32), (101 : Int32)], rfl, (Nat.le_of_eq g133.symm), KK154, A143, (Nat.le_of_ble_eq_true rfl), (Nat.le_of_ble_eq_true rfl), (rgS (by decide) (rgS (by decide) (rgS (by decide) (rgS (by decide) (rgS (by decide) (rgS (by decide) (rgS (by decide) (rgS (by decide) (rgS (by decide) (rgS (by decide) (fun _ q => nomatch q))))))))))), rfl⟩
      · -- pc 67
        refine k_bipush W d_method_4_67 (z := (13 : Int32)) rfl ?_
        refine k_newarr W 13 1 13 d_method_4_69 (w7 hw) (by decide) (by decide) ⟨rfl, Nat.le_of_ble_eq_true rfl⟩ ⟨rfl, Nat.le_of_ble_eq_true rfl⟩ fun T h155 a156 g156 W E156 A156 => ?_
        have K156 : Keep h0 h155 [] := keep_ext E156 []
        have A156 : Av Z h155 a156 .char [(.int (0 : Int32)), (.int (0 : Int32)), (.int (0 : Int32)), (.int (0 : Int32)), (.int (0 : Int32)), (.int (0 : Int32)), (.int (0 : Int32)), (.int (0 : Int32)), (.int (0 : Int32)), (.int (0 : Int32)), (.int (0 : Int32)), (.int (0 : Int32)), (.int (0 : Int32))] := A156
        refine k_dup W d_method_4_71 rfl ?_
        refine k_iconst W d_method_4_72 (z := (0 : Int32)) rfl ?_
        refine k_bipush W d_method_4_73 (z := (111 : Int32)) rfl ?_
        refine k_castore W (z := (111 : Int32)) 0 d_method_4_75 (List.mem_of_getElem? (i := 0) rfl) A156 (by decide) (Nat.le_of_ble_eq_true rfl) (by decide) (by decide) fun T h157 W Wr157 A157 => ?_
        have K157 : Keep h155 h157 [a156] := Keep.of_wr Wr157
        have A157 : Av Z h157 a156 .char [(.int (111 : Int32)), (.int (0 : Int32)), (.int (0 : Int32)), (.int (0 : Int32)), (.int (0 : Int32)), (.int (0 : Int32)), (.int (0 : Int32)), (.int (0 : Int32)), (.int (0 : Int32)), (.int (0 : Int32)), (.int (0 : Int32)), (.int (0 : Int32)), (.int (0 : Int32))] := A157
        refine k_dup W d_method_4_76 rfl ?_
        refine k_iconst W d_method_4_77 (z := (1 : Int32)) rfl ?_
        refine k_bipush W d_method_4_78 (z := (114 : Int32)) rfl ?_
        refine k_castore W (z := (114 : Int32)) 1 d_method_4_80 (List.mem_of_getElem? (i := 0) rfl) A157 (by decide) (Nat.le_of_ble_eq_true rfl) (by decide) (by decide) fun T h158 W Wr158 A158 => ?_
        have K158 : Keep h157 h158 [a156] := Keep.of_wr Wr158
        have A158 : Av Z h158 a156 .char [(.int (111 : Int32)), (.int (114 : Int32)), (.int (0 : Int32)), (.int (0 : Int32)), (.int (0 : Int32)), (.int (0 : Int32)), (.int (0 : Int32)), (.int (0 : Int32)), (.int (0 : Int32)), (.int (0 : Int32)), (.int (0 : Int32)), (.int (0 : Int32)), (.int (0 : Int32))] := A158
        refine k_dup W d_method_4_81 rfl ?_
        refine k_iconst W d_method_4_82 (z := (2 : Int32)) rfl ?_
        refine k_bipush W d_method_4_83 (z := (100 : Int32)) rfl ?_
        refine k_castore W (z := (100 : Int32)) 2 d_method_4_85 (List.mem_of_getElem? (i := 0) rfl) A158 (by decide) (Nat.le_of_ble_eq_true rfl) (by decide) (by decide) fun T h159 W Wr159 A159 => ?_
        have K159 : Keep h158 h159 [a156] := Keep.of_wr Wr159
        have A159 : Av Z h159 a156 .char [(.int (111 : Int32)), (.int (114 : Int32)), (.int (100 : Int32)), (.int (0 : Int32)), (.int (0 : Int32)), (.int (0 : Int32)), (.int (0 : Int32)), (.int (0 : Int32)), (.int (0 : Int32)), (.int (0 : Int32)), (.int (0 : Int32)), (.int (0 : Int32)), (.int (0 : Int32))] := A159
        refine k_dup W d_method_4_86 rfl ?_
        refine k_iconst W d_method_4_87 (z := (3 : Int32)) rfl ?_
        refine k_bipush W d_method_4_88 (z := (101 : Int32)) rfl ?_
        refine k_castore W (z := (101 : Int32)) 3 d_method_4_90 (List.mem_of_getElem? (i := 0) rfl) A159 (by decide) (Nat.le_of_ble_eq_true rfl) (by decide) (by decide) fun T h160 W Wr160 A160 => ?_
        have K160 : Keep h159 h160 [a156] := Keep.of_wr Wr160
        have A160 : Av Z h160 a156 .char [(.int (111 : Int32)), (.int (114 : Int32)), (.int (100 : Int32)), (.int (101 : Int32)), (.int (0 : Int32)), (.int (0 : Int32)), (.int (0 : Int32)), (.int (0 : Int32)), (.int (0 : Int32)), (.int (0 : Int32)), (.int (0 : Int32)), (.int (0 : Int32)), (.int (0 : Int32))] := A160
        refine k_dup W d_method_4_91 rfl ?_
        refine k_iconst W d_method_4_92 (z := (4 : Int32)) rfl ?_
        refine k_bipush W d_method_4_93 (z := (114 : Int32)) rfl ?_
        refine k_castore W (z := (114 : Int32)) 4 d_method_4_95 (List.mem_of_getElem? (i := 0) rfl) A160 (by decide) (Nat.le_of_ble_eq_true rfl) (by decide) (by decide) fun T h161 W Wr161 A161 => ?_
        have K161 : Keep h160 h161 [a156] := Keep.of_wr Wr161
        have A161 : Av Z h161 a156 .char [(.int (111 : Int32)), (.int (114 : Int32)), (.int (100 : Int32)), (.int (101 : Int32)), (.int (114 : Int32)), (.int (0 : Int32)), (.int (0 : Int32)), (.int (0 : Int32)), (.int (0 : Int32)), (.int (0 : Int32)), (.int (0 : Int32)), (.int (0 : Int32)), (.int (0 : Int32))] := A161
        refine k_dup W d_method_4_96 rfl ?_
        refine k_iconst W d_method_4_97 (z := (5 : Int32)) rfl ?_
        refine k_bipush W d_method_4_98 (z := (101 : Int32)) rfl ?_
        refine k_castore W (z := (101 : Int32)) 5 d_method_4_100 (List.mem_of_getElem? (i := 0) rfl) A161 (by decide) (Nat.le_of_ble_eq_true rfl) (by decide) (by decide) fun T h162 W Wr162 A162 => ?_
        have K162 : Keep h161 h162 [a156] := Keep.of_wr Wr162
        have A162 : Av Z h162 a156 .char [(.int (111 : Int32)), (.int (114 : Int32)), (.int (100 : Int32)), (.int (101 : Int32)), (.int (114 : Int32)), (.int (101 : Int32)), (.int (0 : Int32)), (.int (0 : Int32)), (.int (0 : Int32)), (.int (0 : Int32)), (.int (0 : Int32)), (.int (0 : Int32)), (.int (0 : Int32))] := A162
        refine k_dup W d_method_4_101 rfl ?_
        refine k_bipush W d_method_4_102 (z := (6 : Int32)) rfl ?_
        refine k_bipush W d_method_4_104 (z := (100 : Int32)) rfl ?_
        refine k_castore W (z := (100 : Int32)) 6 d_method_4_106 (List.mem_of_getElem? (i := 0) rfl) A162 (by decide) (Nat.le_of_ble_eq_true rfl) (by decide) (by decide) fun T h163 W Wr163 A163 => ?_
        have K163 : Keep h162 h163 [a156] := Keep.of_wr Wr163
        have A163 : Av Z h163 a156 .char [(.int (111 : Int32)), (.int (114 : Int32)), (.int (100 : Int32)), (.int (101 : Int32)), (.int (114 : Int32)), (.int (101 : Int32)), (.int (100 : Int32)), (.int (0 : Int32)), (.int (0 : Int32)), (.int (0 : Int32)), (.int (0 : Int32)), (.int (0 : Int32)), (.int (0 : Int32))] := A163
        refine k_dup W d_method_4_107 rfl ?_
        refine k_bipush W d_method_4_108 (z := (7 : Int32)) rfl ?_
        refine k_bipush W d_method_4_110 (z := (45 : Int32)) rfl ?_
        refine k_castore W (z := (45 : Int32)) 7 d_method_4_112 (List.mem_of_getElem? (i := 0) rfl) A163 (by decide) (Nat.le_of_ble_eq_true rfl) (by decide) (by decide) fun T h164 W Wr164 A164 => ?_
        have K164 : Keep h163 h164 [a156] := Keep.of_wr Wr164
        have A164 : Av Z h164 a156 .char [(.int (111 : Int32)), (.int (114 : Int32)), (.int (100 : Int32)), (.int (101 : Int32)), (.int (114 : Int32)), (.int (101 : Int32)), (.int (100 : Int32)), (.int (45 : Int32)), (.int (0 : Int32)), (.int (0 : Int32)), (.int (0 : Int32)), (.int (0 : Int32)), (.int (0 : Int32))] := A164
        refine k_dup W d_method_4_113 rfl ?_
        refine k_bipush W d_method_4_114 (z := (8 : Int32)) rfl ?_
        refine k_bipush W d_method_4_116 (z := (103 : Int32)) rfl ?_
        refine k_castore W (z := (103 : Int32)) 8 d_method_4_118 (List.mem_of_getElem? (i := 0) rfl) A164 (by decide) (Nat.le_of_ble_eq_true rfl) (by decide) (by decide) fun T h165 W Wr165 A165 => ?_
        have K165 : Keep h164 h165 [a156] := Keep.of_wr Wr165
        have A165 : Av Z h165 a156 .char [(.int (111 : Int32)), (.int (114 : Int32)), (.int (100 : Int32)), (.int (101 : Int32)), (.int (114 : Int32)), (.int (101 : Int32)), (.int (100 : Int32)), (.int (45 : Int32)), (.int (103 : Int32)), (.int (0 : Int32)), (.int (0 : Int32)), (.int (0 : Int32)), (.int (0 : Int32))] := A165
        refine k_dup W d_method_4_119 rfl ?_
        refine k_bipush W d_method_4_120 (z := (9 : Int32)) rfl ?_
        refine k_bipush W d_method_4_122 (z := (114 : Int32)) rfl ?_
        refine k_castore W (z := (114 : Int32)) 9 d_method_4_124 (List.mem_of_getElem? (i := 0) rfl) A165 (by decide) (Nat.le_of_ble_eq_true rfl) (by decide) (by decide) fun T h166 W Wr166 A166 => ?_
        have K166 : Keep h165 h166 [a156] := Keep.of_wr Wr166
        have A166 : Av Z h166 a156 .char [(.int (111 : Int32)), (.int (114 : Int32)), (.int (100 : Int32)), (.int (101 : Int32)), (.int (114 : Int32)), (.int (101 : Int32)), (.int (100 : Int32)), (.int (45 : Int32)), (.int (103 : Int32)), (.int (114 : Int32)), (.int (0 : Int32)), (.int (0 : Int32)), (.int (0 : Int32))] := A166
        refine k_dup W d_method_4_125 rfl ?_
        refine k_bipush W d_method_4_126 (z := (10 : Int32)) rfl ?_
        refine k_bipush W d_method_4_128 (z := (97 : Int32)) rfl ?_
        refine k_castore W (z := (97 : Int32)) 10 d_method_4_130 (List.mem_of_getElem? (i := 0) rfl) A166 (by decide) (Nat.le_of_ble_eq_true rfl) (by decide) (by decide) fun T h167 W Wr167 A167 => ?_
        have K167 : Keep h166 h167 [a156] := Keep.of_wr Wr167
        have A167 : Av Z h167 a156 .char [(.int (111 : Int32)), (.int (114 : Int32)), (.int (100 : Int32)), (.int (101 : Int32)), (.int (114 : Int32)), (.int (101 : Int32)), (.int (100 : Int32)), (.int (45 : Int32)), (.int (103 : Int32)), (.int (114 : Int32)), (.int (97 : Int32)), (.int (0 : Int32)), (.int (0 : Int32))] := A167
        refine k_dup W d_method_4_131 rfl ?_
        refine k_bipush W d_method_4_132 (z := (11 : Int32)) rfl ?_
        refine k_bipush W d_method_4_134 (z := (112 : Int32)) rfl ?_
        refine k_castore W (z := (112 : Int32)) 11 d_method_4_136 (List.mem_of_getElem? (i := 0) rfl) A167 (by decide) (Nat.le_of_ble_eq_true rfl) (by decide) (by decide) fun T h168 W Wr168 A168 => ?_
        have K168 : Keep h167 h168 [a156] := Keep.of_wr Wr168
        have A168 : Av Z h168 a156 .char [(.int (111 : Int32)), (.int (114 : Int32)), (.int (100 : Int32)), (.int (101 : Int32)), (.int (114 : Int32)), (.int (101 : Int32)), (.int (100 : Int32)), (.int (45 : Int32)), (.int (103 : Int32)), (.int (114 : Int32)), (.int (97 : Int32)), (.int (112 : Int32)), (.int (0 : Int32))] := A168
        refine k_dup W d_method_4_137 rfl ?_
        refine k_bipush W d_method_4_138 (z := (12 : Int32)) rfl ?_
        refine k_bipush W d_method_4_140 (z := (104 : Int32)) rfl ?_
        refine k_castore W (z := (104 : Int32)) 12 d_method_4_142 (List.mem_of_getElem? (i := 0) rfl) A168 (by decide) (Nat.le_of_ble_eq_true rfl) (by decide) (by decide) fun T h169 W Wr169 A169 => ?_
        have K169 : Keep h168 h169 [a156] := Keep.of_wr Wr169
        have A169 : Av Z h169 a156 .char [(.int (111 : Int32)), (.int (114 : Int32)), (.int (100 : Int32)), (.int (101 : Int32)), (.int (114 : Int32)), (.int (101 : Int32)), (.int (100 : Int32)), (.int (45 : Int32)), (.int (103 : Int32)), (.int (114 : Int32)), (.int (97 : Int32)), (.int (112 : Int32)), (.int (104 : Int32))] := A169
        have KK170 : Keep h0 h155 [] := (Keep.refl h0 []).trans K156 all0
        have KK171 : Keep h0 h157 [] := KK170.trans K157 (allS (Or.inr (Nat.le_of_eq g156.symm)) all0)
        have KK172 : Keep h0 h158 [] := KK171.trans K158 (allS (Or.inr (Nat.le_of_eq g156.symm)) all0)
        have KK173 : Keep h0 h159 [] := KK172.trans K159 (allS (Or.inr (Nat.le_of_eq g156.symm)) all0)
        have KK174 : Keep h0 h160 [] := KK173.trans K160 (allS (Or.inr (Nat.le_of_eq g156.symm)) all0)
        have KK175 : Keep h0 h161 [] := KK174.trans K161 (allS (Or.inr (Nat.le_of_eq g156.symm)) all0)
        have KK176 : Keep h0 h162 [] := KK175.trans K162 (allS (Or.inr (Nat.le_of_eq g156.symm)) all0)
        have KK177 : Keep h0 h163 [] := KK176.trans K163 (allS (Or.inr (Nat.le_of_eq g156.symm)) all0)
        have KK178 : Keep h0 h164 [] := KK177.trans K164 (allS (Or.inr (Nat.le_of_eq g156.symm)) all0)
        have KK179 : Keep h0 h165 [] := KK178.trans K165 (allS (Or.inr (Nat.le_of_eq g156.symm)) all0)
        have KK180 : Keep h0 h166 [] := KK179.trans K166 (allS (Or.inr (Nat.le_of_eq g156.symm)) all0)
        have KK181 : Keep h0 h167 [] := KK180.trans K167 (allS (Or.inr (Nat.le_of_eq g156.symm)) all0)
        have KK182 : Keep h0 h168 [] := KK181.trans K168 (allS (Or.inr (Nat.le_of_eq g156.symm)) all0)
        have KK183 : Keep h0 h169 [] := KK182.trans K169 (allS (Or.inr (Nat.le_of_eq g156.symm)) all0)
        exact k_areturn W d_method_4_143 rfl rfl rfl [a156] (fun x hx => by simp only [List.mem_cons, List.not_mem_nil, or_false] at hx; rcases hx with rfl; all_goals first | exact (List.mem_of_getElem? (i := 0) rfl)) (Nat.le_of_ble_eq_true rfl) (Nat.le_of_ble_eq_true rfl) ⟨_, [(111 : Int32), (114 : Int32), (100 : Int32), (101 : Int32), (114 : Int32), (101 : Int32), (100 : Int32), (45 : Int32), (103 : Int32), (114 : Int32), (97 : Int32), (112 : Int32), (104 : Int32)], rfl, (Nat.le_of_eq g156.symm), KK183, A169, (Nat.le_of_ble_eq_true rfl), (Nat.le_of_ble_eq_true rfl), (rgS (by decide) (rgS (by decide) (rgS (by decide) (rgS (by decide) (rgS (by decide) (rgS (by decide) (rgS (by decide) (rgS (by decide) (rgS (by decide) (rgS (by decide) (rgS (by decide) (rgS (by decide) (rgS (by decide) (fun _ q => nomatch q)))))))))))))), rfl⟩
    · -- pc 33
      refine k_iconst W d_method_4_33 (z := (5 : Int32)) rfl ?_
      refine k_newarr W 5 1 5 d_method_4_34 (w7 hw) (by decide) (by decide) ⟨rfl, Nat.le_of_ble_eq_true rfl⟩ ⟨rfl, Nat.le_of_ble_eq_true rfl⟩ fun T h184 a185 g185 W E185 A185 => ?_
      have K185 : Keep h0 h184 [] := keep_ext E185 []
      have A185 : Av Z h184 a185 .char [(.int (0 : Int32)), (.int (0 : Int32)), (.int (0 : Int32)), (.int (0 : Int32)), (.int (0 : Int32))] := A185
      refine k_dup W d_method_4_36 rfl ?_
      refine k_iconst W d_method_4_37 (z := (0 : Int32)) rfl ?_
      refine k_bipush W d_method_4_38 (z := (103 : Int32)) rfl ?_
      refine k_castore W (z := (103 : Int32)) 0 d_method_4_40 (List.mem_of_getElem? (i := 0) rfl) A185 (by decide) (Nat.le_of_ble_eq_true rfl) (by decide) (by decide) fun T h186 W Wr186 A186 => ?_
      have K186 : Keep h184 h186 [a185] := Keep.of_wr Wr186
      have A186 : Av Z h186 a185 .char [(.int (103 : Int32)), (.int (0 : Int32)), (.int (0 : Int32)), (.int (0 : Int32)), (.int (0 : Int32))] := A186
      refine k_dup W d_method_4_41 rfl ?_
      refine k_iconst W d_method_4_42 (z := (1 : Int32)) rfl ?_
      refine k_bipush W d_method_4_43 (z := (114 : Int32)) rfl ?_
      refine k_castore W (z := (114 : Int32)) 1 d_method_4_45 (List.mem_of_getElem? (i := 0) rfl) A186 (by decide) (Nat.le_of_ble_eq_true rfl) (by decide) (by decide) fun T h187 W Wr187 A187 => ?_
      have K187 : Keep h186 h187 [a185] := Keep.of_wr Wr187
      have A187 : Av Z h187 a185 .char [(.int (103 : Int32)), (.int (114 : Int32)), (.int (0 : Int32)), (.int (0 : Int32)), (.int (0 : Int32))] := A187
      refine k_dup W d_method_4_46 rfl ?_
      refine k_iconst W d_method_4_47 (z := (2 : Int32)) rfl ?_
      refine k_bipush W d_method_4_48 (z := (97 : Int32)) rfl ?_
      refine k_castore W (z := (97 : Int32)) 2 d_method_4_50 (List.mem_of_getElem? (i := 0) rfl) A187 (by decide) (Nat.le_of_ble_eq_true rfl) (by decide) (by decide) fun T h188 W Wr188 A188 => ?_
      have K188 : Keep h187 h188 [a185] := Keep.of_wr Wr188
      have A188 : Av Z h188 a185 .char [(.int (103 : Int32)), (.int (114 : Int32)), (.int (97 : Int32)), (.int (0 : Int32)), (.int (0 : Int32))] := A188
      refine k_dup W d_method_4_51 rfl ?_
      refine k_iconst W d_method_4_52 (z := (3 : Int32)) rfl ?_
      refine k_bipush W d_method_4_53 (z := (112 : Int32)) rfl ?_
      refine k_castore W (z := (112 : Int32)) 3 d_method_4_55 (List.mem_of_getElem? (i := 0) rfl) A188 (by decide) (Nat.le_of_ble_eq_true rfl) (by decide) (by decide) fun T h189 W Wr189 A189 => ?_
      have K189 : Keep h188 h189 [a185] := Keep.of_wr Wr189
      have A189 : Av Z h189 a185 .char [(.int (103 : Int32)), (.int (114 : Int32)), (.int (97 : Int32)), (.int (112 : Int32)), (.int (0 : Int32))] := A189
      refine k_dup W d_method_4_56 rfl ?_
      refine k_iconst W d_method_4_57 (z := (4 : Int32)) rfl ?_
      refine k_bipush W d_method_4_58 (z := (104 : Int32)) rfl ?_
      refine k_castore W (z := (104 : Int32)) 4 d_method_4_60 (List.mem_of_getElem? (i := 0) rfl) A189 (by decide) (Nat.le_of_ble_eq_true rfl) (by decide) (by decide) fun T h190 W Wr190 A190 => ?_
      have K190 : Keep h189 h190 [a185] := Keep.of_wr Wr190
      have A190 : Av Z h190 a185 .char [(.int (103 : Int32)), (.int (114 : Int32)), (.int (97 : Int32)), (.int (112 : Int32)), (.int (104 : Int32))] := A190
      have KK191 : Keep h0 h184 [] := (Keep.refl h0 []).trans K185 all0
      have KK192 : Keep h0 h186 [] := KK191.trans K186 (allS (Or.inr (Nat.le_of_eq g185.symm)) all0)
      have KK193 : Keep h0 h187 [] := KK192.trans K187 (allS (Or.inr (Nat.le_of_eq g185.symm)) all0)
      have KK194 : Keep h0 h188 [] := KK193.trans K188 (allS (Or.inr (Nat.le_of_eq g185.symm)) all0)
      have KK195 : Keep h0 h189 [] := KK194.trans K189 (allS (Or.inr (Nat.le_of_eq g185.symm)) all0)
      have KK196 : Keep h0 h190 [] := KK195.trans K190 (allS (Or.inr (Nat.le_of_eq g185.symm)) all0)
      exact k_areturn W d_method_4_61 rfl rfl rfl [a185] (fun x hx => by simp only [List.mem_cons, List.not_mem_nil, or_false] at hx; rcases hx with rfl; all_goals first | exact (List.mem_of_getElem? (i := 0) rfl)) (Nat.le_of_ble_eq_true rfl) (Nat.le_of_ble_eq_true rfl) ⟨_, [(103 : Int32), (114 : Int32), (97 : Int32), (112 : Int32), (104 : Int32)], rfl, (Nat.le_of_eq g185.symm), KK196, A190, (Nat.le_of_ble_eq_true rfl), (Nat.le_of_ble_eq_true rfl), (rgS (by decide) (rgS (by decide) (rgS (by decide) (rgS (by decide) (rgS (by decide) (fun _ q => nomatch q)))))), rfl⟩
  · -- pc 4
    refine k_iconst W d_method_4_4 (z := (4 : Int32)) rfl ?_
    refine k_newarr W 4 1 4 d_method_4_5 (w7 hw) (by decide) (by decide) ⟨rfl, Nat.le_of_ble_eq_true rfl⟩ ⟨rfl, Nat.le_of_ble_eq_true rfl⟩ fun T h197 a198 g198 W E198 A198 => ?_
    have K198 : Keep h0 h197 [] := keep_ext E198 []
    have A198 : Av Z h197 a198 .char [(.int (0 : Int32)), (.int (0 : Int32)), (.int (0 : Int32)), (.int (0 : Int32))] := A198
    refine k_dup W d_method_4_7 rfl ?_
    refine k_iconst W d_method_4_8 (z := (0 : Int32)) rfl ?_
    refine k_bipush W d_method_4_9 (z := (116 : Int32)) rfl ?_
    refine k_castore W (z := (116 : Int32)) 0 d_method_4_11 (List.mem_of_getElem? (i := 0) rfl) A198 (by decide) (Nat.le_of_ble_eq_true rfl) (by decide) (by decide) fun T h199 W Wr199 A199 => ?_
    have K199 : Keep h197 h199 [a198] := Keep.of_wr Wr199
    have A199 : Av Z h199 a198 .char [(.int (116 : Int32)), (.int (0 : Int32)), (.int (0 : Int32)), (.int (0 : Int32))] := A199
    refine k_dup W d_method_4_12 rfl ?_
    refine k_iconst W d_method_4_13 (z := (1 : Int32)) rfl ?_
    refine k_bipush W d_method_4_14 (z := (114 : Int32)) rfl ?_
    refine k_castore W (z := (114 : Int32)) 1 d_method_4_16 (List.mem_of_getElem? (i := 0) rfl) A199 (by decide) (Nat.le_of_ble_eq_true rfl) (by decide) (by decide) fun T h200 W Wr200 A200 => ?_
    have K200 : Keep h199 h200 [a198] := Keep.of_wr Wr200
    have A200 : Av Z h200 a198 .char [(.int (116 : Int32)), (.int (114 : Int32)), (.int (0 : Int32)), (.int (0 : Int32))] := A200
    refine k_dup W d_method_4_17 rfl ?_
    refine k_iconst W d_method_4_18 (z := (2 : Int32)) rfl ?_
    refine k_bipush W d_method_4_19 (z := (101 : Int32)) rfl ?_
    refine k_castore W (z := (101 : Int32)) 2 d_method_4_21 (List.mem_of_getElem? (i := 0) rfl) A200 (by decide) (Nat.le_of_ble_eq_true rfl) (by decide) (by decide) fun T h201 W Wr201 A201 => ?_
    have K201 : Keep h200 h201 [a198] := Keep.of_wr Wr201
    have A201 : Av Z h201 a198 .char [(.int (116 : Int32)), (.int (114 : Int32)), (.int (101 : Int32)), (.int (0 : Int32))] := A201
    refine k_dup W d_method_4_22 rfl ?_
    refine k_iconst W d_method_4_23 (z := (3 : Int32)) rfl ?_
    refine k_bipush W d_method_4_24 (z := (101 : Int32)) rfl ?_
    refine k_castore W (z := (101 : Int32)) 3 d_method_4_26 (List.mem_of_getElem? (i := 0) rfl) A201 (by decide) (Nat.le_of_ble_eq_true rfl) (by decide) (by decide) fun T h202 W Wr202 A202 => ?_
    have K202 : Keep h201 h202 [a198] := Keep.of_wr Wr202
    have A202 : Av Z h202 a198 .char [(.int (116 : Int32)), (.int (114 : Int32)), (.int (101 : Int32)), (.int (101 : Int32))] := A202
    have KK203 : Keep h0 h197 [] := (Keep.refl h0 []).trans K198 all0
    have KK204 : Keep h0 h199 [] := KK203.trans K199 (allS (Or.inr (Nat.le_of_eq g198.symm)) all0)
    have KK205 : Keep h0 h200 [] := KK204.trans K200 (allS (Or.inr (Nat.le_of_eq g198.symm)) all0)
    have KK206 : Keep h0 h201 [] := KK205.trans K201 (allS (Or.inr (Nat.le_of_eq g198.symm)) all0)
    have KK207 : Keep h0 h202 [] := KK206.trans K202 (allS (Or.inr (Nat.le_of_eq g198.symm)) all0)
    exact k_areturn W d_method_4_27 rfl rfl rfl [a198] (fun x hx => by simp only [List.mem_cons, List.not_mem_nil, or_false] at hx; rcases hx with rfl; all_goals first | exact (List.mem_of_getElem? (i := 0) rfl)) (Nat.le_of_ble_eq_true rfl) (Nat.le_of_ble_eq_true rfl) ⟨_, [(116 : Int32), (114 : Int32), (101 : Int32), (101 : Int32)], rfl, (Nat.le_of_eq g198.symm), KK207, A202, (Nat.le_of_ble_eq_true rfl), (Nat.le_of_ble_eq_true rfl), (rgS (by decide) (rgS (by decide) (rgS (by decide) (rgS (by decide) (fun _ q => nomatch q))))), rfl⟩
set_option maxRecDepth 65536 in
set_option maxHeartbeats 40000000 in
theorem ct_longer (l : Launch) (Z : State) (a0 : Array Value) (hw : ∀ d ∈ tables_1, d.before a0 Z = true) (n0 : Nat) (h0 : Heap) (p0 p1 : Int32) (r1 : Rg p1 256) : Ct l Z a0 own_EL false (⟨"com/example/proofs_for_datalog/proofsfordatalog/input/ProofFormatNamedPinLaw", "longer", "(IC)[C"⟩ : MethodName) method_5_code 2 (Option.some (Jvm.ClassFile.FieldType.array Jvm.ClassFile.FieldType.char)) ({ frames := 0, cells := 1, slots := 14, locals := 0 } : Room) #[(.int p0), (.int p1)] h0 [] n0 (fun v h so => ∃ (x : Addr) (cs : List Int32), v = some (.ref x) ∧ h0.size ≤ x ∧ Keep h0 h [] ∧ Av Z h x .char (cs.map Value.int) ∧ 0 < cs.length ∧ cs.length ≤ 14 ∧ (∀ c ∈ cs, Rg c 256) ∧ so = [x]) := by
  refine Ct.body (plainFor_of_name pn4) ?_
  intro p e s m below meth c T W
  refine WP.cast (g' := (mkF m 0 #[.val (.int p0), .val (.int p1)] [])) (by simp [entryFrame, mkF, argsToLocals, cat_i, cat_l, cat_r, cat_n]) ?_
  refine k_iloadN W d_method_5_0 rfl ?_
  refine k_if W 32 d_method_5_1 (by decide) (fun (hc208 : ¬ p0 = 0) => ?_) (fun (hc208 : ¬ (¬ p0 = 0)) => ?_)
  · -- pc 32
    refine k_iloadN W d_method_5_32 rfl ?_
    refine k_iconst W d_method_5_33 (z := (1 : Int32)) rfl ?_
    refine k_ic W 71 d_method_5_34 (by decide) (fun (hc209 : ¬ p0 = (1 : Int32)) => ?_) (fun (hc209 : ¬ (¬ p0 = (1 : Int32))) => ?_)
    · -- pc 71
      refine k_iloadN W d_method_5_71 rfl ?_
      refine k_iconst W d_method_5_72 (z := (2 : Int32)) rfl ?_
      refine k_ic W 158 d_method_5_73 (by decide) (fun (hc210 : ¬ p0 = (2 : Int32)) => ?_) (fun (hc210 : ¬ (¬ p0 = (2 : Int32))) => ?_)
      · -- pc 158
        refine k_bipush W d_method_5_158 (z := (11 : Int32)) rfl ?_
        refine k_newarr W 11 1 11 d_method_5_160 (w7 hw) (by decide) (by decide) ⟨rfl, Nat.le_of_ble_eq_true rfl⟩ ⟨rfl, Nat.le_of_ble_eq_true rfl⟩ fun T h211 a212 g212 W E212 A212 => ?_
        have K212 : Keep h0 h211 [] := keep_ext E212 []
        have A212 : Av Z h211 a212 .char [(.int (0 : Int32)), (.int (0 : Int32)), (.int (0 : Int32)), (.int (0 : Int32)), (.int (0 : Int32)), (.int (0 : Int32)), (.int (0 : Int32)), (.int (0 : Int32)), (.int (0 : Int32)), (.int (0 : Int32)), (.int (0 : Int32))] := A212
        refine k_dup W d_method_5_162 rfl ?_
        refine k_iconst W d_method_5_163 (z := (0 : Int32)) rfl ?_
        refine k_bipush W d_method_5_164 (z := (110 : Int32)) rfl ?_
        refine k_castore W (z := (110 : Int32)) 0 d_method_5_166 (List.mem_of_getElem? (i := 0) rfl) A212 (by decide) (Nat.le_of_ble_eq_true rfl) (by decide) (by decide) fun T h213 W Wr213 A213 => ?_
        have K213 : Keep h211 h213 [a212] := Keep.of_wr Wr213
        have A213 : Av Z h213 a212 .char [(.int (110 : Int32)), (.int (0 : Int32)), (.int (0 : Int32)), (.int (0 : Int32)), (.int (0 : Int32)), (.int (0 : Int32)), (.int (0 : Int32)), (.int (0 : Int32)), (.int (0 : Int32)), (.int (0 : Int32)), (.int (0 : Int32))] := A213
        refine k_dup W d_method_5_167 rfl ?_
        refine k_iconst W d_method_5_168 (z := (1 : Int32)) rfl ?_
        refine k_bipush W d_method_5_169 (z := (101 : Int32)) rfl ?_
        refine k_castore W (z := (101 : Int32)) 1 d_method_5_171 (List.mem_of_getElem? (i := 0) rfl) A213 (by decide) (Nat.le_of_ble_eq_true rfl) (by decide) (by decide) fun T h214 W Wr214 A214 => ?_
        have K214 : Keep h213 h214 [a212] := Keep.of_wr Wr214
        have A214 : Av Z h214 a212 .char [(.int (110 : Int32)), (.int (101 : Int32)), (.int (0 : Int32)), (.int (0 : Int32)), (.int (0 : Int32)), (.int (0 : Int32)), (.int (0 : Int32)), (.int (0 : Int32)), (.int (0 : Int32)), (.int (0 : Int32)), (.int (0 : Int32))] := A214
        refine k_dup W d_method_5_172 rfl ?_
        refine k_iconst W d_method_5_173 (z := (2 : Int32)) rfl ?_
        refine k_bipush W d_method_5_174 (z := (109 : Int32)) rfl ?_
        refine k_castore W (z := (109 : Int32)) 2 d_method_5_176 (List.mem_of_getElem? (i := 0) rfl) A214 (by decide) (Nat.le_of_ble_eq_true rfl) (by decide) (by decide) fun T h215 W Wr215 A215 => ?_
        have K215 : Keep h214 h215 [a212] := Keep.of_wr Wr215
        have A215 : Av Z h215 a212 .char [(.int (110 : Int32)), (.int (101 : Int32)), (.int (109 : Int32)), (.int (0 : Int32)), (.int (0 : Int32)), (.int (0 : Int32)), (.int (0 : Int32)), (.int (0 : Int32)), (.int (0 : Int32)), (.int (0 : Int32)), (.int (0 : Int32))] := A215
        refine k_dup W d_method_5_177 rfl ?_
        refine k_iconst W d_method_5_178 (z := (3 : Int32)) rfl ?_
        refine k_bipush W d_method_5_179 (z := (111 : Int32)) rfl ?_
        refine k_castore W (z := (111 : Int32)) 3 d_method_5_181 (List.mem_of_getElem? (i := 0) rfl) A215 (by decide) (Nat.le_of_ble_eq_true rfl) (by decide) (by decide) fun T h216 W Wr216 A216 => ?_
        have K216 : Keep h215 h216 [a212] := Keep.of_wr Wr216
        have A216 : Av Z h216 a212 .char [(.int (110 : Int32)), (.int (101 : Int32)), (.int (109 : Int32)), (.int (111 : Int32)), (.int (0 : Int32)), (.int (0 : Int32)), (.int (0 : Int32)), (.int (0 : Int32)), (.int (0 : Int32)), (.int (0 : Int32)), (.int (0 : Int32))] := A216
        refine k_dup W d_method_5_182 rfl ?_
        refine k_iconst W d_method_5_183 (z := (4 : Int32)) rfl ?_
        refine k_bipush W d_method_5_184 (z := (45 : Int32)) rfl ?_
        refine k_castore W (z := (45 : Int32)) 4 d_method_5_186 (List.mem_of_getElem? (i := 0) rfl) A216 (by decide) (Nat.le_of_ble_eq_true rfl) (by decide) (by decide) fun T h217 W Wr217 A217 => ?_
        have K217 : Keep h216 h217 [a212] := Keep.of_wr Wr217
        have A217 : Av Z h217 a212 .char [(.int (110 : Int32)), (.int (101 : Int32)), (.int (109 : Int32)), (.int (111 : Int32)), (.int (45 : Int32)), (.int (0 : Int32)), (.int (0 : Int32)), (.int (0 : Int32)), (.int (0 : Int32)), (.int (0 : Int32)), (.int (0 : Int32))] := A217
        refine k_dup W d_method_5_187 rfl ?_
        refine k_iconst W d_method_5_188 (z := (5 : Int32)) rfl ?_
        refine k_bipush W d_method_5_189 (z := (116 : Int32)) rfl ?_
        refine k_castore W (z := (116 : Int32)) 5 d_method_5_191 (List.mem_of_getElem? (i := 0) rfl) A217 (by decide) (Nat.le_of_ble_eq_true rfl) (by decide) (by decide) fun T h218 W Wr218 A218 => ?_
        have K218 : Keep h217 h218 [a212] := Keep.of_wr Wr218
        have A218 : Av Z h218 a212 .char [(.int (110 : Int32)), (.int (101 : Int32)), (.int (109 : Int32)), (.int (111 : Int32)), (.int (45 : Int32)), (.int (116 : Int32)), (.int (0 : Int32)), (.int (0 : Int32)), (.int (0 : Int32)), (.int (0 : Int32)), (.int (0 : Int32))] := A218
        refine k_dup W d_method_5_192 rfl ?_
        refine k_bipush W d_method_5_193 (z := (6 : Int32)) rfl ?_
        refine k_bipush W d_method_5_195 (z := (114 : Int32)) rfl ?_
        refine k_castore W (z := (114 : Int32)) 6 d_method_5_197 (List.mem_of_getElem? (i := 0) rfl) A218 (by decide) (Nat.le_of_ble_eq_true rfl) (by decide) (by decide) fun T h219 W Wr219 A219 => ?_
        have K219 : Keep h218 h219 [a212] := Keep.of_wr Wr219
        have A219 : Av Z h219 a212 .char [(.int (110 : Int32)), (.int (101 : Int32)), (.int (109 : Int32)), (.int (111 : Int32)), (.int (45 : Int32)), (.int (116 : Int32)), (.int (114 : Int32)), (.int (0 : Int32)), (.int (0 : Int32)), (.int (0 : Int32)), (.int (0 : Int32))] := A219
        refine k_dup W d_method_5_198 rfl ?_
        refine k_bipush W d_method_5_199 (z := (7 : Int32)) rfl ?_
        refine k_bipush W d_method_5_201 (z := (97 : Int32)) rfl ?_
        refine k_castore W (z := (97 : Int32)) 7 d_method_5_203 (List.mem_of_getElem? (i := 0) rfl) A219 (by decide) (Nat.le_of_ble_eq_true rfl) (by decide) (by decide) fun T h220 W Wr220 A220 => ?_
        have K220 : Keep h219 h220 [a212] := Keep.of_wr Wr220
        have A220 : Av Z h220 a212 .char [(.int (110 : Int32)), (.int (101 : Int32)), (.int (109 : Int32)), (.int (111 : Int32)), (.int (45 : Int32)), (.int (116 : Int32)), (.int (114 : Int32)), (.int (97 : Int32)), (.int (0 : Int32)), (.int (0 : Int32)), (.int (0 : Int32))] := A220
        refine k_dup W d_method_5_204 rfl ?_
        refine k_bipush W d_method_5_205 (z := (8 : Int32)) rfl ?_
        refine k_bipush W d_method_5_207 (z := (99 : Int32)) rfl ?_
        refine k_castore W (z := (99 : Int32)) 8 d_method_5_209 (List.mem_of_getElem? (i := 0) rfl) A220 (by decide) (Nat.le_of_ble_eq_true rfl) (by decide) (by decide) fun T h221 W Wr221 A221 => ?_
        have K221 : Keep h220 h221 [a212] := Keep.of_wr Wr221
        have A221 : Av Z h221 a212 .char [(.int (110 : Int32)), (.int (101 : Int32)), (.int (109 : Int32)), (.int (111 : Int32)), (.int (45 : Int32)), (.int (116 : Int32)), (.int (114 : Int32)), (.int (97 : Int32)), (.int (99 : Int32)), (.int (0 : Int32)), (.int (0 : Int32))] := A221
        refine k_dup W d_method_5_210 rfl ?_
        refine k_bipush W d_method_5_211 (z := (9 : Int32)) rfl ?_
        refine k_bipush W d_method_5_213 (z := (101 : Int32)) rfl ?_
        refine k_castore W (z := (101 : Int32)) 9 d_method_5_215 (List.mem_of_getElem? (i := 0) rfl) A221 (by decide) (Nat.le_of_ble_eq_true rfl) (by decide) (by decide) fun T h222 W Wr222 A222 => ?_
        have K222 : Keep h221 h222 [a212] := Keep.of_wr Wr222
        have A222 : Av Z h222 a212 .char [(.int (110 : Int32)), (.int (101 : Int32)), (.int (109 : Int32)), (.int (111 : Int32)), (.int (45 : Int32)), (.int (116 : Int32)), (.int (114 : Int32)), (.int (97 : Int32)), (.int (99 : Int32)), (.int (101 : Int32)), (.int (0 : Int32))] := A222
        refine k_dup W d_method_5_216 rfl ?_
        refine k_bipush W d_method_5_217 (z := (10 : Int32)) rfl ?_
        refine k_iloadN W d_method_5_219 rfl ?_
        refine k_castore W (z := p1) 10 d_method_5_220 (List.mem_of_getElem? (i := 0) rfl) A222 (by decide) (Nat.le_of_ble_eq_true rfl) (Rg.nar (Rg.mono r1 (by decide))) (Rg.fits (Rg.mono r1 (by decide))) fun T h223 W Wr223 A223 => ?_
        have K223 : Keep h222 h223 [a212] := Keep.of_wr Wr223
        have A223 : Av Z h223 a212 .char [(.int (110 : Int32)), (.int (101 : Int32)), (.int (109 : Int32)), (.int (111 : Int32)), (.int (45 : Int32)), (.int (116 : Int32)), (.int (114 : Int32)), (.int (97 : Int32)), (.int (99 : Int32)), (.int (101 : Int32)), (.int p1)] := A223
        have KK224 : Keep h0 h211 [] := (Keep.refl h0 []).trans K212 all0
        have KK225 : Keep h0 h213 [] := KK224.trans K213 (allS (Or.inr (Nat.le_of_eq g212.symm)) all0)
        have KK226 : Keep h0 h214 [] := KK225.trans K214 (allS (Or.inr (Nat.le_of_eq g212.symm)) all0)
        have KK227 : Keep h0 h215 [] := KK226.trans K215 (allS (Or.inr (Nat.le_of_eq g212.symm)) all0)
        have KK228 : Keep h0 h216 [] := KK227.trans K216 (allS (Or.inr (Nat.le_of_eq g212.symm)) all0)
        have KK229 : Keep h0 h217 [] := KK228.trans K217 (allS (Or.inr (Nat.le_of_eq g212.symm)) all0)
        have KK230 : Keep h0 h218 [] := KK229.trans K218 (allS (Or.inr (Nat.le_of_eq g212.symm)) all0)
        have KK231 : Keep h0 h219 [] := KK230.trans K219 (allS (Or.inr (Nat.le_of_eq g212.symm)) all0)
        have KK232 : Keep h0 h220 [] := KK231.trans K220 (allS (Or.inr (Nat.le_of_eq g212.symm)) all0)
        have KK233 : Keep h0 h221 [] := KK232.trans K221 (allS (Or.inr (Nat.le_of_eq g212.symm)) all0)
        have KK234 : Keep h0 h222 [] := KK233.trans K222 (allS (Or.inr (Nat.le_of_eq g212.symm)) all0)
        have KK235 : Keep h0 h223 [] := KK234.trans K223 (allS (Or.inr (Nat.le_of_eq g212.symm)) all0)
        exact k_areturn W d_method_5_221 rfl rfl rfl [a212] (fun x hx => by simp only [List.mem_cons, List.not_mem_nil, or_false] at hx; rcases hx with rfl; all_goals first | exact (List.mem_of_getElem? (i := 0) rfl)) (Nat.le_of_ble_eq_true rfl) (Nat.le_of_ble_eq_true rfl) ⟨_, [(110 : Int32), (101 : Int32), (109 : Int32), (111 : Int32), (45 : Int32), (116 : Int32), (114 : Int32), (97 : Int32), (99 : Int32), (101 : Int32), p1], rfl, (Nat.le_of_eq g212.symm), KK235, A223, (Nat.le_of_ble_eq_true rfl), (Nat.le_of_ble_eq_true rfl), (rgS (by decide) (rgS (by decide) (rgS (by decide) (rgS (by decide) (rgS (by decide) (rgS (by decide) (rgS (by decide) (rgS (by decide) (rgS (by decide) (rgS (by decide) (rgS r1 (fun _ q => nomatch q)))))))))))), rfl⟩
      · -- pc 76
        refine k_bipush W d_method_5_76 (z := (14 : Int32)) rfl ?_
        refine k_newarr W 14 1 14 d_method_5_78 (w7 hw) (by decide) (by decide) ⟨rfl, Nat.le_of_ble_eq_true rfl⟩ ⟨rfl, Nat.le_of_ble_eq_true rfl⟩ fun T h236 a237 g237 W E237 A237 => ?_
        have K237 : Keep h0 h236 [] := keep_ext E237 []
        have A237 : Av Z h236 a237 .char [(.int (0 : Int32)), (.int (0 : Int32)), (.int (0 : Int32)), (.int (0 : Int32)), (.int (0 : Int32)), (.int (0 : Int32)), (.int (0 : Int32)), (.int (0 : Int32)), (.int (0 : Int32)), (.int (0 : Int32)), (.int (0 : Int32)), (.int (0 : Int32)), (.int (0 : Int32)), (.int (0 : Int32))] := A237
        refine k_dup W d_method_5_80 rfl ?_
        refine k_iconst W d_method_5_81 (z := (0 : Int32)) rfl ?_
        refine k_bipush W d_method_5_82 (z := (111 : Int32)) rfl ?_
        refine k_castore W (z := (111 : Int32)) 0 d_method_5_84 (List.mem_of_getElem? (i := 0) rfl) A237 (by decide) (Nat.le_of_ble_eq_true rfl) (by decide) (by decide) fun T h238 W Wr238 A238 => ?_
        have K238 : Keep h236 h238 [a237] := Keep.of_wr Wr238
        have A238 : Av Z h238 a237 .char [(.int (111 : Int32)), (.int (0 : Int32)), (.int (0 : Int32)), (.int (0 : Int32)), (.int (0 : Int32)), (.int (0 : Int32)), (.int (0 : Int32)), (.int (0 : Int32)), (.int (0 : Int32)), (.int (0 : Int32)), (.int (0 : Int32)), (.int (0 : Int32)), (.int (0 : Int32)), (.int (0 : Int32))] := A238
        refine k_dup W d_method_5_85 rfl ?_
        refine k_iconst W d_method_5_86 (z := (1 : Int32)) rfl ?_
        refine k_bipush W d_method_5_87 (z := (114 : Int32)) rfl ?_
        refine k_castore W (z := (114 : Int32)) 1 d_method_5_89 (List.mem_of_getElem? (i := 0) rfl) A238 (by decide) (Nat.le_of_ble_eq_true rfl) (by decide) (by decide) fun T h239 W Wr239 A239 => ?_
        have K239 : Keep h238 h239 [a237] := Keep.of_wr Wr239
        have A239 : Av Z h239 a237 .char [(.int (111 : Int32)), (.int (114 : Int32)), (.int (0 : Int32)), (.int (0 : Int32)), (.int (0 : Int32)), (.int (0 : Int32)), (.int (0 : Int32)), (.int (0 : Int32)), (.int (0 : Int32)), (.int (0 : Int32)), (.int (0 : Int32)), (.int (0 : Int32)), (.int (0 : Int32)), (.int (0 : Int32))] := A239
        refine k_dup W d_method_5_90 rfl ?_
        refine k_iconst W d_method_5_91 (z := (2 : Int32)) rfl ?_
        refine k_bipush W d_method_5_92 (z := (100 : Int32)) rfl ?_
        refine k_castore W (z := (100 : Int32)) 2 d_method_5_94 (List.mem_of_getElem? (i := 0) rfl) A239 (by decide) (Nat.le_of_ble_eq_true rfl) (by decide) (by decide) fun T h240 W Wr240 A240 => ?_
        have K240 : Keep h239 h240 [a237] := Keep.of_wr Wr240
        have A240 : Av Z h240 a237 .char [(.int (111 : Int32)), (.int (114 : Int32)), (.int (100 : Int32)), (.int (0 : Int32)), (.int (0 : Int32)), (.int (0 : Int32)), (.int (0 : Int32)), (.int (0 : Int32)), (.int (0 : Int32)), (.int (0 : Int32)), (.int (0 : Int32)), (.int (0 : Int32)), (.int (0 : Int32)), (.int (0 : Int32))] := A240
        refine k_dup W d_method_5_95 rfl ?_
        refine k_iconst W d_method_5_96 (z := (3 : Int32)) rfl ?_
        refine k_bipush W d_method_5_97 (z := (101 : Int32)) rfl ?_
        refine k_castore W (z := (101 : Int32)) 3 d_method_5_99 (List.mem_of_getElem? (i := 0) rfl) A240 (by decide) (Nat.le_of_ble_eq_true rfl) (by decide) (by decide) fun T h241 W Wr241 A241 => ?_
        have K241 : Keep h240 h241 [a237] := Keep.of_wr Wr241
        have A241 : Av Z h241 a237 .char [(.int (111 : Int32)), (.int (114 : Int32)), (.int (100 : Int32)), (.int (101 : Int32)), (.int (0 : Int32)), (.int (0 : Int32)), (.int (0 : Int32)), (.int (0 : Int32)), (.int (0 : Int32)), (.int (0 : Int32)), (.int (0 : Int32)), (.int (0 : Int32)), (.int (0 : Int32)), (.int (0 : Int32))] := A241
        refine k_dup W d_method_5_100 rfl ?_
        refine k_iconst W d_method_5_101 (z := (4 : Int32)) rfl ?_
        refine k_bipush W d_method_5_102 (z := (114 : Int32)) rfl ?_
        refine k_castore W (z := (114 : Int32)) 4 d_method_5_104 (List.mem_of_getElem? (i := 0) rfl) A241 (by decide) (Nat.le_of_ble_eq_true rfl) (by decide) (by decide) fun T h242 W Wr242 A242 => ?_
        have K242 : Keep h241 h242 [a237] := Keep.of_wr Wr242
        have A242 : Av Z h242 a237 .char [(.int (111 : Int32)), (.int (114 : Int32)), (.int (100 : Int32)), (.int (101 : Int32)), (.int (114 : Int32)), (.int (0 : Int32)), (.int (0 : Int32)), (.int (0 : Int32)), (.int (0 : Int32)), (.int (0 : Int32)), (.int (0 : Int32)), (.int (0 : Int32)), (.int (0 : Int32)), (.int (0 : Int32))] := A242
        refine k_dup W d_method_5_105 rfl ?_
        refine k_iconst W d_method_5_106 (z := (5 : Int32)) rfl ?_
        refine k_bipush W d_method_5_107 (z := (101 : Int32)) rfl ?_
        refine k_castore W (z := (101 : Int32)) 5 d_method_5_109 (List.mem_of_getElem? (i := 0) rfl) A242 (by decide) (Nat.le_of_ble_eq_true rfl) (by decide) (by decide) fun T h243 W Wr243 A243 => ?_
        have K243 : Keep h242 h243 [a237] := Keep.of_wr Wr243
        have A243 : Av Z h243 a237 .char [(.int (111 : Int32)), (.int (114 : Int32)), (.int (100 : Int32)), (.int (101 : Int32)), (.int (114 : Int32)), (.int (101 : Int32)), (.int (0 : Int32)), (.int (0 : Int32)), (.int (0 : Int32)), (.int (0 : Int32)), (.int (0 : Int32)), (.int (0 : Int32)), (.int (0 : Int32)), (.int (0 : Int32))] := A243
        refine k_dup W d_method_5_110 rfl ?_
        refine k_bipush W d_method_5_111 (z := (6 : Int32)) rfl ?_
        refine k_bipush W d_method_5_113 (z := (100 : Int32)) rfl ?_
        refine k_castore W (z := (100 : Int32)) 6 d_method_5_115 (List.mem_of_getElem? (i := 0) rfl) A243 (by decide) (Nat.le_of_ble_eq_true rfl) (by decide) (by decide) fun T h244 W Wr244 A244 => ?_
        have K244 : Keep h243 h244 [a237] := Keep.of_wr Wr244
        have A244 : Av Z h244 a237 .char [(.int (111 : Int32)), (.int (114 : Int32)), (.int (100 : Int32)), (.int (101 : Int32)), (.int (114 : Int32)), (.int (101 : Int32)), (.int (100 : Int32)), (.int (0 : Int32)), (.int (0 : Int32)), (.int (0 : Int32)), (.int (0 : Int32)), (.int (0 : Int32)), (.int (0 : Int32)), (.int (0 : Int32))] := A244
        refine k_dup W d_method_5_116 rfl ?_
        refine k_bipush W d_method_5_117 (z := (7 : Int32)) rfl ?_
        refine k_bipush W d_method_5_119 (z := (45 : Int32)) rfl ?_
        refine k_castore W (z := (45 : Int32)) 7 d_method_5_121 (List.mem_of_getElem? (i := 0) rfl) A244 (by decide) (Nat.le_of_ble_eq_true rfl) (by decide) (by decide) fun T h245 W Wr245 A245 => ?_
        have K245 : Keep h244 h245 [a237] := Keep.of_wr Wr245
        have A245 : Av Z h245 a237 .char [(.int (111 : Int32)), (.int (114 : Int32)), (.int (100 : Int32)), (.int (101 : Int32)), (.int (114 : Int32)), (.int (101 : Int32)), (.int (100 : Int32)), (.int (45 : Int32)), (.int (0 : Int32)), (.int (0 : Int32)), (.int (0 : Int32)), (.int (0 : Int32)), (.int (0 : Int32)), (.int (0 : Int32))] := A245
        refine k_dup W d_method_5_122 rfl ?_
        refine k_bipush W d_method_5_123 (z := (8 : Int32)) rfl ?_
        refine k_bipush W d_method_5_125 (z := (103 : Int32)) rfl ?_
        refine k_castore W (z := (103 : Int32)) 8 d_method_5_127 (List.mem_of_getElem? (i := 0) rfl) A245 (by decide) (Nat.le_of_ble_eq_true rfl) (by decide) (by decide) fun T h246 W Wr246 A246 => ?_
        have K246 : Keep h245 h246 [a237] := Keep.of_wr Wr246
        have A246 : Av Z h246 a237 .char [(.int (111 : Int32)), (.int (114 : Int32)), (.int (100 : Int32)), (.int (101 : Int32)), (.int (114 : Int32)), (.int (101 : Int32)), (.int (100 : Int32)), (.int (45 : Int32)), (.int (103 : Int32)), (.int (0 : Int32)), (.int (0 : Int32)), (.int (0 : Int32)), (.int (0 : Int32)), (.int (0 : Int32))] := A246
        refine k_dup W d_method_5_128 rfl ?_
        refine k_bipush W d_method_5_129 (z := (9 : Int32)) rfl ?_
        refine k_bipush W d_method_5_131 (z := (114 : Int32)) rfl ?_
        refine k_castore W (z := (114 : Int32)) 9 d_method_5_133 (List.mem_of_getElem? (i := 0) rfl) A246 (by decide) (Nat.le_of_ble_eq_true rfl) (by decide) (by decide) fun T h247 W Wr247 A247 => ?_
        have K247 : Keep h246 h247 [a237] := Keep.of_wr Wr247
        have A247 : Av Z h247 a237 .char [(.int (111 : Int32)), (.int (114 : Int32)), (.int (100 : Int32)), (.int (101 : Int32)), (.int (114 : Int32)), (.int (101 : Int32)), (.int (100 : Int32)), (.int (45 : Int32)), (.int (103 : Int32)), (.int (114 : Int32)), (.int (0 : Int32)), (.int (0 : Int32)), (.int (0 : Int32)), (.int (0 : Int32))] := A247
        refine k_dup W d_method_5_134 rfl ?_
        refine k_bipush W d_method_5_135 (z := (10 : Int32)) rfl ?_
        refine k_bipush W d_method_5_137 (z := (97 : Int32)) rfl ?_
        refine k_castore W (z := (97 : Int32)) 10 d_method_5_139 (List.mem_of_getElem? (i := 0) rfl) A247 (by decide) (Nat.le_of_ble_eq_true rfl) (by decide) (by decide) fun T h248 W Wr248 A248 => ?_
        have K248 : Keep h247 h248 [a237] := Keep.of_wr Wr248
        have A248 : Av Z h248 a237 .char [(.int (111 : Int32)), (.int (114 : Int32)), (.int (100 : Int32)), (.int (101 : Int32)), (.int (114 : Int32)), (.int (101 : Int32)), (.int (100 : Int32)), (.int (45 : Int32)), (.int (103 : Int32)), (.int (114 : Int32)), (.int (97 : Int32)), (.int (0 : Int32)), (.int (0 : Int32)), (.int (0 : Int32))] := A248
        refine k_dup W d_method_5_140 rfl ?_
        refine k_bipush W d_method_5_141 (z := (11 : Int32)) rfl ?_
        refine k_bipush W d_method_5_143 (z := (112 : Int32)) rfl ?_
        refine k_castore W (z := (112 : Int32)) 11 d_method_5_145 (List.mem_of_getElem? (i := 0) rfl) A248 (by decide) (Nat.le_of_ble_eq_true rfl) (by decide) (by decide) fun T h249 W Wr249 A249 => ?_
        have K249 : Keep h248 h249 [a237] := Keep.of_wr Wr249
        have A249 : Av Z h249 a237 .char [(.int (111 : Int32)), (.int (114 : Int32)), (.int (100 : Int32)), (.int (101 : Int32)), (.int (114 : Int32)), (.int (101 : Int32)), (.int (100 : Int32)), (.int (45 : Int32)), (.int (103 : Int32)), (.int (114 : Int32)), (.int (97 : Int32)), (.int (112 : Int32)), (.int (0 : Int32)), (.int (0 : Int32))] := A249
        refine k_dup W d_method_5_146 rfl ?_
        refine k_bipush W d_method_5_147 (z := (12 : Int32)) rfl ?_
        refine k_bipush W d_method_5_149 (z := (104 : Int32)) rfl ?_
        refine k_castore W (z := (104 : Int32)) 12 d_method_5_151 (List.mem_of_getElem? (i := 0) rfl) A249 (by decide) (Nat.le_of_ble_eq_true rfl) (by decide) (by decide) fun T h250 W Wr250 A250 => ?_
        have K250 : Keep h249 h250 [a237] := Keep.of_wr Wr250
        have A250 : Av Z h250 a237 .char [(.int (111 : Int32)), (.int (114 : Int32)), (.int (100 : Int32)), (.int (101 : Int32)), (.int (114 : Int32)), (.int (101 : Int32)), (.int (100 : Int32)), (.int (45 : Int32)), (.int (103 : Int32)), (.int (114 : Int32)), (.int (97 : Int32)), (.int (112 : Int32)), (.int (104 : Int32)), (.int (0 : Int32))] := A250
        refine k_dup W d_method_5_152 rfl ?_
        refine k_bipush W d_method_5_153 (z := (13 : Int32)) rfl ?_
        refine k_iloadN W d_method_5_155 rfl ?_
        refine k_castore W (z := p1) 13 d_method_5_156 (List.mem_of_getElem? (i := 0) rfl) A250 (by decide) (Nat.le_of_ble_eq_true rfl) (Rg.nar (Rg.mono r1 (by decide))) (Rg.fits (Rg.mono r1 (by decide))) fun T h251 W Wr251 A251 => ?_
        have K251 : Keep h250 h251 [a237] := Keep.of_wr Wr251
        have A251 : Av Z h251 a237 .char [(.int (111 : Int32)), (.int (114 : Int32)), (.int (100 : Int32)), (.int (101 : Int32)), (.int (114 : Int32)), (.int (101 : Int32)), (.int (100 : Int32)), (.int (45 : Int32)), (.int (103 : Int32)), (.int (114 : Int32)), (.int (97 : Int32)), (.int (112 : Int32)), (.int (104 : Int32)), (.int p1)] := A251
        have KK252 : Keep h0 h236 [] := (Keep.refl h0 []).trans K237 all0
        have KK253 : Keep h0 h238 [] := KK252.trans K238 (allS (Or.inr (Nat.le_of_eq g237.symm)) all0)
        have KK254 : Keep h0 h239 [] := KK253.trans K239 (allS (Or.inr (Nat.le_of_eq g237.symm)) all0)
        have KK255 : Keep h0 h240 [] := KK254.trans K240 (allS (Or.inr (Nat.le_of_eq g237.symm)) all0)
        have KK256 : Keep h0 h241 [] := KK255.trans K241 (allS (Or.inr (Nat.le_of_eq g237.symm)) all0)
        have KK257 : Keep h0 h242 [] := KK256.trans K242 (allS (Or.inr (Nat.le_of_eq g237.symm)) all0)
        have KK258 : Keep h0 h243 [] := KK257.trans K243 (allS (Or.inr (Nat.le_of_eq g237.symm)) all0)
        have KK259 : Keep h0 h244 [] := KK258.trans K244 (allS (Or.inr (Nat.le_of_eq g237.symm)) all0)
        have KK260 : Keep h0 h245 [] := KK259.trans K245 (allS (Or.inr (Nat.le_of_eq g237.symm)) all0)
        have KK261 : Keep h0 h246 [] := KK260.trans K246 (allS (Or.inr (Nat.le_of_eq g237.symm)) all0)
        have KK262 : Keep h0 h247 [] := KK261.trans K247 (allS (Or.inr (Nat.le_of_eq g237.symm)) all0)
        have KK263 : Keep h0 h248 [] := KK262.trans K248 (allS (Or.inr (Nat.le_of_eq g237.symm)) all0)
        have KK264 : Keep h0 h249 [] := KK263.trans K249 (allS (Or.inr (Nat.le_of_eq g237.symm)) all0)
        have KK265 : Keep h0 h250 [] := KK264.trans K250 (allS (Or.inr (Nat.le_of_eq g237.symm)) all0)
        have KK266 : Keep h0 h251 [] := KK265.trans K251 (allS (Or.inr (Nat.le_of_eq g237.symm)) all0)
        exact k_areturn W d_method_5_157 rfl rfl rfl [a237] (fun x hx => by simp only [List.mem_cons, List.not_mem_nil, or_false] at hx; rcases hx with rfl; all_goals first | exact (List.mem_of_getElem? (i := 0) rfl)) (Nat.le_of_ble_eq_true rfl) (Nat.le_of_ble_eq_true rfl) ⟨_, [(111 : Int32), (114 : Int32), (100 : Int32), (101 : Int32), (114 : Int32), (101 : Int32), (100 : Int32), (45 : Int32), (103 : Int32), (114 : Int32), (97 : Int32), (112 : Int32), (104 : Int32), p1], rfl, (Nat.le_of_eq g237.symm), KK266, A251, (Nat.le_of_ble_eq_true rfl), (Nat.le_of_ble_eq_true rfl), (rgS (by decide) (rgS (by decide) (rgS (by decide) (rgS (by decide) (rgS (by decide) (rgS (by decide) (rgS (by decide) (rgS (by decide) (rgS (by decide) (rgS (by decide) (rgS (by decide) (rgS (by decide) (rgS (by decide) (rgS r1 (fun _ q => nomatch q))))))))))))))), rfl⟩
    · -- pc 37
      refine k_bipush W d_method_5_37 (z := (6 : Int32)) rfl ?_
      refine k_newarr W 6 1 6 d_method_5_39 (w7 hw) (by decide) (by decide) ⟨rfl, Nat.le_of_ble_eq_true rfl⟩ ⟨rfl, Nat.le_of_ble_eq_true rfl⟩ fun T h267 a268 g268 W E268 A268 => ?_
      have K268 : Keep h0 h267 [] := keep_ext E268 []
      have A268 : Av Z h267 a268 .char [(.int (0 : Int32)), (.int (0 : Int32)), (.int (0 : Int32)), (.int (0 : Int32)), (.int (0 : Int32)), (.int (0 : Int32))] := A268
      refine k_dup W d_method_5_41 rfl ?_
      refine k_iconst W d_method_5_42 (z := (0 : Int32)) rfl ?_
      refine k_bipush W d_method_5_43 (z := (103 : Int32)) rfl ?_
      refine k_castore W (z := (103 : Int32)) 0 d_method_5_45 (List.mem_of_getElem? (i := 0) rfl) A268 (by decide) (Nat.le_of_ble_eq_true rfl) (by decide) (by decide) fun T h269 W Wr269 A269 => ?_
      have K269 : Keep h267 h269 [a268] := Keep.of_wr Wr269
      have A269 : Av Z h269 a268 .char [(.int (103 : Int32)), (.int (0 : Int32)), (.int (0 : Int32)), (.int (0 : Int32)), (.int (0 : Int32)), (.int (0 : Int32))] := A269
      refine k_dup W d_method_5_46 rfl ?_
      refine k_iconst W d_method_5_47 (z := (1 : Int32)) rfl ?_
      refine k_bipush W d_method_5_48 (z := (114 : Int32)) rfl ?_
      refine k_castore W (z := (114 : Int32)) 1 d_method_5_50 (List.mem_of_getElem? (i := 0) rfl) A269 (by decide) (Nat.le_of_ble_eq_true rfl) (by decide) (by decide) fun T h270 W Wr270 A270 => ?_
      have K270 : Keep h269 h270 [a268] := Keep.of_wr Wr270
      have A270 : Av Z h270 a268 .char [(.int (103 : Int32)), (.int (114 : Int32)), (.int (0 : Int32)), (.int (0 : Int32)), (.int (0 : Int32)), (.int (0 : Int32))] := A270
      refine k_dup W d_method_5_51 rfl ?_
      refine k_iconst W d_method_5_52 (z := (2 : Int32)) rfl ?_
      refine k_bipush W d_method_5_53 (z := (97 : Int32)) rfl ?_
      refine k_castore W (z := (97 : Int32)) 2 d_method_5_55 (List.mem_of_getElem? (i := 0) rfl) A270 (by decide) (Nat.le_of_ble_eq_true rfl) (by decide) (by decide) fun T h271 W Wr271 A271 => ?_
      have K271 : Keep h270 h271 [a268] := Keep.of_wr Wr271
      have A271 : Av Z h271 a268 .char [(.int (103 : Int32)), (.int (114 : Int32)), (.int (97 : Int32)), (.int (0 : Int32)), (.int (0 : Int32)), (.int (0 : Int32))] := A271
      refine k_dup W d_method_5_56 rfl ?_
      refine k_iconst W d_method_5_57 (z := (3 : Int32)) rfl ?_
      refine k_bipush W d_method_5_58 (z := (112 : Int32)) rfl ?_
      refine k_castore W (z := (112 : Int32)) 3 d_method_5_60 (List.mem_of_getElem? (i := 0) rfl) A271 (by decide) (Nat.le_of_ble_eq_true rfl) (by decide) (by decide) fun T h272 W Wr272 A272 => ?_
      have K272 : Keep h271 h272 [a268] := Keep.of_wr Wr272
      have A272 : Av Z h272 a268 .char [(.int (103 : Int32)), (.int (114 : Int32)), (.int (97 : Int32)), (.int (112 : Int32)), (.int (0 : Int32)), (.int (0 : Int32))] := A272
      refine k_dup W d_method_5_61 rfl ?_
      refine k_iconst W d_method_5_62 (z := (4 : Int32)) rfl ?_
      refine k_bipush W d_method_5_63 (z := (104 : Int32)) rfl ?_
      refine k_castore W (z := (104 : Int32)) 4 d_method_5_65 (List.mem_of_getElem? (i := 0) rfl) A272 (by decide) (Nat.le_of_ble_eq_true rfl) (by decide) (by decide) fun T h273 W Wr273 A273 => ?_
      have K273 : Keep h272 h273 [a268] := Keep.of_wr Wr273
      have A273 : Av Z h273 a268 .char [(.int (103 : Int32)), (.int (114 : Int32)), (.int (97 : Int32)), (.int (112 : Int32)), (.int (104 : Int32)), (.int (0 : Int32))] := A273
      refine k_dup W d_method_5_66 rfl ?_
      refine k_iconst W d_method_5_67 (z := (5 : Int32)) rfl ?_
      refine k_iloadN W d_method_5_68 rfl ?_
      refine k_castore W (z := p1) 5 d_method_5_69 (List.mem_of_getElem? (i := 0) rfl) A273 (by decide) (Nat.le_of_ble_eq_true rfl) (Rg.nar (Rg.mono r1 (by decide))) (Rg.fits (Rg.mono r1 (by decide))) fun T h274 W Wr274 A274 => ?_
      have K274 : Keep h273 h274 [a268] := Keep.of_wr Wr274
      have A274 : Av Z h274 a268 .char [(.int (103 : Int32)), (.int (114 : Int32)), (.int (97 : Int32)), (.int (112 : Int32)), (.int (104 : Int32)), (.int p1)] := A274
      have KK275 : Keep h0 h267 [] := (Keep.refl h0 []).trans K268 all0
      have KK276 : Keep h0 h269 [] := KK275.trans K269 (allS (Or.inr (Nat.le_of_eq g268.symm)) all0)
      have KK277 : Keep h0 h270 [] := KK276.trans K270 (allS (Or.inr (Nat.le_of_eq g268.symm)) all0)
      have KK278 : Keep h0 h271 [] := KK277.trans K271 (allS (Or.inr (Nat.le_of_eq g268.symm)) all0)
      have KK279 : Keep h0 h272 [] := KK278.trans K272 (allS (Or.inr (Nat.le_of_eq g268.symm)) all0)
      have KK280 : Keep h0 h273 [] := KK279.trans K273 (allS (Or.inr (Nat.le_of_eq g268.symm)) all0)
      have KK281 : Keep h0 h274 [] := KK280.trans K274 (allS (Or.inr (Nat.le_of_eq g268.symm)) all0)
      exact k_areturn W d_method_5_70 rfl rfl rfl [a268] (fun x hx => by simp only [List.mem_cons, List.not_mem_nil, or_false] at hx; rcases hx with rfl; all_goals first | exact (List.mem_of_getElem? (i := 0) rfl)) (Nat.le_of_ble_eq_true rfl) (Nat.le_of_ble_eq_true rfl) ⟨_, [(103 : Int32), (114 : Int32), (97 : Int32), (112 : Int32), (104 : Int32), p1], rfl, (Nat.le_of_eq g268.symm), KK281, A274, (Nat.le_of_ble_eq_true rfl), (Nat.le_of_ble_eq_true rfl), (rgS (by decide) (rgS (by decide) (rgS (by decide) (rgS (by decide) (rgS (by decide) (rgS r1 (fun _ q => nomatch q))))))), rfl⟩
  · -- pc 4
    refine k_iconst W d_method_5_4 (z := (5 : Int32)) rfl ?_
    refine k_newarr W 5 1 5 d_method_5_5 (w7 hw) (by decide) (by decide) ⟨rfl, Nat.le_of_ble_eq_true rfl⟩ ⟨rfl, Nat.le_of_ble_eq_true rfl⟩ fun T h282 a283 g283 W E283 A283 => ?_
    have K283 : Keep h0 h282 [] := keep_ext E283 []
    have A283 : Av Z h282 a283 .char [(.int (0 : Int32)), (.int (0 : Int32)), (.int (0 : Int32)), (.int (0 : Int32)), (.int (0 : Int32))] := A283
    refine k_dup W d_method_5_7 rfl ?_
    refine k_iconst W d_method_5_8 (z := (0 : Int32)) rfl ?_
    refine k_bipush W d_method_5_9 (z := (116 : Int32)) rfl ?_
    refine k_castore W (z := (116 : Int32)) 0 d_method_5_11 (List.mem_of_getElem? (i := 0) rfl) A283 (by decide) (Nat.le_of_ble_eq_true rfl) (by decide) (by decide) fun T h284 W Wr284 A284 => ?_
    have K284 : Keep h282 h284 [a283] := Keep.of_wr Wr284
    have A284 : Av Z h284 a283 .char [(.int (116 : Int32)), (.int (0 : Int32)), (.int (0 : Int32)), (.int (0 : Int32)), (.int (0 : Int32))] := A284
    refine k_dup W d_method_5_12 rfl ?_
    refine k_iconst W d_method_5_13 (z := (1 : Int32)) rfl ?_
    refine k_bipush W d_method_5_14 (z := (114 : Int32)) rfl ?_
    refine k_castore W (z := (114 : Int32)) 1 d_method_5_16 (List.mem_of_getElem? (i := 0) rfl) A284 (by decide) (Nat.le_of_ble_eq_true rfl) (by decide) (by decide) fun T h285 W Wr285 A285 => ?_
    have K285 : Keep h284 h285 [a283] := Keep.of_wr Wr285
    have A285 : Av Z h285 a283 .char [(.int (116 : Int32)), (.int (114 : Int32)), (.int (0 : Int32)), (.int (0 : Int32)), (.int (0 : Int32))] := A285
    refine k_dup W d_method_5_17 rfl ?_
    refine k_iconst W d_method_5_18 (z := (2 : Int32)) rfl ?_
    refine k_bipush W d_method_5_19 (z := (101 : Int32)) rfl ?_
    refine k_castore W (z := (101 : Int32)) 2 d_method_5_21 (List.mem_of_getElem? (i := 0) rfl) A285 (by decide) (Nat.le_of_ble_eq_true rfl) (by decide) (by decide) fun T h286 W Wr286 A286 => ?_
    have K286 : Keep h285 h286 [a283] := Keep.of_wr Wr286
    have A286 : Av Z h286 a283 .char [(.int (116 : Int32)), (.int (114 : Int32)), (.int (101 : Int32)), (.int (0 : Int32)), (.int (0 : Int32))] := A286
    refine k_dup W d_method_5_22 rfl ?_
    refine k_iconst W d_method_5_23 (z := (3 : Int32)) rfl ?_
    refine k_bipush W d_method_5_24 (z := (101 : Int32)) rfl ?_
    refine k_castore W (z := (101 : Int32)) 3 d_method_5_26 (List.mem_of_getElem? (i := 0) rfl) A286 (by decide) (Nat.le_of_ble_eq_true rfl) (by decide) (by decide) fun T h287 W Wr287 A287 => ?_
    have K287 : Keep h286 h287 [a283] := Keep.of_wr Wr287
    have A287 : Av Z h287 a283 .char [(.int (116 : Int32)), (.int (114 : Int32)), (.int (101 : Int32)), (.int (101 : Int32)), (.int (0 : Int32))] := A287
    refine k_dup W d_method_5_27 rfl ?_
    refine k_iconst W d_method_5_28 (z := (4 : Int32)) rfl ?_
    refine k_iloadN W d_method_5_29 rfl ?_
    refine k_castore W (z := p1) 4 d_method_5_30 (List.mem_of_getElem? (i := 0) rfl) A287 (by decide) (Nat.le_of_ble_eq_true rfl) (Rg.nar (Rg.mono r1 (by decide))) (Rg.fits (Rg.mono r1 (by decide))) fun T h288 W Wr288 A288 => ?_
    have K288 : Keep h287 h288 [a283] := Keep.of_wr Wr288
    have A288 : Av Z h288 a283 .char [(.int (116 : Int32)), (.int (114 : Int32)), (.int (101 : Int32)), (.int (101 : Int32)), (.int p1)] := A288
    have KK289 : Keep h0 h282 [] := (Keep.refl h0 []).trans K283 all0
    have KK290 : Keep h0 h284 [] := KK289.trans K284 (allS (Or.inr (Nat.le_of_eq g283.symm)) all0)
    have KK291 : Keep h0 h285 [] := KK290.trans K285 (allS (Or.inr (Nat.le_of_eq g283.symm)) all0)
    have KK292 : Keep h0 h286 [] := KK291.trans K286 (allS (Or.inr (Nat.le_of_eq g283.symm)) all0)
    have KK293 : Keep h0 h287 [] := KK292.trans K287 (allS (Or.inr (Nat.le_of_eq g283.symm)) all0)
    have KK294 : Keep h0 h288 [] := KK293.trans K288 (allS (Or.inr (Nat.le_of_eq g283.symm)) all0)
    exact k_areturn W d_method_5_31 rfl rfl rfl [a283] (fun x hx => by simp only [List.mem_cons, List.not_mem_nil, or_false] at hx; rcases hx with rfl; all_goals first | exact (List.mem_of_getElem? (i := 0) rfl)) (Nat.le_of_ble_eq_true rfl) (Nat.le_of_ble_eq_true rfl) ⟨_, [(116 : Int32), (114 : Int32), (101 : Int32), (101 : Int32), p1], rfl, (Nat.le_of_eq g283.symm), KK294, A288, (Nat.le_of_ble_eq_true rfl), (Nat.le_of_ble_eq_true rfl), (rgS (by decide) (rgS (by decide) (rgS (by decide) (rgS (by decide) (rgS r1 (fun _ q => nomatch q)))))), rfl⟩
set_option maxRecDepth 65536 in
set_option maxHeartbeats 40000000 in
theorem ct_shorter (l : Launch) (Z : State) (a0 : Array Value) (hw : ∀ d ∈ tables_1, d.before a0 Z = true) (n0 : Nat) (h0 : Heap) (p0 : Int32) : Ct l Z a0 own_EL false (⟨"com/example/proofs_for_datalog/proofsfordatalog/input/ProofFormatNamedPinLaw", "shorter", "(I)[C"⟩ : MethodName) method_6_code 1 (Option.some (Jvm.ClassFile.FieldType.array Jvm.ClassFile.FieldType.char)) ({ frames := 0, cells := 1, slots := 12, locals := 0 } : Room) #[(.int p0)] h0 [] n0 (fun v h so => ∃ (x : Addr) (cs : List Int32), v = some (.ref x) ∧ h0.size ≤ x ∧ Keep h0 h [] ∧ Av Z h x .char (cs.map Value.int) ∧ 0 < cs.length ∧ cs.length ≤ 14 ∧ (∀ c ∈ cs, Rg c 256) ∧ so = [x]) := by
  refine Ct.body (plainFor_of_name pn4) ?_
  intro p e s m below meth c T W
  refine WP.cast (g' := (mkF m 0 #[.val (.int p0)] [])) (by simp [entryFrame, mkF, argsToLocals, cat_i, cat_l, cat_r, cat_n]) ?_
  refine k_iloadN W d_method_6_0 rfl ?_
  refine k_if W 23 d_method_6_1 (by decide) (fun (hc295 : ¬ p0 = 0) => ?_) (fun (hc295 : ¬ (¬ p0 = 0)) => ?_)
  · -- pc 23
    refine k_iloadN W d_method_6_23 rfl ?_
    refine k_iconst W d_method_6_24 (z := (1 : Int32)) rfl ?_
    refine k_ic W 52 d_method_6_25 (by decide) (fun (hc296 : ¬ p0 = (1 : Int32)) => ?_) (fun (hc296 : ¬ (¬ p0 = (1 : Int32))) => ?_)
    · -- pc 52
      refine k_iloadN W d_method_6_52 rfl ?_
      refine k_iconst W d_method_6_53 (z := (2 : Int32)) rfl ?_
      refine k_ic W 128 d_method_6_54 (by decide) (fun (hc297 : ¬ p0 = (2 : Int32)) => ?_) (fun (hc297 : ¬ (¬ p0 = (2 : Int32))) => ?_)
      · -- pc 128
        refine k_bipush W d_method_6_128 (z := (9 : Int32)) rfl ?_
        refine k_newarr W 9 1 9 d_method_6_130 (w7 hw) (by decide) (by decide) ⟨rfl, Nat.le_of_ble_eq_true rfl⟩ ⟨rfl, Nat.le_of_ble_eq_true rfl⟩ fun T h298 a299 g299 W E299 A299 => ?_
        have K299 : Keep h0 h298 [] := keep_ext E299 []
        have A299 : Av Z h298 a299 .char [(.int (0 : Int32)), (.int (0 : Int32)), (.int (0 : Int32)), (.int (0 : Int32)), (.int (0 : Int32)), (.int (0 : Int32)), (.int (0 : Int32)), (.int (0 : Int32)), (.int (0 : Int32))] := A299
        refine k_dup W d_method_6_132 rfl ?_
        refine k_iconst W d_method_6_133 (z := (0 : Int32)) rfl ?_
        refine k_bipush W d_method_6_134 (z := (110 : Int32)) rfl ?_
        refine k_castore W (z := (110 : Int32)) 0 d_method_6_136 (List.mem_of_getElem? (i := 0) rfl) A299 (by decide) (Nat.le_of_ble_eq_true rfl) (by decide) (by decide) fun T h300 W Wr300 A300 => ?_
        have K300 : Keep h298 h300 [a299] := Keep.of_wr Wr300
        have A300 : Av Z h300 a299 .char [(.int (110 : Int32)), (.int (0 : Int32)), (.int (0 : Int32)), (.int (0 : Int32)), (.int (0 : Int32)), (.int (0 : Int32)), (.int (0 : Int32)), (.int (0 : Int32)), (.int (0 : Int32))] := A300
        refine k_dup W d_method_6_137 rfl ?_
        refine k_iconst W d_method_6_138 (z := (1 : Int32)) rfl ?_
        refine k_bipush W d_method_6_139 (z := (101 : Int32)) rfl ?_
        refine k_castore W (z := (101 : Int32)) 1 d_method_6_141 (List.mem_of_getElem? (i := 0) rfl) A300 (by decide) (Nat.le_of_ble_eq_true rfl) (by decide) (by decide) fun T h301 W Wr301 A301 => ?_
        have K301 : Keep h300 h301 [a299] := Keep.of_wr Wr301
        have A301 : Av Z h301 a299 .char [(.int (110 : Int32)), (.int (101 : Int32)), (.int (0 : Int32)), (.int (0 : Int32)), (.int (0 : Int32)), (.int (0 : Int32)), (.int (0 : Int32)), (.int (0 : Int32)), (.int (0 : Int32))] := A301
        refine k_dup W d_method_6_142 rfl ?_
        refine k_iconst W d_method_6_143 (z := (2 : Int32)) rfl ?_
        refine k_bipush W d_method_6_144 (z := (109 : Int32)) rfl ?_
        refine k_castore W (z := (109 : Int32)) 2 d_method_6_146 (List.mem_of_getElem? (i := 0) rfl) A301 (by decide) (Nat.le_of_ble_eq_true rfl) (by decide) (by decide) fun T h302 W Wr302 A302 => ?_
        have K302 : Keep h301 h302 [a299] := Keep.of_wr Wr302
        have A302 : Av Z h302 a299 .char [(.int (110 : Int32)), (.int (101 : Int32)), (.int (109 : Int32)), (.int (0 : Int32)), (.int (0 : Int32)), (.int (0 : Int32)), (.int (0 : Int32)), (.int (0 : Int32)), (.int (0 : Int32))] := A302
        refine k_dup W d_method_6_147 rfl ?_
        refine k_iconst W d_method_6_148 (z := (3 : Int32)) rfl ?_
        refine k_bipush W d_method_6_149 (z := (111 : Int32)) rfl ?_
        refine k_castore W (z := (111 : Int32)) 3 d_method_6_151 (List.mem_of_getElem? (i := 0) rfl) A302 (by decide) (Nat.le_of_ble_eq_true rfl) (by decide) (by decide) fun T h303 W Wr303 A303 => ?_
        have K303 : Keep h302 h303 [a299] := Keep.of_wr Wr303
        have A303 : Av Z h303 a299 .char [(.int (110 : Int32)), (.int (101 : Int32)), (.int (109 : Int32)), (.int (111 : Int32)), (.int (0 : Int32)), (.int (0 : Int32)), (.int (0 : Int32)), (.int (0 : Int32)), (.int (0 : Int32))] := A303
        refine k_dup W d_method_6_152 rfl ?_
        refine k_iconst W d_method_6_153 (z := (4 : Int32)) rfl ?_
        refine k_bipush W d_method_6_154 (z := (45 : Int32)) rfl ?_
        refine k_castore W (z := (45 : Int32)) 4 d_method_6_156 (List.mem_of_getElem? (i := 0) rfl) A303 (by decide) (Nat.le_of_ble_eq_true rfl) (by decide) (by decide) fun T h304 W Wr304 A304 => ?_
        have K304 : Keep h303 h304 [a299] := Keep.of_wr Wr304
        have A304 : Av Z h304 a299 .char [(.int (110 : Int32)), (.int (101 : Int32)), (.int (109 : Int32)), (.int (111 : Int32)), (.int (45 : Int32)), (.int (0 : Int32)), (.int (0 : Int32)), (.int (0 : Int32)), (.int (0 : Int32))] := A304
        refine k_dup W d_method_6_157 rfl ?_
        refine k_iconst W d_method_6_158 (z := (5 : Int32)) rfl ?_
        refine k_bipush W d_method_6_159 (z := (116 : Int32)) rfl ?_
        refine k_castore W (z := (116 : Int32)) 5 d_method_6_161 (List.mem_of_getElem? (i := 0) rfl) A304 (by decide) (Nat.le_of_ble_eq_true rfl) (by decide) (by decide) fun T h305 W Wr305 A305 => ?_
        have K305 : Keep h304 h305 [a299] := Keep.of_wr Wr305
        have A305 : Av Z h305 a299 .char [(.int (110 : Int32)), (.int (101 : Int32)), (.int (109 : Int32)), (.int (111 : Int32)), (.int (45 : Int32)), (.int (116 : Int32)), (.int (0 : Int32)), (.int (0 : Int32)), (.int (0 : Int32))] := A305
        refine k_dup W d_method_6_162 rfl ?_
        refine k_bipush W d_method_6_163 (z := (6 : Int32)) rfl ?_
        refine k_bipush W d_method_6_165 (z := (114 : Int32)) rfl ?_
        refine k_castore W (z := (114 : Int32)) 6 d_method_6_167 (List.mem_of_getElem? (i := 0) rfl) A305 (by decide) (Nat.le_of_ble_eq_true rfl) (by decide) (by decide) fun T h306 W Wr306 A306 => ?_
        have K306 : Keep h305 h306 [a299] := Keep.of_wr Wr306
        have A306 : Av Z h306 a299 .char [(.int (110 : Int32)), (.int (101 : Int32)), (.int (109 : Int32)), (.int (111 : Int32)), (.int (45 : Int32)), (.int (116 : Int32)), (.int (114 : Int32)), (.int (0 : Int32)), (.int (0 : Int32))] := A306
        refine k_dup W d_method_6_168 rfl ?_
        refine k_bipush W d_method_6_169 (z := (7 : Int32)) rfl ?_
        refine k_bipush W d_method_6_171 (z := (97 : Int32)) rfl ?_
        refine k_castore W (z := (97 : Int32)) 7 d_method_6_173 (List.mem_of_getElem? (i := 0) rfl) A306 (by decide) (Nat.le_of_ble_eq_true rfl) (by decide) (by decide) fun T h307 W Wr307 A307 => ?_
        have K307 : Keep h306 h307 [a299] := Keep.of_wr Wr307
        have A307 : Av Z h307 a299 .char [(.int (110 : Int32)), (.int (101 : Int32)), (.int (109 : Int32)), (.int (111 : Int32)), (.int (45 : Int32)), (.int (116 : Int32)), (.int (114 : Int32)), (.int (97 : Int32)), (.int (0 : Int32))] := A307
        refine k_dup W d_method_6_174 rfl ?_
        refine k_bipush W d_method_6_175 (z := (8 : Int32)) rfl ?_
        refine k_bipush W d_method_6_177 (z := (99 : Int32)) rfl ?_
        refine k_castore W (z := (99 : Int32)) 8 d_method_6_179 (List.mem_of_getElem? (i := 0) rfl) A307 (by decide) (Nat.le_of_ble_eq_true rfl) (by decide) (by decide) fun T h308 W Wr308 A308 => ?_
        have K308 : Keep h307 h308 [a299] := Keep.of_wr Wr308
        have A308 : Av Z h308 a299 .char [(.int (110 : Int32)), (.int (101 : Int32)), (.int (109 : Int32)), (.int (111 : Int32)), (.int (45 : Int32)), (.int (116 : Int32)), (.int (114 : Int32)), (.int (97 : Int32)), (.int (99 : Int32))] := A308
        have KK309 : Keep h0 h298 [] := (Keep.refl h0 []).trans K299 all0
        have KK310 : Keep h0 h300 [] := KK309.trans K300 (allS (Or.inr (Nat.le_of_eq g299.symm)) all0)
        have KK311 : Keep h0 h301 [] := KK310.trans K301 (allS (Or.inr (Nat.le_of_eq g299.symm)) all0)
        have KK312 : Keep h0 h302 [] := KK311.trans K302 (allS (Or.inr (Nat.le_of_eq g299.symm)) all0)
        have KK313 : Keep h0 h303 [] := KK312.trans K303 (allS (Or.inr (Nat.le_of_eq g299.symm)) all0)
        have KK314 : Keep h0 h304 [] := KK313.trans K304 (allS (Or.inr (Nat.le_of_eq g299.symm)) all0)
        have KK315 : Keep h0 h305 [] := KK314.trans K305 (allS (Or.inr (Nat.le_of_eq g299.symm)) all0)
        have KK316 : Keep h0 h306 [] := KK315.trans K306 (allS (Or.inr (Nat.le_of_eq g299.symm)) all0)
        have KK317 : Keep h0 h307 [] := KK316.trans K307 (allS (Or.inr (Nat.le_of_eq g299.symm)) all0)
        have KK318 : Keep h0 h308 [] := KK317.trans K308 (allS (Or.inr (Nat.le_of_eq g299.symm)) all0)
        exact k_areturn W d_method_6_180 rfl rfl rfl [a299] (fun x hx => by simp only [List.mem_cons, List.not_mem_nil, or_false] at hx; rcases hx with rfl; all_goals first | exact (List.mem_of_getElem? (i := 0) rfl)) (Nat.le_of_ble_eq_true rfl) (Nat.le_of_ble_eq_true rfl) ⟨_, [(110 : Int32), (101 : Int32), (109 : Int32), (111 : Int32), (45 : Int32), (116 : Int32), (114 : Int32), (97 : Int32), (99 : Int32)], rfl, (Nat.le_of_eq g299.symm), KK318, A308, (Nat.le_of_ble_eq_true rfl), (Nat.le_of_ble_eq_true rfl), (rgS (by decide) (rgS (by decide) (rgS (by decide) (rgS (by decide) (rgS (by decide) (rgS (by decide) (rgS (by decide) (rgS (by decide) (rgS (by decide) (fun _ q => nomatch q)))))))))), rfl⟩
      · -- pc 57
        refine k_bipush W d_method_6_57 (z := (12 : Int32)) rfl ?_
        refine k_newarr W 12 1 12 d_method_6_59 (w7 hw) (by decide) (by decide) ⟨rfl, Nat.le_of_ble_eq_true rfl⟩ ⟨rfl, Nat.le_of_ble_eq_true rfl⟩ fun T h319 a320 g320 W E320 A320 => ?_
        have K320 : Keep h0 h319 [] := keep_ext E320 []
        have A320 : Av Z h319 a320 .char [(.int (0 : Int32)), (.int (0 : Int32)), (.int (0 : Int32)), (.int (0 : Int32)), (.int (0 : Int32)), (.int (0 : Int32)), (.int (0 : Int32)), (.int (0 : Int32)), (.int (0 : Int32)), (.int (0 : Int32)), (.int (0 : Int32)), (.int (0 : Int32))] := A320
        refine k_dup W d_method_6_61 rfl ?_
        refine k_iconst W d_method_6_62 (z := (0 : Int32)) rfl ?_
        refine k_bipush W d_method_6_63 (z := (111 : Int32)) rfl ?_
        refine k_castore W (z := (111 : Int32)) 0 d_method_6_65 (List.mem_of_getElem? (i := 0) rfl) A320 (by decide) (Nat.le_of_ble_eq_true rfl) (by decide) (by decide) fun T h321 W Wr321 A321 => ?_
        have K321 : Keep h319 h321 [a320] := Keep.of_wr Wr321
        have A321 : Av Z h321 a320 .char [(.int (111 : Int32)), (.int (0 : Int32)), (.int (0 : Int32)), (.int (0 : Int32)), (.int (0 : Int32)), (.int (0 : Int32)), (.int (0 : Int32)), (.int (0 : Int32)), (.int (0 : Int32)), (.int (0 : Int32)), (.int (0 : Int32)), (.int (0 : Int32))] := A321
        refine k_dup W d_method_6_66 rfl ?_
        refine k_iconst W d_method_6_67 (z := (1 : Int32)) rfl ?_
        refine k_bipush W d_method_6_68 (z := (114 : Int32)) rfl ?_
        refine k_castore W (z := (114 : Int32)) 1 d_method_6_70 (List.mem_of_getElem? (i := 0) rfl) A321 (by decide) (Nat.le_of_ble_eq_true rfl) (by decide) (by decide) fun T h322 W Wr322 A322 => ?_
        have K322 : Keep h321 h322 [a320] := Keep.of_wr Wr322
        have A322 : Av Z h322 a320 .char [(.int (111 : Int32)), (.int (114 : Int32)), (.int (0 : Int32)), (.int (0 : Int32)), (.int (0 : Int32)), (.int (0 : Int32)), (.int (0 : Int32)), (.int (0 : Int32)), (.int (0 : Int32)), (.int (0 : Int32)), (.int (0 : Int32)), (.int (0 : Int32))] := A322
        refine k_dup W d_method_6_71 rfl ?_
        refine k_iconst W d_method_6_72 (z := (2 : Int32)) rfl ?_
        refine k_bipush W d_method_6_73 (z := (100 : Int32)) rfl ?_
        refine k_castore W (z := (100 : Int32)) 2 d_method_6_75 (List.mem_of_getElem? (i := 0) rfl) A322 (by decide) (Nat.le_of_ble_eq_true rfl) (by decide) (by decide) fun T h323 W Wr323 A323 => ?_
        have K323 : Keep h322 h323 [a320] := Keep.of_wr Wr323
        have A323 : Av Z h323 a320 .char [(.int (111 : Int32)), (.int (114 : Int32)), (.int (100 : Int32)), (.int (0 : Int32)), (.int (0 : Int32)), (.int (0 : Int32)), (.int (0 : Int32)), (.int (0 : Int32)), (.int (0 : Int32)), (.int (0 : Int32)), (.int (0 : Int32)), (.int (0 : Int32))] := A323
        refine k_dup W d_method_6_76 rfl ?_
        refine k_iconst W d_method_6_77 (z := (3 : Int32)) rfl ?_
        refine k_bipush W d_method_6_78 (z := (101 : Int32)) rfl ?_
        refine k_castore W (z := (101 : Int32)) 3 d_method_6_80 (List.mem_of_getElem? (i := 0) rfl) A323 (by decide) (Nat.le_of_ble_eq_true rfl) (by decide) (by decide) fun T h324 W Wr324 A324 => ?_
        have K324 : Keep h323 h324 [a320] := Keep.of_wr Wr324
        have A324 : Av Z h324 a320 .char [(.int (111 : Int32)), (.int (114 : Int32)), (.int (100 : Int32)), (.int (101 : Int32)), (.int (0 : Int32)), (.int (0 : Int32)), (.int (0 : Int32)), (.int (0 : Int32)), (.int (0 : Int32)), (.int (0 : Int32)), (.int (0 : Int32)), (.int (0 : Int32))] := A324
        refine k_dup W d_method_6_81 rfl ?_
        refine k_iconst W d_method_6_82 (z := (4 : Int32)) rfl ?_
        refine k_bipush W d_method_6_83 (z := (114 : Int32)) rfl ?_
        refine k_castore W (z := (114 : Int32)) 4 d_method_6_85 (List.mem_of_getElem? (i := 0) rfl) A324 (by decide) (Nat.le_of_ble_eq_true rfl) (by decide) (by decide) fun T h325 W Wr325 A325 => ?_
        have K325 : Keep h324 h325 [a320] := Keep.of_wr Wr325
        have A325 : Av Z h325 a320 .char [(.int (111 : Int32)), (.int (114 : Int32)), (.int (100 : Int32)), (.int (101 : Int32)), (.int (114 : Int32)), (.int (0 : Int32)), (.int (0 : Int32)), (.int (0 : Int32)), (.int (0 : Int32)), (.int (0 : Int32)), (.int (0 : Int32)), (.int (0 : Int32))] := A325
        refine k_dup W d_method_6_86 rfl ?_
        refine k_iconst W d_method_6_87 (z := (5 : Int32)) rfl ?_
        refine k_bipush W d_method_6_88 (z := (101 : Int32)) rfl ?_
        refine k_castore W (z := (101 : Int32)) 5 d_method_6_90 (List.mem_of_getElem? (i := 0) rfl) A325 (by decide) (Nat.le_of_ble_eq_true rfl) (by decide) (by decide) fun T h326 W Wr326 A326 => ?_
        have K326 : Keep h325 h326 [a320] := Keep.of_wr Wr326
        have A326 : Av Z h326 a320 .char [(.int (111 : Int32)), (.int (114 : Int32)), (.int (100 : Int32)), (.int (101 : Int32)), (.int (114 : Int32)), (.int (101 : Int32)), (.int (0 : Int32)), (.int (0 : Int32)), (.int (0 : Int32)), (.int (0 : Int32)), (.int (0 : Int32)), (.int (0 : Int32))] := A326
        refine k_dup W d_method_6_91 rfl ?_
        refine k_bipush W d_method_6_92 (z := (6 : Int32)) rfl ?_
        refine k_bipush W d_method_6_94 (z := (100 : Int32)) rfl ?_
        refine k_castore W (z := (100 : Int32)) 6 d_method_6_96 (List.mem_of_getElem? (i := 0) rfl) A326 (by decide) (Nat.le_of_ble_eq_true rfl) (by decide) (by decide) fun T h327 W Wr327 A327 => ?_
        have K327 : Keep h326 h327 [a320] := Keep.of_wr Wr327
        have A327 : Av Z h327 a320 .char [(.int (111 : Int32)), (.int (114 : Int32)), (.int (100 : Int32)), (.int (101 : Int32)), (.int (114 : Int32)), (.int (101 : Int32)), (.int (100 : Int32)), (.int (0 : Int32)), (.int (0 : Int32)), (.int (0 : Int32)), (.int (0 : Int32)), (.int (0 : Int32))] := A327
        refine k_dup W d_method_6_97 rfl ?_
        refine k_bipush W d_method_6_98 (z := (7 : Int32)) rfl ?_
        refine k_bipush W d_method_6_100 (z := (45 : Int32)) rfl ?_
        refine k_castore W (z := (45 : Int32)) 7 d_method_6_102 (List.mem_of_getElem? (i := 0) rfl) A327 (by decide) (Nat.le_of_ble_eq_true rfl) (by decide) (by decide) fun T h328 W Wr328 A328 => ?_
        have K328 : Keep h327 h328 [a320] := Keep.of_wr Wr328
        have A328 : Av Z h328 a320 .char [(.int (111 : Int32)), (.int (114 : Int32)), (.int (100 : Int32)), (.int (101 : Int32)), (.int (114 : Int32)), (.int (101 : Int32)), (.int (100 : Int32)), (.int (45 : Int32)), (.int (0 : Int32)), (.int (0 : Int32)), (.int (0 : Int32)), (.int (0 : Int32))] := A328
        refine k_dup W d_method_6_103 rfl ?_
        refine k_bipush W d_method_6_104 (z := (8 : Int32)) rfl ?_
        refine k_bipush W d_method_6_106 (z := (103 : Int32)) rfl ?_
        refine k_castore W (z := (103 : Int32)) 8 d_method_6_108 (List.mem_of_getElem? (i := 0) rfl) A328 (by decide) (Nat.le_of_ble_eq_true rfl) (by decide) (by decide) fun T h329 W Wr329 A329 => ?_
        have K329 : Keep h328 h329 [a320] := Keep.of_wr Wr329
        have A329 : Av Z h329 a320 .char [(.int (111 : Int32)), (.int (114 : Int32)), (.int (100 : Int32)), (.int (101 : Int32)), (.int (114 : Int32)), (.int (101 : Int32)), (.int (100 : Int32)), (.int (45 : Int32)), (.int (103 : Int32)), (.int (0 : Int32)), (.int (0 : Int32)), (.int (0 : Int32))] := A329
        refine k_dup W d_method_6_109 rfl ?_
        refine k_bipush W d_method_6_110 (z := (9 : Int32)) rfl ?_
        refine k_bipush W d_method_6_112 (z := (114 : Int32)) rfl ?_
        refine k_castore W (z := (114 : Int32)) 9 d_method_6_114 (List.mem_of_getElem? (i := 0) rfl) A329 (by decide) (Nat.le_of_ble_eq_true rfl) (by decide) (by decide) fun T h330 W Wr330 A330 => ?_
        have K330 : Keep h329 h330 [a320] := Keep.of_wr Wr330
        have A330 : Av Z h330 a320 .char [(.int (111 : Int32)), (.int (114 : Int32)), (.int (100 : Int32)), (.int (101 : Int32)), (.int (114 : Int32)), (.int (101 : Int32)), (.int (100 : Int32)), (.int (45 : Int32)), (.int (103 : Int32)), (.int (114 : Int32)), (.int (0 : Int32)), (.int (0 : Int32))] := A330
        refine k_dup W d_method_6_115 rfl ?_
        refine k_bipush W d_method_6_116 (z := (10 : Int32)) rfl ?_
        refine k_bipush W d_method_6_118 (z := (97 : Int32)) rfl ?_
        refine k_castore W (z := (97 : Int32)) 10 d_method_6_120 (List.mem_of_getElem? (i := 0) rfl) A330 (by decide) (Nat.le_of_ble_eq_true rfl) (by decide) (by decide) fun T h331 W Wr331 A331 => ?_
        have K331 : Keep h330 h331 [a320] := Keep.of_wr Wr331
        have A331 : Av Z h331 a320 .char [(.int (111 : Int32)), (.int (114 : Int32)), (.int (100 : Int32)), (.int (101 : Int32)), (.int (114 : Int32)), (.int (101 : Int32)), (.int (100 : Int32)), (.int (45 : Int32)), (.int (103 : Int32)), (.int (114 : Int32)), (.int (97 : Int32)), (.int (0 : Int32))] := A331
        refine k_dup W d_method_6_121 rfl ?_
        refine k_bipush W d_method_6_122 (z := (11 : Int32)) rfl ?_
        refine k_bipush W d_method_6_124 (z := (112 : Int32)) rfl ?_
        refine k_castore W (z := (112 : Int32)) 11 d_method_6_126 (List.mem_of_getElem? (i := 0) rfl) A331 (by decide) (Nat.le_of_ble_eq_true rfl) (by decide) (by decide) fun T h332 W Wr332 A332 => ?_
        have K332 : Keep h331 h332 [a320] := Keep.of_wr Wr332
        have A332 : Av Z h332 a320 .char [(.int (111 : Int32)), (.int (114 : Int32)), (.int (100 : Int32)), (.int (101 : Int32)), (.int (114 : Int32)), (.int (101 : Int32)), (.int (100 : Int32)), (.int (45 : Int32)), (.int (103 : Int32)), (.int (114 : Int32)), (.int (97 : Int32)), (.int (112 : Int32))] := A332
        have KK333 : Keep h0 h319 [] := (Keep.refl h0 []).trans K320 all0
        have KK334 : Keep h0 h321 [] := KK333.trans K321 (allS (Or.inr (Nat.le_of_eq g320.symm)) all0)
        have KK335 : Keep h0 h322 [] := KK334.trans K322 (allS (Or.inr (Nat.le_of_eq g320.symm)) all0)
        have KK336 : Keep h0 h323 [] := KK335.trans K323 (allS (Or.inr (Nat.le_of_eq g320.symm)) all0)
        have KK337 : Keep h0 h324 [] := KK336.trans K324 (allS (Or.inr (Nat.le_of_eq g320.symm)) all0)
        have KK338 : Keep h0 h325 [] := KK337.trans K325 (allS (Or.inr (Nat.le_of_eq g320.symm)) all0)
        have KK339 : Keep h0 h326 [] := KK338.trans K326 (allS (Or.inr (Nat.le_of_eq g320.symm)) all0)
        have KK340 : Keep h0 h327 [] := KK339.trans K327 (allS (Or.inr (Nat.le_of_eq g320.symm)) all0)
        have KK341 : Keep h0 h328 [] := KK340.trans K328 (allS (Or.inr (Nat.le_of_eq g320.symm)) all0)
        have KK342 : Keep h0 h329 [] := KK341.trans K329 (allS (Or.inr (Nat.le_of_eq g320.symm)) all0)
        have KK343 : Keep h0 h330 [] := KK342.trans K330 (allS (Or.inr (Nat.le_of_eq g320.symm)) all0)
        have KK344 : Keep h0 h331 [] := KK343.trans K331 (allS (Or.inr (Nat.le_of_eq g320.symm)) all0)
        have KK345 : Keep h0 h332 [] := KK344.trans K332 (allS (Or.inr (Nat.le_of_eq g320.symm)) all0)
        exact k_areturn W d_method_6_127 rfl rfl rfl [a320] (fun x hx => by simp only [List.mem_cons, List.not_mem_nil, or_false] at hx; rcases hx with rfl; all_goals first | exact (List.mem_of_getElem? (i := 0) rfl)) (Nat.le_of_ble_eq_true rfl) (Nat.le_of_ble_eq_true rfl) ⟨_, [(111 : Int32), (114 : Int32), (100 : Int32), (101 : Int32), (114 : Int32), (101 : Int32), (100 : Int32), (45 : Int32), (103 : Int32), (114 : Int32), (97 : Int32), (112 : Int32)], rfl, (Nat.le_of_eq g320.symm), KK345, A332, (Nat.le_of_ble_eq_true rfl), (Nat.le_of_ble_eq_true rfl), (rgS (by decide) (rgS (by decide) (rgS (by decide) (rgS (by decide) (rgS (by decide) (rgS (by decide) (rgS (by decide) (rgS (by decide) (rgS (by decide) (rgS (by decide) (rgS (by decide) (rgS (by decide) (fun _ q => nomatch q))))))))))))), rfl⟩
    · -- pc 28
      refine k_iconst W d_method_6_28 (z := (4 : Int32)) rfl ?_
      refine k_newarr W 4 1 4 d_method_6_29 (w7 hw) (by decide) (by decide) ⟨rfl, Nat.le_of_ble_eq_true rfl⟩ ⟨rfl, Nat.le_of_ble_eq_true rfl⟩ fun T h346 a347 g347 W E347 A347 => ?_
      have K347 : Keep h0 h346 [] := keep_ext E347 []
      have A347 : Av Z h346 a347 .char [(.int (0 : Int32)), (.int (0 : Int32)), (.int (0 : Int32)), (.int (0 : Int32))] := A347
      refine k_dup W d_method_6_31 rfl ?_
      refine k_iconst W d_method_6_32 (z := (0 : Int32)) rfl ?_
      refine k_bipush W d_method_6_33 (z := (103 : Int32)) rfl ?_
      refine k_castore W (z := (103 : Int32)) 0 d_method_6_35 (List.mem_of_getElem? (i := 0) rfl) A347 (by decide) (Nat.le_of_ble_eq_true rfl) (by decide) (by decide) fun T h348 W Wr348 A348 => ?_
      have K348 : Keep h346 h348 [a347] := Keep.of_wr Wr348
      have A348 : Av Z h348 a347 .char [(.int (103 : Int32)), (.int (0 : Int32)), (.int (0 : Int32)), (.int (0 : Int32))] := A348
      refine k_dup W d_method_6_36 rfl ?_
      refine k_iconst W d_method_6_37 (z := (1 : Int32)) rfl ?_
      refine k_bipush W d_method_6_38 (z := (114 : Int32)) rfl ?_
      refine k_castore W (z := (114 : Int32)) 1 d_method_6_40 (List.mem_of_getElem? (i := 0) rfl) A348 (by decide) (Nat.le_of_ble_eq_true rfl) (by decide) (by decide) fun T h349 W Wr349 A349 => ?_
      have K349 : Keep h348 h349 [a347] := Keep.of_wr Wr349
      have A349 : Av Z h349 a347 .char [(.int (103 : Int32)), (.int (114 : Int32)), (.int (0 : Int32)), (.int (0 : Int32))] := A349
      refine k_dup W d_method_6_41 rfl ?_
      refine k_iconst W d_method_6_42 (z := (2 : Int32)) rfl ?_
      refine k_bipush W d_method_6_43 (z := (97 : Int32)) rfl ?_
      refine k_castore W (z := (97 : Int32)) 2 d_method_6_45 (List.mem_of_getElem? (i := 0) rfl) A349 (by decide) (Nat.le_of_ble_eq_true rfl) (by decide) (by decide) fun T h350 W Wr350 A350 => ?_
      have K350 : Keep h349 h350 [a347] := Keep.of_wr Wr350
      have A350 : Av Z h350 a347 .char [(.int (103 : Int32)), (.int (114 : Int32)), (.int (97 : Int32)), (.int (0 : Int32))] := A350
      refine k_dup W d_method_6_46 rfl ?_
      refine k_iconst W d_method_6_47 (z := (3 : Int32)) rfl ?_
      refine k_bipush W d_method_6_48 (z := (112 : Int32)) rfl ?_
      refine k_castore W (z := (112 : Int32)) 3 d_method_6_50 (List.mem_of_getElem? (i := 0) rfl) A350 (by decide) (Nat.le_of_ble_eq_true rfl) (by decide) (by decide) fun T h351 W Wr351 A351 => ?_
      have K351 : Keep h350 h351 [a347] := Keep.of_wr Wr351
      have A351 : Av Z h351 a347 .char [(.int (103 : Int32)), (.int (114 : Int32)), (.int (97 : Int32)), (.int (112 : Int32))] := A351
      have KK352 : Keep h0 h346 [] := (Keep.refl h0 []).trans K347 all0
      have KK353 : Keep h0 h348 [] := KK352.trans K348 (allS (Or.inr (Nat.le_of_eq g347.symm)) all0)
      have KK354 : Keep h0 h349 [] := KK353.trans K349 (allS (Or.inr (Nat.le_of_eq g347.symm)) all0)
      have KK355 : Keep h0 h350 [] := KK354.trans K350 (allS (Or.inr (Nat.le_of_eq g347.symm)) all0)
      have KK356 : Keep h0 h351 [] := KK355.trans K351 (allS (Or.inr (Nat.le_of_eq g347.symm)) all0)
      exact k_areturn W d_method_6_51 rfl rfl rfl [a347] (fun x hx => by simp only [List.mem_cons, List.not_mem_nil, or_false] at hx; rcases hx with rfl; all_goals first | exact (List.mem_of_getElem? (i := 0) rfl)) (Nat.le_of_ble_eq_true rfl) (Nat.le_of_ble_eq_true rfl) ⟨_, [(103 : Int32), (114 : Int32), (97 : Int32), (112 : Int32)], rfl, (Nat.le_of_eq g347.symm), KK356, A351, (Nat.le_of_ble_eq_true rfl), (Nat.le_of_ble_eq_true rfl), (rgS (by decide) (rgS (by decide) (rgS (by decide) (rgS (by decide) (fun _ q => nomatch q))))), rfl⟩
  · -- pc 4
    refine k_iconst W d_method_6_4 (z := (3 : Int32)) rfl ?_
    refine k_newarr W 3 1 3 d_method_6_5 (w7 hw) (by decide) (by decide) ⟨rfl, Nat.le_of_ble_eq_true rfl⟩ ⟨rfl, Nat.le_of_ble_eq_true rfl⟩ fun T h357 a358 g358 W E358 A358 => ?_
    have K358 : Keep h0 h357 [] := keep_ext E358 []
    have A358 : Av Z h357 a358 .char [(.int (0 : Int32)), (.int (0 : Int32)), (.int (0 : Int32))] := A358
    refine k_dup W d_method_6_7 rfl ?_
    refine k_iconst W d_method_6_8 (z := (0 : Int32)) rfl ?_
    refine k_bipush W d_method_6_9 (z := (116 : Int32)) rfl ?_
    refine k_castore W (z := (116 : Int32)) 0 d_method_6_11 (List.mem_of_getElem? (i := 0) rfl) A358 (by decide) (Nat.le_of_ble_eq_true rfl) (by decide) (by decide) fun T h359 W Wr359 A359 => ?_
    have K359 : Keep h357 h359 [a358] := Keep.of_wr Wr359
    have A359 : Av Z h359 a358 .char [(.int (116 : Int32)), (.int (0 : Int32)), (.int (0 : Int32))] := A359
    refine k_dup W d_method_6_12 rfl ?_
    refine k_iconst W d_method_6_13 (z := (1 : Int32)) rfl ?_
    refine k_bipush W d_method_6_14 (z := (114 : Int32)) rfl ?_
    refine k_castore W (z := (114 : Int32)) 1 d_method_6_16 (List.mem_of_getElem? (i := 0) rfl) A359 (by decide) (Nat.le_of_ble_eq_true rfl) (by decide) (by decide) fun T h360 W Wr360 A360 => ?_
    have K360 : Keep h359 h360 [a358] := Keep.of_wr Wr360
    have A360 : Av Z h360 a358 .char [(.int (116 : Int32)), (.int (114 : Int32)), (.int (0 : Int32))] := A360
    refine k_dup W d_method_6_17 rfl ?_
    refine k_iconst W d_method_6_18 (z := (2 : Int32)) rfl ?_
    refine k_bipush W d_method_6_19 (z := (101 : Int32)) rfl ?_
    refine k_castore W (z := (101 : Int32)) 2 d_method_6_21 (List.mem_of_getElem? (i := 0) rfl) A360 (by decide) (Nat.le_of_ble_eq_true rfl) (by decide) (by decide) fun T h361 W Wr361 A361 => ?_
    have K361 : Keep h360 h361 [a358] := Keep.of_wr Wr361
    have A361 : Av Z h361 a358 .char [(.int (116 : Int32)), (.int (114 : Int32)), (.int (101 : Int32))] := A361
    have KK362 : Keep h0 h357 [] := (Keep.refl h0 []).trans K358 all0
    have KK363 : Keep h0 h359 [] := KK362.trans K359 (allS (Or.inr (Nat.le_of_eq g358.symm)) all0)
    have KK364 : Keep h0 h360 [] := KK363.trans K360 (allS (Or.inr (Nat.le_of_eq g358.symm)) all0)
    have KK365 : Keep h0 h361 [] := KK364.trans K361 (allS (Or.inr (Nat.le_of_eq g358.symm)) all0)
    exact k_areturn W d_method_6_22 rfl rfl rfl [a358] (fun x hx => by simp only [List.mem_cons, List.not_mem_nil, or_false] at hx; rcases hx with rfl; all_goals first | exact (List.mem_of_getElem? (i := 0) rfl)) (Nat.le_of_ble_eq_true rfl) (Nat.le_of_ble_eq_true rfl) ⟨_, [(116 : Int32), (114 : Int32), (101 : Int32)], rfl, (Nat.le_of_eq g358.symm), KK365, A361, (Nat.le_of_ble_eq_true rfl), (Nat.le_of_ble_eq_true rfl), (rgS (by decide) (rgS (by decide) (rgS (by decide) (fun _ q => nomatch q)))), rfl⟩
set_option maxRecDepth 65536 in
set_option maxHeartbeats 40000000 in
theorem ct_drawn (l : Launch) (Z : State) (a0 : Array Value) (hw : ∀ d ∈ tables_1, d.before a0 Z = true) (n0 : Nat) (h0 : Heap) (p0 p1 p2 : Int32) : Ct l Z a0 own_EL false (⟨"com/example/proofs_for_datalog/proofsfordatalog/input/ProofFormatNamedPinLaw", "drawn", "(III)[C"⟩ : MethodName) method_7_code 9 (Option.some (Jvm.ClassFile.FieldType.array Jvm.ClassFile.FieldType.char)) ({ frames := 0, cells := 1, slots := 6, locals := 0 } : Room) #[(.int p0), (.int p1), (.int p2)] h0 [] n0 (fun v h so => ∃ (x : Addr) (cs : List Int32), v = some (.ref x) ∧ h0.size ≤ x ∧ Keep h0 h [] ∧ Av Z h x .char (cs.map Value.int) ∧  cs.length ≤ 14 ∧ (∀ c ∈ cs, Rg c 256) ∧ so = [x]) := by
  refine Ct.body (plainFor_of_name pn4) ?_
  intro p e s m below meth c T W
  refine WP.cast (g' := (mkF m 0 #[.val (.int p0), .val (.int p1), .val (.int p2), .unset, .unset, .unset, .unset, .unset, .unset] [])) (by simp [entryFrame, mkF, argsToLocals, cat_i, cat_l, cat_r, cat_n]) ?_
  refine k_iloadN W d_method_7_0 rfl ?_
  refine k_sipush W d_method_7_1 (z := (255 : Int32)) rfl ?_
  refine k_iand W d_method_7_4 (z := (p1 &&& (255 : Int32))) rfl ?_
  refine k_i2c W d_method_7_5 (z := (p1 &&& (255 : Int32))) (Rg.c (Rg.mono (Rg.and (n := 256) p1 (255 : Int32) (by decide)) (by decide))) ?_
  refine k_istoreN W d_method_7_6 (L' := #[.val (.int p0), .val (.int p1), .val (.int p2), .val (.int (p1 &&& (255 : Int32))), .unset, .unset, .unset, .unset, .unset]) rfl ?_
  refine k_iloadN W d_method_7_7 rfl ?_
  refine k_bipush W d_method_7_8 (z := (8 : Int32)) rfl ?_
  refine k_iushr W d_method_7_10 (z := (XT.ushr p1 (8 : Int32))) rfl ?_
  refine k_sipush W d_method_7_11 (z := (255 : Int32)) rfl ?_
  refine k_iand W d_method_7_14 (z := ((XT.ushr p1 (8 : Int32)) &&& (255 : Int32))) rfl ?_
  refine k_i2c W d_method_7_15 (z := ((XT.ushr p1 (8 : Int32)) &&& (255 : Int32))) (Rg.c (Rg.mono (Rg.and (n := 256) (XT.ushr p1 (8 : Int32)) (255 : Int32) (by decide)) (by decide))) ?_
  refine k_istore W d_method_7_16 (L' := #[.val (.int p0), .val (.int p1), .val (.int p2), .val (.int (p1 &&& (255 : Int32))), .val (.int ((XT.ushr p1 (8 : Int32)) &&& (255 : Int32))), .unset, .unset, .unset, .unset]) rfl ?_
  refine k_iloadN W d_method_7_18 rfl ?_
  refine k_bipush W d_method_7_19 (z := (16 : Int32)) rfl ?_
  refine k_iushr W d_method_7_21 (z := (XT.ushr p1 (16 : Int32))) rfl ?_
  refine k_sipush W d_method_7_22 (z := (255 : Int32)) rfl ?_
  refine k_iand W d_method_7_25 (z := ((XT.ushr p1 (16 : Int32)) &&& (255 : Int32))) rfl ?_
  refine k_i2c W d_method_7_26 (z := ((XT.ushr p1 (16 : Int32)) &&& (255 : Int32))) (Rg.c (Rg.mono (Rg.and (n := 256) (XT.ushr p1 (16 : Int32)) (255 : Int32) (by decide)) (by decide))) ?_
  refine k_istore W d_method_7_27 (L' := #[.val (.int p0), .val (.int p1), .val (.int p2), .val (.int (p1 &&& (255 : Int32))), .val (.int ((XT.ushr p1 (8 : Int32)) &&& (255 : Int32))), .val (.int ((XT.ushr p1 (16 : Int32)) &&& (255 : Int32))), .unset, .unset, .unset]) rfl ?_
  refine k_iloadN W d_method_7_29 rfl ?_
  refine k_bipush W d_method_7_30 (z := (24 : Int32)) rfl ?_
  refine k_iushr W d_method_7_32 (z := (XT.ushr p1 (24 : Int32))) rfl ?_
  refine k_sipush W d_method_7_33 (z := (255 : Int32)) rfl ?_
  refine k_iand W d_method_7_36 (z := ((XT.ushr p1 (24 : Int32)) &&& (255 : Int32))) rfl ?_
  refine k_i2c W d_method_7_37 (z := ((XT.ushr p1 (24 : Int32)) &&& (255 : Int32))) (Rg.c (Rg.mono (Rg.and (n := 256) (XT.ushr p1 (24 : Int32)) (255 : Int32) (by decide)) (by decide))) ?_
  refine k_istore W d_method_7_38 (L' := #[.val (.int p0), .val (.int p1), .val (.int p2), .val (.int (p1 &&& (255 : Int32))), .val (.int ((XT.ushr p1 (8 : Int32)) &&& (255 : Int32))), .val (.int ((XT.ushr p1 (16 : Int32)) &&& (255 : Int32))), .val (.int ((XT.ushr p1 (24 : Int32)) &&& (255 : Int32))), .unset, .unset]) rfl ?_
  refine k_iloadN W d_method_7_40 rfl ?_
  refine k_sipush W d_method_7_41 (z := (255 : Int32)) rfl ?_
  refine k_iand W d_method_7_44 (z := (p2 &&& (255 : Int32))) rfl ?_
  refine k_i2c W d_method_7_45 (z := (p2 &&& (255 : Int32))) (Rg.c (Rg.mono (Rg.and (n := 256) p2 (255 : Int32) (by decide)) (by decide))) ?_
  refine k_istore W d_method_7_46 (L' := #[.val (.int p0), .val (.int p1), .val (.int p2), .val (.int (p1 &&& (255 : Int32))), .val (.int ((XT.ushr p1 (8 : Int32)) &&& (255 : Int32))), .val (.int ((XT.ushr p1 (16 : Int32)) &&& (255 : Int32))), .val (.int ((XT.ushr p1 (24 : Int32)) &&& (255 : Int32))), .val (.int (p2 &&& (255 : Int32))), .unset]) rfl ?_
  refine k_iloadN W d_method_7_48 rfl ?_
  refine k_bipush W d_method_7_49 (z := (8 : Int32)) rfl ?_
  refine k_iushr W d_method_7_51 (z := (XT.ushr p2 (8 : Int32))) rfl ?_
  refine k_sipush W d_method_7_52 (z := (255 : Int32)) rfl ?_
  refine k_iand W d_method_7_55 (z := ((XT.ushr p2 (8 : Int32)) &&& (255 : Int32))) rfl ?_
  refine k_i2c W d_method_7_56 (z := ((XT.ushr p2 (8 : Int32)) &&& (255 : Int32))) (Rg.c (Rg.mono (Rg.and (n := 256) (XT.ushr p2 (8 : Int32)) (255 : Int32) (by decide)) (by decide))) ?_
  refine k_istore W d_method_7_57 (L' := #[.val (.int p0), .val (.int p1), .val (.int p2), .val (.int (p1 &&& (255 : Int32))), .val (.int ((XT.ushr p1 (8 : Int32)) &&& (255 : Int32))), .val (.int ((XT.ushr p1 (16 : Int32)) &&& (255 : Int32))), .val (.int ((XT.ushr p1 (24 : Int32)) &&& (255 : Int32))), .val (.int (p2 &&& (255 : Int32))), .val (.int ((XT.ushr p2 (8 : Int32)) &&& (255 : Int32)))]) rfl ?_
  refine k_iloadN W d_method_7_59 rfl ?_
  refine k_if W 67 d_method_7_60 (by decide) (fun (hc366 : ¬ p0 = 0) => ?_) (fun (hc366 : ¬ (¬ p0 = 0)) => ?_)
  · -- pc 67
    refine k_iloadN W d_method_7_67 rfl ?_
    refine k_iconst W d_method_7_68 (z := (1 : Int32)) rfl ?_
    refine k_ic W 80 d_method_7_69 (by decide) (fun (hc367 : ¬ p0 = (1 : Int32)) => ?_) (fun (hc367 : ¬ (¬ p0 = (1 : Int32))) => ?_)
    · -- pc 80
      refine k_iloadN W d_method_7_80 rfl ?_
      refine k_iconst W d_method_7_81 (z := (2 : Int32)) rfl ?_
      refine k_ic W 98 d_method_7_82 (by decide) (fun (hc368 : ¬ p0 = (2 : Int32)) => ?_) (fun (hc368 : ¬ (¬ p0 = (2 : Int32))) => ?_)
      · -- pc 98
        refine k_iloadN W d_method_7_98 rfl ?_
        refine k_iconst W d_method_7_99 (z := (3 : Int32)) rfl ?_
        refine k_ic W 121 d_method_7_100 (by decide) (fun (hc369 : ¬ p0 = (3 : Int32)) => ?_) (fun (hc369 : ¬ (¬ p0 = (3 : Int32))) => ?_)
        · -- pc 121
          refine k_iloadN W d_method_7_121 rfl ?_
          refine k_iconst W d_method_7_122 (z := (4 : Int32)) rfl ?_
          refine k_ic W 149 d_method_7_123 (by decide) (fun (hc370 : ¬ p0 = (4 : Int32)) => ?_) (fun (hc370 : ¬ (¬ p0 = (4 : Int32))) => ?_)
          · -- pc 149
            refine k_iloadN W d_method_7_149 rfl ?_
            refine k_iconst W d_method_7_150 (z := (5 : Int32)) rfl ?_
            refine k_ic W 182 d_method_7_151 (by decide) (fun (hc371 : ¬ p0 = (5 : Int32)) => ?_) (fun (hc371 : ¬ (¬ p0 = (5 : Int32))) => ?_)
            · -- pc 182
              refine k_bipush W d_method_7_182 (z := (6 : Int32)) rfl ?_
              refine k_newarr W 6 1 6 d_method_7_184 (w7 hw) (by decide) (by decide) ⟨rfl, Nat.le_of_ble_eq_true rfl⟩ ⟨rfl, Nat.le_of_ble_eq_true rfl⟩ fun T h372 a373 g373 W E373 A373 => ?_
              have K373 : Keep h0 h372 [] := keep_ext E373 []
              have A373 : Av Z h372 a373 .char [(.int (0 : Int32)), (.int (0 : Int32)), (.int (0 : Int32)), (.int (0 : Int32)), (.int (0 : Int32)), (.int (0 : Int32))] := A373
              refine k_dup W d_method_7_186 rfl ?_
              refine k_iconst W d_method_7_187 (z := (0 : Int32)) rfl ?_
              refine k_iloadN W d_method_7_188 rfl ?_
              refine k_castore W (z := (p1 &&& (255 : Int32))) 0 d_method_7_189 (List.mem_of_getElem? (i := 0) rfl) A373 (by decide) (Nat.le_of_ble_eq_true rfl) (Rg.nar (Rg.mono (Rg.and (n := 256) p1 (255 : Int32) (by decide)) (by decide))) (Rg.fits (Rg.mono (Rg.and (n := 256) p1 (255 : Int32) (by decide)) (by decide))) fun T h374 W Wr374 A374 => ?_
              have K374 : Keep h372 h374 [a373] := Keep.of_wr Wr374
              have A374 : Av Z h374 a373 .char [(.int (p1 &&& (255 : Int32))), (.int (0 : Int32)), (.int (0 : Int32)), (.int (0 : Int32)), (.int (0 : Int32)), (.int (0 : Int32))] := A374
              refine k_dup W d_method_7_190 rfl ?_
              refine k_iconst W d_method_7_191 (z := (1 : Int32)) rfl ?_
              refine k_iload W d_method_7_192 rfl ?_
              refine k_castore W (z := ((XT.ushr p1 (8 : Int32)) &&& (255 : Int32))) 1 d_method_7_194 (List.mem_of_getElem? (i := 0) rfl) A374 (by decide) (Nat.le_of_ble_eq_true rfl) (Rg.nar (Rg.mono (Rg.and (n := 256) (XT.ushr p1 (8 : Int32)) (255 : Int32) (by decide)) (by decide))) (Rg.fits (Rg.mono (Rg.and (n := 256) (XT.ushr p1 (8 : Int32)) (255 : Int32) (by decide)) (by decide))) fun T h375 W Wr375 A375 => ?_
              have K375 : Keep h374 h375 [a373] := Keep.of_wr Wr375
              have A375 : Av Z h375 a373 .char [(.int (p1 &&& (255 : Int32))), (.int ((XT.ushr p1 (8 : Int32)) &&& (255 : Int32))), (.int (0 : Int32)), (.int (0 : Int32)), (.int (0 : Int32)), (.int (0 : Int32))] := A375
              refine k_dup W d_method_7_195 rfl ?_
              refine k_iconst W d_method_7_196 (z := (2 : Int32)) rfl ?_
              refine k_iload W d_method_7_197 rfl ?_
              refine k_castore W (z := ((XT.ushr p1 (16 : Int32)) &&& (255 : Int32))) 2 d_method_7_199 (List.mem_of_getElem? (i := 0) rfl) A375 (by decide) (Nat.le_of_ble_eq_true rfl) (Rg.nar (Rg.mono (Rg.and (n := 256) (XT.ushr p1 (16 : Int32)) (255 : Int32) (by decide)) (by decide))) (Rg.fits (Rg.mono (Rg.and (n := 256) (XT.ushr p1 (16 : Int32)) (255 : Int32) (by decide)) (by decide))) fun T h376 W Wr376 A376 => ?_
              have K376 : Keep h375 h376 [a373] := Keep.of_wr Wr376
              have A376 : Av Z h376 a373 .char [(.int (p1 &&& (255 : Int32))), (.int ((XT.ushr p1 (8 : Int32)) &&& (255 : Int32))), (.int ((XT.ushr p1 (16 : Int32)) &&& (255 : Int32))), (.int (0 : Int32)), (.int (0 : Int32)), (.int (0 : Int32))] := A376
              refine k_dup W d_method_7_200 rfl ?_
              refine k_iconst W d_method_7_201 (z := (3 : Int32)) rfl ?_
              refine k_iload W d_method_7_202 rfl ?_
              refine k_castore W (z := ((XT.ushr p1 (24 : Int32)) &&& (255 : Int32))) 3 d_method_7_204 (List.mem_of_getElem? (i := 0) rfl) A376 (by decide) (Nat.le_of_ble_eq_true rfl) (Rg.nar (Rg.mono (Rg.and (n := 256) (XT.ushr p1 (24 : Int32)) (255 : Int32) (by decide)) (by decide))) (Rg.fits (Rg.mono (Rg.and (n := 256) (XT.ushr p1 (24 : Int32)) (255 : Int32) (by decide)) (by decide))) fun T h377 W Wr377 A377 => ?_
              have K377 : Keep h376 h377 [a373] := Keep.of_wr Wr377
              have A377 : Av Z h377 a373 .char [(.int (p1 &&& (255 : Int32))), (.int ((XT.ushr p1 (8 : Int32)) &&& (255 : Int32))), (.int ((XT.ushr p1 (16 : Int32)) &&& (255 : Int32))), (.int ((XT.ushr p1 (24 : Int32)) &&& (255 : Int32))), (.int (0 : Int32)), (.int (0 : Int32))] := A377
              refine k_dup W d_method_7_205 rfl ?_
              refine k_iconst W d_method_7_206 (z := (4 : Int32)) rfl ?_
              refine k_iload W d_method_7_207 rfl ?_
              refine k_castore W (z := (p2 &&& (255 : Int32))) 4 d_method_7_209 (List.mem_of_getElem? (i := 0) rfl) A377 (by decide) (Nat.le_of_ble_eq_true rfl) (Rg.nar (Rg.mono (Rg.and (n := 256) p2 (255 : Int32) (by decide)) (by decide))) (Rg.fits (Rg.mono (Rg.and (n := 256) p2 (255 : Int32) (by decide)) (by decide))) fun T h378 W Wr378 A378 => ?_
              have K378 : Keep h377 h378 [a373] := Keep.of_wr Wr378
              have A378 : Av Z h378 a373 .char [(.int (p1 &&& (255 : Int32))), (.int ((XT.ushr p1 (8 : Int32)) &&& (255 : Int32))), (.int ((XT.ushr p1 (16 : Int32)) &&& (255 : Int32))), (.int ((XT.ushr p1 (24 : Int32)) &&& (255 : Int32))), (.int (p2 &&& (255 : Int32))), (.int (0 : Int32))] := A378
              refine k_dup W d_method_7_210 rfl ?_
              refine k_iconst W d_method_7_211 (z := (5 : Int32)) rfl ?_
              refine k_iload W d_method_7_212 rfl ?_
              refine k_castore W (z := ((XT.ushr p2 (8 : Int32)) &&& (255 : Int32))) 5 d_method_7_214 (List.mem_of_getElem? (i := 0) rfl) A378 (by decide) (Nat.le_of_ble_eq_true rfl) (Rg.nar (Rg.mono (Rg.and (n := 256) (XT.ushr p2 (8 : Int32)) (255 : Int32) (by decide)) (by decide))) (Rg.fits (Rg.mono (Rg.and (n := 256) (XT.ushr p2 (8 : Int32)) (255 : Int32) (by decide)) (by decide))) fun T h379 W Wr379 A379 => ?_
              have K379 : Keep h378 h379 [a373] := Keep.of_wr Wr379
              have A379 : Av Z h379 a373 .char [(.int (p1 &&& (255 : Int32))), (.int ((XT.ushr p1 (8 : Int32)) &&& (255 : Int32))), (.int ((XT.ushr p1 (16 : Int32)) &&& (255 : Int32))), (.int ((XT.ushr p1 (24 : Int32)) &&& (255 : Int32))), (.int (p2 &&& (255 : Int32))), (.int ((XT.ushr p2 (8 : Int32)) &&& (255 : Int32)))] := A379
              have KK380 : Keep h0 h372 [] := (Keep.refl h0 []).trans K373 all0
              have KK381 : Keep h0 h374 [] := KK380.trans K374 (allS (Or.inr (Nat.le_of_eq g373.symm)) all0)
              have KK382 : Keep h0 h375 [] := KK381.trans K375 (allS (Or.inr (Nat.le_of_eq g373.symm)) all0)
              have KK383 : Keep h0 h376 [] := KK382.trans K376 (allS (Or.inr (Nat.le_of_eq g373.symm)) all0)
              have KK384 : Keep h0 h377 [] := KK383.trans K377 (allS (Or.inr (Nat.le_of_eq g373.symm)) all0)
              have KK385 : Keep h0 h378 [] := KK384.trans K378 (allS (Or.inr (Nat.le_of_eq g373.symm)) all0)
              have KK386 : Keep h0 h379 [] := KK385.trans K379 (allS (Or.inr (Nat.le_of_eq g373.symm)) all0)
              exact k_areturn W d_method_7_215 rfl rfl rfl [a373] (fun x hx => by simp only [List.mem_cons, List.not_mem_nil, or_false] at hx; rcases hx with rfl; all_goals first | exact (List.mem_of_getElem? (i := 0) rfl)) (Nat.le_of_ble_eq_true rfl) (Nat.le_of_ble_eq_true rfl) ⟨_, [(p1 &&& (255 : Int32)), ((XT.ushr p1 (8 : Int32)) &&& (255 : Int32)), ((XT.ushr p1 (16 : Int32)) &&& (255 : Int32)), ((XT.ushr p1 (24 : Int32)) &&& (255 : Int32)), (p2 &&& (255 : Int32)), ((XT.ushr p2 (8 : Int32)) &&& (255 : Int32))], rfl, (Nat.le_of_eq g373.symm), KK386, A379, (Nat.le_of_ble_eq_true rfl), (rgS (Rg.and (n := 256) p1 (255 : Int32) (by decide)) (rgS (Rg.and (n := 256) (XT.ushr p1 (8 : Int32)) (255 : Int32) (by decide)) (rgS (Rg.and (n := 256) (XT.ushr p1 (16 : Int32)) (255 : Int32) (by decide)) (rgS (Rg.and (n := 256) (XT.ushr p1 (24 : Int32)) (255 : Int32) (by decide)) (rgS (Rg.and (n := 256) p2 (255 : Int32) (by decide)) (rgS (Rg.and (n := 256) (XT.ushr p2 (8 : Int32)) (255 : Int32) (by decide)) (fun _ q => nomatch q))))))), rfl⟩
            · -- pc 154
              refine k_iconst W d_method_7_154 (z := (5 : Int32)) rfl ?_
              refine k_newarr W 5 1 5 d_method_7_155 (w7 hw) (by decide) (by decide) ⟨rfl, Nat.le_of_ble_eq_true rfl⟩ ⟨rfl, Nat.le_of_ble_eq_true rfl⟩ fun T h387 a388 g388 W E388 A388 => ?_
              have K388 : Keep h0 h387 [] := keep_ext E388 []
              have A388 : Av Z h387 a388 .char [(.int (0 : Int32)), (.int (0 : Int32)), (.int (0 : Int32)), (.int (0 : Int32)), (.int (0 : Int32))] := A388
              refine k_dup W d_method_7_157 rfl ?_
              refine k_iconst W d_method_7_158 (z := (0 : Int32)) rfl ?_
              refine k_iloadN W d_method_7_159 rfl ?_
              refine k_castore W (z := (p1 &&& (255 : Int32))) 0 d_method_7_160 (List.mem_of_getElem? (i := 0) rfl) A388 (by decide) (Nat.le_of_ble_eq_true rfl) (Rg.nar (Rg.mono (Rg.and (n := 256) p1 (255 : Int32) (by decide)) (by decide))) (Rg.fits (Rg.mono (Rg.and (n := 256) p1 (255 : Int32) (by decide)) (by decide))) fun T h389 W Wr389 A389 => ?_
              have K389 : Keep h387 h389 [a388] := Keep.of_wr Wr389
              have A389 : Av Z h389 a388 .char [(.int (p1 &&& (255 : Int32))), (.int (0 : Int32)), (.int (0 : Int32)), (.int (0 : Int32)), (.int (0 : Int32))] := A389
              refine k_dup W d_method_7_161 rfl ?_
              refine k_iconst W d_method_7_162 (z := (1 : Int32)) rfl ?_
              refine k_iload W d_method_7_163 rfl ?_
              refine k_castore W (z := ((XT.ushr p1 (8 : Int32)) &&& (255 : Int32))) 1 d_method_7_165 (List.mem_of_getElem? (i := 0) rfl) A389 (by decide) (Nat.le_of_ble_eq_true rfl) (Rg.nar (Rg.mono (Rg.and (n := 256) (XT.ushr p1 (8 : Int32)) (255 : Int32) (by decide)) (by decide))) (Rg.fits (Rg.mono (Rg.and (n := 256) (XT.ushr p1 (8 : Int32)) (255 : Int32) (by decide)) (by decide))) fun T h390 W Wr390 A390 => ?_
              have K390 : Keep h389 h390 [a388] := Keep.of_wr Wr390
              have A390 : Av Z h390 a388 .char [(.int (p1 &&& (255 : Int32))), (.int ((XT.ushr p1 (8 : Int32)) &&& (255 : Int32))), (.int (0 : Int32)), (.int (0 : Int32)), (.int (0 : Int32))] := A390
              refine k_dup W d_method_7_166 rfl ?_
              refine k_iconst W d_method_7_167 (z := (2 : Int32)) rfl ?_
              refine k_iload W d_method_7_168 rfl ?_
              refine k_castore W (z := ((XT.ushr p1 (16 : Int32)) &&& (255 : Int32))) 2 d_method_7_170 (List.mem_of_getElem? (i := 0) rfl) A390 (by decide) (Nat.le_of_ble_eq_true rfl) (Rg.nar (Rg.mono (Rg.and (n := 256) (XT.ushr p1 (16 : Int32)) (255 : Int32) (by decide)) (by decide))) (Rg.fits (Rg.mono (Rg.and (n := 256) (XT.ushr p1 (16 : Int32)) (255 : Int32) (by decide)) (by decide))) fun T h391 W Wr391 A391 => ?_
              have K391 : Keep h390 h391 [a388] := Keep.of_wr Wr391
              have A391 : Av Z h391 a388 .char [(.int (p1 &&& (255 : Int32))), (.int ((XT.ushr p1 (8 : Int32)) &&& (255 : Int32))), (.int ((XT.ushr p1 (16 : Int32)) &&& (255 : Int32))), (.int (0 : Int32)), (.int (0 : Int32))] := A391
              refine k_dup W d_method_7_171 rfl ?_
              refine k_iconst W d_method_7_172 (z := (3 : Int32)) rfl ?_
              refine k_iload W d_method_7_173 rfl ?_
              refine k_castore W (z := ((XT.ushr p1 (24 : Int32)) &&& (255 : Int32))) 3 d_method_7_175 (List.mem_of_getElem? (i := 0) rfl) A391 (by decide) (Nat.le_of_ble_eq_true rfl) (Rg.nar (Rg.mono (Rg.and (n := 256) (XT.ushr p1 (24 : Int32)) (255 : Int32) (by decide)) (by decide))) (Rg.fits (Rg.mono (Rg.and (n := 256) (XT.ushr p1 (24 : Int32)) (255 : Int32) (by decide)) (by decide))) fun T h392 W Wr392 A392 => ?_
              have K392 : Keep h391 h392 [a388] := Keep.of_wr Wr392
              have A392 : Av Z h392 a388 .char [(.int (p1 &&& (255 : Int32))), (.int ((XT.ushr p1 (8 : Int32)) &&& (255 : Int32))), (.int ((XT.ushr p1 (16 : Int32)) &&& (255 : Int32))), (.int ((XT.ushr p1 (24 : Int32)) &&& (255 : Int32))), (.int (0 : Int32))] := A392
              refine k_dup W d_method_7_176 rfl ?_
              refine k_iconst W d_method_7_177 (z := (4 : Int32)) rfl ?_
              refine k_iload W d_method_7_178 rfl ?_
              refine k_castore W (z := (p2 &&& (255 : Int32))) 4 d_method_7_180 (List.mem_of_getElem? (i := 0) rfl) A392 (by decide) (Nat.le_of_ble_eq_true rfl) (Rg.nar (Rg.mono (Rg.and (n := 256) p2 (255 : Int32) (by decide)) (by decide))) (Rg.fits (Rg.mono (Rg.and (n := 256) p2 (255 : Int32) (by decide)) (by decide))) fun T h393 W Wr393 A393 => ?_
              have K393 : Keep h392 h393 [a388] := Keep.of_wr Wr393
              have A393 : Av Z h393 a388 .char [(.int (p1 &&& (255 : Int32))), (.int ((XT.ushr p1 (8 : Int32)) &&& (255 : Int32))), (.int ((XT.ushr p1 (16 : Int32)) &&& (255 : Int32))), (.int ((XT.ushr p1 (24 : Int32)) &&& (255 : Int32))), (.int (p2 &&& (255 : Int32)))] := A393
              have KK394 : Keep h0 h387 [] := (Keep.refl h0 []).trans K388 all0
              have KK395 : Keep h0 h389 [] := KK394.trans K389 (allS (Or.inr (Nat.le_of_eq g388.symm)) all0)
              have KK396 : Keep h0 h390 [] := KK395.trans K390 (allS (Or.inr (Nat.le_of_eq g388.symm)) all0)
              have KK397 : Keep h0 h391 [] := KK396.trans K391 (allS (Or.inr (Nat.le_of_eq g388.symm)) all0)
              have KK398 : Keep h0 h392 [] := KK397.trans K392 (allS (Or.inr (Nat.le_of_eq g388.symm)) all0)
              have KK399 : Keep h0 h393 [] := KK398.trans K393 (allS (Or.inr (Nat.le_of_eq g388.symm)) all0)
              exact k_areturn W d_method_7_181 rfl rfl rfl [a388] (fun x hx => by simp only [List.mem_cons, List.not_mem_nil, or_false] at hx; rcases hx with rfl; all_goals first | exact (List.mem_of_getElem? (i := 0) rfl)) (Nat.le_of_ble_eq_true rfl) (Nat.le_of_ble_eq_true rfl) ⟨_, [(p1 &&& (255 : Int32)), ((XT.ushr p1 (8 : Int32)) &&& (255 : Int32)), ((XT.ushr p1 (16 : Int32)) &&& (255 : Int32)), ((XT.ushr p1 (24 : Int32)) &&& (255 : Int32)), (p2 &&& (255 : Int32))], rfl, (Nat.le_of_eq g388.symm), KK399, A393, (Nat.le_of_ble_eq_true rfl), (rgS (Rg.and (n := 256) p1 (255 : Int32) (by decide)) (rgS (Rg.and (n := 256) (XT.ushr p1 (8 : Int32)) (255 : Int32) (by decide)) (rgS (Rg.and (n := 256) (XT.ushr p1 (16 : Int32)) (255 : Int32) (by decide)) (rgS (Rg.and (n := 256) (XT.ushr p1 (24 : Int32)) (255 : Int32) (by decide)) (rgS (Rg.and (n := 256) p2 (255 : Int32) (by decide)) (fun _ q => nomatch q)))))), rfl⟩
          · -- pc 126
            refine k_iconst W d_method_7_126 (z := (4 : Int32)) rfl ?_
            refine k_newarr W 4 1 4 d_method_7_127 (w7 hw) (by decide) (by decide) ⟨rfl, Nat.le_of_ble_eq_true rfl⟩ ⟨rfl, Nat.le_of_ble_eq_true rfl⟩ fun T h400 a401 g401 W E401 A401 => ?_
            have K401 : Keep h0 h400 [] := keep_ext E401 []
            have A401 : Av Z h400 a401 .char [(.int (0 : Int32)), (.int (0 : Int32)), (.int (0 : Int32)), (.int (0 : Int32))] := A401
            refine k_dup W d_method_7_129 rfl ?_
            refine k_iconst W d_method_7_130 (z := (0 : Int32)) rfl ?_
            refine k_iloadN W d_method_7_131 rfl ?_
            refine k_castore W (z := (p1 &&& (255 : Int32))) 0 d_method_7_132 (List.mem_of_getElem? (i := 0) rfl) A401 (by decide) (Nat.le_of_ble_eq_true rfl) (Rg.nar (Rg.mono (Rg.and (n := 256) p1 (255 : Int32) (by decide)) (by decide))) (Rg.fits (Rg.mono (Rg.and (n := 256) p1 (255 : Int32) (by decide)) (by decide))) fun T h402 W Wr402 A402 => ?_
            have K402 : Keep h400 h402 [a401] := Keep.of_wr Wr402
            have A402 : Av Z h402 a401 .char [(.int (p1 &&& (255 : Int32))), (.int (0 : Int32)), (.int (0 : Int32)), (.int (0 : Int32))] := A402
            refine k_dup W d_method_7_133 rfl ?_
            refine k_iconst W d_method_7_134 (z := (1 : Int32)) rfl ?_
            refine k_iload W d_method_7_135 rfl ?_
            refine k_castore W (z := ((XT.ushr p1 (8 : Int32)) &&& (255 : Int32))) 1 d_method_7_137 (List.mem_of_getElem? (i := 0) rfl) A402 (by decide) (Nat.le_of_ble_eq_true rfl) (Rg.nar (Rg.mono (Rg.and (n := 256) (XT.ushr p1 (8 : Int32)) (255 : Int32) (by decide)) (by decide))) (Rg.fits (Rg.mono (Rg.and (n := 256) (XT.ushr p1 (8 : Int32)) (255 : Int32) (by decide)) (by decide))) fun T h403 W Wr403 A403 => ?_
            have K403 : Keep h402 h403 [a401] := Keep.of_wr Wr403
            have A403 : Av Z h403 a401 .char [(.int (p1 &&& (255 : Int32))), (.int ((XT.ushr p1 (8 : Int32)) &&& (255 : Int32))), (.int (0 : Int32)), (.int (0 : Int32))] := A403
            refine k_dup W d_method_7_138 rfl ?_
            refine k_iconst W d_method_7_139 (z := (2 : Int32)) rfl ?_
            refine k_iload W d_method_7_140 rfl ?_
            refine k_castore W (z := ((XT.ushr p1 (16 : Int32)) &&& (255 : Int32))) 2 d_method_7_142 (List.mem_of_getElem? (i := 0) rfl) A403 (by decide) (Nat.le_of_ble_eq_true rfl) (Rg.nar (Rg.mono (Rg.and (n := 256) (XT.ushr p1 (16 : Int32)) (255 : Int32) (by decide)) (by decide))) (Rg.fits (Rg.mono (Rg.and (n := 256) (XT.ushr p1 (16 : Int32)) (255 : Int32) (by decide)) (by decide))) fun T h404 W Wr404 A404 => ?_
            have K404 : Keep h403 h404 [a401] := Keep.of_wr Wr404
            have A404 : Av Z h404 a401 .char [(.int (p1 &&& (255 : Int32))), (.int ((XT.ushr p1 (8 : Int32)) &&& (255 : Int32))), (.int ((XT.ushr p1 (16 : Int32)) &&& (255 : Int32))), (.int (0 : Int32))] := A404
            refine k_dup W d_method_7_143 rfl ?_
            refine k_iconst W d_method_7_144 (z := (3 : Int32)) rfl ?_
            refine k_iload W d_method_7_145 rfl ?_
            refine k_castore W (z := ((XT.ushr p1 (24 : Int32)) &&& (255 : Int32))) 3 d_method_7_147 (List.mem_of_getElem? (i := 0) rfl) A404 (by decide) (Nat.le_of_ble_eq_true rfl) (Rg.nar (Rg.mono (Rg.and (n := 256) (XT.ushr p1 (24 : Int32)) (255 : Int32) (by decide)) (by decide))) (Rg.fits (Rg.mono (Rg.and (n := 256) (XT.ushr p1 (24 : Int32)) (255 : Int32) (by decide)) (by decide))) fun T h405 W Wr405 A405 => ?_
            have K405 : Keep h404 h405 [a401] := Keep.of_wr Wr405
            have A405 : Av Z h405 a401 .char [(.int (p1 &&& (255 : Int32))), (.int ((XT.ushr p1 (8 : Int32)) &&& (255 : Int32))), (.int ((XT.ushr p1 (16 : Int32)) &&& (255 : Int32))), (.int ((XT.ushr p1 (24 : Int32)) &&& (255 : Int32)))] := A405
            have KK406 : Keep h0 h400 [] := (Keep.refl h0 []).trans K401 all0
            have KK407 : Keep h0 h402 [] := KK406.trans K402 (allS (Or.inr (Nat.le_of_eq g401.symm)) all0)
            have KK408 : Keep h0 h403 [] := KK407.trans K403 (allS (Or.inr (Nat.le_of_eq g401.symm)) all0)
            have KK409 : Keep h0 h404 [] := KK408.trans K404 (allS (Or.inr (Nat.le_of_eq g401.symm)) all0)
            have KK410 : Keep h0 h405 [] := KK409.trans K405 (allS (Or.inr (Nat.le_of_eq g401.symm)) all0)
            exact k_areturn W d_method_7_148 rfl rfl rfl [a401] (fun x hx => by simp only [List.mem_cons, List.not_mem_nil, or_false] at hx; rcases hx with rfl; all_goals first | exact (List.mem_of_getElem? (i := 0) rfl)) (Nat.le_of_ble_eq_true rfl) (Nat.le_of_ble_eq_true rfl) ⟨_, [(p1 &&& (255 : Int32)), ((XT.ushr p1 (8 : Int32)) &&& (255 : Int32)), ((XT.ushr p1 (16 : Int32)) &&& (255 : Int32)), ((XT.ushr p1 (24 : Int32)) &&& (255 : Int32))], rfl, (Nat.le_of_eq g401.symm), KK410, A405, (Nat.le_of_ble_eq_true rfl), (rgS (Rg.and (n := 256) p1 (255 : Int32) (by decide)) (rgS (Rg.and (n := 256) (XT.ushr p1 (8 : Int32)) (255 : Int32) (by decide)) (rgS (Rg.and (n := 256) (XT.ushr p1 (16 : Int32)) (255 : Int32) (by decide)) (rgS (Rg.and (n := 256) (XT.ushr p1 (24 : Int32)) (255 : Int32) (by decide)) (fun _ q => nomatch q))))), rfl⟩
        · -- pc 103
          refine k_iconst W d_method_7_103 (z := (3 : Int32)) rfl ?_
          refine k_newarr W 3 1 3 d_method_7_104 (w7 hw) (by decide) (by decide) ⟨rfl, Nat.le_of_ble_eq_true rfl⟩ ⟨rfl, Nat.le_of_ble_eq_true rfl⟩ fun T h411 a412 g412 W E412 A412 => ?_
          have K412 : Keep h0 h411 [] := keep_ext E412 []
          have A412 : Av Z h411 a412 .char [(.int (0 : Int32)), (.int (0 : Int32)), (.int (0 : Int32))] := A412
          refine k_dup W d_method_7_106 rfl ?_
          refine k_iconst W d_method_7_107 (z := (0 : Int32)) rfl ?_
          refine k_iloadN W d_method_7_108 rfl ?_
          refine k_castore W (z := (p1 &&& (255 : Int32))) 0 d_method_7_109 (List.mem_of_getElem? (i := 0) rfl) A412 (by decide) (Nat.le_of_ble_eq_true rfl) (Rg.nar (Rg.mono (Rg.and (n := 256) p1 (255 : Int32) (by decide)) (by decide))) (Rg.fits (Rg.mono (Rg.and (n := 256) p1 (255 : Int32) (by decide)) (by decide))) fun T h413 W Wr413 A413 => ?_
          have K413 : Keep h411 h413 [a412] := Keep.of_wr Wr413
          have A413 : Av Z h413 a412 .char [(.int (p1 &&& (255 : Int32))), (.int (0 : Int32)), (.int (0 : Int32))] := A413
          refine k_dup W d_method_7_110 rfl ?_
          refine k_iconst W d_method_7_111 (z := (1 : Int32)) rfl ?_
          refine k_iload W d_method_7_112 rfl ?_
          refine k_castore W (z := ((XT.ushr p1 (8 : Int32)) &&& (255 : Int32))) 1 d_method_7_114 (List.mem_of_getElem? (i := 0) rfl) A413 (by decide) (Nat.le_of_ble_eq_true rfl) (Rg.nar (Rg.mono (Rg.and (n := 256) (XT.ushr p1 (8 : Int32)) (255 : Int32) (by decide)) (by decide))) (Rg.fits (Rg.mono (Rg.and (n := 256) (XT.ushr p1 (8 : Int32)) (255 : Int32) (by decide)) (by decide))) fun T h414 W Wr414 A414 => ?_
          have K414 : Keep h413 h414 [a412] := Keep.of_wr Wr414
          have A414 : Av Z h414 a412 .char [(.int (p1 &&& (255 : Int32))), (.int ((XT.ushr p1 (8 : Int32)) &&& (255 : Int32))), (.int (0 : Int32))] := A414
          refine k_dup W d_method_7_115 rfl ?_
          refine k_iconst W d_method_7_116 (z := (2 : Int32)) rfl ?_
          refine k_iload W d_method_7_117 rfl ?_
          refine k_castore W (z := ((XT.ushr p1 (16 : Int32)) &&& (255 : Int32))) 2 d_method_7_119 (List.mem_of_getElem? (i := 0) rfl) A414 (by decide) (Nat.le_of_ble_eq_true rfl) (Rg.nar (Rg.mono (Rg.and (n := 256) (XT.ushr p1 (16 : Int32)) (255 : Int32) (by decide)) (by decide))) (Rg.fits (Rg.mono (Rg.and (n := 256) (XT.ushr p1 (16 : Int32)) (255 : Int32) (by decide)) (by decide))) fun T h415 W Wr415 A415 => ?_
          have K415 : Keep h414 h415 [a412] := Keep.of_wr Wr415
          have A415 : Av Z h415 a412 .char [(.int (p1 &&& (255 : Int32))), (.int ((XT.ushr p1 (8 : Int32)) &&& (255 : Int32))), (.int ((XT.ushr p1 (16 : Int32)) &&& (255 : Int32)))] := A415
          have KK416 : Keep h0 h411 [] := (Keep.refl h0 []).trans K412 all0
          have KK417 : Keep h0 h413 [] := KK416.trans K413 (allS (Or.inr (Nat.le_of_eq g412.symm)) all0)
          have KK418 : Keep h0 h414 [] := KK417.trans K414 (allS (Or.inr (Nat.le_of_eq g412.symm)) all0)
          have KK419 : Keep h0 h415 [] := KK418.trans K415 (allS (Or.inr (Nat.le_of_eq g412.symm)) all0)
          exact k_areturn W d_method_7_120 rfl rfl rfl [a412] (fun x hx => by simp only [List.mem_cons, List.not_mem_nil, or_false] at hx; rcases hx with rfl; all_goals first | exact (List.mem_of_getElem? (i := 0) rfl)) (Nat.le_of_ble_eq_true rfl) (Nat.le_of_ble_eq_true rfl) ⟨_, [(p1 &&& (255 : Int32)), ((XT.ushr p1 (8 : Int32)) &&& (255 : Int32)), ((XT.ushr p1 (16 : Int32)) &&& (255 : Int32))], rfl, (Nat.le_of_eq g412.symm), KK419, A415, (Nat.le_of_ble_eq_true rfl), (rgS (Rg.and (n := 256) p1 (255 : Int32) (by decide)) (rgS (Rg.and (n := 256) (XT.ushr p1 (8 : Int32)) (255 : Int32) (by decide)) (rgS (Rg.and (n := 256) (XT.ushr p1 (16 : Int32)) (255 : Int32) (by decide)) (fun _ q => nomatch q)))), rfl⟩
      · -- pc 85
        refine k_iconst W d_method_7_85 (z := (2 : Int32)) rfl ?_
        refine k_newarr W 2 1 2 d_method_7_86 (w7 hw) (by decide) (by decide) ⟨rfl, Nat.le_of_ble_eq_true rfl⟩ ⟨rfl, Nat.le_of_ble_eq_true rfl⟩ fun T h420 a421 g421 W E421 A421 => ?_
        have K421 : Keep h0 h420 [] := keep_ext E421 []
        have A421 : Av Z h420 a421 .char [(.int (0 : Int32)), (.int (0 : Int32))] := A421
        refine k_dup W d_method_7_88 rfl ?_
        refine k_iconst W d_method_7_89 (z := (0 : Int32)) rfl ?_
        refine k_iloadN W d_method_7_90 rfl ?_
        refine k_castore W (z := (p1 &&& (255 : Int32))) 0 d_method_7_91 (List.mem_of_getElem? (i := 0) rfl) A421 (by decide) (Nat.le_of_ble_eq_true rfl) (Rg.nar (Rg.mono (Rg.and (n := 256) p1 (255 : Int32) (by decide)) (by decide))) (Rg.fits (Rg.mono (Rg.and (n := 256) p1 (255 : Int32) (by decide)) (by decide))) fun T h422 W Wr422 A422 => ?_
        have K422 : Keep h420 h422 [a421] := Keep.of_wr Wr422
        have A422 : Av Z h422 a421 .char [(.int (p1 &&& (255 : Int32))), (.int (0 : Int32))] := A422
        refine k_dup W d_method_7_92 rfl ?_
        refine k_iconst W d_method_7_93 (z := (1 : Int32)) rfl ?_
        refine k_iload W d_method_7_94 rfl ?_
        refine k_castore W (z := ((XT.ushr p1 (8 : Int32)) &&& (255 : Int32))) 1 d_method_7_96 (List.mem_of_getElem? (i := 0) rfl) A422 (by decide) (Nat.le_of_ble_eq_true rfl) (Rg.nar (Rg.mono (Rg.and (n := 256) (XT.ushr p1 (8 : Int32)) (255 : Int32) (by decide)) (by decide))) (Rg.fits (Rg.mono (Rg.and (n := 256) (XT.ushr p1 (8 : Int32)) (255 : Int32) (by decide)) (by decide))) fun T h423 W Wr423 A423 => ?_
        have K423 : Keep h422 h423 [a421] := Keep.of_wr Wr423
        have A423 : Av Z h423 a421 .char [(.int (p1 &&& (255 : Int32))), (.int ((XT.ushr p1 (8 : Int32)) &&& (255 : Int32)))] := A423
        have KK424 : Keep h0 h420 [] := (Keep.refl h0 []).trans K421 all0
        have KK425 : Keep h0 h422 [] := KK424.trans K422 (allS (Or.inr (Nat.le_of_eq g421.symm)) all0)
        have KK426 : Keep h0 h423 [] := KK425.trans K423 (allS (Or.inr (Nat.le_of_eq g421.symm)) all0)
        exact k_areturn W d_method_7_97 rfl rfl rfl [a421] (fun x hx => by simp only [List.mem_cons, List.not_mem_nil, or_false] at hx; rcases hx with rfl; all_goals first | exact (List.mem_of_getElem? (i := 0) rfl)) (Nat.le_of_ble_eq_true rfl) (Nat.le_of_ble_eq_true rfl) ⟨_, [(p1 &&& (255 : Int32)), ((XT.ushr p1 (8 : Int32)) &&& (255 : Int32))], rfl, (Nat.le_of_eq g421.symm), KK426, A423, (Nat.le_of_ble_eq_true rfl), (rgS (Rg.and (n := 256) p1 (255 : Int32) (by decide)) (rgS (Rg.and (n := 256) (XT.ushr p1 (8 : Int32)) (255 : Int32) (by decide)) (fun _ q => nomatch q))), rfl⟩
    · -- pc 72
      refine k_iconst W d_method_7_72 (z := (1 : Int32)) rfl ?_
      refine k_newarr W 1 1 1 d_method_7_73 (w7 hw) (by decide) (by decide) ⟨rfl, Nat.le_of_ble_eq_true rfl⟩ ⟨rfl, Nat.le_of_ble_eq_true rfl⟩ fun T h427 a428 g428 W E428 A428 => ?_
      have K428 : Keep h0 h427 [] := keep_ext E428 []
      have A428 : Av Z h427 a428 .char [(.int (0 : Int32))] := A428
      refine k_dup W d_method_7_75 rfl ?_
      refine k_iconst W d_method_7_76 (z := (0 : Int32)) rfl ?_
      refine k_iloadN W d_method_7_77 rfl ?_
      refine k_castore W (z := (p1 &&& (255 : Int32))) 0 d_method_7_78 (List.mem_of_getElem? (i := 0) rfl) A428 (by decide) (Nat.le_of_ble_eq_true rfl) (Rg.nar (Rg.mono (Rg.and (n := 256) p1 (255 : Int32) (by decide)) (by decide))) (Rg.fits (Rg.mono (Rg.and (n := 256) p1 (255 : Int32) (by decide)) (by decide))) fun T h429 W Wr429 A429 => ?_
      have K429 : Keep h427 h429 [a428] := Keep.of_wr Wr429
      have A429 : Av Z h429 a428 .char [(.int (p1 &&& (255 : Int32)))] := A429
      have KK430 : Keep h0 h427 [] := (Keep.refl h0 []).trans K428 all0
      have KK431 : Keep h0 h429 [] := KK430.trans K429 (allS (Or.inr (Nat.le_of_eq g428.symm)) all0)
      exact k_areturn W d_method_7_79 rfl rfl rfl [a428] (fun x hx => by simp only [List.mem_cons, List.not_mem_nil, or_false] at hx; rcases hx with rfl; all_goals first | exact (List.mem_of_getElem? (i := 0) rfl)) (Nat.le_of_ble_eq_true rfl) (Nat.le_of_ble_eq_true rfl) ⟨_, [(p1 &&& (255 : Int32))], rfl, (Nat.le_of_eq g428.symm), KK431, A429, (Nat.le_of_ble_eq_true rfl), (rgS (Rg.and (n := 256) p1 (255 : Int32) (by decide)) (fun _ q => nomatch q)), rfl⟩
  · -- pc 63
    refine k_iconst W d_method_7_63 (z := (0 : Int32)) rfl ?_
    refine k_newarr W 0 1 0 d_method_7_64 (w7 hw) (by decide) (by decide) ⟨rfl, Nat.le_of_ble_eq_true rfl⟩ ⟨rfl, Nat.le_of_ble_eq_true rfl⟩ fun T h432 a433 g433 W E433 A433 => ?_
    have K433 : Keep h0 h432 [] := keep_ext E433 []
    have A433 : Av Z h432 a433 .char [] := A433
    have KK434 : Keep h0 h432 [] := (Keep.refl h0 []).trans K433 all0
    exact k_areturn W d_method_7_66 rfl rfl rfl [a433] (fun x hx => by simp only [List.mem_cons, List.not_mem_nil, or_false] at hx; rcases hx with rfl; all_goals first | exact (List.mem_of_getElem? (i := 0) rfl)) (Nat.le_of_ble_eq_true rfl) (Nat.le_of_ble_eq_true rfl) ⟨_, [], rfl, (Nat.le_of_eq g433.symm), KK434, A433, (Nat.le_of_ble_eq_true rfl), (fun _ q => nomatch q), rfl⟩
theorem own_setrg {cs : List Int32} {i : Nat} {x : Int32} (h : ∀ c ∈ cs, Rg c 256) (q : Rg x 256) : ∀ c ∈ cs.set i x, Rg c 256 := fun c hc => by
  rcases List.mem_or_eq_of_mem_set hc with u | u
  · exact h c u
  · rw [u]; exact q
theorem own_mix {p : Int32} {n : Nat} (hp : 0 < n) (hn : n ≤ 14) : Ix ((p &&& (2147483647 : Int32)) % Int32.ofNat n) (((p &&& (2147483647 : Int32)) % Int32.ofNat n).toNatClampNeg) ∧ ((p &&& (2147483647 : Int32)) % Int32.ofNat n).toNatClampNeg < n := by
  have h1 : 0 ≤ (p &&& (2147483647 : Int32)).toInt := (Rg.and (n := 2147483648) p 2147483647 (by decide)).1
  have h2 : (Int32.ofNat n).toInt = n := Int32.toInt_ofNat_of_lt (by omega)
  have h3 : ((p &&& (2147483647 : Int32)) % Int32.ofNat n).toInt = (p &&& (2147483647 : Int32)).toInt % (n : Int) := by
    rw [Int32.toInt_mod, h2, Int.tmod_eq_emod_of_nonneg h1]
  have h4 := Int.emod_nonneg (p &&& (2147483647 : Int32)).toInt (b := (n : Int)) (by omega)
  have h5 := Int.emod_lt_of_pos (p &&& (2147483647 : Int32)).toInt (b := (n : Int)) (by omega)
  have h0 : (0 : Int32).toInt = 0 := by decide
  refine ⟨⟨?_, rfl⟩, ?_⟩
  · rw [Int32.lt_iff_toInt_lt, h3, h0]; omega
  · unfold Int32.toNatClampNeg; rw [h3]; omega
set_option maxRecDepth 65536 in
set_option maxHeartbeats 40000000 in
theorem rm0 (l : Launch) (Z : State) (a0 : Array Value) (hw : ∀ d ∈ tables_1, d.before a0 Z = true) (n0 : Nat) (h0 : Heap) (p0 p1 p2 p3 p4 : Int32) (eT eG eO eN : Addr) (sT bT : Addr) (sG bG : Addr) (sO bO : Addr) (sN bN : Addr) (arr : Addr) (zc : Int32) (XxT : Exa Z h0 eT "com/example/proofs_for_datalog/proofsfordatalog/input/ProofFormat") (LT : Fld Z h0 eT "com/example/proofs_for_datalog/proofsfordatalog/input/ProofFormat" "id" "Ljava/lang/String;" (.ref sT)) (TT : St Z h0 sT bT [(116 : Int32), (114 : Int32), (101 : Int32), (101 : Int32)]) (XxG : Exa Z h0 eG "com/example/proofs_for_datalog/proofsfordatalog/input/ProofFormat") (LG : Fld Z h0 eG "com/example/proofs_for_datalog/proofsfordatalog/input/ProofFormat" "id" "Ljava/lang/String;" (.ref sG)) (TG : St Z h0 sG bG [(103 : Int32), (114 : Int32), (97 : Int32), (112 : Int32), (104 : Int32)]) (XxO : Exa Z h0 eO "com/example/proofs_for_datalog/proofsfordatalog/input/ProofFormat") (LO : Fld Z h0 eO "com/example/proofs_for_datalog/proofsfordatalog/input/ProofFormat" "id" "Ljava/lang/String;" (.ref sO)) (TO : St Z h0 sO bO [(111 : Int32), (114 : Int32), (100 : Int32), (101 : Int32), (114 : Int32), (101 : Int32), (100 : Int32), (45 : Int32), (103 : Int32), (114 : Int32), (97 : Int32), (112 : Int32), (104 : Int32)]) (XxN : Exa Z h0 eN "com/example/proofs_for_datalog/proofsfordatalog/input/ProofFormat") (LN : Fld Z h0 eN "com/example/proofs_for_datalog/proofsfordatalog/input/ProofFormat" "id" "Ljava/lang/String;" (.ref sN)) (TN : St Z h0 sN bN [(110 : Int32), (101 : Int32), (109 : Int32), (111 : Int32), (45 : Int32), (116 : Int32), (114 : Int32), (97 : Int32), (99 : Int32), (101 : Int32)]) (AR : Av Z h0 arr (.object "com/example/proofs_for_datalog/proofsfordatalog/input/ProofFormat") [(.ref eT), (.ref eG), (.ref eO), (.ref eN)]) (AX : Exa Z h0 arr "[Lcom/example/proofs_for_datalog/proofsfordatalog/input/ProofFormat;") (SA : Sta Z h0 "com/example/proofs_for_datalog/proofsfordatalog/input/ProofFormat" "$VALUES" "[Lcom/example/proofs_for_datalog/proofsfordatalog/input/ProofFormat;" (.ref arr)) (P0 : Sta Z h0 "java/lang/String" "COMPACT_STRINGS" "Z" (.int zc)) (hzc : zc ≠ 0) (QT : Sta Z h0 "com/example/proofs_for_datalog/proofsfordatalog/input/ProofFormat" "TREE" "Lcom/example/proofs_for_datalog/proofsfordatalog/input/ProofFormat;" (.ref eT)) (QG : Sta Z h0 "com/example/proofs_for_datalog/proofsfordatalog/input/ProofFormat" "GRAPH" "Lcom/example/proofs_for_datalog/proofsfordatalog/input/ProofFormat;" (.ref eG)) (QO : Sta Z h0 "com/example/proofs_for_datalog/proofsfordatalog/input/ProofFormat" "ORDERED_GRAPH" "Lcom/example/proofs_for_datalog/proofsfordatalog/input/ProofFormat;" (.ref eO)) (QN : Sta Z h0 "com/example/proofs_for_datalog/proofsfordatalog/input/ProofFormat" "NEMO_TRACE" "Lcom/example/proofs_for_datalog/proofsfordatalog/input/ProofFormat;" (.ref eN)) : Ct l Z a0 own_EL false x code maxLocals ret room_1 #[(.int p0), (.int p1), (.int p2), (.int p3), (.int p4)] h0 [] n0 (fun v h so => v = some (.int 1)) := by
  refine Ct.body (plainFor_of_name pn4) ?_
  intro p e s m below meth c T W
  refine WP.cast (g' := (mkF m 0 #[.val (.int p0), .val (.int p1), .val (.int p2), .val (.int p3), .val (.int p4), .unset, .unset, .unset, .unset, .unset] [])) (by simp [entryFrame, mkF, argsToLocals, cat_i, cat_l, cat_r, cat_n, maxLocals]) ?_
  refine k_iloadN W d_code_0 rfl ?_
  refine k_iconst W d_code_1 (z := (3 : Int32)) rfl ?_
  refine k_iand W d_code_2 (z := (p0 &&& (3 : Int32))) rfl ?_
  refine k_istore W d_code_3 (L' := #[.val (.int p0), .val (.int p1), .val (.int p2), .val (.int p3), .val (.int p4), .val (.int (p0 &&& (3 : Int32))), .unset, .unset, .unset, .unset]) rfl ?_
  refine k_iloadN W d_code_5 rfl ?_
  refine k_iconst W d_code_6 (z := (2 : Int32)) rfl ?_
  refine k_iushr W d_code_7 (z := (XT.ushr p0 (2 : Int32))) rfl ?_
  refine k_iconst W d_code_8 (z := (3 : Int32)) rfl ?_
  refine k_iand W d_code_9 (z := ((XT.ushr p0 (2 : Int32)) &&& (3 : Int32))) rfl ?_
  refine k_istore W d_code_10 (L' := #[.val (.int p0), .val (.int p1), .val (.int p2), .val (.int p3), .val (.int p4), .val (.int (p0 &&& (3 : Int32))), .val (.int ((XT.ushr p0 (2 : Int32)) &&& (3 : Int32))), .unset, .unset, .unset]) rfl ?_
  refine k_iloadN W d_code_12 rfl ?_
  refine k_sipush W d_code_13 (z := (255 : Int32)) rfl ?_
  refine k_iand W d_code_16 (z := (p2 &&& (255 : Int32))) rfl ?_
  refine k_i2c W d_code_17 (z := (p2 &&& (255 : Int32))) (Rg.c (Rg.mono (Rg.and (n := 256) p2 (255 : Int32) (by decide)) (by decide))) ?_
  refine k_istore W d_code_18 (L' := #[.val (.int p0), .val (.int p1), .val (.int p2), .val (.int p3), .val (.int p4), .val (.int (p0 &&& (3 : Int32))), .val (.int ((XT.ushr p0 (2 : Int32)) &&& (3 : Int32))), .val (.int (p2 &&& (255 : Int32))), .unset, .unset]) rfl ?_
  refine k_iload W d_code_20 rfl ?_
  refine k_if W 42 d_code_22 (by decide) (fun (hc435 : ¬ ((XT.ushr p0 (2 : Int32)) &&& (3 : Int32)) = 0) => ?_) (fun (hc435 : ¬ (¬ ((XT.ushr p0 (2 : Int32)) &&& (3 : Int32)) = 0)) => ?_)
  · -- pc 42
    refine k_iload W d_code_42 rfl ?_
    refine k_iconst W d_code_44 (z := (1 : Int32)) rfl ?_
    refine k_ic W 82 d_code_45 (by decide) (fun (hc436 : ¬ ((XT.ushr p0 (2 : Int32)) &&& (3 : Int32)) = (1 : Int32)) => ?_) (fun (hc436 : ¬ (¬ ((XT.ushr p0 (2 : Int32)) &&& (3 : Int32)) = (1 : Int32))) => ?_)
    · -- pc 82
      refine k_iload W d_code_82 rfl ?_
      refine k_iconst W d_code_84 (z := (2 : Int32)) rfl ?_
      refine k_ic W 130 d_code_85 (by decide) (fun (hc437 : ¬ ((XT.ushr p0 (2 : Int32)) &&& (3 : Int32)) = (2 : Int32)) => ?_) (fun (hc437 : ¬ (¬ ((XT.ushr p0 (2 : Int32)) &&& (3 : Int32)) = (2 : Int32))) => ?_)
      · -- pc 130
        refine k_iloadN W d_code_130 rfl ?_
        refine k_bipush W d_code_131 (z := (7 : Int32)) rfl ?_
        refine k_iand W d_code_133 (z := (p1 &&& (7 : Int32))) rfl ?_
        refine k_istore W d_code_134 (L' := #[.val (.int p0), .val (.int p1), .val (.int p2), .val (.int p3), .val (.int p4), .val (.int (p0 &&& (3 : Int32))), .val (.int ((XT.ushr p0 (2 : Int32)) &&& (3 : Int32))), .val (.int (p2 &&& (255 : Int32))), .unset, .val (.int (p1 &&& (7 : Int32)))]) rfl ?_
        refine k_iload W d_code_136 rfl ?_
        refine k_bipush W d_code_138 (z := (7 : Int32)) rfl ?_
        refine k_ic W 149 d_code_140 (by decide) (fun (hc438 : ¬ (p1 &&& (7 : Int32)) = (7 : Int32)) => ?_) (fun (hc438 : ¬ (¬ (p1 &&& (7 : Int32)) = (7 : Int32))) => ?_)
        · -- pc 149
          refine k_new W 1 4 d_code_149 (w0 hw) (w1 hw) (w2 hw) ⟨rfl, Nat.le_of_ble_eq_true rfl⟩ ⟨rfl, Nat.le_of_ble_eq_true rfl⟩ fun T h439 a440 g440 W E440 X440 D440 => ?_
          have K440 : Keep h0 h439 [] := keep_ext E440 []
          refine k_dup W d_code_152 rfl ?_
          refine k_iload W d_code_153 rfl ?_
          refine k_iloadN W d_code_155 rfl ?_
          refine k_iload W d_code_156 rfl ?_
          refine k_callSn W 2 2 10 (argsL := [(.int (p1 &&& (7 : Int32))), (.int p3), (.int p4)]) (rest := [(.ref a440), (.ref a440)]) d_code_158 (w86 hw) (w87 hw) (by decide) (lenOf pd7 rfl) (ct_drawn l Z a0 hw n0 h439 (p1 &&& (7 : Int32)) p3 p4) (w88 hw) (w5 hw) (fun x hx => nomatch hx) rfl (Nat.le_of_eq rfl) (Nat.le_of_ble_eq_true rfl) (Nat.le_of_ble_eq_true rfl) ⟨rfl, Nat.le_of_ble_eq_true rfl⟩ ⟨rfl, Nat.le_of_ble_eq_true rfl⟩ rfl (fun _ _ ⟨_, _, q, _⟩ => nomatch q) fun T h441 v so W hQ => ?_
          obtain ⟨x441, cs441, hv, g441, K441, A441, hl441, hR441, rfl⟩ := hQ
          obtain rfl := Option.some.inj hv
          by_cases hz441 : 0 < cs441.length
          · --
            have f442 := (X440.keep K441)
            have f443 := ((D440 (Or.inr (w33 hw)) (ty := (.array .byte)) (by decide)).keep K441 nin0)
            have f444 := ((D440 (Or.inr (w31 hw)) (ty := .byte) (by decide)).keep K441 nin0)
            have f445 := (Sta.keep (Sta.keep P0 K440 ns0) K441 ns0)
            refine k_callI0 W 1 3 24 (argsL := [(.ref x441)]) (rest := [(.ref a440)]) (a := a440) d_code_161 rfl rfl (w8 hw) (w9 hw) (by decide) (lenOf pd8 rfl) (ct_sinit l Z a0 hw n0 h441 a440 x441 cs441 14 zc .null (.int (0 : Int32)) f442 f443 f444 A441 f445 hzc hR441 hz441 hl441 (by decide)) (w10 hw) (w2 hw) (fun x hx => by simp only [List.mem_cons, List.not_mem_nil, or_false] at hx; rcases hx with rfl; all_goals first | exact (List.mem_of_getElem? (i := 1) rfl)) rfl (Nat.le_of_eq rfl) (Nat.le_of_ble_eq_true rfl) (Nat.le_of_ble_eq_true rfl) ⟨rfl, Nat.le_of_ble_eq_true rfl⟩ ⟨rfl, Nat.le_of_ble_eq_true rfl⟩ rfl (fun _ _ _ q => nomatch q.1) fun T h446 so W hQ => ?_
            obtain ⟨-, b446, g446, K446, S446⟩ := hQ
            have S446 : St Z h446 a440 b446 (cs441.map i2b) := S446
            refine k_astore W d_code_164 rfl (L' := #[.val (.int p0), .val (.int p1), .val (.int p2), .val (.int p3), .val (.int p4), .val (.int (p0 &&& (3 : Int32))), .val (.int ((XT.ushr p0 (2 : Int32)) &&& (3 : Int32))), .val (.int (p2 &&& (255 : Int32))), .val (.ref a440), .val (.int (p1 &&& (7 : Int32)))]) rfl ?_
            refine k_aload W d_code_166 rfl rfl ?_
            have ne448 : sT ≠ a440 := (Nat.ne_of_lt (Nat.lt_of_lt_of_le TT.1.lt (Nat.le_of_eq g440.symm)))
            have ne449 : sG ≠ a440 := (Nat.ne_of_lt (Nat.lt_of_lt_of_le TG.1.lt (Nat.le_of_eq g440.symm)))
            have ne450 : sO ≠ a440 := (Nat.ne_of_lt (Nat.lt_of_lt_of_le TO.1.lt (Nat.le_of_eq g440.symm)))
            have ne451 : sN ≠ a440 := (Nat.ne_of_lt (Nat.lt_of_lt_of_le TN.1.lt (Nat.le_of_eq g440.symm)))
            have f452 := (((XxT.keep K440).keep K441).keep K446)
            have ne453 : eT ≠ a440 := (Nat.ne_of_lt (Nat.lt_of_lt_of_le XxT.lt (Nat.le_of_eq g440.symm)))
            have f454 := (((LT.keep K440 nin0).keep K441 nin0).keep K446 (ninS ne453 nin0))
            have ne455 : bT ≠ a440 := (Nat.ne_of_lt (Nat.lt_of_lt_of_le TT.2.2.2.lt (Nat.le_of_eq g440.symm)))
            have f456 := (((TT.keep K440 nin0 nin0).keep K441 nin0 nin0).keep K446 (ninS ne448 nin0) (ninS ne455 nin0))
            have f457 := (((XxG.keep K440).keep K441).keep K446)
            have ne458 : eG ≠ a440 := (Nat.ne_of_lt (Nat.lt_of_lt_of_le XxG.lt (Nat.le_of_eq g440.symm)))
            have f459 := (((LG.keep K440 nin0).keep K441 nin0).keep K446 (ninS ne458 nin0))
            have ne460 : bG ≠ a440 := (Nat.ne_of_lt (Nat.lt_of_lt_of_le TG.2.2.2.lt (Nat.le_of_eq g440.symm)))
            have f461 := (((TG.keep K440 nin0 nin0).keep K441 nin0 nin0).keep K446 (ninS ne449 nin0) (ninS ne460 nin0))
            have f462 := (((XxO.keep K440).keep K441).keep K446)
            have ne463 : eO ≠ a440 := (Nat.ne_of_lt (Nat.lt_of_lt_of_le XxO.lt (Nat.le_of_eq g440.symm)))
            have f464 := (((LO.keep K440 nin0).keep K441 nin0).keep K446 (ninS ne463 nin0))
            have ne465 : bO ≠ a440 := (Nat.ne_of_lt (Nat.lt_of_lt_of_le TO.2.2.2.lt (Nat.le_of_eq g440.symm)))
            have f466 := (((TO.keep K440 nin0 nin0).keep K441 nin0 nin0).keep K446 (ninS ne450 nin0) (ninS ne465 nin0))
            have f467 := (((XxN.keep K440).keep K441).keep K446)
            have ne468 : eN ≠ a440 := (Nat.ne_of_lt (Nat.lt_of_lt_of_le XxN.lt (Nat.le_of_eq g440.symm)))
            have f469 := (((LN.keep K440 nin0).keep K441 nin0).keep K446 (ninS ne468 nin0))
            have ne470 : bN ≠ a440 := (Nat.ne_of_lt (Nat.lt_of_lt_of_le TN.2.2.2.lt (Nat.le_of_eq g440.symm)))
            have f471 := (((TN.keep K440 nin0 nin0).keep K441 nin0 nin0).keep K446 (ninS ne451 nin0) (ninS ne470 nin0))
            have ne472 : arr ≠ a440 := (Nat.ne_of_lt (Nat.lt_of_lt_of_le AR.lt (Nat.le_of_eq g440.symm)))
            have f473 := (((AR.keep K440 nin0).keep K441 nin0).keep K446 (ninS ne472 nin0))
            have f474 := (((AX.keep K440).keep K441).keep K446)
            have f475 := (Sta.keep (Sta.keep (Sta.keep SA K440 ns0) K441 ns0) K446 (nsS (Exa.plain f442) ns0))
            have f476 := (Sta.keep f445 K446 (nsS (Exa.plain f442) ns0))
            refine k_callS W 0 4 28 (argsL := [(.ref a440)]) (rest := []) d_code_168 (w34 hw) (w35 hw) (by decide) (lenOf pd9 rfl) (ct_named l Z a0 hw n0 h446 eT eG eO eN sT bT sG bG sO bO sN bN arr a440 b446 (cs441.map i2b) zc ne448 ne449 ne450 ne451 f452 f454 f456 f457 f459 f461 f462 f464 f466 f467 f469 f471 f473 f474 f475 f476 hzc S446) (w37 hw) (w36 hw) (fun x hx => nomatch hx) rfl (Nat.le_of_eq rfl) (Nat.le_of_ble_eq_true rfl) (Nat.le_of_ble_eq_true rfl) ⟨rfl, Nat.le_of_ble_eq_true rfl⟩ ⟨rfl, Nat.le_of_ble_eq_true rfl⟩ rfl (fun _ _ q => nomatch q.1) fun T h447 v so W hQ => ?_
            obtain ⟨hv, K447⟩ := hQ
            obtain rfl := Option.some.inj hv
            refine k_astore W d_code_171 own_pick_ref (L' := #[.val (.int p0), .val (.int p1), .val (.int p2), .val (.int p3), .val (.int p4), .val (.int (p0 &&& (3 : Int32))), .val (.int ((XT.ushr p0 (2 : Int32)) &&& (3 : Int32))), .val (.int (p2 &&& (255 : Int32))), .val (.ref a440), .val (own_pick eT eG eO eN (cs441.map i2b))]) (XS.store1 rfl (Or.inr ⟨_, rfl, rfl⟩) (cat_ref own_pick_ref)) ?_
            refine k_aload W d_code_173 rfl own_pick_ref ?_
            refine k_aload W d_code_175 rfl rfl ?_
            have f478 := (S446.keep K447 nin0 nin0)
            have f479 := (Sta.keep (Sta.keep (Sta.keep (Sta.keep QT K440 ns0) K441 ns0) K446 (nsS (Exa.plain f442) ns0)) K447 ns0)
            have f480 := (Sta.keep (Sta.keep (Sta.keep (Sta.keep QG K440 ns0) K441 ns0) K446 (nsS (Exa.plain f442) ns0)) K447 ns0)
            have f481 := (Sta.keep (Sta.keep (Sta.keep (Sta.keep QO K440 ns0) K441 ns0) K446 (nsS (Exa.plain f442) ns0)) K447 ns0)
            have f482 := (Sta.keep (Sta.keep (Sta.keep (Sta.keep QN K440 ns0) K441 ns0) K446 (nsS (Exa.plain f442) ns0)) K447 ns0)
            have f483 := (Sta.keep f476 K447 ns0)
            refine k_callS W 1 12 172 (argsL := [(.ref a440)]) (rest := [(own_pick eT eG eO eN (cs441.map i2b))]) d_code_177 (w69 hw) (w70 hw) (by decide) (lenOf pd9 rfl) (ct_ref l Z a0 hw n0 h447 eT eG eO eN a440 b446 (cs441.map i2b) zc f479 f480 f481 f482 f478 f483 hzc) (w71 hw) (w5 hw) (fun x hx => by simp only [List.mem_cons, List.not_mem_nil, or_false] at hx; rcases hx with rfl; all_goals first | exact (List.mem_of_getElem? (i := 1) rfl)) rfl (Nat.le_of_eq (catC (a := 1) (cat_ref own_pick_ref) cat0)) (Nat.le_of_ble_eq_true rfl) (Nat.le_of_ble_eq_true rfl) ⟨rfl, Nat.le_of_ble_eq_true rfl⟩ ⟨rfl, Nat.le_of_ble_eq_true rfl⟩ rfl (fun _ _ q => nomatch q.1) fun T h477 v so W hQ => ?_
            obtain ⟨hv, K477⟩ := hQ
            obtain rfl := Option.some.inj hv
            refine k_acN W d_code_180 own_pick_ref own_pick_ref (by decide) (fun q => q rfl) ?_
            refine k_iconst W d_code_183 (z := (1 : Int32)) rfl ?_
            refine k_goto W 188 d_code_184 (by decide) ?_
            exact k_retN W (t := .boolean) (z' := (1 : Int32)) d_code_188 rfl (by simp) (by decide) [] (fun x hx => nomatch hx) (Nat.le_of_ble_eq_true rfl) (Nat.le_of_ble_eq_true rfl) rfl
          · --
            obtain rfl : cs441 = [] := List.eq_nil_of_length_eq_zero (Nat.eq_zero_of_not_pos hz441)
            have A441 : Av Z h441 x441 .char [] := A441
            have f484 := (X440.keep K441)
            have f485 := ((D440 (Or.inr (w33 hw)) (ty := (.array .byte)) (by decide)).keep K441 nin0)
            have f486 := ((D440 (Or.inr (w31 hw)) (ty := .byte) (by decide)).keep K441 nin0)
            have f487 := (Sta.keep (Sta.keep P0 K440 ns0) K441 ns0)
            refine k_callI0 W 1 6 18 (argsL := [(.ref x441)]) (rest := [(.ref a440)]) (a := a440) d_code_161 rfl rfl (w8 hw) (w9 hw) (by decide) (lenOf pd8 rfl) (ct_sinitE l Z a0 hw n0 h441 a440 x441 [x441] .null (.int (0 : Int32)) f484 f485 f486 A441) (w10 hw) (w2 hw) (fun x hx => by simp only [List.mem_cons, List.not_mem_nil, or_false] at hx; rcases hx with rfl | rfl; all_goals first | exact (List.mem_of_getElem? (i := 1) rfl) | exact (List.mem_of_getElem? (i := 0) rfl)) rfl (Nat.le_of_eq rfl) (Nat.le_of_ble_eq_true rfl) (Nat.le_of_ble_eq_true rfl) ⟨rfl, Nat.le_of_ble_eq_true rfl⟩ ⟨rfl, Nat.le_of_ble_eq_true rfl⟩ rfl (fun _ _ _ q => nomatch q.1) fun T h489 so W hQ => ?_
            obtain ⟨-, b489, K489, S489, N489⟩ := hQ
            refine k_astore W d_code_164 rfl (L' := #[.val (.int p0), .val (.int p1), .val (.int p2), .val (.int p3), .val (.int p4), .val (.int (p0 &&& (3 : Int32))), .val (.int ((XT.ushr p0 (2 : Int32)) &&& (3 : Int32))), .val (.int (p2 &&& (255 : Int32))), .val (.ref a440), .val (.int (p1 &&& (7 : Int32)))]) rfl ?_
            refine k_aload W d_code_166 rfl rfl ?_
            have ne491 : sT ≠ a440 := (Nat.ne_of_lt (Nat.lt_of_lt_of_le TT.1.lt (Nat.le_of_eq g440.symm)))
            have ne492 : sG ≠ a440 := (Nat.ne_of_lt (Nat.lt_of_lt_of_le TG.1.lt (Nat.le_of_eq g440.symm)))
            have ne493 : sO ≠ a440 := (Nat.ne_of_lt (Nat.lt_of_lt_of_le TO.1.lt (Nat.le_of_eq g440.symm)))
            have ne494 : sN ≠ a440 := (Nat.ne_of_lt (Nat.lt_of_lt_of_le TN.1.lt (Nat.le_of_eq g440.symm)))
            have f495 := (((XxT.keep K440).keep K441).keep K489)
            have ne496 : eT ≠ a440 := (Nat.ne_of_lt (Nat.lt_of_lt_of_le XxT.lt (Nat.le_of_eq g440.symm)))
            have f497 := (((LT.keep K440 nin0).keep K441 nin0).keep K489 (ninS ne496 nin0))
            have ne498 : bT ≠ a440 := (Nat.ne_of_lt (Nat.lt_of_lt_of_le TT.2.2.2.lt (Nat.le_of_eq g440.symm)))
            have f499 := (((TT.keep K440 nin0 nin0).keep K441 nin0 nin0).keep K489 (ninS ne491 nin0) (ninS ne498 nin0))
            have f500 := (((XxG.keep K440).keep K441).keep K489)
            have ne501 : eG ≠ a440 := (Nat.ne_of_lt (Nat.lt_of_lt_of_le XxG.lt (Nat.le_of_eq g440.symm)))
            have f502 := (((LG.keep K440 nin0).keep K441 nin0).keep K489 (ninS ne501 nin0))
            have ne503 : bG ≠ a440 := (Nat.ne_of_lt (Nat.lt_of_lt_of_le TG.2.2.2.lt (Nat.le_of_eq g440.symm)))
            have f504 := (((TG.keep K440 nin0 nin0).keep K441 nin0 nin0).keep K489 (ninS ne492 nin0) (ninS ne503 nin0))
            have f505 := (((XxO.keep K440).keep K441).keep K489)
            have ne506 : eO ≠ a440 := (Nat.ne_of_lt (Nat.lt_of_lt_of_le XxO.lt (Nat.le_of_eq g440.symm)))
            have f507 := (((LO.keep K440 nin0).keep K441 nin0).keep K489 (ninS ne506 nin0))
            have ne508 : bO ≠ a440 := (Nat.ne_of_lt (Nat.lt_of_lt_of_le TO.2.2.2.lt (Nat.le_of_eq g440.symm)))
            have f509 := (((TO.keep K440 nin0 nin0).keep K441 nin0 nin0).keep K489 (ninS ne493 nin0) (ninS ne508 nin0))
            have f510 := (((XxN.keep K440).keep K441).keep K489)
            have ne511 : eN ≠ a440 := (Nat.ne_of_lt (Nat.lt_of_lt_of_le XxN.lt (Nat.le_of_eq g440.symm)))
            have f512 := (((LN.keep K440 nin0).keep K441 nin0).keep K489 (ninS ne511 nin0))
            have ne513 : bN ≠ a440 := (Nat.ne_of_lt (Nat.lt_of_lt_of_le TN.2.2.2.lt (Nat.le_of_eq g440.symm)))
            have f514 := (((TN.keep K440 nin0 nin0).keep K441 nin0 nin0).keep K489 (ninS ne494 nin0) (ninS ne513 nin0))
            have ne515 : arr ≠ a440 := (Nat.ne_of_lt (Nat.lt_of_lt_of_le AR.lt (Nat.le_of_eq g440.symm)))
            have f516 := (((AR.keep K440 nin0).keep K441 nin0).keep K489 (ninS ne515 nin0))
            have f517 := (((AX.keep K440).keep K441).keep K489)
            have f518 := (Sta.keep (Sta.keep (Sta.keep SA K440 ns0) K441 ns0) K489 (nsS (Exa.plain f484) ns0))
            have f519 := (Sta.keep f487 K489 (nsS (Exa.plain f484) ns0))
            refine k_callS W 0 7 22 (argsL := [(.ref a440)]) (rest := []) d_code_168 (w34 hw) (w35 hw) (by decide) (lenOf pd9 rfl) (ct_named l Z a0 hw n0 h489 eT eG eO eN sT bT sG bG sO bO sN bN arr a440 b489 [] zc ne491 ne492 ne493 ne494 f495 f497 f499 f500 f502 f504 f505 f507 f509 f510 f512 f514 f516 f517 f518 f519 hzc S489) (w37 hw) (w36 hw) (fun x hx => nomatch hx) rfl (Nat.le_of_eq rfl) (Nat.le_of_ble_eq_true rfl) (Nat.le_of_ble_eq_true rfl) ⟨rfl, Nat.le_of_ble_eq_true rfl⟩ ⟨rfl, Nat.le_of_ble_eq_true rfl⟩ rfl (fun _ _ q => nomatch q.1) fun T h490 v so W hQ => ?_
            obtain ⟨hv, K490⟩ := hQ
            obtain rfl := Option.some.inj hv
            refine k_astore W d_code_171 own_pick_ref (L' := #[.val (.int p0), .val (.int p1), .val (.int p2), .val (.int p3), .val (.int p4), .val (.int (p0 &&& (3 : Int32))), .val (.int ((XT.ushr p0 (2 : Int32)) &&& (3 : Int32))), .val (.int (p2 &&& (255 : Int32))), .val (.ref a440), .val (own_pick eT eG eO eN [])]) (XS.store1 rfl (Or.inr ⟨_, rfl, rfl⟩) (cat_ref own_pick_ref)) ?_
            refine k_aload W d_code_173 rfl own_pick_ref ?_
            refine k_aload W d_code_175 rfl rfl ?_
            have f521 := (S489.keep K490 nin0 nin0)
            have f522 := (Sta.keep (Sta.keep (Sta.keep (Sta.keep QT K440 ns0) K441 ns0) K489 (nsS (Exa.plain f484) ns0)) K490 ns0)
            have f523 := (Sta.keep (Sta.keep (Sta.keep (Sta.keep QG K440 ns0) K441 ns0) K489 (nsS (Exa.plain f484) ns0)) K490 ns0)
            have f524 := (Sta.keep (Sta.keep (Sta.keep (Sta.keep QO K440 ns0) K441 ns0) K489 (nsS (Exa.plain f484) ns0)) K490 ns0)
            have f525 := (Sta.keep (Sta.keep (Sta.keep (Sta.keep QN K440 ns0) K441 ns0) K489 (nsS (Exa.plain f484) ns0)) K490 ns0)
            have f526 := (Sta.keep f519 K490 ns0)
            refine k_callS W 1 15 166 (argsL := [(.ref a440)]) (rest := [(own_pick eT eG eO eN [])]) d_code_177 (w69 hw) (w70 hw) (by decide) (lenOf pd9 rfl) (ct_ref l Z a0 hw n0 h490 eT eG eO eN a440 b489 [] zc f522 f523 f524 f525 f521 f526 hzc) (w71 hw) (w5 hw) (fun x hx => by simp only [List.mem_cons, List.not_mem_nil, or_false] at hx; rcases hx with rfl; all_goals first | exact (List.mem_of_getElem? (i := 1) rfl)) rfl (Nat.le_of_eq (catC (a := 1) (cat_ref own_pick_ref) cat0)) (Nat.le_of_ble_eq_true rfl) (Nat.le_of_ble_eq_true rfl) ⟨rfl, Nat.le_of_ble_eq_true rfl⟩ ⟨rfl, Nat.le_of_ble_eq_true rfl⟩ rfl (fun _ _ q => nomatch q.1) fun T h520 v so W hQ => ?_
            obtain ⟨hv, K520⟩ := hQ
            obtain rfl := Option.some.inj hv
            refine k_acN W d_code_180 own_pick_ref own_pick_ref (by decide) (fun q => q rfl) ?_
            refine k_iconst W d_code_183 (z := (1 : Int32)) rfl ?_
            refine k_goto W 188 d_code_184 (by decide) ?_
            exact k_retN W (t := .boolean) (z' := (1 : Int32)) d_code_188 rfl (by simp) (by decide) [] (fun x hx => nomatch hx) (Nat.le_of_ble_eq_true rfl) (Nat.le_of_ble_eq_true rfl) rfl
        · -- pc 143
          refine k_aconst W d_code_143 ?_
          refine k_astore W d_code_144 rfl (L' := #[.val (.int p0), .val (.int p1), .val (.int p2), .val (.int p3), .val (.int p4), .val (.int (p0 &&& (3 : Int32))), .val (.int ((XT.ushr p0 (2 : Int32)) &&& (3 : Int32))), .val (.int (p2 &&& (255 : Int32))), .val .null, .val (.int (p1 &&& (7 : Int32)))]) rfl ?_
          refine k_goto W 166 d_code_146 (by decide) ?_
          refine k_aload W d_code_166 rfl rfl ?_
          refine k_callS W 0 1 4 (argsL := [.null]) (rest := []) d_code_168 (w34 hw) (w35 hw) (by decide) (lenOf pd9 rfl) (ct_namedN l Z a0 hw n0 h0 eT eG eO eN sT bT sG bG sO bO sN bN arr zc XxT LT TT XxG LG TG XxO LO TO XxN LN TN AR AX SA P0 hzc) (w37 hw) (w36 hw) (fun x hx => hx) rfl (Nat.le_of_eq rfl) (Nat.le_of_ble_eq_true rfl) (Nat.le_of_ble_eq_true rfl) ⟨rfl, Nat.le_of_ble_eq_true rfl⟩ ⟨rfl, Nat.le_of_ble_eq_true rfl⟩ rfl (fun _ _ q => nomatch q.1) fun T h527 v so W hQ => ?_
          obtain ⟨hv, K527⟩ := hQ
          obtain rfl := Option.some.inj hv
          refine k_astore W d_code_171 rfl (L' := #[.val (.int p0), .val (.int p1), .val (.int p2), .val (.int p3), .val (.int p4), .val (.int (p0 &&& (3 : Int32))), .val (.int ((XT.ushr p0 (2 : Int32)) &&& (3 : Int32))), .val (.int (p2 &&& (255 : Int32))), .val .null, .val .null]) rfl ?_
          refine k_aload W d_code_173 rfl rfl ?_
          refine k_aload W d_code_175 rfl rfl ?_
          refine k_callS W 1 1 4 (argsL := [.null]) (rest := [.null]) d_code_177 (w69 hw) (w70 hw) (by decide) (lenOf pd9 rfl) (ct_refN l Z a0 hw n0 h527) (w71 hw) (w5 hw) (fun x hx => hx) rfl (Nat.le_of_eq rfl) (Nat.le_of_ble_eq_true rfl) (Nat.le_of_ble_eq_true rfl) ⟨rfl, Nat.le_of_ble_eq_true rfl⟩ ⟨rfl, Nat.le_of_ble_eq_true rfl⟩ rfl (fun _ _ q => nomatch q.1) fun T h528 v so W hQ => ?_
          obtain ⟨hv, rfl, -⟩ := hQ
          obtain rfl := Option.some.inj hv
          refine k_acN W d_code_180 rfl rfl (by decide) (fun q => q rfl) ?_
          refine k_iconst W d_code_183 (z := (1 : Int32)) rfl ?_
          refine k_goto W 188 d_code_184 (by decide) ?_
          exact k_retN W (t := .boolean) (z' := (1 : Int32)) d_code_188 rfl (by simp) (by decide) [] (fun x hx => nomatch hx) (Nat.le_of_ble_eq_true rfl) (Nat.le_of_ble_eq_true rfl) rfl
      · -- pc 88
        refine k_iloadN W d_code_88 rfl ?_
        refine k_iconst W d_code_89 (z := (1 : Int32)) rfl ?_
        refine k_iand W d_code_90 (z := (p1 &&& (1 : Int32))) rfl ?_
        refine k_if W 113 d_code_91 (by decide) (fun (hc529 : ¬ (p1 &&& (1 : Int32)) = 0) => ?_) (fun (hc529 : ¬ (¬ (p1 &&& (1 : Int32)) = 0)) => ?_)
        · -- pc 113
          refine k_new W 1 4 d_code_113 (w0 hw) (w1 hw) (w2 hw) ⟨rfl, Nat.le_of_ble_eq_true rfl⟩ ⟨rfl, Nat.le_of_ble_eq_true rfl⟩ fun T h530 a531 g531 W E531 X531 D531 => ?_
          have K531 : Keep h0 h530 [] := keep_ext E531 []
          refine k_dup W d_code_116 rfl ?_
          refine k_iload W d_code_117 rfl ?_
          refine k_callSn W 2 2 16 (argsL := [(.int (p0 &&& (3 : Int32)))]) (rest := [(.ref a531), (.ref a531)]) d_code_119 (w90 hw) (w91 hw) (by decide) (lenOf pd10 rfl) (ct_shorter l Z a0 hw n0 h530 (p0 &&& (3 : Int32))) (w92 hw) (w5 hw) (fun x hx => nomatch hx) rfl (Nat.le_of_eq rfl) (Nat.le_of_ble_eq_true rfl) (Nat.le_of_ble_eq_true rfl) ⟨rfl, Nat.le_of_ble_eq_true rfl⟩ ⟨rfl, Nat.le_of_ble_eq_true rfl⟩ rfl (fun _ _ ⟨_, _, q, _⟩ => nomatch q) fun T h532 v so W hQ => ?_
          obtain ⟨x532, cs532, hv, g532, K532, A532, hp532, hl532, hR532, rfl⟩ := hQ
          obtain rfl := Option.some.inj hv
          have f533 := (X531.keep K532)
          have f534 := ((D531 (Or.inr (w33 hw)) (ty := (.array .byte)) (by decide)).keep K532 nin0)
          have f535 := ((D531 (Or.inr (w31 hw)) (ty := .byte) (by decide)).keep K532 nin0)
          have f536 := (Sta.keep (Sta.keep P0 K531 ns0) K532 ns0)
          refine k_callI0 W 1 3 30 (argsL := [(.ref x532)]) (rest := [(.ref a531)]) (a := a531) d_code_122 rfl rfl (w8 hw) (w9 hw) (by decide) (lenOf pd8 rfl) (ct_sinit l Z a0 hw n0 h532 a531 x532 cs532 14 zc .null (.int (0 : Int32)) f533 f534 f535 A532 f536 hzc hR532 hp532 hl532 (by decide)) (w10 hw) (w2 hw) (fun x hx => by simp only [List.mem_cons, List.not_mem_nil, or_false] at hx; rcases hx with rfl; all_goals first | exact (List.mem_of_getElem? (i := 1) rfl)) rfl (Nat.le_of_eq rfl) (Nat.le_of_ble_eq_true rfl) (Nat.le_of_ble_eq_true rfl) ⟨rfl, Nat.le_of_ble_eq_true rfl⟩ ⟨rfl, Nat.le_of_ble_eq_true rfl⟩ rfl (fun _ _ _ q => nomatch q.1) fun T h537 so W hQ => ?_
          obtain ⟨-, b537, g537, K537, S537⟩ := hQ
          have S537 : St Z h537 a531 b537 (cs532.map i2b) := S537
          refine k_astore W d_code_125 rfl (L' := #[.val (.int p0), .val (.int p1), .val (.int p2), .val (.int p3), .val (.int p4), .val (.int (p0 &&& (3 : Int32))), .val (.int ((XT.ushr p0 (2 : Int32)) &&& (3 : Int32))), .val (.int (p2 &&& (255 : Int32))), .val (.ref a531), .unset]) rfl ?_
          refine k_goto W 166 d_code_127 (by decide) ?_
          refine k_aload W d_code_166 rfl rfl ?_
          have ne539 : sT ≠ a531 := (Nat.ne_of_lt (Nat.lt_of_lt_of_le TT.1.lt (Nat.le_of_eq g531.symm)))
          have ne540 : sG ≠ a531 := (Nat.ne_of_lt (Nat.lt_of_lt_of_le TG.1.lt (Nat.le_of_eq g531.symm)))
          have ne541 : sO ≠ a531 := (Nat.ne_of_lt (Nat.lt_of_lt_of_le TO.1.lt (Nat.le_of_eq g531.symm)))
          have ne542 : sN ≠ a531 := (Nat.ne_of_lt (Nat.lt_of_lt_of_le TN.1.lt (Nat.le_of_eq g531.symm)))
          have f543 := (((XxT.keep K531).keep K532).keep K537)
          have ne544 : eT ≠ a531 := (Nat.ne_of_lt (Nat.lt_of_lt_of_le XxT.lt (Nat.le_of_eq g531.symm)))
          have f545 := (((LT.keep K531 nin0).keep K532 nin0).keep K537 (ninS ne544 nin0))
          have ne546 : bT ≠ a531 := (Nat.ne_of_lt (Nat.lt_of_lt_of_le TT.2.2.2.lt (Nat.le_of_eq g531.symm)))
          have f547 := (((TT.keep K531 nin0 nin0).keep K532 nin0 nin0).keep K537 (ninS ne539 nin0) (ninS ne546 nin0))
          have f548 := (((XxG.keep K531).keep K532).keep K537)
          have ne549 : eG ≠ a531 := (Nat.ne_of_lt (Nat.lt_of_lt_of_le XxG.lt (Nat.le_of_eq g531.symm)))
          have f550 := (((LG.keep K531 nin0).keep K532 nin0).keep K537 (ninS ne549 nin0))
          have ne551 : bG ≠ a531 := (Nat.ne_of_lt (Nat.lt_of_lt_of_le TG.2.2.2.lt (Nat.le_of_eq g531.symm)))
          have f552 := (((TG.keep K531 nin0 nin0).keep K532 nin0 nin0).keep K537 (ninS ne540 nin0) (ninS ne551 nin0))
          have f553 := (((XxO.keep K531).keep K532).keep K537)
          have ne554 : eO ≠ a531 := (Nat.ne_of_lt (Nat.lt_of_lt_of_le XxO.lt (Nat.le_of_eq g531.symm)))
          have f555 := (((LO.keep K531 nin0).keep K532 nin0).keep K537 (ninS ne554 nin0))
          have ne556 : bO ≠ a531 := (Nat.ne_of_lt (Nat.lt_of_lt_of_le TO.2.2.2.lt (Nat.le_of_eq g531.symm)))
          have f557 := (((TO.keep K531 nin0 nin0).keep K532 nin0 nin0).keep K537 (ninS ne541 nin0) (ninS ne556 nin0))
          have f558 := (((XxN.keep K531).keep K532).keep K537)
          have ne559 : eN ≠ a531 := (Nat.ne_of_lt (Nat.lt_of_lt_of_le XxN.lt (Nat.le_of_eq g531.symm)))
          have f560 := (((LN.keep K531 nin0).keep K532 nin0).keep K537 (ninS ne559 nin0))
          have ne561 : bN ≠ a531 := (Nat.ne_of_lt (Nat.lt_of_lt_of_le TN.2.2.2.lt (Nat.le_of_eq g531.symm)))
          have f562 := (((TN.keep K531 nin0 nin0).keep K532 nin0 nin0).keep K537 (ninS ne542 nin0) (ninS ne561 nin0))
          have ne563 : arr ≠ a531 := (Nat.ne_of_lt (Nat.lt_of_lt_of_le AR.lt (Nat.le_of_eq g531.symm)))
          have f564 := (((AR.keep K531 nin0).keep K532 nin0).keep K537 (ninS ne563 nin0))
          have f565 := (((AX.keep K531).keep K532).keep K537)
          have f566 := (Sta.keep (Sta.keep (Sta.keep SA K531 ns0) K532 ns0) K537 (nsS (Exa.plain f533) ns0))
          have f567 := (Sta.keep f536 K537 (nsS (Exa.plain f533) ns0))
          refine k_callS W 0 4 34 (argsL := [(.ref a531)]) (rest := []) d_code_168 (w34 hw) (w35 hw) (by decide) (lenOf pd9 rfl) (ct_named l Z a0 hw n0 h537 eT eG eO eN sT bT sG bG sO bO sN bN arr a531 b537 (cs532.map i2b) zc ne539 ne540 ne541 ne542 f543 f545 f547 f548 f550 f552 f553 f555 f557 f558 f560 f562 f564 f565 f566 f567 hzc S537) (w37 hw) (w36 hw) (fun x hx => nomatch hx) rfl (Nat.le_of_eq rfl) (Nat.le_of_ble_eq_true rfl) (Nat.le_of_ble_eq_true rfl) ⟨rfl, Nat.le_of_ble_eq_true rfl⟩ ⟨rfl, Nat.le_of_ble_eq_true rfl⟩ rfl (fun _ _ q => nomatch q.1) fun T h538 v so W hQ => ?_
          obtain ⟨hv, K538⟩ := hQ
          obtain rfl := Option.some.inj hv
          refine k_astore W d_code_171 own_pick_ref (L' := #[.val (.int p0), .val (.int p1), .val (.int p2), .val (.int p3), .val (.int p4), .val (.int (p0 &&& (3 : Int32))), .val (.int ((XT.ushr p0 (2 : Int32)) &&& (3 : Int32))), .val (.int (p2 &&& (255 : Int32))), .val (.ref a531), .val (own_pick eT eG eO eN (cs532.map i2b))]) (XS.store1 rfl (Or.inl rfl) (cat_ref own_pick_ref)) ?_
          refine k_aload W d_code_173 rfl own_pick_ref ?_
          refine k_aload W d_code_175 rfl rfl ?_
          have f569 := (S537.keep K538 nin0 nin0)
          have f570 := (Sta.keep (Sta.keep (Sta.keep (Sta.keep QT K531 ns0) K532 ns0) K537 (nsS (Exa.plain f533) ns0)) K538 ns0)
          have f571 := (Sta.keep (Sta.keep (Sta.keep (Sta.keep QG K531 ns0) K532 ns0) K537 (nsS (Exa.plain f533) ns0)) K538 ns0)
          have f572 := (Sta.keep (Sta.keep (Sta.keep (Sta.keep QO K531 ns0) K532 ns0) K537 (nsS (Exa.plain f533) ns0)) K538 ns0)
          have f573 := (Sta.keep (Sta.keep (Sta.keep (Sta.keep QN K531 ns0) K532 ns0) K537 (nsS (Exa.plain f533) ns0)) K538 ns0)
          have f574 := (Sta.keep f567 K538 ns0)
          refine k_callS W 1 12 178 (argsL := [(.ref a531)]) (rest := [(own_pick eT eG eO eN (cs532.map i2b))]) d_code_177 (w69 hw) (w70 hw) (by decide) (lenOf pd9 rfl) (ct_ref l Z a0 hw n0 h538 eT eG eO eN a531 b537 (cs532.map i2b) zc f570 f571 f572 f573 f569 f574 hzc) (w71 hw) (w5 hw) (fun x hx => by simp only [List.mem_cons, List.not_mem_nil, or_false] at hx; rcases hx with rfl; all_goals first | exact (List.mem_of_getElem? (i := 1) rfl)) rfl (Nat.le_of_eq (catC (a := 1) (cat_ref own_pick_ref) cat0)) (Nat.le_of_ble_eq_true rfl) (Nat.le_of_ble_eq_true rfl) ⟨rfl, Nat.le_of_ble_eq_true rfl⟩ ⟨rfl, Nat.le_of_ble_eq_true rfl⟩ rfl (fun _ _ q => nomatch q.1) fun T h568 v so W hQ => ?_
          obtain ⟨hv, K568⟩ := hQ
          obtain rfl := Option.some.inj hv
          refine k_acN W d_code_180 own_pick_ref own_pick_ref (by decide) (fun q => q rfl) ?_
          refine k_iconst W d_code_183 (z := (1 : Int32)) rfl ?_
          refine k_goto W 188 d_code_184 (by decide) ?_
          exact k_retN W (t := .boolean) (z' := (1 : Int32)) d_code_188 rfl (by simp) (by decide) [] (fun x hx => nomatch hx) (Nat.le_of_ble_eq_true rfl) (Nat.le_of_ble_eq_true rfl) rfl
        · -- pc 94
          refine k_new W 1 4 d_code_94 (w0 hw) (w1 hw) (w2 hw) ⟨rfl, Nat.le_of_ble_eq_true rfl⟩ ⟨rfl, Nat.le_of_ble_eq_true rfl⟩ fun T h575 a576 g576 W E576 X576 D576 => ?_
          have K576 : Keep h0 h575 [] := keep_ext E576 []
          refine k_dup W d_code_97 rfl ?_
          refine k_iload W d_code_98 rfl ?_
          refine k_iload W d_code_100 rfl ?_
          refine k_callSn W 2 2 18 (argsL := [(.int (p0 &&& (3 : Int32))), (.int (p2 &&& (255 : Int32)))]) (rest := [(.ref a576), (.ref a576)]) d_code_102 (w81 hw) (w82 hw) (by decide) (lenOf pd11 rfl) (ct_longer l Z a0 hw n0 h575 (p0 &&& (3 : Int32)) (p2 &&& (255 : Int32)) (Rg.and (n := 256) p2 (255 : Int32) (by decide))) (w83 hw) (w5 hw) (fun x hx => nomatch hx) rfl (Nat.le_of_eq rfl) (Nat.le_of_ble_eq_true rfl) (Nat.le_of_ble_eq_true rfl) ⟨rfl, Nat.le_of_ble_eq_true rfl⟩ ⟨rfl, Nat.le_of_ble_eq_true rfl⟩ rfl (fun _ _ ⟨_, _, q, _⟩ => nomatch q) fun T h577 v so W hQ => ?_
          obtain ⟨x577, cs577, hv, g577, K577, A577, hp577, hl577, hR577, rfl⟩ := hQ
          obtain rfl := Option.some.inj hv
          have f578 := (X576.keep K577)
          have f579 := ((D576 (Or.inr (w33 hw)) (ty := (.array .byte)) (by decide)).keep K577 nin0)
          have f580 := ((D576 (Or.inr (w31 hw)) (ty := .byte) (by decide)).keep K577 nin0)
          have f581 := (Sta.keep (Sta.keep P0 K576 ns0) K577 ns0)
          refine k_callI0 W 1 3 32 (argsL := [(.ref x577)]) (rest := [(.ref a576)]) (a := a576) d_code_105 rfl rfl (w8 hw) (w9 hw) (by decide) (lenOf pd8 rfl) (ct_sinit l Z a0 hw n0 h577 a576 x577 cs577 14 zc .null (.int (0 : Int32)) f578 f579 f580 A577 f581 hzc hR577 hp577 hl577 (by decide)) (w10 hw) (w2 hw) (fun x hx => by simp only [List.mem_cons, List.not_mem_nil, or_false] at hx; rcases hx with rfl; all_goals first | exact (List.mem_of_getElem? (i := 1) rfl)) rfl (Nat.le_of_eq rfl) (Nat.le_of_ble_eq_true rfl) (Nat.le_of_ble_eq_true rfl) ⟨rfl, Nat.le_of_ble_eq_true rfl⟩ ⟨rfl, Nat.le_of_ble_eq_true rfl⟩ rfl (fun _ _ _ q => nomatch q.1) fun T h582 so W hQ => ?_
          obtain ⟨-, b582, g582, K582, S582⟩ := hQ
          have S582 : St Z h582 a576 b582 (cs577.map i2b) := S582
          refine k_astore W d_code_108 rfl (L' := #[.val (.int p0), .val (.int p1), .val (.int p2), .val (.int p3), .val (.int p4), .val (.int (p0 &&& (3 : Int32))), .val (.int ((XT.ushr p0 (2 : Int32)) &&& (3 : Int32))), .val (.int (p2 &&& (255 : Int32))), .val (.ref a576), .unset]) rfl ?_
          refine k_goto W 166 d_code_110 (by decide) ?_
          refine k_aload W d_code_166 rfl rfl ?_
          have ne584 : sT ≠ a576 := (Nat.ne_of_lt (Nat.lt_of_lt_of_le TT.1.lt (Nat.le_of_eq g576.symm)))
          have ne585 : sG ≠ a576 := (Nat.ne_of_lt (Nat.lt_of_lt_of_le TG.1.lt (Nat.le_of_eq g576.symm)))
          have ne586 : sO ≠ a576 := (Nat.ne_of_lt (Nat.lt_of_lt_of_le TO.1.lt (Nat.le_of_eq g576.symm)))
          have ne587 : sN ≠ a576 := (Nat.ne_of_lt (Nat.lt_of_lt_of_le TN.1.lt (Nat.le_of_eq g576.symm)))
          have f588 := (((XxT.keep K576).keep K577).keep K582)
          have ne589 : eT ≠ a576 := (Nat.ne_of_lt (Nat.lt_of_lt_of_le XxT.lt (Nat.le_of_eq g576.symm)))
          have f590 := (((LT.keep K576 nin0).keep K577 nin0).keep K582 (ninS ne589 nin0))
          have ne591 : bT ≠ a576 := (Nat.ne_of_lt (Nat.lt_of_lt_of_le TT.2.2.2.lt (Nat.le_of_eq g576.symm)))
          have f592 := (((TT.keep K576 nin0 nin0).keep K577 nin0 nin0).keep K582 (ninS ne584 nin0) (ninS ne591 nin0))
          have f593 := (((XxG.keep K576).keep K577).keep K582)
          have ne594 : eG ≠ a576 := (Nat.ne_of_lt (Nat.lt_of_lt_of_le XxG.lt (Nat.le_of_eq g576.symm)))
          have f595 := (((LG.keep K576 nin0).keep K577 nin0).keep K582 (ninS ne594 nin0))
          have ne596 : bG ≠ a576 := (Nat.ne_of_lt (Nat.lt_of_lt_of_le TG.2.2.2.lt (Nat.le_of_eq g576.symm)))
          have f597 := (((TG.keep K576 nin0 nin0).keep K577 nin0 nin0).keep K582 (ninS ne585 nin0) (ninS ne596 nin0))
          have f598 := (((XxO.keep K576).keep K577).keep K582)
          have ne599 : eO ≠ a576 := (Nat.ne_of_lt (Nat.lt_of_lt_of_le XxO.lt (Nat.le_of_eq g576.symm)))
          have f600 := (((LO.keep K576 nin0).keep K577 nin0).keep K582 (ninS ne599 nin0))
          have ne601 : bO ≠ a576 := (Nat.ne_of_lt (Nat.lt_of_lt_of_le TO.2.2.2.lt (Nat.le_of_eq g576.symm)))
          have f602 := (((TO.keep K576 nin0 nin0).keep K577 nin0 nin0).keep K582 (ninS ne586 nin0) (ninS ne601 nin0))
          have f603 := (((XxN.keep K576).keep K577).keep K582)
          have ne604 : eN ≠ a576 := (Nat.ne_of_lt (Nat.lt_of_lt_of_le XxN.lt (Nat.le_of_eq g576.symm)))
          have f605 := (((LN.keep K576 nin0).keep K577 nin0).keep K582 (ninS ne604 nin0))
          have ne606 : bN ≠ a576 := (Nat.ne_of_lt (Nat.lt_of_lt_of_le TN.2.2.2.lt (Nat.le_of_eq g576.symm)))
          have f607 := (((TN.keep K576 nin0 nin0).keep K577 nin0 nin0).keep K582 (ninS ne587 nin0) (ninS ne606 nin0))
          have ne608 : arr ≠ a576 := (Nat.ne_of_lt (Nat.lt_of_lt_of_le AR.lt (Nat.le_of_eq g576.symm)))
          have f609 := (((AR.keep K576 nin0).keep K577 nin0).keep K582 (ninS ne608 nin0))
          have f610 := (((AX.keep K576).keep K577).keep K582)
          have f611 := (Sta.keep (Sta.keep (Sta.keep SA K576 ns0) K577 ns0) K582 (nsS (Exa.plain f578) ns0))
          have f612 := (Sta.keep f581 K582 (nsS (Exa.plain f578) ns0))
          refine k_callS W 0 4 36 (argsL := [(.ref a576)]) (rest := []) d_code_168 (w34 hw) (w35 hw) (by decide) (lenOf pd9 rfl) (ct_named l Z a0 hw n0 h582 eT eG eO eN sT bT sG bG sO bO sN bN arr a576 b582 (cs577.map i2b) zc ne584 ne585 ne586 ne587 f588 f590 f592 f593 f595 f597 f598 f600 f602 f603 f605 f607 f609 f610 f611 f612 hzc S582) (w37 hw) (w36 hw) (fun x hx => nomatch hx) rfl (Nat.le_of_eq rfl) (Nat.le_of_ble_eq_true rfl) (Nat.le_of_ble_eq_true rfl) ⟨rfl, Nat.le_of_ble_eq_true rfl⟩ ⟨rfl, Nat.le_of_ble_eq_true rfl⟩ rfl (fun _ _ q => nomatch q.1) fun T h583 v so W hQ => ?_
          obtain ⟨hv, K583⟩ := hQ
          obtain rfl := Option.some.inj hv
          refine k_astore W d_code_171 own_pick_ref (L' := #[.val (.int p0), .val (.int p1), .val (.int p2), .val (.int p3), .val (.int p4), .val (.int (p0 &&& (3 : Int32))), .val (.int ((XT.ushr p0 (2 : Int32)) &&& (3 : Int32))), .val (.int (p2 &&& (255 : Int32))), .val (.ref a576), .val (own_pick eT eG eO eN (cs577.map i2b))]) (XS.store1 rfl (Or.inl rfl) (cat_ref own_pick_ref)) ?_
          refine k_aload W d_code_173 rfl own_pick_ref ?_
          refine k_aload W d_code_175 rfl rfl ?_
          have f614 := (S582.keep K583 nin0 nin0)
          have f615 := (Sta.keep (Sta.keep (Sta.keep (Sta.keep QT K576 ns0) K577 ns0) K582 (nsS (Exa.plain f578) ns0)) K583 ns0)
          have f616 := (Sta.keep (Sta.keep (Sta.keep (Sta.keep QG K576 ns0) K577 ns0) K582 (nsS (Exa.plain f578) ns0)) K583 ns0)
          have f617 := (Sta.keep (Sta.keep (Sta.keep (Sta.keep QO K576 ns0) K577 ns0) K582 (nsS (Exa.plain f578) ns0)) K583 ns0)
          have f618 := (Sta.keep (Sta.keep (Sta.keep (Sta.keep QN K576 ns0) K577 ns0) K582 (nsS (Exa.plain f578) ns0)) K583 ns0)
          have f619 := (Sta.keep f612 K583 ns0)
          refine k_callS W 1 12 180 (argsL := [(.ref a576)]) (rest := [(own_pick eT eG eO eN (cs577.map i2b))]) d_code_177 (w69 hw) (w70 hw) (by decide) (lenOf pd9 rfl) (ct_ref l Z a0 hw n0 h583 eT eG eO eN a576 b582 (cs577.map i2b) zc f615 f616 f617 f618 f614 f619 hzc) (w71 hw) (w5 hw) (fun x hx => by simp only [List.mem_cons, List.not_mem_nil, or_false] at hx; rcases hx with rfl; all_goals first | exact (List.mem_of_getElem? (i := 1) rfl)) rfl (Nat.le_of_eq (catC (a := 1) (cat_ref own_pick_ref) cat0)) (Nat.le_of_ble_eq_true rfl) (Nat.le_of_ble_eq_true rfl) ⟨rfl, Nat.le_of_ble_eq_true rfl⟩ ⟨rfl, Nat.le_of_ble_eq_true rfl⟩ rfl (fun _ _ q => nomatch q.1) fun T h613 v so W hQ => ?_
          obtain ⟨hv, K613⟩ := hQ
          obtain rfl := Option.some.inj hv
          refine k_acN W d_code_180 own_pick_ref own_pick_ref (by decide) (fun q => q rfl) ?_
          refine k_iconst W d_code_183 (z := (1 : Int32)) rfl ?_
          refine k_goto W 188 d_code_184 (by decide) ?_
          exact k_retN W (t := .boolean) (z' := (1 : Int32)) d_code_188 rfl (by simp) (by decide) [] (fun x hx => nomatch hx) (Nat.le_of_ble_eq_true rfl) (Nat.le_of_ble_eq_true rfl) rfl
    · -- pc 48
      refine k_iload W d_code_48 rfl ?_
      refine k_callSn W 0 1 13 (argsL := [(.int (p0 &&& (3 : Int32)))]) (rest := []) d_code_50 (w3 hw) (w4 hw) (by decide) (lenOf pd10 rfl) (ct_base l Z a0 hw n0 h0 (p0 &&& (3 : Int32))) (w6 hw) (w5 hw) (fun x hx => hx) rfl (Nat.le_of_eq rfl) (Nat.le_of_ble_eq_true rfl) (Nat.le_of_ble_eq_true rfl) ⟨rfl, Nat.le_of_ble_eq_true rfl⟩ ⟨rfl, Nat.le_of_ble_eq_true rfl⟩ rfl (fun _ _ ⟨_, _, q, _⟩ => nomatch q) fun T h620 v so W hQ => ?_
      obtain ⟨x620, cs620, hv, g620, K620, A620, hp620, hl620, hR620, rfl⟩ := hQ
      obtain rfl := Option.some.inj hv
      refine k_astore W d_code_53 rfl (L' := #[.val (.int p0), .val (.int p1), .val (.int p2), .val (.int p3), .val (.int p4), .val (.int (p0 &&& (3 : Int32))), .val (.int ((XT.ushr p0 (2 : Int32)) &&& (3 : Int32))), .val (.int (p2 &&& (255 : Int32))), .unset, .val (.ref x620)]) rfl ?_
      refine k_aload W d_code_55 rfl rfl ?_
      refine k_iloadN W d_code_57 rfl ?_
      refine k_ldcI W d_code_58 (w84 hw) ?_
      refine k_iand W d_code_60 (z := (p1 &&& (2147483647 : Int32))) rfl ?_
      refine k_aload W d_code_61 rfl rfl ?_
      refine k_arraylength W (z := (Int32.ofNat cs620.length)) d_code_63 A620 (by first | (rw [List.length_map]; done) | (rw [List.length_map]; rfl)) ?_
      refine k_irem W d_code_64 (of_ne0 hp620 (by have := hl620; omega)) (z := ((p1 &&& (2147483647 : Int32)) % (Int32.ofNat cs620.length))) rfl ?_
      refine k_iload W d_code_65 rfl ?_
      refine k_castore W (z := (p2 &&& (255 : Int32))) ((p1 &&& (2147483647 : Int32)) % (Int32.ofNat cs620.length)).toNatClampNeg d_code_67 (List.mem_of_getElem? (i := 0) rfl) A620 (own_mix (p := p1) hp620 hl620).1 (by rw [List.length_map]; exact (own_mix (p := p1) hp620 hl620).2) (Rg.nar (Rg.mono (Rg.and (n := 256) p2 (255 : Int32) (by decide)) (by decide))) (Rg.fits (Rg.mono (Rg.and (n := 256) p2 (255 : Int32) (by decide)) (by decide))) fun T h621 W Wr621 A621 => ?_
      have K621 : Keep h620 h621 [x620] := Keep.of_wr Wr621
      have A622 : Av Z h621 x620 .char ((cs620.set ((p1 &&& (2147483647 : Int32)) % (Int32.ofNat cs620.length)).toNatClampNeg (p2 &&& (255 : Int32))).map Value.int) := by rw [List.map_set]; exact A621
      have hR622 := own_setrg (i := ((p1 &&& (2147483647 : Int32)) % (Int32.ofNat cs620.length)).toNatClampNeg) hR620 (Rg.and (n := 256) p2 (255 : Int32) (by decide))
      refine k_new W 2 17 d_code_68 (w0 hw) (w1 hw) (w2 hw) ⟨rfl, Nat.le_of_ble_eq_true rfl⟩ ⟨rfl, Nat.le_of_ble_eq_true rfl⟩ fun T h623 a624 g624 W E624 X624 D624 => ?_
      have K624 : Keep h621 h623 [] := keep_ext E624 []
      refine k_dup W d_code_71 rfl ?_
      refine k_aload W d_code_72 rfl rfl ?_
      have f625 := (A622.keep K624 nin0)
      have f626 := (Sta.keep (Sta.keep (Sta.keep P0 K620 ns0) K621 (nsS (Av.plain A620) ns0)) K624 ns0)
      refine k_callI0 W 1 3 31 (argsL := [(.ref x620)]) (rest := [(.ref a624)]) (a := a624) d_code_74 rfl rfl (w8 hw) (w9 hw) (by decide) (lenOf pd8 rfl) (ct_sinit l Z a0 hw n0 h623 a624 x620 (cs620.set ((p1 &&& (2147483647 : Int32)) % (Int32.ofNat cs620.length)).toNatClampNeg (p2 &&& (255 : Int32))) 14 zc .null (.int (0 : Int32)) X624 (D624 (Or.inr (w33 hw)) (ty := (.array .byte)) (by decide)) (D624 (Or.inr (w31 hw)) (ty := .byte) (by decide)) f625 f626 hzc hR622 (by rw [List.length_set]; exact hp620) (by rw [List.length_set]; exact hl620) (by decide)) (w10 hw) (w2 hw) (fun x hx => by simp only [List.mem_cons, List.not_mem_nil, or_false] at hx; rcases hx with rfl; all_goals first | exact (List.mem_of_getElem? (i := 0) rfl)) rfl (Nat.le_of_eq rfl) (Nat.le_of_ble_eq_true rfl) (Nat.le_of_ble_eq_true rfl) ⟨rfl, Nat.le_of_ble_eq_true rfl⟩ ⟨rfl, Nat.le_of_ble_eq_true rfl⟩ rfl (fun _ _ _ q => nomatch q.1) fun T h627 so W hQ => ?_
      obtain ⟨-, b627, g627, K627, S627⟩ := hQ
      have S627 : St Z h627 a624 b627 ((cs620.set ((p1 &&& (2147483647 : Int32)) % (Int32.ofNat cs620.length)).toNatClampNeg (p2 &&& (255 : Int32))).map i2b) := S627
      refine k_astore W d_code_77 rfl (L' := #[.val (.int p0), .val (.int p1), .val (.int p2), .val (.int p3), .val (.int p4), .val (.int (p0 &&& (3 : Int32))), .val (.int ((XT.ushr p0 (2 : Int32)) &&& (3 : Int32))), .val (.int (p2 &&& (255 : Int32))), .val (.ref a624), .val (.ref x620)]) rfl ?_
      refine k_goto W 166 d_code_79 (by decide) ?_
      refine k_aload W d_code_166 rfl rfl ?_
      have ne629 : sT ≠ a624 := (Nat.ne_of_lt (Nat.lt_of_lt_of_le (Nat.lt_of_lt_of_le TT.1.lt (Nat.le_trans K620.1 K621.1)) (Nat.le_of_eq g624.symm)))
      have ne630 : sG ≠ a624 := (Nat.ne_of_lt (Nat.lt_of_lt_of_le (Nat.lt_of_lt_of_le TG.1.lt (Nat.le_trans K620.1 K621.1)) (Nat.le_of_eq g624.symm)))
      have ne631 : sO ≠ a624 := (Nat.ne_of_lt (Nat.lt_of_lt_of_le (Nat.lt_of_lt_of_le TO.1.lt (Nat.le_trans K620.1 K621.1)) (Nat.le_of_eq g624.symm)))
      have ne632 : sN ≠ a624 := (Nat.ne_of_lt (Nat.lt_of_lt_of_le (Nat.lt_of_lt_of_le TN.1.lt (Nat.le_trans K620.1 K621.1)) (Nat.le_of_eq g624.symm)))
      have f633 := ((((XxT.keep K620).keep K621).keep K624).keep K627)
      have ne634 : eT ≠ x620 := (Nat.ne_of_lt (Nat.lt_of_lt_of_le XxT.lt g620))
      have ne635 : eT ≠ a624 := (Nat.ne_of_lt (Nat.lt_of_lt_of_le (Nat.lt_of_lt_of_le XxT.lt (Nat.le_trans K620.1 K621.1)) (Nat.le_of_eq g624.symm)))
      have f636 := ((((LT.keep K620 nin0).keep K621 (ninS ne634 nin0)).keep K624 nin0).keep K627 (ninS ne635 nin0))
      have ne637 : sT ≠ x620 := (Nat.ne_of_lt (Nat.lt_of_lt_of_le TT.1.lt g620))
      have ne638 : bT ≠ x620 := (Nat.ne_of_lt (Nat.lt_of_lt_of_le TT.2.2.2.lt g620))
      have ne639 : bT ≠ a624 := (Nat.ne_of_lt (Nat.lt_of_lt_of_le (Nat.lt_of_lt_of_le TT.2.2.2.lt (Nat.le_trans K620.1 K621.1)) (Nat.le_of_eq g624.symm)))
      have f640 := ((((TT.keep K620 nin0 nin0).keep K621 (ninS ne637 nin0) (ninS ne638 nin0)).keep K624 nin0 nin0).keep K627 (ninS ne629 nin0) (ninS ne639 nin0))
      have f641 := ((((XxG.keep K620).keep K621).keep K624).keep K627)
      have ne642 : eG ≠ x620 := (Nat.ne_of_lt (Nat.lt_of_lt_of_le XxG.lt g620))
      have ne643 : eG ≠ a624 := (Nat.ne_of_lt (Nat.lt_of_lt_of_le (Nat.lt_of_lt_of_le XxG.lt (Nat.le_trans K620.1 K621.1)) (Nat.le_of_eq g624.symm)))
      have f644 := ((((LG.keep K620 nin0).keep K621 (ninS ne642 nin0)).keep K624 nin0).keep K627 (ninS ne643 nin0))
      have ne645 : sG ≠ x620 := (Nat.ne_of_lt (Nat.lt_of_lt_of_le TG.1.lt g620))
      have ne646 : bG ≠ x620 := (Nat.ne_of_lt (Nat.lt_of_lt_of_le TG.2.2.2.lt g620))
      have ne647 : bG ≠ a624 := (Nat.ne_of_lt (Nat.lt_of_lt_of_le (Nat.lt_of_lt_of_le TG.2.2.2.lt (Nat.le_trans K620.1 K621.1)) (Nat.le_of_eq g624.symm)))
      have f648 := ((((TG.keep K620 nin0 nin0).keep K621 (ninS ne645 nin0) (ninS ne646 nin0)).keep K624 nin0 nin0).keep K627 (ninS ne630 nin0) (ninS ne647 nin0))
      have f649 := ((((XxO.keep K620).keep K621).keep K624).keep K627)
      have ne650 : eO ≠ x620 := (Nat.ne_of_lt (Nat.lt_of_lt_of_le XxO.lt g620))
      have ne651 : eO ≠ a624 := (Nat.ne_of_lt (Nat.lt_of_lt_of_le (Nat.lt_of_lt_of_le XxO.lt (Nat.le_trans K620.1 K621.1)) (Nat.le_of_eq g624.symm)))
      have f652 := ((((LO.keep K620 nin0).keep K621 (ninS ne650 nin0)).keep K624 nin0).keep K627 (ninS ne651 nin0))
      have ne653 : sO ≠ x620 := (Nat.ne_of_lt (Nat.lt_of_lt_of_le TO.1.lt g620))
      have ne654 : bO ≠ x620 := (Nat.ne_of_lt (Nat.lt_of_lt_of_le TO.2.2.2.lt g620))
      have ne655 : bO ≠ a624 := (Nat.ne_of_lt (Nat.lt_of_lt_of_le (Nat.lt_of_lt_of_le TO.2.2.2.lt (Nat.le_trans K620.1 K621.1)) (Nat.le_of_eq g624.symm)))
      have f656 := ((((TO.keep K620 nin0 nin0).keep K621 (ninS ne653 nin0) (ninS ne654 nin0)).keep K624 nin0 nin0).keep K627 (ninS ne631 nin0) (ninS ne655 nin0))
      have f657 := ((((XxN.keep K620).keep K621).keep K624).keep K627)
      have ne658 : eN ≠ x620 := (Nat.ne_of_lt (Nat.lt_of_lt_of_le XxN.lt g620))
      have ne659 : eN ≠ a624 := (Nat.ne_of_lt (Nat.lt_of_lt_of_le (Nat.lt_of_lt_of_le XxN.lt (Nat.le_trans K620.1 K621.1)) (Nat.le_of_eq g624.symm)))
      have f660 := ((((LN.keep K620 nin0).keep K621 (ninS ne658 nin0)).keep K624 nin0).keep K627 (ninS ne659 nin0))
      have ne661 : sN ≠ x620 := (Nat.ne_of_lt (Nat.lt_of_lt_of_le TN.1.lt g620))
      have ne662 : bN ≠ x620 := (Nat.ne_of_lt (Nat.lt_of_lt_of_le TN.2.2.2.lt g620))
      have ne663 : bN ≠ a624 := (Nat.ne_of_lt (Nat.lt_of_lt_of_le (Nat.lt_of_lt_of_le TN.2.2.2.lt (Nat.le_trans K620.1 K621.1)) (Nat.le_of_eq g624.symm)))
      have f664 := ((((TN.keep K620 nin0 nin0).keep K621 (ninS ne661 nin0) (ninS ne662 nin0)).keep K624 nin0 nin0).keep K627 (ninS ne632 nin0) (ninS ne663 nin0))
      have ne665 : arr ≠ x620 := (Nat.ne_of_lt (Nat.lt_of_lt_of_le AR.lt g620))
      have ne666 : arr ≠ a624 := (Nat.ne_of_lt (Nat.lt_of_lt_of_le (Nat.lt_of_lt_of_le AR.lt (Nat.le_trans K620.1 K621.1)) (Nat.le_of_eq g624.symm)))
      have f667 := ((((AR.keep K620 nin0).keep K621 (ninS ne665 nin0)).keep K624 nin0).keep K627 (ninS ne666 nin0))
      have f668 := ((((AX.keep K620).keep K621).keep K624).keep K627)
      have f669 := (Sta.keep (Sta.keep (Sta.keep (Sta.keep SA K620 ns0) K621 (nsS (Av.plain A620) ns0)) K624 ns0) K627 (nsS (Exa.plain X624) ns0))
      have f670 := (Sta.keep f626 K627 (nsS (Exa.plain X624) ns0))
      refine k_callS W 0 4 35 (argsL := [(.ref a624)]) (rest := []) d_code_168 (w34 hw) (w35 hw) (by decide) (lenOf pd9 rfl) (ct_named l Z a0 hw n0 h627 eT eG eO eN sT bT sG bG sO bO sN bN arr a624 b627 ((cs620.set ((p1 &&& (2147483647 : Int32)) % (Int32.ofNat cs620.length)).toNatClampNeg (p2 &&& (255 : Int32))).map i2b) zc ne629 ne630 ne631 ne632 f633 f636 f640 f641 f644 f648 f649 f652 f656 f657 f660 f664 f667 f668 f669 f670 hzc S627) (w37 hw) (w36 hw) (fun x hx => nomatch hx) rfl (Nat.le_of_eq rfl) (Nat.le_of_ble_eq_true rfl) (Nat.le_of_ble_eq_true rfl) ⟨rfl, Nat.le_of_ble_eq_true rfl⟩ ⟨rfl, Nat.le_of_ble_eq_true rfl⟩ rfl (fun _ _ q => nomatch q.1) fun T h628 v so W hQ => ?_
      obtain ⟨hv, K628⟩ := hQ
      obtain rfl := Option.some.inj hv
      refine k_astore W d_code_171 own_pick_ref (L' := #[.val (.int p0), .val (.int p1), .val (.int p2), .val (.int p3), .val (.int p4), .val (.int (p0 &&& (3 : Int32))), .val (.int ((XT.ushr p0 (2 : Int32)) &&& (3 : Int32))), .val (.int (p2 &&& (255 : Int32))), .val (.ref a624), .val (own_pick eT eG eO eN ((cs620.set ((p1 &&& (2147483647 : Int32)) % (Int32.ofNat cs620.length)).toNatClampNeg (p2 &&& (255 : Int32))).map i2b))]) (XS.store1 rfl (Or.inr ⟨_, rfl, rfl⟩) (cat_ref own_pick_ref)) ?_
      refine k_aload W d_code_173 rfl own_pick_ref ?_
      refine k_aload W d_code_175 rfl rfl ?_
      have f672 := (S627.keep K628 nin0 nin0)
      have f673 := (Sta.keep (Sta.keep (Sta.keep (Sta.keep (Sta.keep QT K620 ns0) K621 (nsS (Av.plain A620) ns0)) K624 ns0) K627 (nsS (Exa.plain X624) ns0)) K628 ns0)
      have f674 := (Sta.keep (Sta.keep (Sta.keep (Sta.keep (Sta.keep QG K620 ns0) K621 (nsS (Av.plain A620) ns0)) K624 ns0) K627 (nsS (Exa.plain X624) ns0)) K628 ns0)
      have f675 := (Sta.keep (Sta.keep (Sta.keep (Sta.keep (Sta.keep QO K620 ns0) K621 (nsS (Av.plain A620) ns0)) K624 ns0) K627 (nsS (Exa.plain X624) ns0)) K628 ns0)
      have f676 := (Sta.keep (Sta.keep (Sta.keep (Sta.keep (Sta.keep QN K620 ns0) K621 (nsS (Av.plain A620) ns0)) K624 ns0) K627 (nsS (Exa.plain X624) ns0)) K628 ns0)
      have f677 := (Sta.keep f670 K628 ns0)
      refine k_callS W 1 12 179 (argsL := [(.ref a624)]) (rest := [(own_pick eT eG eO eN ((cs620.set ((p1 &&& (2147483647 : Int32)) % (Int32.ofNat cs620.length)).toNatClampNeg (p2 &&& (255 : Int32))).map i2b))]) d_code_177 (w69 hw) (w70 hw) (by decide) (lenOf pd9 rfl) (ct_ref l Z a0 hw n0 h628 eT eG eO eN a624 b627 ((cs620.set ((p1 &&& (2147483647 : Int32)) % (Int32.ofNat cs620.length)).toNatClampNeg (p2 &&& (255 : Int32))).map i2b) zc f673 f674 f675 f676 f672 f677 hzc) (w71 hw) (w5 hw) (fun x hx => by simp only [List.mem_cons, List.not_mem_nil, or_false] at hx; rcases hx with rfl; all_goals first | exact (List.mem_of_getElem? (i := 0) rfl)) rfl (Nat.le_of_eq (catC (a := 1) (cat_ref own_pick_ref) cat0)) (Nat.le_of_ble_eq_true rfl) (Nat.le_of_ble_eq_true rfl) ⟨rfl, Nat.le_of_ble_eq_true rfl⟩ ⟨rfl, Nat.le_of_ble_eq_true rfl⟩ rfl (fun _ _ q => nomatch q.1) fun T h671 v so W hQ => ?_
      obtain ⟨hv, K671⟩ := hQ
      obtain rfl := Option.some.inj hv
      refine k_acN W d_code_180 own_pick_ref own_pick_ref (by decide) (fun q => q rfl) ?_
      refine k_iconst W d_code_183 (z := (1 : Int32)) rfl ?_
      refine k_goto W 188 d_code_184 (by decide) ?_
      exact k_retN W (t := .boolean) (z' := (1 : Int32)) d_code_188 rfl (by simp) (by decide) [] (fun x hx => nomatch hx) (Nat.le_of_ble_eq_true rfl) (Nat.le_of_ble_eq_true rfl) rfl
  · -- pc 25
    refine k_new W 1 4 d_code_25 (w0 hw) (w1 hw) (w2 hw) ⟨rfl, Nat.le_of_ble_eq_true rfl⟩ ⟨rfl, Nat.le_of_ble_eq_true rfl⟩ fun T h678 a679 g679 W E679 X679 D679 => ?_
    have K679 : Keep h0 h678 [] := keep_ext E679 []
    refine k_dup W d_code_28 rfl ?_
    refine k_iload W d_code_29 rfl ?_
    refine k_callSn W 2 2 17 (argsL := [(.int (p0 &&& (3 : Int32)))]) (rest := [(.ref a679), (.ref a679)]) d_code_31 (w3 hw) (w4 hw) (by decide) (lenOf pd10 rfl) (ct_base l Z a0 hw n0 h678 (p0 &&& (3 : Int32))) (w6 hw) (w5 hw) (fun x hx => nomatch hx) rfl (Nat.le_of_eq rfl) (Nat.le_of_ble_eq_true rfl) (Nat.le_of_ble_eq_true rfl) ⟨rfl, Nat.le_of_ble_eq_true rfl⟩ ⟨rfl, Nat.le_of_ble_eq_true rfl⟩ rfl (fun _ _ ⟨_, _, q, _⟩ => nomatch q) fun T h680 v so W hQ => ?_
    obtain ⟨x680, cs680, hv, g680, K680, A680, hp680, hl680, hR680, rfl⟩ := hQ
    obtain rfl := Option.some.inj hv
    have f681 := (X679.keep K680)
    have f682 := ((D679 (Or.inr (w33 hw)) (ty := (.array .byte)) (by decide)).keep K680 nin0)
    have f683 := ((D679 (Or.inr (w31 hw)) (ty := .byte) (by decide)).keep K680 nin0)
    have f684 := (Sta.keep (Sta.keep P0 K679 ns0) K680 ns0)
    refine k_callI0 W 1 3 31 (argsL := [(.ref x680)]) (rest := [(.ref a679)]) (a := a679) d_code_34 rfl rfl (w8 hw) (w9 hw) (by decide) (lenOf pd8 rfl) (ct_sinit l Z a0 hw n0 h680 a679 x680 cs680 14 zc .null (.int (0 : Int32)) f681 f682 f683 A680 f684 hzc hR680 hp680 hl680 (by decide)) (w10 hw) (w2 hw) (fun x hx => by simp only [List.mem_cons, List.not_mem_nil, or_false] at hx; rcases hx with rfl; all_goals first | exact (List.mem_of_getElem? (i := 1) rfl)) rfl (Nat.le_of_eq rfl) (Nat.le_of_ble_eq_true rfl) (Nat.le_of_ble_eq_true rfl) ⟨rfl, Nat.le_of_ble_eq_true rfl⟩ ⟨rfl, Nat.le_of_ble_eq_true rfl⟩ rfl (fun _ _ _ q => nomatch q.1) fun T h685 so W hQ => ?_
    obtain ⟨-, b685, g685, K685, S685⟩ := hQ
    have S685 : St Z h685 a679 b685 (cs680.map i2b) := S685
    refine k_astore W d_code_37 rfl (L' := #[.val (.int p0), .val (.int p1), .val (.int p2), .val (.int p3), .val (.int p4), .val (.int (p0 &&& (3 : Int32))), .val (.int ((XT.ushr p0 (2 : Int32)) &&& (3 : Int32))), .val (.int (p2 &&& (255 : Int32))), .val (.ref a679), .unset]) rfl ?_
    refine k_goto W 166 d_code_39 (by decide) ?_
    refine k_aload W d_code_166 rfl rfl ?_
    have ne687 : sT ≠ a679 := (Nat.ne_of_lt (Nat.lt_of_lt_of_le TT.1.lt (Nat.le_of_eq g679.symm)))
    have ne688 : sG ≠ a679 := (Nat.ne_of_lt (Nat.lt_of_lt_of_le TG.1.lt (Nat.le_of_eq g679.symm)))
    have ne689 : sO ≠ a679 := (Nat.ne_of_lt (Nat.lt_of_lt_of_le TO.1.lt (Nat.le_of_eq g679.symm)))
    have ne690 : sN ≠ a679 := (Nat.ne_of_lt (Nat.lt_of_lt_of_le TN.1.lt (Nat.le_of_eq g679.symm)))
    have f691 := (((XxT.keep K679).keep K680).keep K685)
    have ne692 : eT ≠ a679 := (Nat.ne_of_lt (Nat.lt_of_lt_of_le XxT.lt (Nat.le_of_eq g679.symm)))
    have f693 := (((LT.keep K679 nin0).keep K680 nin0).keep K685 (ninS ne692 nin0))
    have ne694 : bT ≠ a679 := (Nat.ne_of_lt (Nat.lt_of_lt_of_le TT.2.2.2.lt (Nat.le_of_eq g679.symm)))
    have f695 := (((TT.keep K679 nin0 nin0).keep K680 nin0 nin0).keep K685 (ninS ne687 nin0) (ninS ne694 nin0))
    have f696 := (((XxG.keep K679).keep K680).keep K685)
    have ne697 : eG ≠ a679 := (Nat.ne_of_lt (Nat.lt_of_lt_of_le XxG.lt (Nat.le_of_eq g679.symm)))
    have f698 := (((LG.keep K679 nin0).keep K680 nin0).keep K685 (ninS ne697 nin0))
    have ne699 : bG ≠ a679 := (Nat.ne_of_lt (Nat.lt_of_lt_of_le TG.2.2.2.lt (Nat.le_of_eq g679.symm)))
    have f700 := (((TG.keep K679 nin0 nin0).keep K680 nin0 nin0).keep K685 (ninS ne688 nin0) (ninS ne699 nin0))
    have f701 := (((XxO.keep K679).keep K680).keep K685)
    have ne702 : eO ≠ a679 := (Nat.ne_of_lt (Nat.lt_of_lt_of_le XxO.lt (Nat.le_of_eq g679.symm)))
    have f703 := (((LO.keep K679 nin0).keep K680 nin0).keep K685 (ninS ne702 nin0))
    have ne704 : bO ≠ a679 := (Nat.ne_of_lt (Nat.lt_of_lt_of_le TO.2.2.2.lt (Nat.le_of_eq g679.symm)))
    have f705 := (((TO.keep K679 nin0 nin0).keep K680 nin0 nin0).keep K685 (ninS ne689 nin0) (ninS ne704 nin0))
    have f706 := (((XxN.keep K679).keep K680).keep K685)
    have ne707 : eN ≠ a679 := (Nat.ne_of_lt (Nat.lt_of_lt_of_le XxN.lt (Nat.le_of_eq g679.symm)))
    have f708 := (((LN.keep K679 nin0).keep K680 nin0).keep K685 (ninS ne707 nin0))
    have ne709 : bN ≠ a679 := (Nat.ne_of_lt (Nat.lt_of_lt_of_le TN.2.2.2.lt (Nat.le_of_eq g679.symm)))
    have f710 := (((TN.keep K679 nin0 nin0).keep K680 nin0 nin0).keep K685 (ninS ne690 nin0) (ninS ne709 nin0))
    have ne711 : arr ≠ a679 := (Nat.ne_of_lt (Nat.lt_of_lt_of_le AR.lt (Nat.le_of_eq g679.symm)))
    have f712 := (((AR.keep K679 nin0).keep K680 nin0).keep K685 (ninS ne711 nin0))
    have f713 := (((AX.keep K679).keep K680).keep K685)
    have f714 := (Sta.keep (Sta.keep (Sta.keep SA K679 ns0) K680 ns0) K685 (nsS (Exa.plain f681) ns0))
    have f715 := (Sta.keep f684 K685 (nsS (Exa.plain f681) ns0))
    refine k_callS W 0 4 35 (argsL := [(.ref a679)]) (rest := []) d_code_168 (w34 hw) (w35 hw) (by decide) (lenOf pd9 rfl) (ct_named l Z a0 hw n0 h685 eT eG eO eN sT bT sG bG sO bO sN bN arr a679 b685 (cs680.map i2b) zc ne687 ne688 ne689 ne690 f691 f693 f695 f696 f698 f700 f701 f703 f705 f706 f708 f710 f712 f713 f714 f715 hzc S685) (w37 hw) (w36 hw) (fun x hx => nomatch hx) rfl (Nat.le_of_eq rfl) (Nat.le_of_ble_eq_true rfl) (Nat.le_of_ble_eq_true rfl) ⟨rfl, Nat.le_of_ble_eq_true rfl⟩ ⟨rfl, Nat.le_of_ble_eq_true rfl⟩ rfl (fun _ _ q => nomatch q.1) fun T h686 v so W hQ => ?_
    obtain ⟨hv, K686⟩ := hQ
    obtain rfl := Option.some.inj hv
    refine k_astore W d_code_171 own_pick_ref (L' := #[.val (.int p0), .val (.int p1), .val (.int p2), .val (.int p3), .val (.int p4), .val (.int (p0 &&& (3 : Int32))), .val (.int ((XT.ushr p0 (2 : Int32)) &&& (3 : Int32))), .val (.int (p2 &&& (255 : Int32))), .val (.ref a679), .val (own_pick eT eG eO eN (cs680.map i2b))]) (XS.store1 rfl (Or.inl rfl) (cat_ref own_pick_ref)) ?_
    refine k_aload W d_code_173 rfl own_pick_ref ?_
    refine k_aload W d_code_175 rfl rfl ?_
    have f717 := (S685.keep K686 nin0 nin0)
    have f718 := (Sta.keep (Sta.keep (Sta.keep (Sta.keep QT K679 ns0) K680 ns0) K685 (nsS (Exa.plain f681) ns0)) K686 ns0)
    have f719 := (Sta.keep (Sta.keep (Sta.keep (Sta.keep QG K679 ns0) K680 ns0) K685 (nsS (Exa.plain f681) ns0)) K686 ns0)
    have f720 := (Sta.keep (Sta.keep (Sta.keep (Sta.keep QO K679 ns0) K680 ns0) K685 (nsS (Exa.plain f681) ns0)) K686 ns0)
    have f721 := (Sta.keep (Sta.keep (Sta.keep (Sta.keep QN K679 ns0) K680 ns0) K685 (nsS (Exa.plain f681) ns0)) K686 ns0)
    have f722 := (Sta.keep f715 K686 ns0)
    refine k_callS W 1 12 179 (argsL := [(.ref a679)]) (rest := [(own_pick eT eG eO eN (cs680.map i2b))]) d_code_177 (w69 hw) (w70 hw) (by decide) (lenOf pd9 rfl) (ct_ref l Z a0 hw n0 h686 eT eG eO eN a679 b685 (cs680.map i2b) zc f718 f719 f720 f721 f717 f722 hzc) (w71 hw) (w5 hw) (fun x hx => by simp only [List.mem_cons, List.not_mem_nil, or_false] at hx; rcases hx with rfl; all_goals first | exact (List.mem_of_getElem? (i := 1) rfl)) rfl (Nat.le_of_eq (catC (a := 1) (cat_ref own_pick_ref) cat0)) (Nat.le_of_ble_eq_true rfl) (Nat.le_of_ble_eq_true rfl) ⟨rfl, Nat.le_of_ble_eq_true rfl⟩ ⟨rfl, Nat.le_of_ble_eq_true rfl⟩ rfl (fun _ _ q => nomatch q.1) fun T h716 v so W hQ => ?_
    obtain ⟨hv, K716⟩ := hQ
    obtain rfl := Option.some.inj hv
    refine k_acN W d_code_180 own_pick_ref own_pick_ref (by decide) (fun q => q rfl) ?_
    refine k_iconst W d_code_183 (z := (1 : Int32)) rfl ?_
    refine k_goto W 188 d_code_184 (by decide) ?_
    exact k_retN W (t := .boolean) (z' := (1 : Int32)) d_code_188 rfl (by simp) (by decide) [] (fun x hx => nomatch hx) (Nat.le_of_ble_eq_true rfl) (Nat.le_of_ble_eq_true rfl) rfl
set_option maxRecDepth 65536 in
set_option maxHeartbeats 40000000 in
theorem comes_1 {Post : Tables → Env → Array Value → State → Outcome → State → Prop} (hpost : ∀ tb e args s v u, (limb_1_1.after args s (.returned v) u = true ∧ limb_1_2.after args s (.returned v) u = true ∧ True) → FramedW s (.returned v) u (Jvm.fieldLocs frame_1_writes args s ++ Jvm.arrayLocs frame_1_arrays args s ++ Jvm.staticLocs frame_1_statics s) 32 5312 → Post tb e args s (.returned v) u) :
    ArmFor flags0 classFile x code maxLocals ret World_1 tables_1 room_1 Calls_1 rest_1 Pre_1 Post := by
  intro l hfl _ _ p e ha hc hk s m args below hf hA hF happ hP
  obtain ⟨hcalls, hrest, hpre⟩ := hP
  obtain ⟨-, -, -, hnamed, -, -, -, hat⟩ := (Spec.applies_iff hf).mp happ
  obtain ⟨hg, hnarrow⟩ := and_e (Cond.before_iff.mp (show (Jvm.Cond.and given_1 narrow_1).before args s = true from hpre))
  obtain ⟨h1, h2⟩ := and_e hg
  obtain ⟨ga0, h2⟩ := and_e h2
  obtain ⟨ga1, h2⟩ := and_e h2
  obtain ⟨ga2, h2⟩ := and_e h2
  obtain ⟨ga3, h2⟩ := and_e h2
  have ga4 := h2
  obtain ⟨w0, w1, w2, w3, w4, rfl⟩ : ∃ w0 w1 w2 w3 w4 : Value, args = #[w0, w1, w2, w3, w4] := by
    have hs : args.size = 5 := by simpa [Cond.value, given_1] using h1
    obtain ⟨L⟩ := args
    match L, hs with
    | [w0, w1, w2, w3, w4], _ => exact ⟨w0, w1, w2, w3, w4, rfl⟩
  have hw := fun d (hd : d ∈ tables_1) => atoms_spec (ws := Jvm.Cond.code x code maxLocals ret :: tables_1) hat d (List.mem_cons_of_mem _ hd)
  obtain ⟨hsets, hown0⟩ := atoms_of _ (rest_1_c_eq ▸ (show rest_1_c.before _ s = true from hrest))
  have hfit : Fit s := fun {y c} hc i hi => by
    obtain ⟨ha, rfl⟩ := Array.getElem?_eq_some_iff.mp hc
    have q := List.all_eq_true.mp ((Array.all_eq_true_iff_forall_mem.mp hF) _ (Array.getElem_mem ha)) i (List.mem_range.mpr hi)
    simpa [Array.getElem?_eq_getElem hi] using q
  obtain ⟨i0, ei0⟩ := is_v ga0
  obtain rfl : w0 = (.int i0) := Option.some.inj ei0
  obtain ⟨i1, ei1⟩ := is_v ga1
  obtain rfl : w1 = (.int i1) := Option.some.inj ei1
  obtain ⟨i2, ei2⟩ := is_v ga2
  obtain rfl : w2 = (.int i2) := Option.some.inj ei2
  obtain ⟨i3, ei3⟩ := is_v ga3
  obtain rfl : w3 = (.int i3) := Option.some.inj ei3
  obtain ⟨i4, ei4⟩ := is_v ga4
  obtain rfl : w4 = (.int i4) := Option.some.inj ei4
  have n5 := not_v (Cond.before_iff.mp (hsets _ (List.mem_of_getElem? (i := 2) rfl)))
  obtain ⟨zc, ezc⟩ := is_v (Cond.before_iff.mp (hsets _ (List.mem_of_getElem? (i := 1) rfl)))
  have Szc : Sta s s.heap "java/lang/String" "COMPACT_STRINGS" "Z" (.int zc) := Sta.start ezc (Or.inl (hsets _ (List.mem_of_getElem? (i := 0) rfl)))
  have hzc : ¬ (zc = (0 : Int32)) := gotF (Cond.eq_ints ezc (Term.int_eval (0))) n5
  have hn := hnarrow
  obtain ⟨c0, hn⟩ := and_e hn
  obtain ⟨c1, hn⟩ := and_e hn
  obtain ⟨c2, hn⟩ := and_e hn
  obtain ⟨c3, hn⟩ := and_e hn
  obtain ⟨c4, hn⟩ := and_e hn
  obtain ⟨c5, hn⟩ := and_e hn
  obtain ⟨c6, hn⟩ := and_e hn
  obtain ⟨c7, hn⟩ := and_e hn
  obtain ⟨c8, hn⟩ := and_e hn
  obtain ⟨c9, hn⟩ := and_e hn
  obtain ⟨c10, hn⟩ := and_e hn
  obtain ⟨c11, hn⟩ := and_e hn
  obtain ⟨c12, hn⟩ := and_e hn
  obtain ⟨c13, hn⟩ := and_e hn
  obtain ⟨c14, hn⟩ := and_e hn
  obtain ⟨c15, hn⟩ := and_e hn
  obtain ⟨c16, hn⟩ := and_e hn
  obtain ⟨c17, hn⟩ := and_e hn
  obtain ⟨c18, hn⟩ := and_e hn
  obtain ⟨c19, hn⟩ := and_e hn
  obtain ⟨c20, hn⟩ := and_e hn
  obtain ⟨c21, hn⟩ := and_e hn
  obtain ⟨c22, hn⟩ := and_e hn
  obtain ⟨c23, hn⟩ := and_e hn
  obtain ⟨c24, hn⟩ := and_e hn
  obtain ⟨c25, hn⟩ := and_e hn
  obtain ⟨c26, hn⟩ := and_e hn
  obtain ⟨c27, hn⟩ := and_e hn
  obtain ⟨c28, hn⟩ := and_e hn
  obtain ⟨c29, hn⟩ := and_e hn
  obtain ⟨c30, hn⟩ := and_e hn
  obtain ⟨c31, hn⟩ := and_e hn
  obtain ⟨c32, hn⟩ := and_e hn
  obtain ⟨c33, hn⟩ := and_e hn
  obtain ⟨c34, hn⟩ := and_e hn
  obtain ⟨c35, hn⟩ := and_e hn
  obtain ⟨c36, hn⟩ := and_e hn
  obtain ⟨c37, hn⟩ := and_e hn
  obtain ⟨c38, hn⟩ := and_e hn
  obtain ⟨c39, hn⟩ := and_e hn
  obtain ⟨c40, hn⟩ := and_e hn
  obtain ⟨c41, hn⟩ := and_e hn
  obtain ⟨c42, hn⟩ := and_e hn
  obtain ⟨c43, hn⟩ := and_e hn
  obtain ⟨c44, hn⟩ := and_e hn
  obtain ⟨c45, hn⟩ := and_e hn
  obtain ⟨c46, hn⟩ := and_e hn
  obtain ⟨c47, hn⟩ := and_e hn
  obtain ⟨c48, hn⟩ := and_e hn
  obtain ⟨c49, hn⟩ := and_e hn
  obtain ⟨c50, hn⟩ := and_e hn
  obtain ⟨c51, hn⟩ := and_e hn
  obtain ⟨c52, hn⟩ := and_e hn
  obtain ⟨c53, hn⟩ := and_e hn
  obtain ⟨c54, hn⟩ := and_e hn
  obtain ⟨c55, hn⟩ := and_e hn
  obtain ⟨c56, hn⟩ := and_e hn
  obtain ⟨c57, hn⟩ := and_e hn
  have c58 := hn
  obtain ⟨eT, evT, XxT⟩ := exa_start c3
  obtain ⟨sT, esT, XST⟩ := exa_start c11
  have LT := fld_start evT esT
  have coT := fld_start esT (eq_start c12)
  obtain ⟨bT, ebT⟩ := ref_of_arr c13
  have vaT := fld_start esT ebT
  have avT : Av s s.heap bT .byte ([(116 : Int32), (114 : Int32), (101 : Int32), (101 : Int32)].map Value.int) := av_start hfit ebT c13 (eq_start c14) rfl (by decide) ⟨eq_start c15, eq_start c16, eq_start c17, eq_start c18, trivial⟩
  have TT : St s s.heap sT bT [(116 : Int32), (114 : Int32), (101 : Int32), (101 : Int32)] := ⟨XST, coT, vaT, avT⟩
  have QT : Sta s s.heap "com/example/proofs_for_datalog/proofsfordatalog/input/ProofFormat" "TREE" "Lcom/example/proofs_for_datalog/proofsfordatalog/input/ProofFormat;" (.ref eT) := Sta.start evT (Or.inr ⟨(w36 hw), (w50 hw)⟩)
  obtain ⟨eG, evG, XxG⟩ := exa_start c5
  obtain ⟨sG, esG, XSG⟩ := exa_start c19
  have LG := fld_start evG esG
  have coG := fld_start esG (eq_start c20)
  obtain ⟨bG, ebG⟩ := ref_of_arr c21
  have vaG := fld_start esG ebG
  have avG : Av s s.heap bG .byte ([(103 : Int32), (114 : Int32), (97 : Int32), (112 : Int32), (104 : Int32)].map Value.int) := av_start hfit ebG c21 (eq_start c22) rfl (by decide) ⟨eq_start c31, eq_start c32, eq_start c33, eq_start c34, eq_start c35, trivial⟩
  have TG : St s s.heap sG bG [(103 : Int32), (114 : Int32), (97 : Int32), (112 : Int32), (104 : Int32)] := ⟨XSG, coG, vaG, avG⟩
  have QG : Sta s s.heap "com/example/proofs_for_datalog/proofsfordatalog/input/ProofFormat" "GRAPH" "Lcom/example/proofs_for_datalog/proofsfordatalog/input/ProofFormat;" (.ref eG) := Sta.start evG (Or.inr ⟨(w36 hw), (w51 hw)⟩)
  obtain ⟨eO, evO, XxO⟩ := exa_start c7
  obtain ⟨sO, esO, XSO⟩ := exa_start c23
  have LO := fld_start evO esO
  have coO := fld_start esO (eq_start c24)
  obtain ⟨bO, ebO⟩ := ref_of_arr c25
  have vaO := fld_start esO ebO
  have avO : Av s s.heap bO .byte ([(111 : Int32), (114 : Int32), (100 : Int32), (101 : Int32), (114 : Int32), (101 : Int32), (100 : Int32), (45 : Int32), (103 : Int32), (114 : Int32), (97 : Int32), (112 : Int32), (104 : Int32)].map Value.int) := av_start hfit ebO c25 (eq_start c26) rfl (by decide) ⟨eq_start c36, eq_start c37, eq_start c38, eq_start c39, eq_start c40, eq_start c41, eq_start c42, eq_start c43, eq_start c44, eq_start c45, eq_start c46, eq_start c47, eq_start c48, trivial⟩
  have TO : St s s.heap sO bO [(111 : Int32), (114 : Int32), (100 : Int32), (101 : Int32), (114 : Int32), (101 : Int32), (100 : Int32), (45 : Int32), (103 : Int32), (114 : Int32), (97 : Int32), (112 : Int32), (104 : Int32)] := ⟨XSO, coO, vaO, avO⟩
  have QO : Sta s s.heap "com/example/proofs_for_datalog/proofsfordatalog/input/ProofFormat" "ORDERED_GRAPH" "Lcom/example/proofs_for_datalog/proofsfordatalog/input/ProofFormat;" (.ref eO) := Sta.start evO (Or.inr ⟨(w36 hw), (w52 hw)⟩)
  obtain ⟨eN, evN, XxN⟩ := exa_start c9
  obtain ⟨sN, esN, XSN⟩ := exa_start c27
  have LN := fld_start evN esN
  have coN := fld_start esN (eq_start c28)
  obtain ⟨bN, ebN⟩ := ref_of_arr c29
  have vaN := fld_start esN ebN
  have avN : Av s s.heap bN .byte ([(110 : Int32), (101 : Int32), (109 : Int32), (111 : Int32), (45 : Int32), (116 : Int32), (114 : Int32), (97 : Int32), (99 : Int32), (101 : Int32)].map Value.int) := av_start hfit ebN c29 (eq_start c30) rfl (by decide) ⟨eq_start c49, eq_start c50, eq_start c51, eq_start c52, eq_start c53, eq_start c54, eq_start c55, eq_start c56, eq_start c57, eq_start c58, trivial⟩
  have TN : St s s.heap sN bN [(110 : Int32), (101 : Int32), (109 : Int32), (111 : Int32), (45 : Int32), (116 : Int32), (114 : Int32), (97 : Int32), (99 : Int32), (101 : Int32)] := ⟨XSN, coN, vaN, avN⟩
  have QN : Sta s s.heap "com/example/proofs_for_datalog/proofsfordatalog/input/ProofFormat" "NEMO_TRACE" "Lcom/example/proofs_for_datalog/proofsfordatalog/input/ProofFormat;" (.ref eN) := Sta.start evN (Or.inr ⟨(w36 hw), (w53 hw)⟩)
  obtain ⟨arr, earr, AX⟩ := exa_start c1
  have AR : Av s s.heap arr (.object "com/example/proofs_for_datalog/proofsfordatalog/input/ProofFormat") [(.ref eT), (.ref eG), (.ref eO), (.ref eN)] := av_start hfit earr c0 (eq_start c2) rfl (Nat.le_of_ble_eq_true rfl) ⟨eqR_start c4 evT, eqR_start c6 evG, eqR_start c8 evO, eqR_start c10 evN, trivial⟩
  have SA : Sta s s.heap "com/example/proofs_for_datalog/proofsfordatalog/input/ProofFormat" "$VALUES" "[Lcom/example/proofs_for_datalog/proofsfordatalog/input/ProofFormat;" (.ref arr) := Sta.start earr (Or.inr ⟨(w36 hw), (w42 hw)⟩)
  obtain ⟨n, o, k1, k2, k3, v, L, so, rfl, hQ, N, -, -, hnw, hq⟩ := rm0 l s _ hw s.heap.size s.heap i0 i1 i2 i3 i4 eT eG eO eN sT bT sG bG sO bO sN bN arr zc XxT LT TT XxG LG TG XxO LO TO XxN LN TN AR AX SA Szc hzc QT QG QO QN tables_1 p e ha hc hk s m _ below hf ((Spec.applies_iff_loose hf).mp happ).1 ⟨rfl, State.Warmed39.refl s, rfl, (CHv.start (own_EW hw) (fun p hp => hcalls.1 p hp) (hsets _ (List.mem_of_getElem? (i := 2) rfl)) (w23 hw) (w1 hw)), Nat.le_refl _, own_EW hw, fun x hx => nomatch hx⟩ trivial
  subst hQ
  refine ⟨n, _, k1, k2, k3, hpost _ _ _ _ _ _ ⟨Cond.after_iff.mpr rfl, Cond.after_iff.mpr (eq_i res_at (Term.int_eval (1)) rfl), trivial⟩ ⟨hq.1, hq.2.1, hq.2.2.1, (hq.2.2.2.sift fun y hy => Or.inr (N y hy)).mono (by decide) (by decide)⟩⟩
theorem main_1_1 : Claimed_1_1 := comes_1 fun _ _ _ _ _ _ h hF => ⟨h.1, hF⟩
theorem main_1_2 : Claimed_1_2 := comes_1 fun _ _ _ _ _ _ h hF => ⟨h.2.1, hF⟩
end Jvm.Pilot.@@N@@
namespace Jvm.Pilot.@@N@@
open Jvm Jvm.ClassFile Sem Op Lib Jvm.Free Jvm.Stand Jvm.Pilot.@@N@@.Jvm.D
/-! MADE BY PROGRAM (witnessworld.py) out of the Statement's table words and the real class files: 22 classes; the members and pool entries that the words name. The judged class is class 1, her method 1. -/
namespace start1
open Jvm.ClassFile
def u (s : String) : CpInfo := .utf8 (stringToUtf16 s)
/-- a pool by its gaps: so many unusable entries, then the entry; so many at the end -/
def gap : Nat → List CpInfo → List CpInfo
  | 0, r => r
  | n + 1, r => .unusable :: gap n r
def poolList (es : List (Nat × CpInfo)) (last : Nat) : List CpInfo := es.foldr (fun e r => gap e.1 (e.2 :: r)) (gap last [])
def pool (es : List (Nat × CpInfo)) (last : Nat) : Array CpInfo := ⟨poolList es last⟩
def fileOf (pool : Array CpInfo) (this : Nat) (attrs : Array Attribute := #[]) (ms : Array MethodInfo := #[]) (fl : Nat := 33) (sup : Nat := 0) (ifs : Array Nat := #[]) (fds : Array FieldInfo := #[]) : ClassFile where
  minorVersion := 0
  majorVersion := 65
  constantPool := pool
  accessFlags := fl
  thisClass := this
  superClass := sup
  interfaces := ifs
  fields := fds
  methods := ms
  attributes := attrs
def plain (name : String) (sup : Option ClassId) : Class where
  name := name
  kind := .ordinary
  loader := none
  accessFlags := 33
  super := sup
  interfaces := #[]
  cf := none
  fields := #[]
  methods := #[]
  instanceTypes := #[]
  staticTypes := #[]
  resolved := #[]
  callSites := []
  init := .initialized
  statics := none
  mirror := none

def pool0 : Array CpInfo := pool [(5, u "<init>"), (0, u "()V"), (1, .class_ 10), (1, u "java/lang/Object"), (85, u "clone"), (0, u "()Ljava/lang/Object;")] 26

def k0c0 : Code := { maxStack := 0, maxLocals := 1, code := object_method_1_code, exceptionTable := #[], attributes := #[] }
def k0m0 : Method := { name := "<init>", desc := "()V", sig := { parameters := [], returnType := none }, accessFlags := 1, code := some k0c0 }
def k0m1 : Method := { name := "clone", desc := "()Ljava/lang/Object;", sig := { parameters := [], returnType := some (.object "java/lang/Object") }, accessFlags := 260, code := none }
/-- java/lang/Object -/
def k0 : Class := { plain "java/lang/Object" none with
  accessFlags := 33
  interfaces := #[]
  cf := some (fileOf pool0 8 #[] #[{ accessFlags := 1, nameIndex := 5, descriptorIndex := 6, attributes := #[] }, { accessFlags := 260, nameIndex := 96, descriptorIndex := 97, attributes := #[] }] 33 0 #[] #[])
  fields := #[]
  methods := #[k0m0, k0m1]
  instanceTypes := #[]
  staticTypes := #[]
  resolved := Array.replicate 124 none
  statics := none }

def pool1 : Array CpInfo := pool [(2, .class_ 4), (1, u "java/lang/Object"), (0, u "<init>"), (0, u "()V"), (0, .class_ 8), (0, u "java/lang/String"), (0, .methodref 10 11), (0, .class_ 12), (0, .nameAndType 13 14), (0, u "com/example/proofs_for_datalog/proofsfordatalog/input/ProofFormatNamedPinLaw"), (0, u "base"), (0, u "(I)[C"), (0, .methodref 7 16), (0, .nameAndType 5 17), (0, u "([C)V"), (0, .integer 2147483647), (0, .methodref 10 20), (0, .nameAndType 21 22), (0, u "longer"), (0, u "(IC)[C"), (0, .methodref 10 24), (0, .nameAndType 25 14), (0, u "shorter"), (0, .methodref 10 27), (0, .nameAndType 28 29), (0, u "drawn"), (0, u "(III)[C"), (0, .methodref 31 32), (0, .class_ 33), (0, .nameAndType 34 35), (0, u "com/example/proofs_for_datalog/proofsfordatalog/input/ProofFormat"), (0, u "named"), (0, u "(Ljava/lang/String;)Lcom/example/proofs_for_datalog/proofsfordatalog/input/ProofFormat;"), (0, .methodref 10 37), (0, .nameAndType 38 35), (0, u "ref"), (0, .string 40), (0, u "tree"), (0, .methodref 7 42), (0, .nameAndType 43 44), (0, u "equals"), (0, u "(Ljava/lang/Object;)Z"), (0, .fieldref 31 46), (0, .nameAndType 47 48), (0, u "TREE"), (0, u "Lcom/example/proofs_for_datalog/proofsfordatalog/input/ProofFormat;"), (0, .string 50), (0, u "graph"), (0, .fieldref 31 52), (0, .nameAndType 53 48), (0, u "GRAPH"), (0, .string 55), (0, u "ordered-graph"), (0, .fieldref 31 57), (0, .nameAndType 58 48), (0, u "ORDERED_GRAPH"), (0, .string 60), (0, u "nemo-trace"), (0, .fieldref 31 62), (0, .nameAndType 63 48), (0, u "NEMO_TRACE"), (2, u "law"), (0, u "(IIIII)Z")] 3

def k1m0 : Method := { name := "<init>", desc := "()V", sig := { parameters := [], returnType := none }, accessFlags := 1, code := none }
def k1c1 : Code := { maxStack := 5, maxLocals := 10, code := code, exceptionTable := #[], attributes := #[] }
def k1m1 : Method := { name := "law", desc := "(IIIII)Z", sig := { parameters := [.int, .int, .int, .int, .int], returnType := some .boolean }, accessFlags := 9, code := some k1c1 }
def k1c2 : Code := { maxStack := 2, maxLocals := 1, code := method_3_code, exceptionTable := #[], attributes := #[] }
def k1m2 : Method := { name := "ref", desc := "(Ljava/lang/String;)Lcom/example/proofs_for_datalog/proofsfordatalog/input/ProofFormat;", sig := { parameters := [(.object "java/lang/String")], returnType := some (.object "com/example/proofs_for_datalog/proofsfordatalog/input/ProofFormat") }, accessFlags := 10, code := some k1c2 }
def k1c3 : Code := { maxStack := 4, maxLocals := 1, code := method_4_code, exceptionTable := #[], attributes := #[] }
def k1m3 : Method := { name := "base", desc := "(I)[C", sig := { parameters := [.int], returnType := some (.array .char) }, accessFlags := 10, code := some k1c3 }
def k1c4 : Code := { maxStack := 4, maxLocals := 2, code := method_5_code, exceptionTable := #[], attributes := #[] }
def k1m4 : Method := { name := "longer", desc := "(IC)[C", sig := { parameters := [.int, .char], returnType := some (.array .char) }, accessFlags := 10, code := some k1c4 }
def k1c5 : Code := { maxStack := 4, maxLocals := 1, code := method_6_code, exceptionTable := #[], attributes := #[] }
def k1m5 : Method := { name := "shorter", desc := "(I)[C", sig := { parameters := [.int], returnType := some (.array .char) }, accessFlags := 10, code := some k1c5 }
def k1c6 : Code := { maxStack := 4, maxLocals := 9, code := method_7_code, exceptionTable := #[], attributes := #[] }
def k1m6 : Method := { name := "drawn", desc := "(III)[C", sig := { parameters := [.int, .int, .int], returnType := some (.array .char) }, accessFlags := 10, code := some k1c6 }
/-- com/example/proofs_for_datalog/proofsfordatalog/input/ProofFormatNamedPinLaw -/
def k1 : Class := { plain "com/example/proofs_for_datalog/proofsfordatalog/input/ProofFormatNamedPinLaw" (some 0) with
  accessFlags := 49
  interfaces := #[]
  cf := some (fileOf pool1 10 #[] #[{ accessFlags := 1, nameIndex := 5, descriptorIndex := 6, attributes := #[] }, { accessFlags := 9, nameIndex := 66, descriptorIndex := 67, attributes := #[] }, { accessFlags := 10, nameIndex := 38, descriptorIndex := 35, attributes := #[] }, { accessFlags := 10, nameIndex := 13, descriptorIndex := 14, attributes := #[] }, { accessFlags := 10, nameIndex := 21, descriptorIndex := 22, attributes := #[] }, { accessFlags := 10, nameIndex := 25, descriptorIndex := 14, attributes := #[] }, { accessFlags := 10, nameIndex := 28, descriptorIndex := 29, attributes := #[] }] 49 2 #[] #[])
  fields := #[]
  methods := #[k1m0, k1m1, k1m2, k1m3, k1m4, k1m5, k1m6]
  instanceTypes := #[]
  staticTypes := #[]
  resolved := Array.replicate 71 none
  statics := none }

def pool2 : Array CpInfo := pool [(1, .class_ 2), (0, u "java/io/Serializable"), (0, .class_ 4), (0, u "java/lang/Object")] 2

/-- java/io/Serializable -/
def k2 : Class := { plain "java/io/Serializable" (some 0) with
  accessFlags := 1537
  interfaces := #[]
  cf := some (fileOf pool2 1 #[] #[] 1537 3 #[] #[])
  fields := #[]
  methods := #[]
  instanceTypes := #[]
  staticTypes := #[]
  resolved := Array.replicate 7 none
  statics := none }

def pool3 : Array CpInfo := pool [(1, .class_ 2), (0, u "java/lang/Comparable"), (0, .class_ 4), (0, u "java/lang/Object")] 7

/-- java/lang/Comparable -/
def k3 : Class := { plain "java/lang/Comparable" (some 0) with
  accessFlags := 1537
  interfaces := #[]
  cf := some (fileOf pool3 1 #[] #[] 1537 3 #[] #[])
  fields := #[]
  methods := #[]
  instanceTypes := #[]
  staticTypes := #[]
  resolved := Array.replicate 12 none
  statics := none }

def pool4 : Array CpInfo := pool [(2, .class_ 4), (1, u "java/lang/CharSequence"), (42, .class_ 48), (0, u "java/lang/CharSequence$1CodePointIterator"), (10, .class_ 60), (0, u "java/lang/CharSequence$1CharIterator"), (5, .class_ 67), (0, u "java/lang/Object")] 63

/-- java/lang/CharSequence -/
def k4 : Class := { plain "java/lang/CharSequence" (some 0) with
  accessFlags := 1537
  interfaces := #[]
  cf := some (fileOf pool4 2 #[.nestMembers #[47, 59]] #[] 1537 66 #[] #[])
  fields := #[]
  methods := #[]
  instanceTypes := #[]
  staticTypes := #[]
  resolved := Array.replicate 131 none
  statics := none }

def pool5 : Array CpInfo := pool [(1, .class_ 2), (0, u "java/lang/constant/Constable"), (0, .class_ 4), (0, u "java/lang/Object")] 6

/-- java/lang/constant/Constable -/
def k5 : Class := { plain "java/lang/constant/Constable" (some 0) with
  accessFlags := 1537
  interfaces := #[]
  cf := some (fileOf pool5 1 #[] #[] 1537 3 #[] #[])
  fields := #[]
  methods := #[]
  instanceTypes := #[]
  staticTypes := #[]
  resolved := Array.replicate 11 none
  statics := none }

def pool6 : Array CpInfo := pool [(1, .class_ 2), (0, u "java/lang/constant/ConstantDesc"), (0, .class_ 4), (0, u "java/lang/Object")] 32

/-- java/lang/constant/ConstantDesc -/
def k6 : Class := { plain "java/lang/constant/ConstantDesc" (some 0) with
  accessFlags := 1537
  interfaces := #[]
  cf := some (fileOf pool6 1 #[] #[] 1537 3 #[] #[])
  fields := #[]
  methods := #[]
  instanceTypes := #[]
  staticTypes := #[]
  resolved := Array.replicate 37 none
  statics := none }

def pool7 : Array CpInfo := pool [(1, .methodref 2 3), (0, .class_ 4), (0, .nameAndType 5 6), (0, u "java/lang/Object"), (0, u "<init>"), (0, u "()V"), (0, .string 8), (0, u ""), (0, .fieldref 10 11), (0, .class_ 12), (0, .nameAndType 13 14), (0, u "java/lang/String"), (0, u "value"), (0, u "[B"), (0, .fieldref 10 16), (0, .nameAndType 17 18), (0, u "coder"), (0, u "B"), (2, u "hash"), (0, u "I"), (2, u "hashIsZero"), (0, u "Z"), (0, .methodref 10 28), (0, .nameAndType 5 29), (0, u "([CIILjava/lang/Void;)V"), (8, .fieldref 10 39), (0, .nameAndType 40 26), (0, u "COMPACT_STRINGS"), (1, .class_ 44), (1, u "java/lang/StringUTF16"), (0, u "compress"), (1, .methodref 42 48), (0, .nameAndType 49 50), (0, u "coderFromArrayLen"), (0, u "([BI)B"), (56, .class_ 109), (1, u "java/lang/StringLatin1"), (67, .methodref 42 178), (0, .nameAndType 45 179), (0, u "([CII)[B"), (361, .methodref 107 542), (0, .nameAndType 543 544), (0, u "equals"), (0, u "([B[B)Z"), (28, u "(Ljava/lang/Object;)Z"), (1, .class_ 576), (0, u "java/lang/CharSequence"), (22, u "CASE_INSENSITIVE_ORDER"), (0, u "Ljava/util/Comparator;"), (409, u "([C)V"), (90, u "serialPersistentFields"), (0, u "[Ljava/io/ObjectStreamField;"), (0, .class_ 1104), (0, u "java/lang/String$CaseInsensitiveComparator"), (1, .class_ 1107), (0, u "java/io/Serializable"), (0, .class_ 1109), (0, u "java/lang/Comparable"), (0, .class_ 1111), (0, u "java/lang/constant/Constable"), (0, .class_ 1113), (0, u "java/lang/constant/ConstantDesc"), (2, u "serialVersionUID"), (0, u "J"), (3, u "REPL"), (0, u "C"), (2, u "LATIN1"), (1, u "UTF16")] 323

def k7m0 : Method := { name := "<init>", desc := "()V", sig := { parameters := [], returnType := none }, accessFlags := 1, code := none }
def k7c1 : Code := { maxStack := 5, maxLocals := 2, code := jdk_42_method_3_code, exceptionTable := #[], attributes := #[] }
def k7m1 : Method := { name := "<init>", desc := "([C)V", sig := { parameters := [(.array .char)], returnType := none }, accessFlags := 1, code := some k7c1 }
def k7c2 : Code := { maxStack := 2, maxLocals := 3, code := jdk_42_method_66_code, exceptionTable := #[], attributes := #[] }
def k7m2 : Method := { name := "equals", desc := "(Ljava/lang/Object;)Z", sig := { parameters := [(.object "java/lang/Object")], returnType := some .boolean }, accessFlags := 1, code := some k7c2 }
def k7c3 : Code := { maxStack := 4, maxLocals := 6, code := jdk_42_method_149_code, exceptionTable := #[], attributes := #[] }
def k7m3 : Method := { name := "<init>", desc := "([CIILjava/lang/Void;)V", sig := { parameters := [(.array .char), .int, .int, (.object "java/lang/Void")], returnType := none }, accessFlags := 2, code := some k7c3 }
/-- java/lang/String -/
def k7 : Class := { plain "java/lang/String" (some 0) with
  accessFlags := 49
  interfaces := #[2, 3, 4, 5, 6]
  cf := some (fileOf pool7 10 #[.nestMembers #[1103]] #[{ accessFlags := 1, nameIndex := 5, descriptorIndex := 6, attributes := #[] }, { accessFlags := 1, nameIndex := 5, descriptorIndex := 1010, attributes := #[] }, { accessFlags := 1, nameIndex := 543, descriptorIndex := 573, attributes := #[] }, { accessFlags := 2, nameIndex := 5, descriptorIndex := 29, attributes := #[] }] 49 2 #[1106, 1108, 575, 1110, 1112] #[{ accessFlags := 18, nameIndex := 13, descriptorIndex := 14, attributes := #[] }, { accessFlags := 18, nameIndex := 17, descriptorIndex := 18, attributes := #[] }, { accessFlags := 2, nameIndex := 21, descriptorIndex := 22, attributes := #[] }, { accessFlags := 2, nameIndex := 25, descriptorIndex := 26, attributes := #[] }, { accessFlags := 26, nameIndex := 1116, descriptorIndex := 1117, attributes := #[] }, { accessFlags := 24, nameIndex := 40, descriptorIndex := 26, attributes := #[] }, { accessFlags := 26, nameIndex := 1101, descriptorIndex := 1102, attributes := #[] }, { accessFlags := 26, nameIndex := 1121, descriptorIndex := 1122, attributes := #[] }, { accessFlags := 25, nameIndex := 599, descriptorIndex := 600, attributes := #[] }, { accessFlags := 24, nameIndex := 1125, descriptorIndex := 18, attributes := #[] }, { accessFlags := 24, nameIndex := 1127, descriptorIndex := 18, attributes := #[] }])
  fields := #[{ name := "value", type := (.array .byte), accessFlags := 18, slot := 0, constantValue := 0 }, { name := "coder", type := .byte, accessFlags := 18, slot := 1, constantValue := 0 }, { name := "hash", type := .int, accessFlags := 2, slot := 2, constantValue := 0 }, { name := "hashIsZero", type := .boolean, accessFlags := 2, slot := 3, constantValue := 0 }, { name := "serialVersionUID", type := .long, accessFlags := 26, slot := 0, constantValue := 0 }, { name := "COMPACT_STRINGS", type := .boolean, accessFlags := 24, slot := 1, constantValue := 0 }, { name := "serialPersistentFields", type := (.array (.object "java/io/ObjectStreamField")), accessFlags := 26, slot := 2, constantValue := 0 }, { name := "REPL", type := .char, accessFlags := 26, slot := 3, constantValue := 0 }, { name := "CASE_INSENSITIVE_ORDER", type := (.object "java/util/Comparator"), accessFlags := 25, slot := 4, constantValue := 0 }, { name := "LATIN1", type := .byte, accessFlags := 24, slot := 5, constantValue := 0 }, { name := "UTF16", type := .byte, accessFlags := 24, slot := 6, constantValue := 0 }]
  methods := #[k7m0, k7m1, k7m2, k7m3]
  instanceTypes := #[(.array .byte), .byte, .int, .boolean]
  staticTypes := #[.long, .boolean, (.array (.object "java/io/ObjectStreamField")), .char, (.object "java/util/Comparator"), .byte, .byte]
  resolved := Array.replicate 1451 none
  statics := some 0 }

def pool8 : Array CpInfo := pool [(6, .class_ 8), (1, u "java/lang/Object"), (0, u "<init>"), (0, u "()V"), (1, .class_ 14), (1, u "java/lang/StringUTF16"), (31, u "$assertionsDisabled"), (0, u "Z"), (13, u "HI_BYTE_SHIFT"), (0, u "I"), (2, u "LO_BYTE_SHIFT"), (49, .methodref 12 116), (0, .nameAndType 117 118), (0, u "compress"), (0, u "([CI[BII)I"), (3, u "([CII)[B"), (138, u "coderFromArrayLen"), (0, u "([BI)B"), (106, .class_ 371), (1, u "java/lang/StringUTF16$LinesSpliterator"), (58, u "MAX_LENGTH"), (196, .class_ 628), (0, u "java/lang/StringUTF16$CodePointsSpliterator"), (0, .class_ 630), (0, u "java/lang/StringUTF16$CharsSpliterator")] 4

def k8m0 : Method := { name := "<init>", desc := "()V", sig := { parameters := [], returnType := none }, accessFlags := 0, code := none }
def k8c1 : Code := { maxStack := 2, maxLocals := 2, code := jdk_52_method_15_code, exceptionTable := #[], attributes := #[] }
def k8m1 : Method := { name := "coderFromArrayLen", desc := "([BI)B", sig := { parameters := [(.array .byte), .int], returnType := some .byte }, accessFlags := 8, code := some k8c1 }
def k8c2 : Code := { maxStack := 5, maxLocals := 6, code := jdk_52_method_16_code, exceptionTable := #[], attributes := #[] }
def k8m2 : Method := { name := "compress", desc := "([CII)[B", sig := { parameters := [(.array .char), .int, .int], returnType := some (.array .byte) }, accessFlags := 9, code := some k8c2 }
def k8c3 : Code := { maxStack := 3, maxLocals := 7, code := jdk_52_method_21_code, exceptionTable := #[], attributes := #[] }
def k8m3 : Method := { name := "compress", desc := "([CI[BII)I", sig := { parameters := [(.array .char), .int, (.array .byte), .int, .int], returnType := some .int }, accessFlags := 9, code := some k8c3 }
/-- java/lang/StringUTF16 -/
def k8 : Class := { plain "java/lang/StringUTF16" (some 0) with
  accessFlags := 48
  interfaces := #[]
  cf := some (fileOf pool8 12 #[.nestMembers #[627, 629, 369]] #[{ accessFlags := 0, nameIndex := 9, descriptorIndex := 10, attributes := #[] }, { accessFlags := 8, nameIndex := 261, descriptorIndex := 262, attributes := #[] }, { accessFlags := 9, nameIndex := 117, descriptorIndex := 122, attributes := #[] }, { accessFlags := 9, nameIndex := 117, descriptorIndex := 118, attributes := #[] }] 48 6 #[] #[{ accessFlags := 26, nameIndex := 61, descriptorIndex := 62, attributes := #[] }, { accessFlags := 26, nameIndex := 65, descriptorIndex := 62, attributes := #[] }, { accessFlags := 24, nameIndex := 430, descriptorIndex := 62, attributes := #[] }, { accessFlags := 4120, nameIndex := 46, descriptorIndex := 47, attributes := #[] }])
  fields := #[{ name := "HI_BYTE_SHIFT", type := .int, accessFlags := 26, slot := 0, constantValue := 0 }, { name := "LO_BYTE_SHIFT", type := .int, accessFlags := 26, slot := 1, constantValue := 0 }, { name := "MAX_LENGTH", type := .int, accessFlags := 24, slot := 2, constantValue := 0 }, { name := "$assertionsDisabled", type := .boolean, accessFlags := 4120, slot := 3, constantValue := 0 }]
  methods := #[k8m0, k8m1, k8m2, k8m3]
  instanceTypes := #[]
  staticTypes := #[.int, .int, .int, .boolean]
  resolved := Array.replicate 635 none
  statics := none }

def pool9 : Array CpInfo := pool [(2, .class_ 4), (1, u "java/lang/Enum"), (0, u "name"), (0, u "Ljava/lang/String;"), (2, u "ordinal"), (0, u "I"), (1, .class_ 14), (1, u "java/lang/Object"), (4, u "hash"), (86, .class_ 108), (1, u "java/lang/Enum$EnumDesc"), (2, .class_ 112), (0, u "java/lang/constant/Constable"), (0, .class_ 114), (0, u "java/lang/Comparable"), (0, .class_ 116), (0, u "java/io/Serializable")] 87

/-- java/lang/Enum -/
def k9 : Class := { plain "java/lang/Enum" (some 0) with
  accessFlags := 1057
  interfaces := #[5, 3, 2]
  cf := some (fileOf pool9 2 #[.nestMembers #[106]] #[] 1057 12 #[111, 113, 115] #[{ accessFlags := 18, nameIndex := 5, descriptorIndex := 6, attributes := #[] }, { accessFlags := 18, nameIndex := 9, descriptorIndex := 10, attributes := #[] }, { accessFlags := 2, nameIndex := 19, descriptorIndex := 10, attributes := #[] }])
  fields := #[{ name := "name", type := (.object "java/lang/String"), accessFlags := 18, slot := 0, constantValue := 0 }, { name := "ordinal", type := .int, accessFlags := 18, slot := 1, constantValue := 0 }, { name := "hash", type := .int, accessFlags := 2, slot := 2, constantValue := 0 }]
  methods := #[]
  instanceTypes := #[(.object "java/lang/String"), .int, .int]
  staticTypes := #[]
  resolved := Array.replicate 204 none
  statics := none }

def pool10 : Array CpInfo := pool [(1, .class_ 2), (0, u "com/example/proofs_for_datalog/proofsfordatalog/input/ProofFormat"), (2, u "TREE"), (0, u "Lcom/example/proofs_for_datalog/proofsfordatalog/input/ProofFormat;"), (2, u "GRAPH"), (2, u "ORDERED_GRAPH"), (2, u "NEMO_TRACE"), (0, .fieldref 1 17), (0, .nameAndType 18 19), (0, u "$VALUES"), (0, u "[Lcom/example/proofs_for_datalog/proofsfordatalog/input/ProofFormat;"), (0, .methodref 21 22), (0, .class_ 19), (0, .nameAndType 23 24), (0, u "clone"), (0, u "()Ljava/lang/Object;"), (1, .class_ 28), (1, u "java/lang/Enum"), (6, .fieldref 1 36), (0, .nameAndType 37 38), (0, u "id"), (0, u "Ljava/lang/String;"), (2, u "key"), (2, u "file"), (0, .methodref 1 46), (0, .nameAndType 47 48), (0, u "values"), (0, u "()[Lcom/example/proofs_for_datalog/proofsfordatalog/input/ProofFormat;"), (0, .methodref 50 51), (0, .class_ 52), (0, .nameAndType 53 54), (0, u "java/lang/String"), (0, u "equals"), (0, u "(Ljava/lang/Object;)Z"), (30, u "(Ljava/lang/String;)Lcom/example/proofs_for_datalog/proofsfordatalog/input/ProofFormat;"), (4, u "named")] 7

def k10c0 : Code := { maxStack := 1, maxLocals := 0, code := prog_7_method_1_code, exceptionTable := #[], attributes := #[] }
def k10m0 : Method := { name := "values", desc := "()[Lcom/example/proofs_for_datalog/proofsfordatalog/input/ProofFormat;", sig := { parameters := [], returnType := some (.array (.object "com/example/proofs_for_datalog/proofsfordatalog/input/ProofFormat")) }, accessFlags := 9, code := some k10c0 }
def k10c1 : Code := { maxStack := 2, maxLocals := 5, code := prog_7_method_5_code, exceptionTable := #[], attributes := #[] }
def k10m1 : Method := { name := "named", desc := "(Ljava/lang/String;)Lcom/example/proofs_for_datalog/proofsfordatalog/input/ProofFormat;", sig := { parameters := [(.object "java/lang/String")], returnType := some (.object "com/example/proofs_for_datalog/proofsfordatalog/input/ProofFormat") }, accessFlags := 9, code := some k10c1 }
/-- com/example/proofs_for_datalog/proofsfordatalog/input/ProofFormat -/
def k10 : Class := { plain "com/example/proofs_for_datalog/proofsfordatalog/input/ProofFormat" (some 9) with
  accessFlags := 16433
  interfaces := #[]
  cf := some (fileOf pool10 1 #[] #[{ accessFlags := 9, nameIndex := 47, descriptorIndex := 48, attributes := #[] }, { accessFlags := 9, nameIndex := 90, descriptorIndex := 85, attributes := #[] }] 16433 26 #[] #[{ accessFlags := 16409, nameIndex := 5, descriptorIndex := 6, attributes := #[] }, { accessFlags := 16409, nameIndex := 9, descriptorIndex := 6, attributes := #[] }, { accessFlags := 16409, nameIndex := 12, descriptorIndex := 6, attributes := #[] }, { accessFlags := 16409, nameIndex := 15, descriptorIndex := 6, attributes := #[] }, { accessFlags := 18, nameIndex := 37, descriptorIndex := 38, attributes := #[] }, { accessFlags := 18, nameIndex := 41, descriptorIndex := 38, attributes := #[] }, { accessFlags := 18, nameIndex := 44, descriptorIndex := 38, attributes := #[] }, { accessFlags := 4122, nameIndex := 18, descriptorIndex := 19, attributes := #[] }])
  fields := #[{ name := "TREE", type := (.object "com/example/proofs_for_datalog/proofsfordatalog/input/ProofFormat"), accessFlags := 16409, slot := 0, constantValue := 0 }, { name := "GRAPH", type := (.object "com/example/proofs_for_datalog/proofsfordatalog/input/ProofFormat"), accessFlags := 16409, slot := 1, constantValue := 0 }, { name := "ORDERED_GRAPH", type := (.object "com/example/proofs_for_datalog/proofsfordatalog/input/ProofFormat"), accessFlags := 16409, slot := 2, constantValue := 0 }, { name := "NEMO_TRACE", type := (.object "com/example/proofs_for_datalog/proofsfordatalog/input/ProofFormat"), accessFlags := 16409, slot := 3, constantValue := 0 }, { name := "id", type := (.object "java/lang/String"), accessFlags := 18, slot := 3, constantValue := 0 }, { name := "key", type := (.object "java/lang/String"), accessFlags := 18, slot := 4, constantValue := 0 }, { name := "file", type := (.object "java/lang/String"), accessFlags := 18, slot := 5, constantValue := 0 }, { name := "$VALUES", type := (.array (.object "com/example/proofs_for_datalog/proofsfordatalog/input/ProofFormat")), accessFlags := 4122, slot := 4, constantValue := 0 }]
  methods := #[k10m0, k10m1]
  instanceTypes := #[(.object "java/lang/String"), .int, .int, (.object "java/lang/String"), (.object "java/lang/String"), (.object "java/lang/String")]
  staticTypes := #[(.object "com/example/proofs_for_datalog/proofsfordatalog/input/ProofFormat"), (.object "com/example/proofs_for_datalog/proofsfordatalog/input/ProofFormat"), (.object "com/example/proofs_for_datalog/proofsfordatalog/input/ProofFormat"), (.object "com/example/proofs_for_datalog/proofsfordatalog/input/ProofFormat"), (.array (.object "com/example/proofs_for_datalog/proofsfordatalog/input/ProofFormat"))]
  resolved := Array.replicate 98 none
  statics := some 1 }

def pool11 : Array CpInfo := pool [(1, .class_ 2), (0, u "java/lang/Cloneable"), (0, .class_ 4), (0, u "java/lang/Object")] 2

/-- java/lang/Cloneable -/
def k11 : Class := { plain "java/lang/Cloneable" (some 0) with
  accessFlags := 1537
  interfaces := #[]
  cf := some (fileOf pool11 1 #[] #[] 1537 3 #[] #[])
  fields := #[]
  methods := #[]
  instanceTypes := #[]
  staticTypes := #[]
  resolved := Array.replicate 7 none
  statics := none }

def pool12 : Array CpInfo := pool [(4, .class_ 6), (1, u "java/lang/Object"), (0, u "<init>"), (0, u "()V"), (5, .class_ 16), (1, u "java/lang/StringLatin1"), (104, u "$assertionsDisabled"), (0, u "Z"), (98, .class_ 223), (1, u "java/lang/StringLatin1$LinesSpliterator"), (57, u "equals"), (0, u "([B[B)Z"), (107, .class_ 391), (0, u "java/lang/StringLatin1$CharsSpliterator")] 3

def k12m0 : Method := { name := "<init>", desc := "()V", sig := { parameters := [], returnType := none }, accessFlags := 0, code := none }
def k12c1 : Code := { maxStack := 3, maxLocals := 3, code := jdk_43_method_13_code, exceptionTable := #[], attributes := #[] }
def k12m1 : Method := { name := "equals", desc := "([B[B)Z", sig := { parameters := [(.array .byte), (.array .byte)], returnType := some .boolean }, accessFlags := 9, code := some k12c1 }
/-- java/lang/StringLatin1 -/
def k12 : Class := { plain "java/lang/StringLatin1" (some 0) with
  accessFlags := 48
  interfaces := #[]
  cf := some (fileOf pool12 14 #[.nestMembers #[390, 221]] #[{ accessFlags := 0, nameIndex := 7, descriptorIndex := 8, attributes := #[] }, { accessFlags := 9, nameIndex := 281, descriptorIndex := 282, attributes := #[] }] 48 4 #[] #[{ accessFlags := 4120, nameIndex := 121, descriptorIndex := 122, attributes := #[] }])
  fields := #[{ name := "$assertionsDisabled", type := .boolean, accessFlags := 4120, slot := 0, constantValue := 0 }]
  methods := #[k12m0, k12m1]
  instanceTypes := #[]
  staticTypes := #[.boolean]
  resolved := Array.replicate 395 none
  statics := none }

def pool13 : Array CpInfo := pool [(2, .class_ 4), (1, u "java/lang/Object"), (0, u "<init>"), (0, u "()V"), (17, .class_ 26), (1, u "jdk/internal/util/Preconditions"), (28, .class_ 56), (0, u "jdk/internal/util/Preconditions$4"), (57, .class_ 115), (0, u "jdk/internal/util/Preconditions$1"), (7, u "SIOOBE_FORMATTER"), (0, u "Ljava/util/function/BiFunction;"), (0, .class_ 126), (0, u "jdk/internal/util/Preconditions$2"), (3, u "AIOOBE_FORMATTER"), (0, .class_ 132), (0, u "jdk/internal/util/Preconditions$3"), (3, u "IOOBE_FORMATTER")] 57

def k13m0 : Method := { name := "<init>", desc := "()V", sig := { parameters := [], returnType := none }, accessFlags := 1, code := none }
/-- jdk/internal/util/Preconditions -/
def k13 : Class := { plain "jdk/internal/util/Preconditions" (some 0) with
  accessFlags := 33
  interfaces := #[]
  cf := some (fileOf pool13 24 #[.nestMembers #[55, 131, 125, 114]] #[{ accessFlags := 1, nameIndex := 5, descriptorIndex := 6, attributes := #[] }] 33 2 #[] #[{ accessFlags := 25, nameIndex := 123, descriptorIndex := 124, attributes := #[] }, { accessFlags := 25, nameIndex := 130, descriptorIndex := 124, attributes := #[] }, { accessFlags := 25, nameIndex := 136, descriptorIndex := 124, attributes := #[] }])
  fields := #[{ name := "SIOOBE_FORMATTER", type := (.object "java/util/function/BiFunction"), accessFlags := 25, slot := 0, constantValue := 0 }, { name := "AIOOBE_FORMATTER", type := (.object "java/util/function/BiFunction"), accessFlags := 25, slot := 1, constantValue := 0 }, { name := "IOOBE_FORMATTER", type := (.object "java/util/function/BiFunction"), accessFlags := 25, slot := 2, constantValue := 0 }]
  methods := #[k13m0]
  instanceTypes := #[]
  staticTypes := #[(.object "java/util/function/BiFunction"), (.object "java/util/function/BiFunction"), (.object "java/util/function/BiFunction")]
  resolved := Array.replicate 194 none
  statics := some 2 }

def pool14 : Array CpInfo := pool [(9, u "<init>"), (6, .class_ 18), (1, u "java/lang/Object"), (0, u "()V"), (1, .class_ 23), (1, u "jdk/internal/util/ArraysSupport"), (0, u "LOG2_ARRAY_LONG_INDEX_SCALE"), (0, u "I"), (2, u "U"), (0, u "Ljdk/internal/misc/Unsafe;"), (8, u "BIG_ENDIAN"), (0, u "Z"), (8, u "LOG2_BYTE_BIT_SIZE"), (4, u "LOG2_ARRAY_INT_INDEX_SCALE"), (54, u "JLA"), (0, u "Ljdk/internal/access/JavaLangAccess;"), (11, u "LOG2_ARRAY_BOOLEAN_INDEX_SCALE"), (9, u "LOG2_ARRAY_BYTE_INDEX_SCALE"), (5, u "LOG2_ARRAY_CHAR_INDEX_SCALE"), (5, u "LOG2_ARRAY_SHORT_INDEX_SCALE"), (18, u "LOG2_ARRAY_FLOAT_INDEX_SCALE"), (24, u "LOG2_ARRAY_DOUBLE_INDEX_SCALE"), (89, u "T_BOOLEAN"), (2, u "T_CHAR"), (1, u "T_FLOAT"), (1, u "T_DOUBLE"), (1, u "T_BYTE"), (1, u "T_SHORT"), (1, u "T_INT"), (1, u "T_LONG"), (1, u "SOFT_MAX_ARRAY_LENGTH")] 83

def k14m0 : Method := { name := "<init>", desc := "()V", sig := { parameters := [], returnType := none }, accessFlags := 2, code := none }
/-- jdk/internal/util/ArraysSupport -/
def k14 : Class := { plain "jdk/internal/util/ArraysSupport" (some 0) with
  accessFlags := 33
  interfaces := #[]
  cf := some (fileOf pool14 21 #[] #[{ accessFlags := 2, nameIndex := 9, descriptorIndex := 19, attributes := #[] }] 33 16 #[] #[{ accessFlags := 24, nameIndex := 28, descriptorIndex := 29, attributes := #[] }, { accessFlags := 26, nameIndex := 38, descriptorIndex := 39, attributes := #[] }, { accessFlags := 25, nameIndex := 121, descriptorIndex := 25, attributes := #[] }, { accessFlags := 25, nameIndex := 131, descriptorIndex := 25, attributes := #[] }, { accessFlags := 25, nameIndex := 137, descriptorIndex := 25, attributes := #[] }, { accessFlags := 25, nameIndex := 143, descriptorIndex := 25, attributes := #[] }, { accessFlags := 25, nameIndex := 53, descriptorIndex := 25, attributes := #[] }, { accessFlags := 25, nameIndex := 24, descriptorIndex := 25, attributes := #[] }, { accessFlags := 25, nameIndex := 162, descriptorIndex := 25, attributes := #[] }, { accessFlags := 25, nameIndex := 187, descriptorIndex := 25, attributes := #[] }, { accessFlags := 26, nameIndex := 48, descriptorIndex := 25, attributes := #[] }, { accessFlags := 25, nameIndex := 277, descriptorIndex := 25, attributes := #[] }, { accessFlags := 25, nameIndex := 280, descriptorIndex := 25, attributes := #[] }, { accessFlags := 25, nameIndex := 282, descriptorIndex := 25, attributes := #[] }, { accessFlags := 25, nameIndex := 284, descriptorIndex := 25, attributes := #[] }, { accessFlags := 25, nameIndex := 286, descriptorIndex := 25, attributes := #[] }, { accessFlags := 25, nameIndex := 288, descriptorIndex := 25, attributes := #[] }, { accessFlags := 25, nameIndex := 290, descriptorIndex := 25, attributes := #[] }, { accessFlags := 25, nameIndex := 292, descriptorIndex := 25, attributes := #[] }, { accessFlags := 26, nameIndex := 108, descriptorIndex := 109, attributes := #[] }, { accessFlags := 25, nameIndex := 294, descriptorIndex := 25, attributes := #[] }])
  fields := #[{ name := "U", type := (.object "jdk/internal/misc/Unsafe"), accessFlags := 24, slot := 0, constantValue := 0 }, { name := "BIG_ENDIAN", type := .boolean, accessFlags := 26, slot := 1, constantValue := 0 }, { name := "LOG2_ARRAY_BOOLEAN_INDEX_SCALE", type := .int, accessFlags := 25, slot := 2, constantValue := 0 }, { name := "LOG2_ARRAY_BYTE_INDEX_SCALE", type := .int, accessFlags := 25, slot := 3, constantValue := 0 }, { name := "LOG2_ARRAY_CHAR_INDEX_SCALE", type := .int, accessFlags := 25, slot := 4, constantValue := 0 }, { name := "LOG2_ARRAY_SHORT_INDEX_SCALE", type := .int, accessFlags := 25, slot := 5, constantValue := 0 }, { name := "LOG2_ARRAY_INT_INDEX_SCALE", type := .int, accessFlags := 25, slot := 6, constantValue := 0 }, { name := "LOG2_ARRAY_LONG_INDEX_SCALE", type := .int, accessFlags := 25, slot := 7, constantValue := 0 }, { name := "LOG2_ARRAY_FLOAT_INDEX_SCALE", type := .int, accessFlags := 25, slot := 8, constantValue := 0 }, { name := "LOG2_ARRAY_DOUBLE_INDEX_SCALE", type := .int, accessFlags := 25, slot := 9, constantValue := 0 }, { name := "LOG2_BYTE_BIT_SIZE", type := .int, accessFlags := 26, slot := 10, constantValue := 0 }, { name := "T_BOOLEAN", type := .int, accessFlags := 25, slot := 11, constantValue := 0 }, { name := "T_CHAR", type := .int, accessFlags := 25, slot := 12, constantValue := 0 }, { name := "T_FLOAT", type := .int, accessFlags := 25, slot := 13, constantValue := 0 }, { name := "T_DOUBLE", type := .int, accessFlags := 25, slot := 14, constantValue := 0 }, { name := "T_BYTE", type := .int, accessFlags := 25, slot := 15, constantValue := 0 }, { name := "T_SHORT", type := .int, accessFlags := 25, slot := 16, constantValue := 0 }, { name := "T_INT", type := .int, accessFlags := 25, slot := 17, constantValue := 0 }, { name := "T_LONG", type := .int, accessFlags := 25, slot := 18, constantValue := 0 }, { name := "JLA", type := (.object "jdk/internal/access/JavaLangAccess"), accessFlags := 26, slot := 19, constantValue := 0 }, { name := "SOFT_MAX_ARRAY_LENGTH", type := .int, accessFlags := 25, slot := 20, constantValue := 0 }]
  methods := #[k14m0]
  instanceTypes := #[]
  staticTypes := #[(.object "jdk/internal/misc/Unsafe"), .boolean, .int, .int, .int, .int, .int, .int, .int, .int, .int, .int, .int, .int, .int, .int, .int, .int, .int, (.object "jdk/internal/access/JavaLangAccess"), .int]
  resolved := Array.replicate 378 none
  statics := none }

/-- the primitive byte -/
def k15 : Class := { plain "byte" none with kind := .primitive 'B', accessFlags := 0x411 }
/-- [B -/
def k16 : Class := { plain "[B" (some 0) with kind := .array 15 .byte, interfaces := #[11, 2], accessFlags := 1041 }

/-- the primitive char -/
def k17 : Class := { plain "char" none with kind := .primitive 'C', accessFlags := 0x411 }
/-- [C -/
def k18 : Class := { plain "[C" (some 0) with kind := .array 17 .char, interfaces := #[11, 2], accessFlags := 1041 }

/-- the primitive int -/
def k19 : Class := { plain "int" none with kind := .primitive 'I', accessFlags := 0x411 }
/-- [I -/
def k20 : Class := { plain "[I" (some 0) with kind := .array 19 .int, interfaces := #[11, 2], accessFlags := 1041 }

/-- [Lcom/example/proofs_for_datalog/proofsfordatalog/input/ProofFormat; -/
def k21 : Class := { plain "[Lcom/example/proofs_for_datalog/proofsfordatalog/input/ProofFormat;" (some 0) with kind := .array 10 (.object "com/example/proofs_for_datalog/proofsfordatalog/input/ProofFormat"), interfaces := #[11, 2], accessFlags := 1041 }

def heap : Heap := #[{ cls := 7, slots := #[.long 0, .int 1, .null, .int 0, .null, .int 0, .int 0], vm := .statics 7 },
  { cls := 10, slots := #[.ref 4, .ref 5, .ref 6, .ref 7, .ref 3], vm := .statics 10 },
  { cls := 13, slots := #[.null, .null, .null], vm := .statics 13 },
  { cls := 21, slots := #[.ref 4, .ref 5, .ref 6, .ref 7], vm := .none },
  { cls := 10, slots := #[.null, .int 0, .int 0, .ref 8, .null, .null], vm := .none },
  { cls := 10, slots := #[.null, .int 1, .int 0, .ref 9, .null, .null], vm := .none },
  { cls := 10, slots := #[.null, .int 2, .int 0, .ref 10, .null, .null], vm := .none },
  { cls := 10, slots := #[.null, .int 3, .int 0, .ref 11, .null, .null], vm := .none },
  { cls := 7, slots := #[.ref 12, .int 0, .int 0, .int 0], vm := .none },
  { cls := 7, slots := #[.ref 13, .int 0, .int 0, .int 0], vm := .none },
  { cls := 7, slots := #[.ref 14, .int 0, .int 0, .int 0], vm := .none },
  { cls := 7, slots := #[.ref 15, .int 0, .int 0, .int 0], vm := .none },
  { cls := 16, slots := #[.int 116, .int 114, .int 101, .int 101], vm := .none },
  { cls := 16, slots := #[.int 103, .int 114, .int 97, .int 112, .int 104], vm := .none },
  { cls := 16, slots := #[.int 111, .int 114, .int 100, .int 101, .int 114, .int 101, .int 100, .int 45, .int 103, .int 114, .int 97, .int 112, .int 104], vm := .none },
  { cls := 16, slots := #[.int 110, .int 101, .int 109, .int 111, .int 45, .int 116, .int 114, .int 97, .int 99, .int 101], vm := .none }]
def classes : Array Class := #[k0, k1, k2, k3, k4, k5, k6, k7, k8, k9, k10, k11, k12, k13, k14, k15, k16, k17, k18, k19, k20, k21]
def interned : List (Array UInt16 × Addr) := []
def slotsUsed : Nat := 91
def theMethod : MethodId := ⟨1, 1⟩
def args0 : Array Value := #[.int 5, .int 6, .int 7, .int 8, .int 9]
def aboutOver (below : List Frame) : State where
  vm := { classes := classes, interned := interned.toArray }
  heap := heap
  slotsUsed := slotsUsed
  threads := #[{ frames := .invoking theMethod args0 :: below }]
def below0 : List Frame := [.native { method := ⟨0, 0⟩, args := #[] }]
def about1 : State := aboutOver below0
def p0 : Program := .bare "" "" ""
def e0 : Env := launch0.env 0 0 0
theorem w_frames : about1.frames = Frame.invoking theMethod args0 :: below0 := rfl
set_option maxRecDepth 65536 in
theorem w_args : argsFit about1.vm theMethod args0 = true := by decide +kernel
set_option maxRecDepth 65536 in
theorem w_heap : heapFits about1 = true := by decide +kernel
set_option maxRecDepth 65536 in
theorem w_runnable : about1.curStatus? = some .runnable := by decide +kernel
set_option maxRecDepth 65536 in
theorem w_alone : about1.alone = true := by decide +kernel
set_option maxRecDepth 65536 in
theorem w_named : about1.methodNamed? x = some theMethod := by decide +kernel
set_option maxRecDepth 65536 in
theorem w_hears : about1.hears theMethod below0 = true := by decide +kernel
set_option maxRecDepth 65536 in
theorem w_ripe : about1.ripe theMethod args0 below0 = true := by decide +kernel
theorem w_running : about1.status = .running := rfl
set_option maxRecDepth 65536 in
theorem w_room : about1.hasRoom e0.platform room_1 = true :=
  launch0.hasRoom_least _ room_1 (by decide +kernel) (by decide +kernel) (by decide +kernel) (by decide +kernel) (by decide +kernel) (by decide +kernel)
theorem allAtoms_all (ts : List Jvm.Cond) (a : Array Jvm.Value) (st : Jvm.State) : (allAtoms ts).before a st = ts.all (fun c => c.before a st) := by
  induction ts with
  | nil => rfl
  | cons c t ih =>
    show (Jvm.Cond.and c (allAtoms t)).before a st = _
    rw [Jvm.Cond.before_and, ih, List.all_cons]
def words1 : List Jvm.Cond := Jvm.Cond.code x code maxLocals ret :: tables_1
/-- a 'code' word, met by the world's own term for the bytes: nothing is compared byte by byte -/
theorem code_word {y : MethodName} {bytes : ByteArray} {mx : Nat} {rt : Option FieldType} {a : Array Value} {s : State} {m : MethodId} {meth : Method} {c : Code} (h1 : s.methodNamed? y = some m) (h2 : s.vm.method? m = some meth) (h3 : meth.code = some c) (h4 : c.code = bytes)
    (h5 : (c.maxLocals == mx && c.exceptionTable.isEmpty && decide (c.maxStack ≤ mostOperands) && decide (meth.sig.returnType = rt) && !meth.locks && decide (parseMethodDescriptor y.desc = some meth.sig)) = true) : (Jvm.Cond.code y bytes mx rt).before a s = true := by
  simp only [Bool.and_eq_true, beq_iff_eq, Bool.not_eq_true', decide_eq_true_eq] at h5
  obtain ⟨⟨⟨⟨⟨g1, g2⟩, g3⟩, g4⟩, g5⟩, g6⟩ := h5
  simp [Cond.before, Cond.holds, Cond.value, h1, h2, h3, h4, g1, g2, g3, g4, g5, g6]
def isCode : Jvm.Cond → Bool
  | .code _ _ _ _ => true
  | _ => false
theorem all_split {L : List Jvm.Cond} {P : Jvm.Cond → Bool} (h1 : L.all (fun c => isCode c || P c) = true) (h2 : ∀ c ∈ L.filter isCode, P c = true) : L.all P = true := by
  refine List.all_eq_true.mpr fun c hc => ?_
  have h := List.all_eq_true.mp h1 c hc
  rcases Bool.eq_false_or_eq_true (isCode c) with hi | hi
  · exact h2 c (List.mem_filter.mpr ⟨hc, hi⟩)
  · simpa [hi] using h
set_option maxRecDepth 65536 in
theorem w_c0 : (Jvm.Cond.code x code maxLocals ret).before args0 about1 = true := code_word (m := ⟨1, 1⟩) (meth := k1m1) (c := k1c1) (by decide +kernel) rfl rfl rfl (by decide +kernel)
set_option maxRecDepth 65536 in
theorem w_c1 : (Jvm.Cond.code ({ cls := "com/example/proofs_for_datalog/proofsfordatalog/input/ProofFormatNamedPinLaw", name := "base", desc := "(I)[C" } : Jvm.MethodName) method_4_code (1 : Nat) (Option.some (Jvm.ClassFile.FieldType.array Jvm.ClassFile.FieldType.char))).before args0 about1 = true := code_word (m := ⟨1, 3⟩) (meth := k1m3) (c := k1c3) (by decide +kernel) rfl rfl rfl (by decide +kernel)
set_option maxRecDepth 65536 in
theorem w_c2 : (Jvm.Cond.code ({ cls := "java/lang/String", name := "<init>", desc := "([C)V" } : Jvm.MethodName) jdk_42_method_3_code (2 : Nat) (Option.none : Option Jvm.ClassFile.FieldType)).before args0 about1 = true := code_word (m := ⟨7, 1⟩) (meth := k7m1) (c := k7c1) (by decide +kernel) rfl rfl rfl (by decide +kernel)
set_option maxRecDepth 65536 in
theorem w_c3 : (Jvm.Cond.code ({ cls := "java/lang/String", name := "<init>", desc := "([CIILjava/lang/Void;)V" } : Jvm.MethodName) jdk_42_method_149_code (6 : Nat) (Option.none : Option Jvm.ClassFile.FieldType)).before args0 about1 = true := code_word (m := ⟨7, 3⟩) (meth := k7m3) (c := k7c3) (by decide +kernel) rfl rfl rfl (by decide +kernel)
set_option maxRecDepth 65536 in
theorem w_c4 : (Jvm.Cond.code ({ cls := "java/lang/Object", name := "<init>", desc := "()V" } : Jvm.MethodName) object_method_1_code (1 : Nat) (Option.none : Option Jvm.ClassFile.FieldType)).before args0 about1 = true := code_word (m := ⟨0, 0⟩) (meth := k0m0) (c := k0c0) (by decide +kernel) rfl rfl rfl (by decide +kernel)
set_option maxRecDepth 65536 in
theorem w_c5 : (Jvm.Cond.code ({ cls := "java/lang/StringUTF16", name := "compress", desc := "([CII)[B" } : Jvm.MethodName) jdk_52_method_16_code (6 : Nat) (Option.some (Jvm.ClassFile.FieldType.array Jvm.ClassFile.FieldType.byte))).before args0 about1 = true := code_word (m := ⟨8, 2⟩) (meth := k8m2) (c := k8c2) (by decide +kernel) rfl rfl rfl (by decide +kernel)
set_option maxRecDepth 65536 in
theorem w_c6 : (Jvm.Cond.code ({ cls := "java/lang/StringUTF16", name := "compress", desc := "([CI[BII)I" } : Jvm.MethodName) jdk_52_method_21_code (7 : Nat) (Option.some Jvm.ClassFile.FieldType.int)).before args0 about1 = true := code_word (m := ⟨8, 3⟩) (meth := k8m3) (c := k8c3) (by decide +kernel) rfl rfl rfl (by decide +kernel)
set_option maxRecDepth 65536 in
theorem w_c7 : (Jvm.Cond.code ({ cls := "java/lang/StringUTF16", name := "coderFromArrayLen", desc := "([BI)B" } : Jvm.MethodName) jdk_52_method_15_code (2 : Nat) (Option.some Jvm.ClassFile.FieldType.byte)).before args0 about1 = true := code_word (m := ⟨8, 1⟩) (meth := k8m1) (c := k8c1) (by decide +kernel) rfl rfl rfl (by decide +kernel)
set_option maxRecDepth 65536 in
theorem w_c8 : (Jvm.Cond.code ({ cls := "com/example/proofs_for_datalog/proofsfordatalog/input/ProofFormat", name := "named", desc := "(Ljava/lang/String;)Lcom/example/proofs_for_datalog/proofsfordatalog/input/ProofFormat;" } : Jvm.MethodName) prog_7_method_5_code (5 : Nat) (Option.some (Jvm.ClassFile.FieldType.object "com/example/proofs_for_datalog/proofsfordatalog/input/ProofFormat"))).before args0 about1 = true := code_word (m := ⟨10, 1⟩) (meth := k10m1) (c := k10c1) (by decide +kernel) rfl rfl rfl (by decide +kernel)
set_option maxRecDepth 65536 in
theorem w_c9 : (Jvm.Cond.code ({ cls := "com/example/proofs_for_datalog/proofsfordatalog/input/ProofFormat", name := "values", desc := "()[Lcom/example/proofs_for_datalog/proofsfordatalog/input/ProofFormat;" } : Jvm.MethodName) prog_7_method_1_code (0 : Nat) (Option.some (Jvm.ClassFile.FieldType.array (Jvm.ClassFile.FieldType.object "com/example/proofs_for_datalog/proofsfordatalog/input/ProofFormat")))).before args0 about1 = true := code_word (m := ⟨10, 0⟩) (meth := k10m0) (c := k10c0) (by decide +kernel) rfl rfl rfl (by decide +kernel)
set_option maxRecDepth 65536 in
theorem w_c10 : (Jvm.Cond.code ({ cls := "java/lang/String", name := "equals", desc := "(Ljava/lang/Object;)Z" } : Jvm.MethodName) jdk_42_method_66_code (3 : Nat) (Option.some Jvm.ClassFile.FieldType.boolean)).before args0 about1 = true := code_word (m := ⟨7, 2⟩) (meth := k7m2) (c := k7c2) (by decide +kernel) rfl rfl rfl (by decide +kernel)
set_option maxRecDepth 65536 in
theorem w_c11 : (Jvm.Cond.code ({ cls := "java/lang/StringLatin1", name := "equals", desc := "([B[B)Z" } : Jvm.MethodName) jdk_43_method_13_code (3 : Nat) (Option.some Jvm.ClassFile.FieldType.boolean)).before args0 about1 = true := code_word (m := ⟨12, 1⟩) (meth := k12m1) (c := k12c1) (by decide +kernel) rfl rfl rfl (by decide +kernel)
set_option maxRecDepth 65536 in
theorem w_c12 : (Jvm.Cond.code ({ cls := "com/example/proofs_for_datalog/proofsfordatalog/input/ProofFormatNamedPinLaw", name := "ref", desc := "(Ljava/lang/String;)Lcom/example/proofs_for_datalog/proofsfordatalog/input/ProofFormat;" } : Jvm.MethodName) method_3_code (1 : Nat) (Option.some (Jvm.ClassFile.FieldType.object "com/example/proofs_for_datalog/proofsfordatalog/input/ProofFormat"))).before args0 about1 = true := code_word (m := ⟨1, 2⟩) (meth := k1m2) (c := k1c2) (by decide +kernel) rfl rfl rfl (by decide +kernel)
set_option maxRecDepth 65536 in
theorem w_c13 : (Jvm.Cond.code ({ cls := "com/example/proofs_for_datalog/proofsfordatalog/input/ProofFormatNamedPinLaw", name := "longer", desc := "(IC)[C" } : Jvm.MethodName) method_5_code (2 : Nat) (Option.some (Jvm.ClassFile.FieldType.array Jvm.ClassFile.FieldType.char))).before args0 about1 = true := code_word (m := ⟨1, 4⟩) (meth := k1m4) (c := k1c4) (by decide +kernel) rfl rfl rfl (by decide +kernel)
set_option maxRecDepth 65536 in
theorem w_c14 : (Jvm.Cond.code ({ cls := "com/example/proofs_for_datalog/proofsfordatalog/input/ProofFormatNamedPinLaw", name := "drawn", desc := "(III)[C" } : Jvm.MethodName) method_7_code (9 : Nat) (Option.some (Jvm.ClassFile.FieldType.array Jvm.ClassFile.FieldType.char))).before args0 about1 = true := code_word (m := ⟨1, 6⟩) (meth := k1m6) (c := k1c6) (by decide +kernel) rfl rfl rfl (by decide +kernel)
set_option maxRecDepth 65536 in
theorem w_c15 : (Jvm.Cond.code ({ cls := "com/example/proofs_for_datalog/proofsfordatalog/input/ProofFormatNamedPinLaw", name := "shorter", desc := "(I)[C" } : Jvm.MethodName) method_6_code (1 : Nat) (Option.some (Jvm.ClassFile.FieldType.array Jvm.ClassFile.FieldType.char))).before args0 about1 = true := code_word (m := ⟨1, 5⟩) (meth := k1m5) (c := k1c5) (by decide +kernel) rfl rfl rfl (by decide +kernel)
def codes1 : List Jvm.Cond := [Jvm.Cond.code x code maxLocals ret, Jvm.Cond.code ({ cls := "com/example/proofs_for_datalog/proofsfordatalog/input/ProofFormatNamedPinLaw", name := "base", desc := "(I)[C" } : Jvm.MethodName) method_4_code (1 : Nat) (Option.some (Jvm.ClassFile.FieldType.array Jvm.ClassFile.FieldType.char)), Jvm.Cond.code ({ cls := "java/lang/String", name := "<init>", desc := "([C)V" } : Jvm.MethodName) jdk_42_method_3_code (2 : Nat) (Option.none : Option Jvm.ClassFile.FieldType), Jvm.Cond.code ({ cls := "java/lang/String", name := "<init>", desc := "([CIILjava/lang/Void;)V" } : Jvm.MethodName) jdk_42_method_149_code (6 : Nat) (Option.none : Option Jvm.ClassFile.FieldType), Jvm.Cond.code ({ cls := "java/lang/Object", name := "<init>", desc := "()V" } : Jvm.MethodName) object_method_1_code (1 : Nat) (Option.none : Option Jvm.ClassFile.FieldType), Jvm.Cond.code ({ cls := "java/lang/StringUTF16", name := "compress", desc := "([CII)[B" } : Jvm.MethodName) jdk_52_method_16_code (6 : Nat) (Option.some (Jvm.ClassFile.FieldType.array Jvm.ClassFile.FieldType.byte)), Jvm.Cond.code ({ cls := "java/lang/StringUTF16", name := "compress", desc := "([CI[BII)I" } : Jvm.MethodName) jdk_52_method_21_code (7 : Nat) (Option.some Jvm.ClassFile.FieldType.int), Jvm.Cond.code ({ cls := "java/lang/StringUTF16", name := "coderFromArrayLen", desc := "([BI)B" } : Jvm.MethodName) jdk_52_method_15_code (2 : Nat) (Option.some Jvm.ClassFile.FieldType.byte), Jvm.Cond.code ({ cls := "com/example/proofs_for_datalog/proofsfordatalog/input/ProofFormat", name := "named", desc := "(Ljava/lang/String;)Lcom/example/proofs_for_datalog/proofsfordatalog/input/ProofFormat;" } : Jvm.MethodName) prog_7_method_5_code (5 : Nat) (Option.some (Jvm.ClassFile.FieldType.object "com/example/proofs_for_datalog/proofsfordatalog/input/ProofFormat")), Jvm.Cond.code ({ cls := "com/example/proofs_for_datalog/proofsfordatalog/input/ProofFormat", name := "values", desc := "()[Lcom/example/proofs_for_datalog/proofsfordatalog/input/ProofFormat;" } : Jvm.MethodName) prog_7_method_1_code (0 : Nat) (Option.some (Jvm.ClassFile.FieldType.array (Jvm.ClassFile.FieldType.object "com/example/proofs_for_datalog/proofsfordatalog/input/ProofFormat"))), Jvm.Cond.code ({ cls := "java/lang/String", name := "equals", desc := "(Ljava/lang/Object;)Z" } : Jvm.MethodName) jdk_42_method_66_code (3 : Nat) (Option.some Jvm.ClassFile.FieldType.boolean), Jvm.Cond.code ({ cls := "java/lang/StringLatin1", name := "equals", desc := "([B[B)Z" } : Jvm.MethodName) jdk_43_method_13_code (3 : Nat) (Option.some Jvm.ClassFile.FieldType.boolean), Jvm.Cond.code ({ cls := "com/example/proofs_for_datalog/proofsfordatalog/input/ProofFormatNamedPinLaw", name := "ref", desc := "(Ljava/lang/String;)Lcom/example/proofs_for_datalog/proofsfordatalog/input/ProofFormat;" } : Jvm.MethodName) method_3_code (1 : Nat) (Option.some (Jvm.ClassFile.FieldType.object "com/example/proofs_for_datalog/proofsfordatalog/input/ProofFormat")), Jvm.Cond.code ({ cls := "com/example/proofs_for_datalog/proofsfordatalog/input/ProofFormatNamedPinLaw", name := "longer", desc := "(IC)[C" } : Jvm.MethodName) method_5_code (2 : Nat) (Option.some (Jvm.ClassFile.FieldType.array Jvm.ClassFile.FieldType.char)), Jvm.Cond.code ({ cls := "com/example/proofs_for_datalog/proofsfordatalog/input/ProofFormatNamedPinLaw", name := "drawn", desc := "(III)[C" } : Jvm.MethodName) method_7_code (9 : Nat) (Option.some (Jvm.ClassFile.FieldType.array Jvm.ClassFile.FieldType.char)), Jvm.Cond.code ({ cls := "com/example/proofs_for_datalog/proofsfordatalog/input/ProofFormatNamedPinLaw", name := "shorter", desc := "(I)[C" } : Jvm.MethodName) method_6_code (1 : Nat) (Option.some (Jvm.ClassFile.FieldType.array Jvm.ClassFile.FieldType.char))]
set_option maxRecDepth 65536 in
theorem codes_eq : words1.filter isCode = codes1 := rfl
theorem w_codes : ∀ c ∈ words1.filter isCode, c.before args0 about1 = true := by
  rw [codes_eq]
  intro c hc
  simp only [codes1, List.mem_cons, List.not_mem_nil, or_false] at hc
  rcases hc with rfl | rfl | rfl | rfl | rfl | rfl | rfl | rfl | rfl | rfl | rfl | rfl | rfl | rfl | rfl | rfl
  · exact w_c0
  · exact w_c1
  · exact w_c2
  · exact w_c3
  · exact w_c4
  · exact w_c5
  · exact w_c6
  · exact w_c7
  · exact w_c8
  · exact w_c9
  · exact w_c10
  · exact w_c11
  · exact w_c12
  · exact w_c13
  · exact w_c14
  · exact w_c15
set_option maxRecDepth 65536 in
theorem w_t1 : (words1.take 24).all (fun c => isCode c || c.before args0 about1) = true := by decide +kernel
set_option maxRecDepth 65536 in
theorem w_t2 : ((words1.drop 24).take 24).all (fun c => isCode c || c.before args0 about1) = true := by decide +kernel
set_option maxRecDepth 65536 in
theorem w_t3 : (((words1.drop 24).drop 24).take 24).all (fun c => isCode c || c.before args0 about1) = true := by decide +kernel
set_option maxRecDepth 65536 in
theorem w_t4 : (((words1.drop 24).drop 24).drop 24).all (fun c => isCode c || c.before args0 about1) = true := by decide +kernel
theorem w_tables : (allAtoms (Jvm.Cond.code x code maxLocals ret :: tables_1)).before args0 about1 = true := by
  rw [allAtoms_all]
  show words1.all (fun c => c.before args0 about1) = true
  refine all_split ?_ w_codes
  rw [← List.take_append_drop 24 words1, List.all_append, w_t1, ← List.take_append_drop 24 (words1.drop 24), List.all_append, w_t2, ← List.take_append_drop 24 ((words1.drop 24).drop 24), List.all_append, w_t3, w_t4]
  rfl
set_option maxRecDepth 65536 in
theorem w_rest : rest_1_c.before args0 about1 = true := by decide +kernel
set_option maxRecDepth 65536 in
theorem w_case : (Jvm.Cond.and given_1 narrow_1).before args0 about1 = true := by decide +kernel
set_option maxRecDepth 65536 in
theorem w_consts : constsHeld consts_1 about1 := Jvm.Lit.constsHeldB_iff.mp (by decide +kernel)
theorem w_applies : (headSpec (Jvm.Cond.code x code maxLocals ret :: tables_1) room_1).applies x e0.platform about1 = true :=
  (Spec.applies_iff w_frames).mpr ⟨w_running, w_runnable, w_alone, w_named, w_hears, w_ripe, w_room, w_tables⟩
theorem atStart : AtStart classFile x code maxLocals ret World_1 tables_1 room_1 Calls_1 rest_1 Pre_1 launch0 p0 e0 about1 theMethod args0 below0 :=
  ⟨lists_1, trivial, launch0.admits_env _ _ _, launch0.least_env, fairChoices_fair.cas, fairChoices_fair.clock, w_frames, w_args, w_heap, w_applies, ⟨w_consts, trivial⟩, w_rest, w_case⟩
end start1
theorem witness_1 : WitnessClaimed_1 := ⟨start1.p0, start1.e0, start1.about1, start1.theMethod, start1.args0, start1.below0, start1.atStart⟩
end Jvm.Pilot.@@N@@
