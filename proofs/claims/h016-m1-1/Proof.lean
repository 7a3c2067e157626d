import JvmDerived
import JvmDerived.Pilot.@@N@@Statement
import JvmDerived.Pilot.@@N@@Code
set_option linter.unusedVariables false
set_option linter.unusedSimpArgs false
namespace Jvm.RoadKit
open Sem ClassFile Op Lib Jvm.Stand Jvm.Free Jvm.LawKit
section New
variable {p : Program} {l : Launch} {e : Env} {R : Room} {s : State} {m : MethodId} {args : Array Value} {below : List Frame} {meth : Method} {c : Code} {T : State} {locs : List Loc} {cells slots : Nat}
theorem retI (X : Stand p l e R s m args below meth c T locs cells slots) (hx : p.tables.exec = Jvm.exec) {pc : Nat} {Ls : Array Slot} {z : Int32} {rest : List Value} (hret : meth.sig.returnType = some .int) (hd : decode c.code pc = .ok (.ireturn, 1)) {fs : List Frame}
    (hl : ∀ (f : JFrame) (acts : List Action), f.method = m → f.locked = none → f.entered = [] → (doReturn e (T.setTop f) acts (some (.int z))).1 = T.setFrames fs) : Steps p.tables e below (T.setTop (mkF m pc Ls (.int z :: rest))) (T.setFrames fs) := by
  have hm' : T.vm.method? m = some meth := X.method'
  have hn : narrow .int (.int z) = .int z := rfl
  show Steps p.tables e below (T.setTop { method := m, pc := pc, locals := Ls, stack := _ :: rest, locked := none }) _
  jvm_step X.here [X.here.top, hx, hd, hm', hret, hn]
  first | (intro acts; rw [hl _ acts rfl rfl rfl]) | rw [hl _ _ rfl rfl rfl]
  exact Steps.refl _
end New
end Jvm.RoadKit
namespace Jvm.Pilot.@@N@@
open Jvm Jvm.ClassFile Sem Op Lib Jvm.Free Jvm.Stand Jvm.LawKit Jvm.RoadKit Bundle Jvm.Pilot.@@N@@.Jvm.D
section OwnKit
variable {p : Program} {l : Launch} {e : Env} {R : Room} {s : State} {m : MethodId} {args : Array Value} {below : List Frame} {meth : Method} {c : Code} {Z : State} {a0 : Array Value} {cd : ByteArray} {ml : Nat} {ret : Option FieldType} {own nm : String} {n0 : Nat} {Q : Option Value → Heap → Prop} {h : Heap} {k n : Nat}
/-- what stands fast while one body runs -/
def Cx (p : Program) (s : State) (m : MethodId) (meth : Method) (c : Code) (Z : State) (cd : ByteArray) (ml : Nat) (ret : Option FieldType) (own nm : String) : Prop :=
  p.tables.exec = Jvm.exec ∧ Z.Warmed39 s.vm ∧ c.code = cd ∧ c.maxLocals = ml ∧ s.vm.findClass own = some m.cls ∧ meth.sig.returnType = ret ∧ meth.locks = false ∧ meth.name = nm
/-- from this frame, over this heap, the body returns and Q holds -/
def Wp (p : Program) (l : Launch) (e : Env) (R : Room) (s : State) (m : MethodId) (args : Array Value) (below : List Frame) (meth : Method) (c : Code) (n0 : Nat) (Q : Option Value → Heap → Prop) (h : Heap) (k n : Nat) (g : JFrame) : Prop :=
  ∀ (T : State) (locs : List Loc), Stand p l e R s m args below meth c T locs k n → T.heap = h → Fr n0 locs →
    ∃ s₂ o, Steps p.tables e below (T.setTop g) s₂ ∧ s₂.status = .running ∧ Ended s₂ below o ∧ ∃ v L, o = .returned v ∧ (Q v s₂.heap ∧ Fr n0 L) ∧ FrameEnd s o s₂ L R.cells R.slots
/-- a callee's contract: called with these arguments over this heap it returns, and Q holds -/
def Met (l : Launch) (y : MethodName) (bytes : ByteArray) (mL : Nat) (rt : Option FieldType) (ws : List Jvm.Cond) (rm : Room) (Z : State) (n0 : Nat) (as : Array Value) (h : Heap) (Q : Option Value → Heap → Prop) : Prop :=
  MetFree l y (head1 (Jvm.Cond.code y bytes mL rt :: ws) rm) (fun a U => a = as ∧ Z.Warmed39 U.vm ∧ U.heap = h) (fun _ _ _ _ _ => True) (fun _ U o U' => ∃ v L, o = .returned v ∧ (Q v U'.heap ∧ Fr n0 L) ∧ FrameEnd U o U' L rm.cells rm.slots)
theorem own_met {y : MethodName} {bytes : ByteArray} {mL : Nat} {rt : Option FieldType} {ws : List Jvm.Cond} {rm : Room} {as : Array Value} {Ls : Array Slot} (hpn : plainName y.cls = true) (hef : ∀ m, entryFrame m as mL = mkF m 0 Ls [])
    (H : ∀ p e s m below meth c, Cx p s m meth c Z bytes mL rt y.cls y.name → Wp p l e rm s m as below meth c n0 Q h 0 0 (mkF m 0 Ls [])) : Met l y bytes mL rt ws rm Z n0 as h Q := by
  refine MetFree.of_bodySF (plainFor_of_name hpn) hisR ?_
  intro p e s m args below meth c s₁ Bd hml0 hP hK
  obtain ⟨rfl, hZ, hh⟩ := hP
  have hown : s.vm.findClass y.cls = some m.cls := findClass_of_methodNamed Bd.named
  have hnm := (name_of_methodNamed Bd.named Bd.method).1
  have X0 : Stand p l e rm s m args below meth c s₁ [] 0 0 := Stand.of_body Bd
  have e0 : s₁.heap = h := by rw [← hh, Bd.state]; rfl
  obtain ⟨s₂, o, st, r⟩ := H p e s m below meth c ⟨Bd.exec, hZ, Bd.bytes, hml0, hown, Bd.returns, Bd.notSynchronized, hnm⟩ s₁ [] X0 e0 (Fr.nil n0)
  exact ⟨s₂, o, castTop (hef m) st, r⟩
/-! single steps -/
theorem own_lift {g g' : JFrame} (H : ∀ T, At T m c below → ∀ t, Steps p.tables e below (T.setTop g') t → Steps p.tables e below (T.setTop g) t) (W : Wp p l e R s m args below meth c n0 Q h k n g') : Wp p l e R s m args below meth c n0 Q h k n g := fun T locs X eT N => by
  obtain ⟨s₂, o, st, r⟩ := W T locs X eT N
  exact ⟨s₂, o, H T X.here _ st, r⟩
theorem own_liftX {g g' : JFrame} (H : ∀ T locs, Stand p l e R s m args below meth c T locs k n → T.heap = h → ∀ t, Steps p.tables e below (T.setTop g') t → Steps p.tables e below (T.setTop g) t) (W : Wp p l e R s m args below meth c n0 Q h k n g') : Wp p l e R s m args below meth c n0 Q h k n g := fun T locs X eT N => by
  obtain ⟨s₂, o, st, r⟩ := W T locs X eT N
  exact ⟨s₂, o, H T locs X eT _ st, r⟩
theorem own_cast {g g' : JFrame} (q : g = g') (W : Wp p l e R s m args below meth c n0 Q h k n g') : Wp p l e R s m args below meth c n0 Q h k n g := q ▸ W
theorem own_seq {g g' : JFrame} (t : Wp p l e R s m args below meth c n0 Q h k n g' → Wp p l e R s m args below meth c n0 Q h k n g) (w : Wp p l e R s m args below meth c n0 Q h k n g') : Wp p l e R s m args below meth c n0 Q h k n g := t w
theorem own_seq1 {g : JFrame} {F : Slot → JFrame} (t : (∀ u, RoadKit.One u → Wp p l e R s m args below meth c n0 Q h k n (F u)) → Wp p l e R s m args below meth c n0 Q h k n g) (w : ∀ u, RoadKit.One u → Wp p l e R s m args below meth c n0 Q h k n (F u)) : Wp p l e R s m args below meth c n0 Q h k n g := t w
theorem own_seq2 {g : JFrame} {F : Slot → Slot → JFrame} (t : (∀ u, RoadKit.One u → ∀ v, RoadKit.One v → Wp p l e R s m args below meth c n0 Q h k n (F u v)) → Wp p l e R s m args below meth c n0 Q h k n g) (w : ∀ u, RoadKit.One u → ∀ v, RoadKit.One v → Wp p l e R s m args below meth c n0 Q h k n (F u v)) : Wp p l e R s m args below meth c n0 Q h k n g := t w
theorem own_seqH {g g' : JFrame} {P : Heap → Prop} {k' n' : Nat} (t : (∀ h', P h' → Wp p l e R s m args below meth c n0 Q h' k' n' g') → Wp p l e R s m args below meth c n0 Q h k n g) (w : ∀ h', P h' → Wp p l e R s m args below meth c n0 Q h' k' n' g') : Wp p l e R s m args below meth c n0 Q h k n g := t w
variable {pc pc' : Nat} {Ls Ls' : Array Slot} {st : List Value}
theorem own_iload (C : Cx p s m meth c Z cd ml ret own nm) {i : Nat} {v : Int32} (hd : decode cd pc = .ok (.iload i, 2)) (hl : Ls[i]? = some (.val (.int v))) (hp : pc + 2 = pc') (W : Wp p l e R s m args below meth c n0 Q h k n (mkF m pc' Ls (.int v :: st))) : Wp p l e R s m args below meth c n0 Q h k n (mkF m pc Ls st) := by
  subst hp; exact own_lift (fun T A t q => XS.iload A C.1 rfl (hb C.2.2.1 hd) hl q) W
theorem own_iloadN (C : Cx p s m meth c Z cd ml ret own nm) {i : Fin 4} {v : Int32} (hd : decode cd pc = .ok (.iload_n i, 1)) (hl : Ls[i.val]? = some (.val (.int v))) (hp : pc + 1 = pc') (W : Wp p l e R s m args below meth c n0 Q h k n (mkF m pc' Ls (.int v :: st))) : Wp p l e R s m args below meth c n0 Q h k n (mkF m pc Ls st) := by
  subst hp; exact own_lift (fun T A t q => XS.iloadN A C.1 rfl (hb C.2.2.1 hd) hl q) W
theorem own_lload (C : Cx p s m meth c Z cd ml ret own nm) {i : Nat} {v : Int64} (hd : decode cd pc = .ok (.lload i, 2)) (hl : Ls[i]? = some (.val (.long v))) (hp : pc + 2 = pc') (W : Wp p l e R s m args below meth c n0 Q h k n (mkF m pc' Ls (.long v :: st))) : Wp p l e R s m args below meth c n0 Q h k n (mkF m pc Ls st) := by
  subst hp; exact own_lift (fun T A t q => XS.lload A C.1 rfl (hb C.2.2.1 hd) hl q) W
theorem own_lloadN (C : Cx p s m meth c Z cd ml ret own nm) {i : Fin 4} {v : Int64} (hd : decode cd pc = .ok (.lload_n i, 1)) (hl : Ls[i.val]? = some (.val (.long v))) (hp : pc + 1 = pc') (W : Wp p l e R s m args below meth c n0 Q h k n (mkF m pc' Ls (.long v :: st))) : Wp p l e R s m args below meth c n0 Q h k n (mkF m pc Ls st) := by
  subst hp; exact own_lift (fun T A t q => XS.lloadN A C.1 rfl (hb C.2.2.1 hd) hl q) W
theorem own_aload (C : Cx p s m meth c Z cd ml ret own nm) {i : Nat} {v : Value} (hd : decode cd pc = .ok (.aload i, 2)) (hl : Ls[i]? = some (.val v)) (hv : v.isRef = true) (hp : pc + 2 = pc') (W : Wp p l e R s m args below meth c n0 Q h k n (mkF m pc' Ls (v :: st))) : Wp p l e R s m args below meth c n0 Q h k n (mkF m pc Ls st) := by
  subst hp; exact own_lift (fun T A t q => XS.aload A C.1 rfl (hb C.2.2.1 hd) hl hv q) W
theorem own_aloadN (C : Cx p s m meth c Z cd ml ret own nm) {i : Fin 4} {v : Value} (hd : decode cd pc = .ok (.aload_n i, 1)) (hl : Ls[i.val]? = some (.val v)) (hv : v.isRef = true) (hp : pc + 1 = pc') (W : Wp p l e R s m args below meth c n0 Q h k n (mkF m pc' Ls (v :: st))) : Wp p l e R s m args below meth c n0 Q h k n (mkF m pc Ls st) := by
  subst hp; exact own_lift (fun T A t q => XS.aloadN A C.1 rfl (hb C.2.2.1 hd) hl hv q) W
theorem own_istore (C : Cx p s m meth c Z cd ml ret own nm) {i : Nat} {x y : Int32} (hd : decode cd pc = .ok (.istore i, 2)) (hy : x = y) (hl : storeLocals Ls i (.int y) = some Ls') (hp : pc + 2 = pc') (W : Wp p l e R s m args below meth c n0 Q h k n (mkF m pc' Ls' st)) : Wp p l e R s m args below meth c n0 Q h k n (mkF m pc Ls (.int x :: st)) := by
  subst hp hy; exact own_lift (fun T A t q => XS.istore A C.1 rfl (hb C.2.2.1 hd) rfl hl q) W
theorem own_istoreN (C : Cx p s m meth c Z cd ml ret own nm) {i : Fin 4} {x y : Int32} (hd : decode cd pc = .ok (.istore_n i, 1)) (hy : x = y) (hl : storeLocals Ls i.val (.int y) = some Ls') (hp : pc + 1 = pc') (W : Wp p l e R s m args below meth c n0 Q h k n (mkF m pc' Ls' st)) : Wp p l e R s m args below meth c n0 Q h k n (mkF m pc Ls (.int x :: st)) := by
  subst hp hy; exact own_lift (fun T A t q => XS.istoreN A C.1 rfl (hb C.2.2.1 hd) rfl hl q) W
theorem own_lstore (C : Cx p s m meth c Z cd ml ret own nm) {i : Nat} {x y : Int64} (hd : decode cd pc = .ok (.lstore i, 2)) (hy : x = y) (hl : storeLocals Ls i (.long y) = some Ls') (hp : pc + 2 = pc') (W : Wp p l e R s m args below meth c n0 Q h k n (mkF m pc' Ls' st)) : Wp p l e R s m args below meth c n0 Q h k n (mkF m pc Ls (.long x :: st)) := by
  subst hp hy; exact own_lift (fun T A t q => XS.lstore A C.1 rfl (hb C.2.2.1 hd) rfl hl q) W
theorem own_lstoreN (C : Cx p s m meth c Z cd ml ret own nm) {i : Fin 4} {x y : Int64} (hd : decode cd pc = .ok (.lstore_n i, 1)) (hy : x = y) (hl : storeLocals Ls i.val (.long y) = some Ls') (hp : pc + 1 = pc') (W : Wp p l e R s m args below meth c n0 Q h k n (mkF m pc' Ls' st)) : Wp p l e R s m args below meth c n0 Q h k n (mkF m pc Ls (.long x :: st)) := by
  subst hp hy; exact own_lift (fun T A t q => XS.lstoreN A C.1 rfl (hb C.2.2.1 hd) rfl hl q) W
theorem own_astore (C : Cx p s m meth c Z cd ml ret own nm) {i : Nat} {x : Value} (hd : decode cd pc = .ok (.astore i, 2)) (hv : x.isRef = true) (hl : storeLocals Ls i x = some Ls') (hp : pc + 2 = pc') (W : Wp p l e R s m args below meth c n0 Q h k n (mkF m pc' Ls' st)) : Wp p l e R s m args below meth c n0 Q h k n (mkF m pc Ls (x :: st)) := by
  subst hp; exact own_lift (fun T A t q => XS.astore A C.1 rfl (hb C.2.2.1 hd) rfl hv hl q) W
theorem own_astoreN (C : Cx p s m meth c Z cd ml ret own nm) {i : Fin 4} {x : Value} (hd : decode cd pc = .ok (.astore_n i, 1)) (hv : x.isRef = true) (hl : storeLocals Ls i.val x = some Ls') (hp : pc + 1 = pc') (W : Wp p l e R s m args below meth c n0 Q h k n (mkF m pc' Ls' st)) : Wp p l e R s m args below meth c n0 Q h k n (mkF m pc Ls (x :: st)) := by
  subst hp; exact own_lift (fun T A t q => XS.astoreN A C.1 rfl (hb C.2.2.1 hd) rfl hv hl q) W
theorem own_iconst (C : Cx p s m meth c Z cd ml ret own nm) {i : Int} {v : Int32} (hd : decode cd pc = .ok (.iconst i, 1)) (hv : Int32.ofInt i = v) (hp : pc + 1 = pc') (W : Wp p l e R s m args below meth c n0 Q h k n (mkF m pc' Ls (.int v :: st))) : Wp p l e R s m args below meth c n0 Q h k n (mkF m pc Ls st) := by
  subst hp hv; exact own_lift (fun T A t q => XS.iconst A C.1 rfl (hb C.2.2.1 hd) q) W
theorem own_bipush (C : Cx p s m meth c Z cd ml ret own nm) {i : Int} {v : Int32} (hd : decode cd pc = .ok (.bipush i, 2)) (hv : (Int8.ofInt i).toInt32 = v) (hp : pc + 2 = pc') (W : Wp p l e R s m args below meth c n0 Q h k n (mkF m pc' Ls (.int v :: st))) : Wp p l e R s m args below meth c n0 Q h k n (mkF m pc Ls st) := by
  subst hp hv; exact own_lift (fun T A t q => XS.bipush A C.1 rfl (hb C.2.2.1 hd) q) W
theorem own_sipush (C : Cx p s m meth c Z cd ml ret own nm) {i : Int} {v : Int32} (hd : decode cd pc = .ok (.sipush i, 3)) (hv : (Int16.ofInt i).toInt32 = v) (hp : pc + 3 = pc') (W : Wp p l e R s m args below meth c n0 Q h k n (mkF m pc' Ls (.int v :: st))) : Wp p l e R s m args below meth c n0 Q h k n (mkF m pc Ls st) := by
  subst hp hv; exact own_lift (fun T A t q => XS.sipush A C.1 rfl (hb C.2.2.1 hd) q) W
theorem own_lconst (C : Cx p s m meth c Z cd ml ret own nm) {i : Fin 2} {v : Int64} (hd : decode cd pc = .ok (.lconst i, 1)) (hv : Int64.ofNat i.val = v) (hp : pc + 1 = pc') (W : Wp p l e R s m args below meth c n0 Q h k n (mkF m pc' Ls (.long v :: st))) : Wp p l e R s m args below meth c n0 Q h k n (mkF m pc Ls st) := by
  subst hp hv; exact own_lift (fun T A t q => XS.lconst A C.1 rfl (hb C.2.2.1 hd) q) W
theorem own_null (C : Cx p s m meth c Z cd ml ret own nm) (hd : decode cd pc = .ok (.aconst_null, 1)) (hp : pc + 1 = pc') (W : Wp p l e R s m args below meth c n0 Q h k n (mkF m pc' Ls (.null :: st))) : Wp p l e R s m args below meth c n0 Q h k n (mkF m pc Ls st) := by
  subst hp; exact own_lift (fun T A t q => XS.aconstNull A C.1 rfl (hb C.2.2.1 hd) q) W
/-! returns -/
theorem own_vret (C : Cx p s m meth c Z cd ml none own nm) (hd : decode cd pc = .ok (.return_, 1)) (hk : k ≤ R.cells) (hn : n ≤ R.slots) (hq : Q none h) : Wp p l e R s m args below meth c n0 Q h k n (mkF m pc Ls []) := fun T locs X eT N => by
  obtain ⟨hx, hZ, hby, hml, hown, hret, hlk, hnm⟩ := C
  obtain ⟨fs, hr, hrun, hended, hW, hsame⟩ := X.leave (v := none) (fun _ => rfl) hlk
  exact ⟨_, _, X.returnOut hx hret (hb hby hd) hr, hrun, hended, _, _, rfl, ⟨by rw [show (T.setFrames fs).heap = T.heap from rfl, eT]; exact hq, N⟩, ⟨_, rfl⟩, hW, hsame.mono hk hn⟩
theorem own_iret {z : Int32} (C : Cx p s m meth c Z cd ml (some .int) own nm) (hd : decode cd pc = .ok (.ireturn, 1)) (hk : k ≤ R.cells) (hn : n ≤ R.slots) (hq : Q (some (.int z)) h) : Wp p l e R s m args below meth c n0 Q h k n (mkF m pc Ls (.int z :: st)) := fun T locs X eT N => by
  obtain ⟨hx, hZ, hby, hml, hown, hret, hlk, hnm⟩ := C
  obtain ⟨fs, hr, hrun, hended, hW, hsame⟩ := X.leave (v := some (.int z)) (fun q => by rw [hret] at q; cases q) hlk
  exact ⟨_, _, retI X hx hret (hb hby hd) hr, hrun, hended, _, _, rfl, ⟨by rw [show (T.setFrames fs).heap = T.heap from rfl, eT]; exact hq, N⟩, ⟨_, rfl⟩, hW, hsame.mono hk hn⟩
theorem own_nret {z : Int32} {t : FieldType} (C : Cx p s m meth c Z cd ml (some t) own nm) (ht : t = .boolean ∨ t = .byte ∨ t = .char ∨ t = .short) (hd : decode cd pc = .ok (.ireturn, 1)) (hk : k ≤ R.cells) (hn : n ≤ R.slots) (hq : Q (some (.int (nar t z))) h) : Wp p l e R s m args below meth c n0 Q h k n (mkF m pc Ls (.int z :: st)) := fun T locs X eT N => by
  obtain ⟨hx, hZ, hby, hml, hown, hret, hlk, hnm⟩ := C
  obtain ⟨fs, hr, hrun, hended, hW, hsame⟩ := X.leave (v := some (.int (nar t z))) (fun q => by rw [hret] at q; cases q) hlk
  exact ⟨_, _, retN X hx hret ht (hb hby hd) hr, hrun, hended, _, _, rfl, ⟨by rw [show (T.setFrames fs).heap = T.heap from rfl, eT]; exact hq, N⟩, ⟨_, rfl⟩, hW, hsame.mono hk hn⟩
theorem own_zret {z : Int32} (C : Cx p s m meth c Z cd ml (some .boolean) own nm) (hd : decode cd pc = .ok (.ireturn, 1)) (hk : k ≤ R.cells) (hn : n ≤ R.slots) (hz : z = 0 ∨ z = 1) (hq : Q (some (.int z)) h) : Wp p l e R s m args below meth c n0 Q h k n (mkF m pc Ls (.int z :: st)) :=
  own_nret C (Or.inl rfl) hd hk hn (by rcases hz with rfl | rfl <;> exact hq)
theorem own_lret {z : Int64} (C : Cx p s m meth c Z cd ml (some .long) own nm) (hd : decode cd pc = .ok (.lreturn, 1)) (hk : k ≤ R.cells) (hn : n ≤ R.slots) (hq : Q (some (.long z)) h) : Wp p l e R s m args below meth c n0 Q h k n (mkF m pc Ls [.long z]) := fun T locs X eT N => by
  obtain ⟨hx, hZ, hby, hml, hown, hret, hlk, hnm⟩ := C
  obtain ⟨fs, hr, hrun, hended, hW, hsame⟩ := X.leave (v := some (.long z)) (fun q => by rw [hret] at q; cases q) hlk
  exact ⟨_, _, X.lreturnOut hx hret (hb hby hd) hr, hrun, hended, _, _, rfl, ⟨by rw [show (T.setFrames fs).heap = T.heap from rfl, eT]; exact hq, N⟩, ⟨_, rfl⟩, hW, hsame.mono hk hn⟩
theorem own_aret {z : Value} {t : FieldType} (C : Cx p s m meth c Z cd ml (some t) own nm) (hv : z.isRef = true) (ht : t.isReference = true) (hd : decode cd pc = .ok (.areturn, 1)) (hk : k ≤ R.cells) (hn : n ≤ R.slots) (hq : Q (some z) h) : Wp p l e R s m args below meth c n0 Q h k n (mkF m pc Ls (z :: st)) := fun T locs X eT N => by
  obtain ⟨hx, hZ, hby, hml, hown, hret, hlk, hnm⟩ := C
  obtain ⟨fs, hr, hrun, hended, hW, hsame⟩ := X.leave (v := some z) (fun q => by rw [hret] at q; cases q) hlk
  have hd' := hb hby hd
  refine ⟨_, _, ?_, hrun, hended, _, _, rfl, ⟨by rw [show (T.setFrames fs).heap = T.heap from rfl, eT]; exact hq, N⟩, ⟨_, rfl⟩, hW, hsame.mono hk hn⟩
  jvm_step X.here [X.here.top, hx, hd', X.method', hret, hv, ht]
  first | (intro acts; rw [hr _ acts rfl rfl rfl]) | rw [hr _ _ rfl rfl rfl]
  exact Steps.refl _
theorem own_iadd (C : Cx p s m meth c Z cd ml ret own nm) {x y v : Int32} (hd : decode cd pc = .ok (.iadd, 1)) (hv : x + y = v) (hp : pc + 1 = pc') (W : Wp p l e R s m args below meth c n0 Q h k n (mkF m pc' Ls (.int v :: st))) : Wp p l e R s m args below meth c n0 Q h k n (mkF m pc Ls (.int y :: .int x :: st)) := by
  subst hp hv; exact own_lift (fun T A t q => XS.iadd A C.1 rfl (hb C.2.2.1 hd) rfl q) W
theorem own_isub (C : Cx p s m meth c Z cd ml ret own nm) {x y v : Int32} (hd : decode cd pc = .ok (.isub, 1)) (hv : x - y = v) (hp : pc + 1 = pc') (W : Wp p l e R s m args below meth c n0 Q h k n (mkF m pc' Ls (.int v :: st))) : Wp p l e R s m args below meth c n0 Q h k n (mkF m pc Ls (.int y :: .int x :: st)) := by
  subst hp hv; exact own_lift (fun T A t q => XS.isub A C.1 rfl (hb C.2.2.1 hd) rfl q) W
theorem own_imul (C : Cx p s m meth c Z cd ml ret own nm) {x y v : Int32} (hd : decode cd pc = .ok (.imul, 1)) (hv : x * y = v) (hp : pc + 1 = pc') (W : Wp p l e R s m args below meth c n0 Q h k n (mkF m pc' Ls (.int v :: st))) : Wp p l e R s m args below meth c n0 Q h k n (mkF m pc Ls (.int y :: .int x :: st)) := by
  subst hp hv; exact own_lift (fun T A t q => XS.imul A C.1 rfl (hb C.2.2.1 hd) rfl q) W
theorem own_iand (C : Cx p s m meth c Z cd ml ret own nm) {x y v : Int32} (hd : decode cd pc = .ok (.iand, 1)) (hv : x &&& y = v) (hp : pc + 1 = pc') (W : Wp p l e R s m args below meth c n0 Q h k n (mkF m pc' Ls (.int v :: st))) : Wp p l e R s m args below meth c n0 Q h k n (mkF m pc Ls (.int y :: .int x :: st)) := by
  subst hp hv; exact own_lift (fun T A t q => XS.iand A C.1 rfl (hb C.2.2.1 hd) rfl q) W
theorem own_ior (C : Cx p s m meth c Z cd ml ret own nm) {x y v : Int32} (hd : decode cd pc = .ok (.ior, 1)) (hv : x ||| y = v) (hp : pc + 1 = pc') (W : Wp p l e R s m args below meth c n0 Q h k n (mkF m pc' Ls (.int v :: st))) : Wp p l e R s m args below meth c n0 Q h k n (mkF m pc Ls (.int y :: .int x :: st)) := by
  subst hp hv; exact own_lift (fun T A t q => XS.ior A C.1 rfl (hb C.2.2.1 hd) rfl q) W
theorem own_ixor (C : Cx p s m meth c Z cd ml ret own nm) {x y v : Int32} (hd : decode cd pc = .ok (.ixor, 1)) (hv : x ^^^ y = v) (hp : pc + 1 = pc') (W : Wp p l e R s m args below meth c n0 Q h k n (mkF m pc' Ls (.int v :: st))) : Wp p l e R s m args below meth c n0 Q h k n (mkF m pc Ls (.int y :: .int x :: st)) := by
  subst hp hv; exact own_lift (fun T A t q => XS.ixor A C.1 rfl (hb C.2.2.1 hd) rfl q) W
theorem own_ishl (C : Cx p s m meth c Z cd ml ret own nm) {x y v : Int32} (hd : decode cd pc = .ok (.ishl, 1)) (hv : x <<< (y &&& 31) = v) (hp : pc + 1 = pc') (W : Wp p l e R s m args below meth c n0 Q h k n (mkF m pc' Ls (.int v :: st))) : Wp p l e R s m args below meth c n0 Q h k n (mkF m pc Ls (.int y :: .int x :: st)) := by
  subst hp hv; exact own_lift (fun T A t q => XS.ishl A C.1 rfl (hb C.2.2.1 hd) rfl q) W
theorem own_ishr (C : Cx p s m meth c Z cd ml ret own nm) {x y v : Int32} (hd : decode cd pc = .ok (.ishr, 1)) (hv : x >>> (y &&& 31) = v) (hp : pc + 1 = pc') (W : Wp p l e R s m args below meth c n0 Q h k n (mkF m pc' Ls (.int v :: st))) : Wp p l e R s m args below meth c n0 Q h k n (mkF m pc Ls (.int y :: .int x :: st)) := by
  subst hp hv; exact own_lift (fun T A t q => XS.ishr A C.1 rfl (hb C.2.2.1 hd) rfl q) W
theorem own_iushr (C : Cx p s m meth c Z cd ml ret own nm) {x y v : Int32} (hd : decode cd pc = .ok (.iushr, 1)) (hv : (x.toUInt32 >>> (y &&& 31).toUInt32).toInt32 = v) (hp : pc + 1 = pc') (W : Wp p l e R s m args below meth c n0 Q h k n (mkF m pc' Ls (.int v :: st))) : Wp p l e R s m args below meth c n0 Q h k n (mkF m pc Ls (.int y :: .int x :: st)) := by
  subst hp hv; exact own_lift (fun T A t q => XS.iushr A C.1 rfl (hb C.2.2.1 hd) rfl q) W
theorem own_idiv (C : Cx p s m meth c Z cd ml ret own nm) {x y v : Int32} (hd : decode cd pc = .ok (.idiv, 1)) (hy : y ≠ 0) (hv : x / y = v) (hp : pc + 1 = pc') (W : Wp p l e R s m args below meth c n0 Q h k n (mkF m pc' Ls (.int v :: st))) : Wp p l e R s m args below meth c n0 Q h k n (mkF m pc Ls (.int y :: .int x :: st)) := by
  subst hp hv; exact own_lift (fun T A t q => XS.idiv A C.1 rfl (hb C.2.2.1 hd) rfl hy q) W
theorem own_ladd (C : Cx p s m meth c Z cd ml ret own nm) {x y v : Int64} (hd : decode cd pc = .ok (.ladd, 1)) (hv : x + y = v) (hp : pc + 1 = pc') (W : Wp p l e R s m args below meth c n0 Q h k n (mkF m pc' Ls (.long v :: st))) : Wp p l e R s m args below meth c n0 Q h k n (mkF m pc Ls (.long y :: .long x :: st)) := by
  subst hp hv; exact own_lift (fun T A t q => XS.ladd A C.1 rfl (hb C.2.2.1 hd) rfl q) W
theorem own_lsub (C : Cx p s m meth c Z cd ml ret own nm) {x y v : Int64} (hd : decode cd pc = .ok (.lsub, 1)) (hv : x - y = v) (hp : pc + 1 = pc') (W : Wp p l e R s m args below meth c n0 Q h k n (mkF m pc' Ls (.long v :: st))) : Wp p l e R s m args below meth c n0 Q h k n (mkF m pc Ls (.long y :: .long x :: st)) := by
  subst hp hv; exact own_lift (fun T A t q => XS.lsub A C.1 rfl (hb C.2.2.1 hd) rfl q) W
theorem own_lmul (C : Cx p s m meth c Z cd ml ret own nm) {x y v : Int64} (hd : decode cd pc = .ok (.lmul, 1)) (hv : x * y = v) (hp : pc + 1 = pc') (W : Wp p l e R s m args below meth c n0 Q h k n (mkF m pc' Ls (.long v :: st))) : Wp p l e R s m args below meth c n0 Q h k n (mkF m pc Ls (.long y :: .long x :: st)) := by
  subst hp hv; exact own_lift (fun T A t q => XS.lmul A C.1 rfl (hb C.2.2.1 hd) rfl q) W
theorem own_land (C : Cx p s m meth c Z cd ml ret own nm) {x y v : Int64} (hd : decode cd pc = .ok (.land, 1)) (hv : x &&& y = v) (hp : pc + 1 = pc') (W : Wp p l e R s m args below meth c n0 Q h k n (mkF m pc' Ls (.long v :: st))) : Wp p l e R s m args below meth c n0 Q h k n (mkF m pc Ls (.long y :: .long x :: st)) := by
  subst hp hv; exact own_lift (fun T A t q => XS.land A C.1 rfl (hb C.2.2.1 hd) rfl q) W
theorem own_lor (C : Cx p s m meth c Z cd ml ret own nm) {x y v : Int64} (hd : decode cd pc = .ok (.lor, 1)) (hv : x ||| y = v) (hp : pc + 1 = pc') (W : Wp p l e R s m args below meth c n0 Q h k n (mkF m pc' Ls (.long v :: st))) : Wp p l e R s m args below meth c n0 Q h k n (mkF m pc Ls (.long y :: .long x :: st)) := by
  subst hp hv; exact own_lift (fun T A t q => XS.lor A C.1 rfl (hb C.2.2.1 hd) rfl q) W
theorem own_lxor (C : Cx p s m meth c Z cd ml ret own nm) {x y v : Int64} (hd : decode cd pc = .ok (.lxor, 1)) (hv : x ^^^ y = v) (hp : pc + 1 = pc') (W : Wp p l e R s m args below meth c n0 Q h k n (mkF m pc' Ls (.long v :: st))) : Wp p l e R s m args below meth c n0 Q h k n (mkF m pc Ls (.long y :: .long x :: st)) := by
  subst hp hv; exact own_lift (fun T A t q => XS.lxor A C.1 rfl (hb C.2.2.1 hd) rfl q) W
theorem own_ldiv (C : Cx p s m meth c Z cd ml ret own nm) {x y v : Int64} (hd : decode cd pc = .ok (.ldiv, 1)) (hy : y ≠ 0) (hv : x / y = v) (hp : pc + 1 = pc') (W : Wp p l e R s m args below meth c n0 Q h k n (mkF m pc' Ls (.long v :: st))) : Wp p l e R s m args below meth c n0 Q h k n (mkF m pc Ls (.long y :: .long x :: st)) := by
  subst hp hv; exact own_lift (fun T A t q => XS.ldiv A C.1 rfl (hb C.2.2.1 hd) rfl hy q) W
theorem own_irem (C : Cx p s m meth c Z cd ml ret own nm) {x y v : Int32} (hd : decode cd pc = .ok (.irem, 1)) (hy : y ≠ 0) (hv : x % y = v) (hp : pc + 1 = pc') (W : Wp p l e R s m args below meth c n0 Q h k n (mkF m pc' Ls (.int v :: st))) : Wp p l e R s m args below meth c n0 Q h k n (mkF m pc Ls (.int y :: .int x :: st)) := by
  subst hp hv; exact own_liftX (fun T locs X eT t q => iremM X C.1 rfl (hb C.2.2.1 hd) rfl hy q) W
theorem own_lrem (C : Cx p s m meth c Z cd ml ret own nm) {x y v : Int64} (hd : decode cd pc = .ok (.lrem, 1)) (hy : y ≠ 0) (hv : x % y = v) (hp : pc + 1 = pc') (W : Wp p l e R s m args below meth c n0 Q h k n (mkF m pc' Ls (.long v :: st))) : Wp p l e R s m args below meth c n0 Q h k n (mkF m pc Ls (.long y :: .long x :: st)) := by
  subst hp; rw [← lrem_mod] at hv; subst hv; exact own_lift (fun T A t q => XS.lrem A C.1 rfl (hb C.2.2.1 hd) rfl hy q) W
theorem own_lshl (C : Cx p s m meth c Z cd ml ret own nm) {x v : Int64} {y : Int32} (hd : decode cd pc = .ok (.lshl, 1)) (hv : x <<< (y &&& 0x3f).toInt64 = v) (hp : pc + 1 = pc') (W : Wp p l e R s m args below meth c n0 Q h k n (mkF m pc' Ls (.long v :: st))) : Wp p l e R s m args below meth c n0 Q h k n (mkF m pc Ls (.int y :: .long x :: st)) := by
  subst hp hv; exact own_lift (fun T A t q => XS.lshl A C.1 rfl (hb C.2.2.1 hd) rfl q) W
theorem own_lshr (C : Cx p s m meth c Z cd ml ret own nm) {x v : Int64} {y : Int32} (hd : decode cd pc = .ok (.lshr, 1)) (hv : x >>> (y &&& 0x3f).toInt64 = v) (hp : pc + 1 = pc') (W : Wp p l e R s m args below meth c n0 Q h k n (mkF m pc' Ls (.long v :: st))) : Wp p l e R s m args below meth c n0 Q h k n (mkF m pc Ls (.int y :: .long x :: st)) := by
  subst hp hv; exact own_lift (fun T A t q => XS.lshr A C.1 rfl (hb C.2.2.1 hd) rfl q) W
theorem own_lushr (C : Cx p s m meth c Z cd ml ret own nm) {x v : Int64} {y : Int32} (hd : decode cd pc = .ok (.lushr, 1)) (hv : (x.toUInt64 >>> (y &&& 0x3f).toInt64.toUInt64).toInt64 = v) (hp : pc + 1 = pc') (W : Wp p l e R s m args below meth c n0 Q h k n (mkF m pc' Ls (.long v :: st))) : Wp p l e R s m args below meth c n0 Q h k n (mkF m pc Ls (.int y :: .long x :: st)) := by
  subst hp hv; exact own_lift (fun T A t q => XS.lushr A C.1 rfl (hb C.2.2.1 hd) rfl q) W
theorem own_ineg (C : Cx p s m meth c Z cd ml ret own nm) {x : Int32} {v : Int32} (hd : decode cd pc = .ok (.ineg, 1)) (hv : -x = v) (hp : pc + 1 = pc') (W : Wp p l e R s m args below meth c n0 Q h k n (mkF m pc' Ls (.int v :: st))) : Wp p l e R s m args below meth c n0 Q h k n (mkF m pc Ls (.int x :: st)) := by
  subst hp hv; exact own_lift (fun T A t q => XS.ineg A C.1 rfl (hb C.2.2.1 hd) rfl q) W
theorem own_lneg (C : Cx p s m meth c Z cd ml ret own nm) {x : Int64} {v : Int64} (hd : decode cd pc = .ok (.lneg, 1)) (hv : -x = v) (hp : pc + 1 = pc') (W : Wp p l e R s m args below meth c n0 Q h k n (mkF m pc' Ls (.long v :: st))) : Wp p l e R s m args below meth c n0 Q h k n (mkF m pc Ls (.long x :: st)) := by
  subst hp hv; exact own_lift (fun T A t q => XS.lneg A C.1 rfl (hb C.2.2.1 hd) rfl q) W
theorem own_i2l (C : Cx p s m meth c Z cd ml ret own nm) {x : Int32} {v : Int64} (hd : decode cd pc = .ok (.i2l, 1)) (hv : x.toInt64 = v) (hp : pc + 1 = pc') (W : Wp p l e R s m args below meth c n0 Q h k n (mkF m pc' Ls (.long v :: st))) : Wp p l e R s m args below meth c n0 Q h k n (mkF m pc Ls (.int x :: st)) := by
  subst hp hv; exact own_lift (fun T A t q => XS.i2l A C.1 rfl (hb C.2.2.1 hd) rfl q) W
theorem own_l2i (C : Cx p s m meth c Z cd ml ret own nm) {x : Int64} {v : Int32} (hd : decode cd pc = .ok (.l2i, 1)) (hv : x.toInt32 = v) (hp : pc + 1 = pc') (W : Wp p l e R s m args below meth c n0 Q h k n (mkF m pc' Ls (.int v :: st))) : Wp p l e R s m args below meth c n0 Q h k n (mkF m pc Ls (.long x :: st)) := by
  subst hp hv; exact own_lift (fun T A t q => XS.l2i A C.1 rfl (hb C.2.2.1 hd) rfl q) W
theorem own_i2b (C : Cx p s m meth c Z cd ml ret own nm) {x : Int32} {v : Int32} (hd : decode cd pc = .ok (.i2b, 1)) (hv : x.toInt8.toInt32 = v) (hp : pc + 1 = pc') (W : Wp p l e R s m args below meth c n0 Q h k n (mkF m pc' Ls (.int v :: st))) : Wp p l e R s m args below meth c n0 Q h k n (mkF m pc Ls (.int x :: st)) := by
  subst hp hv; exact own_lift (fun T A t q => XS.i2b A C.1 rfl (hb C.2.2.1 hd) rfl q) W
theorem own_i2s (C : Cx p s m meth c Z cd ml ret own nm) {x : Int32} {v : Int32} (hd : decode cd pc = .ok (.i2s, 1)) (hv : x.toInt16.toInt32 = v) (hp : pc + 1 = pc') (W : Wp p l e R s m args below meth c n0 Q h k n (mkF m pc' Ls (.int v :: st))) : Wp p l e R s m args below meth c n0 Q h k n (mkF m pc Ls (.int x :: st)) := by
  subst hp hv; exact own_lift (fun T A t q => XS.i2s A C.1 rfl (hb C.2.2.1 hd) rfl q) W
theorem own_i2c (C : Cx p s m meth c Z cd ml ret own nm) {x : Int32} {v : Int32} (hd : decode cd pc = .ok (.i2c, 1)) (hv : x.toUInt32.toUInt16.toUInt32.toInt32 = v) (hp : pc + 1 = pc') (W : Wp p l e R s m args below meth c n0 Q h k n (mkF m pc' Ls (.int v :: st))) : Wp p l e R s m args below meth c n0 Q h k n (mkF m pc Ls (.int x :: st)) := by
  subst hp hv; exact own_lift (fun T A t q => XS.i2c A C.1 rfl (hb C.2.2.1 hd) rfl q) W
theorem own_lcmp (C : Cx p s m meth c Z cd ml ret own nm) {x y : Int64} (hd : decode cd pc = .ok (.lcmp, 1)) (hp : pc + 1 = pc') (W : Wp p l e R s m args below meth c n0 Q h k n (mkF m pc' Ls (.int (lcmpW x y) :: st))) : Wp p l e R s m args below meth c n0 Q h k n (mkF m pc Ls (.long y :: .long x :: st)) := by
  subst hp; exact own_lift (fun T A t q => XS.lcmp A C.1 rfl (hb C.2.2.1 hd) rfl q) W
theorem own_dup (C : Cx p s m meth c Z cd ml ret own nm) {x : Value} (hd : decode cd pc = .ok (.dup, 1)) (hc : x.category = 1) (hp : pc + 1 = pc') (W : Wp p l e R s m args below meth c n0 Q h k n (mkF m pc' Ls (x :: x :: st))) : Wp p l e R s m args below meth c n0 Q h k n (mkF m pc Ls (x :: st)) := by
  subst hp; exact own_lift (fun T A t q => XS.dup A C.1 rfl (hb C.2.2.1 hd) rfl hc q) W
theorem own_pop (C : Cx p s m meth c Z cd ml ret own nm) {x : Value} (hd : decode cd pc = .ok (.pop, 1)) (hc : x.category = 1) (hp : pc + 1 = pc') (W : Wp p l e R s m args below meth c n0 Q h k n (mkF m pc' Ls st)) : Wp p l e R s m args below meth c n0 Q h k n (mkF m pc Ls (x :: st)) := by
  subst hp; exact own_lift (fun T A t q => XS.pop A C.1 rfl (hb C.2.2.1 hd) rfl hc q) W
theorem own_dupX1 (C : Cx p s m meth c Z cd ml ret own nm) {x y : Value} (hd : decode cd pc = .ok (.dup_x1, 1)) (hc : x.category = 1) (hc' : y.category = 1) (hp : pc + 1 = pc') (W : Wp p l e R s m args below meth c n0 Q h k n (mkF m pc' Ls (x :: y :: x :: st))) : Wp p l e R s m args below meth c n0 Q h k n (mkF m pc Ls (x :: y :: st)) := by
  subst hp; exact own_lift (fun T A t q => XS.dupX1 A C.1 rfl (hb C.2.2.1 hd) rfl hc hc' q) W
theorem own_dup2 (C : Cx p s m meth c Z cd ml ret own nm) {x y : Value} (hd : decode cd pc = .ok (.dup2, 1)) (hc : x.category = 1) (hc' : y.category = 1) (hp : pc + 1 = pc') (W : Wp p l e R s m args below meth c n0 Q h k n (mkF m pc' Ls (x :: y :: x :: y :: st))) : Wp p l e R s m args below meth c n0 Q h k n (mkF m pc Ls (x :: y :: st)) := by
  subst hp; exact own_lift (fun T A t q => Jvm.Free.XT.dup2 A C.1 rfl (hb C.2.2.1 hd) rfl hc hc' q) W
theorem own_iinc (C : Cx p s m meth c Z cd ml ret own nm) {i : Nat} {d : Int} {x v : Int32} (hd : decode cd pc = .ok (.iinc i d, 3)) (hl : Ls[i]? = some (.val (.int x))) (hv : x + Int32.ofInt d = v) (hl' : storeLocals Ls i (.int v) = some Ls') (hp : pc + 3 = pc') (W : Wp p l e R s m args below meth c n0 Q h k n (mkF m pc' Ls' st)) : Wp p l e R s m args below meth c n0 Q h k n (mkF m pc Ls st) := by
  subst hp hv; exact own_lift (fun T A t q => XS.iinc A C.1 rfl (hb C.2.2.1 hd) hl hl' q) W
theorem own_goto (C : Cx p s m meth c Z cd ml ret own nm) {o : Int} (hd : decode cd pc = .ok (.goto o, 3)) (ho : 0 ≤ (pc : Int) + o) (hp : ((pc : Int) + o).toNat = pc') (W : Wp p l e R s m args below meth c n0 Q h k n (mkF m pc' Ls st)) : Wp p l e R s m args below meth c n0 Q h k n (mkF m pc Ls st) :=
  own_lift (fun T A t q => XS.goto A C.1 rfl (pc0 := pc) (pc' := pc') rfl (hb C.2.2.1 hd) ho hp q) W
theorem own_icmp_lt (C : Cx p s m meth c Z cd ml ret own nm) {o : Int} {x y : Int32} {pt pf : Nat} (hd : decode cd pc = .ok (.if_icmp .lt o, 3)) (ho : 0 ≤ (pc : Int) + o) (hp : ((pc : Int) + o).toNat = pt) (hf : pc + 3 = pf) (WT : x < y → Wp p l e R s m args below meth c n0 Q h k n (mkF m pt Ls st)) (WF : ¬ x < y → Wp p l e R s m args below meth c n0 Q h k n (mkF m pf Ls st)) : Wp p l e R s m args below meth c n0 Q h k n (mkF m pc Ls (.int y :: .int x :: st)) := by
  subst hf
  by_cases g : x < y
  · exact own_lift (fun T A t q => XS.icmpYes A C.1 rfl (pc0 := pc) (pc' := pt) rfl (hb C.2.2.1 hd) rfl (tlt g).1 ho hp q) (WT g)
  · exact own_lift (fun T A t q => XS.icmpNo A C.1 rfl (hb C.2.2.1 hd) rfl (flt g).1 q) (WF g)
theorem own_if_lt (C : Cx p s m meth c Z cd ml ret own nm) {o : Int} {x : Int32} {pt pf : Nat} (hd : decode cd pc = .ok (.ifCond .lt o, 3)) (ho : 0 ≤ (pc : Int) + o) (hp : ((pc : Int) + o).toNat = pt) (hf : pc + 3 = pf) (WT : x < 0 → Wp p l e R s m args below meth c n0 Q h k n (mkF m pt Ls st)) (WF : ¬ x < 0 → Wp p l e R s m args below meth c n0 Q h k n (mkF m pf Ls st)) : Wp p l e R s m args below meth c n0 Q h k n (mkF m pc Ls (.int x :: st)) := by
  subst hf
  by_cases g : x < 0
  · exact own_lift (fun T A t q => XS.ifYes A C.1 rfl (pc0 := pc) (pc' := pt) rfl (hb C.2.2.1 hd) rfl ((if0 _ _).trans (tlt g).1) ho hp q) (WT g)
  · exact own_lift (fun T A t q => XS.ifNo A C.1 rfl (hb C.2.2.1 hd) rfl ((if0 _ _).trans (flt g).1) q) (WF g)
theorem own_lcmp_lt (C : Cx p s m meth c Z cd ml ret own nm) {o : Int} {x y : Int64} {p1 pt pf : Nat} (hd0 : decode cd pc = .ok (.lcmp, 1)) (h1 : pc + 1 = p1) (hd : decode cd p1 = .ok (.ifCond .lt o, 3)) (ho : 0 ≤ (p1 : Int) + o) (hp : ((p1 : Int) + o).toNat = pt) (hf : p1 + 3 = pf) (WT : x < y → Wp p l e R s m args below meth c n0 Q h k n (mkF m pt Ls st)) (WF : ¬ x < y → Wp p l e R s m args below meth c n0 Q h k n (mkF m pf Ls st)) : Wp p l e R s m args below meth c n0 Q h k n (mkF m pc Ls (.long y :: .long x :: st)) :=
  own_lcmp C hd0 h1 (own_if_lt C hd ho hp hf (fun g => WT ((lw_lt x y).mp g)) (fun g => WF (fun q => g ((lw_lt x y).mpr q))))
theorem own_icmp_ge (C : Cx p s m meth c Z cd ml ret own nm) {o : Int} {x y : Int32} {pt pf : Nat} (hd : decode cd pc = .ok (.if_icmp .ge o, 3)) (ho : 0 ≤ (pc : Int) + o) (hp : ((pc : Int) + o).toNat = pt) (hf : pc + 3 = pf) (WT : ¬ x < y → Wp p l e R s m args below meth c n0 Q h k n (mkF m pt Ls st)) (WF : x < y → Wp p l e R s m args below meth c n0 Q h k n (mkF m pf Ls st)) : Wp p l e R s m args below meth c n0 Q h k n (mkF m pc Ls (.int y :: .int x :: st)) := by
  subst hf
  by_cases g : x < y
  · exact own_lift (fun T A t q => XS.icmpNo A C.1 rfl (hb C.2.2.1 hd) rfl (tlt g).2.1 q) (WF g)
  · exact own_lift (fun T A t q => XS.icmpYes A C.1 rfl (pc0 := pc) (pc' := pt) rfl (hb C.2.2.1 hd) rfl (flt g).2.1 ho hp q) (WT g)
theorem own_if_ge (C : Cx p s m meth c Z cd ml ret own nm) {o : Int} {x : Int32} {pt pf : Nat} (hd : decode cd pc = .ok (.ifCond .ge o, 3)) (ho : 0 ≤ (pc : Int) + o) (hp : ((pc : Int) + o).toNat = pt) (hf : pc + 3 = pf) (WT : ¬ x < 0 → Wp p l e R s m args below meth c n0 Q h k n (mkF m pt Ls st)) (WF : x < 0 → Wp p l e R s m args below meth c n0 Q h k n (mkF m pf Ls st)) : Wp p l e R s m args below meth c n0 Q h k n (mkF m pc Ls (.int x :: st)) := by
  subst hf
  by_cases g : x < 0
  · exact own_lift (fun T A t q => XS.ifNo A C.1 rfl (hb C.2.2.1 hd) rfl ((if0 _ _).trans (tlt g).2.1) q) (WF g)
  · exact own_lift (fun T A t q => XS.ifYes A C.1 rfl (pc0 := pc) (pc' := pt) rfl (hb C.2.2.1 hd) rfl ((if0 _ _).trans (flt g).2.1) ho hp q) (WT g)
theorem own_lcmp_ge (C : Cx p s m meth c Z cd ml ret own nm) {o : Int} {x y : Int64} {p1 pt pf : Nat} (hd0 : decode cd pc = .ok (.lcmp, 1)) (h1 : pc + 1 = p1) (hd : decode cd p1 = .ok (.ifCond .ge o, 3)) (ho : 0 ≤ (p1 : Int) + o) (hp : ((p1 : Int) + o).toNat = pt) (hf : p1 + 3 = pf) (WT : ¬ x < y → Wp p l e R s m args below meth c n0 Q h k n (mkF m pt Ls st)) (WF : x < y → Wp p l e R s m args below meth c n0 Q h k n (mkF m pf Ls st)) : Wp p l e R s m args below meth c n0 Q h k n (mkF m pc Ls (.long y :: .long x :: st)) :=
  own_lcmp C hd0 h1 (own_if_ge C hd ho hp hf (fun g => WT (fun q => g ((lw_lt x y).mpr q))) (fun g => WF ((lw_lt x y).mp g)))
theorem own_icmp_gt (C : Cx p s m meth c Z cd ml ret own nm) {o : Int} {x y : Int32} {pt pf : Nat} (hd : decode cd pc = .ok (.if_icmp .gt o, 3)) (ho : 0 ≤ (pc : Int) + o) (hp : ((pc : Int) + o).toNat = pt) (hf : pc + 3 = pf) (WT : y < x → Wp p l e R s m args below meth c n0 Q h k n (mkF m pt Ls st)) (WF : ¬ y < x → Wp p l e R s m args below meth c n0 Q h k n (mkF m pf Ls st)) : Wp p l e R s m args below meth c n0 Q h k n (mkF m pc Ls (.int y :: .int x :: st)) := by
  subst hf
  by_cases g : y < x
  · exact own_lift (fun T A t q => XS.icmpYes A C.1 rfl (pc0 := pc) (pc' := pt) rfl (hb C.2.2.1 hd) rfl (tlt g).2.2.1 ho hp q) (WT g)
  · exact own_lift (fun T A t q => XS.icmpNo A C.1 rfl (hb C.2.2.1 hd) rfl (flt g).2.2.1 q) (WF g)
theorem own_if_gt (C : Cx p s m meth c Z cd ml ret own nm) {o : Int} {x : Int32} {pt pf : Nat} (hd : decode cd pc = .ok (.ifCond .gt o, 3)) (ho : 0 ≤ (pc : Int) + o) (hp : ((pc : Int) + o).toNat = pt) (hf : pc + 3 = pf) (WT : 0 < x → Wp p l e R s m args below meth c n0 Q h k n (mkF m pt Ls st)) (WF : ¬ 0 < x → Wp p l e R s m args below meth c n0 Q h k n (mkF m pf Ls st)) : Wp p l e R s m args below meth c n0 Q h k n (mkF m pc Ls (.int x :: st)) := by
  subst hf
  by_cases g : 0 < x
  · exact own_lift (fun T A t q => XS.ifYes A C.1 rfl (pc0 := pc) (pc' := pt) rfl (hb C.2.2.1 hd) rfl ((if0 _ _).trans (tlt g).2.2.1) ho hp q) (WT g)
  · exact own_lift (fun T A t q => XS.ifNo A C.1 rfl (hb C.2.2.1 hd) rfl ((if0 _ _).trans (flt g).2.2.1) q) (WF g)
theorem own_lcmp_gt (C : Cx p s m meth c Z cd ml ret own nm) {o : Int} {x y : Int64} {p1 pt pf : Nat} (hd0 : decode cd pc = .ok (.lcmp, 1)) (h1 : pc + 1 = p1) (hd : decode cd p1 = .ok (.ifCond .gt o, 3)) (ho : 0 ≤ (p1 : Int) + o) (hp : ((p1 : Int) + o).toNat = pt) (hf : p1 + 3 = pf) (WT : y < x → Wp p l e R s m args below meth c n0 Q h k n (mkF m pt Ls st)) (WF : ¬ y < x → Wp p l e R s m args below meth c n0 Q h k n (mkF m pf Ls st)) : Wp p l e R s m args below meth c n0 Q h k n (mkF m pc Ls (.long y :: .long x :: st)) :=
  own_lcmp C hd0 h1 (own_if_gt C hd ho hp hf (fun g => WT ((lw_gt x y).mp g)) (fun g => WF (fun q => g ((lw_gt x y).mpr q))))
theorem own_icmp_le (C : Cx p s m meth c Z cd ml ret own nm) {o : Int} {x y : Int32} {pt pf : Nat} (hd : decode cd pc = .ok (.if_icmp .le o, 3)) (ho : 0 ≤ (pc : Int) + o) (hp : ((pc : Int) + o).toNat = pt) (hf : pc + 3 = pf) (WT : ¬ y < x → Wp p l e R s m args below meth c n0 Q h k n (mkF m pt Ls st)) (WF : y < x → Wp p l e R s m args below meth c n0 Q h k n (mkF m pf Ls st)) : Wp p l e R s m args below meth c n0 Q h k n (mkF m pc Ls (.int y :: .int x :: st)) := by
  subst hf
  by_cases g : y < x
  · exact own_lift (fun T A t q => XS.icmpNo A C.1 rfl (hb C.2.2.1 hd) rfl (tlt g).2.2.2 q) (WF g)
  · exact own_lift (fun T A t q => XS.icmpYes A C.1 rfl (pc0 := pc) (pc' := pt) rfl (hb C.2.2.1 hd) rfl (flt g).2.2.2 ho hp q) (WT g)
theorem own_if_le (C : Cx p s m meth c Z cd ml ret own nm) {o : Int} {x : Int32} {pt pf : Nat} (hd : decode cd pc = .ok (.ifCond .le o, 3)) (ho : 0 ≤ (pc : Int) + o) (hp : ((pc : Int) + o).toNat = pt) (hf : pc + 3 = pf) (WT : ¬ 0 < x → Wp p l e R s m args below meth c n0 Q h k n (mkF m pt Ls st)) (WF : 0 < x → Wp p l e R s m args below meth c n0 Q h k n (mkF m pf Ls st)) : Wp p l e R s m args below meth c n0 Q h k n (mkF m pc Ls (.int x :: st)) := by
  subst hf
  by_cases g : 0 < x
  · exact own_lift (fun T A t q => XS.ifNo A C.1 rfl (hb C.2.2.1 hd) rfl ((if0 _ _).trans (tlt g).2.2.2) q) (WF g)
  · exact own_lift (fun T A t q => XS.ifYes A C.1 rfl (pc0 := pc) (pc' := pt) rfl (hb C.2.2.1 hd) rfl ((if0 _ _).trans (flt g).2.2.2) ho hp q) (WT g)
theorem own_lcmp_le (C : Cx p s m meth c Z cd ml ret own nm) {o : Int} {x y : Int64} {p1 pt pf : Nat} (hd0 : decode cd pc = .ok (.lcmp, 1)) (h1 : pc + 1 = p1) (hd : decode cd p1 = .ok (.ifCond .le o, 3)) (ho : 0 ≤ (p1 : Int) + o) (hp : ((p1 : Int) + o).toNat = pt) (hf : p1 + 3 = pf) (WT : ¬ y < x → Wp p l e R s m args below meth c n0 Q h k n (mkF m pt Ls st)) (WF : y < x → Wp p l e R s m args below meth c n0 Q h k n (mkF m pf Ls st)) : Wp p l e R s m args below meth c n0 Q h k n (mkF m pc Ls (.long y :: .long x :: st)) :=
  own_lcmp C hd0 h1 (own_if_le C hd ho hp hf (fun g => WT (fun q => g ((lw_gt x y).mpr q))) (fun g => WF ((lw_gt x y).mp g)))
theorem own_icmp_eq (C : Cx p s m meth c Z cd ml ret own nm) {o : Int} {x y : Int32} {pt pf : Nat} (hd : decode cd pc = .ok (.if_icmp .eq o, 3)) (ho : 0 ≤ (pc : Int) + o) (hp : ((pc : Int) + o).toNat = pt) (hf : pc + 3 = pf) (WT : x = y → Wp p l e R s m args below meth c n0 Q h k n (mkF m pt Ls st)) (WF : ¬ x = y → Wp p l e R s m args below meth c n0 Q h k n (mkF m pf Ls st)) : Wp p l e R s m args below meth c n0 Q h k n (mkF m pc Ls (.int y :: .int x :: st)) := by
  subst hf
  by_cases g : x = y
  · exact own_lift (fun T A t q => XS.icmpYes A C.1 rfl (pc0 := pc) (pc' := pt) rfl (hb C.2.2.1 hd) rfl (teq g).1 ho hp q) (WT g)
  · exact own_lift (fun T A t q => XS.icmpNo A C.1 rfl (hb C.2.2.1 hd) rfl (feq g).1 q) (WF g)
theorem own_if_eq (C : Cx p s m meth c Z cd ml ret own nm) {o : Int} {x : Int32} {pt pf : Nat} (hd : decode cd pc = .ok (.ifCond .eq o, 3)) (ho : 0 ≤ (pc : Int) + o) (hp : ((pc : Int) + o).toNat = pt) (hf : pc + 3 = pf) (WT : x = 0 → Wp p l e R s m args below meth c n0 Q h k n (mkF m pt Ls st)) (WF : ¬ x = 0 → Wp p l e R s m args below meth c n0 Q h k n (mkF m pf Ls st)) : Wp p l e R s m args below meth c n0 Q h k n (mkF m pc Ls (.int x :: st)) := by
  subst hf
  by_cases g : x = 0
  · exact own_lift (fun T A t q => XS.ifYes A C.1 rfl (pc0 := pc) (pc' := pt) rfl (hb C.2.2.1 hd) rfl ((if0 _ _).trans (teq g).1) ho hp q) (WT g)
  · exact own_lift (fun T A t q => XS.ifNo A C.1 rfl (hb C.2.2.1 hd) rfl ((if0 _ _).trans (feq g).1) q) (WF g)
theorem own_lcmp_eq (C : Cx p s m meth c Z cd ml ret own nm) {o : Int} {x y : Int64} {p1 pt pf : Nat} (hd0 : decode cd pc = .ok (.lcmp, 1)) (h1 : pc + 1 = p1) (hd : decode cd p1 = .ok (.ifCond .eq o, 3)) (ho : 0 ≤ (p1 : Int) + o) (hp : ((p1 : Int) + o).toNat = pt) (hf : p1 + 3 = pf) (WT : x = y → Wp p l e R s m args below meth c n0 Q h k n (mkF m pt Ls st)) (WF : ¬ x = y → Wp p l e R s m args below meth c n0 Q h k n (mkF m pf Ls st)) : Wp p l e R s m args below meth c n0 Q h k n (mkF m pc Ls (.long y :: .long x :: st)) :=
  own_lcmp C hd0 h1 (own_if_eq C hd ho hp hf (fun g => WT ((lw_eq x y).mp g)) (fun g => WF (fun q => g ((lw_eq x y).mpr q))))
theorem own_icmp_ne (C : Cx p s m meth c Z cd ml ret own nm) {o : Int} {x y : Int32} {pt pf : Nat} (hd : decode cd pc = .ok (.if_icmp .ne o, 3)) (ho : 0 ≤ (pc : Int) + o) (hp : ((pc : Int) + o).toNat = pt) (hf : pc + 3 = pf) (WT : ¬ x = y → Wp p l e R s m args below meth c n0 Q h k n (mkF m pt Ls st)) (WF : x = y → Wp p l e R s m args below meth c n0 Q h k n (mkF m pf Ls st)) : Wp p l e R s m args below meth c n0 Q h k n (mkF m pc Ls (.int y :: .int x :: st)) := by
  subst hf
  by_cases g : x = y
  · exact own_lift (fun T A t q => XS.icmpNo A C.1 rfl (hb C.2.2.1 hd) rfl (teq g).2 q) (WF g)
  · exact own_lift (fun T A t q => XS.icmpYes A C.1 rfl (pc0 := pc) (pc' := pt) rfl (hb C.2.2.1 hd) rfl (feq g).2 ho hp q) (WT g)
theorem own_if_ne (C : Cx p s m meth c Z cd ml ret own nm) {o : Int} {x : Int32} {pt pf : Nat} (hd : decode cd pc = .ok (.ifCond .ne o, 3)) (ho : 0 ≤ (pc : Int) + o) (hp : ((pc : Int) + o).toNat = pt) (hf : pc + 3 = pf) (WT : ¬ x = 0 → Wp p l e R s m args below meth c n0 Q h k n (mkF m pt Ls st)) (WF : x = 0 → Wp p l e R s m args below meth c n0 Q h k n (mkF m pf Ls st)) : Wp p l e R s m args below meth c n0 Q h k n (mkF m pc Ls (.int x :: st)) := by
  subst hf
  by_cases g : x = 0
  · exact own_lift (fun T A t q => XS.ifNo A C.1 rfl (hb C.2.2.1 hd) rfl ((if0 _ _).trans (teq g).2) q) (WF g)
  · exact own_lift (fun T A t q => XS.ifYes A C.1 rfl (pc0 := pc) (pc' := pt) rfl (hb C.2.2.1 hd) rfl ((if0 _ _).trans (feq g).2) ho hp q) (WT g)
theorem own_lcmp_ne (C : Cx p s m meth c Z cd ml ret own nm) {o : Int} {x y : Int64} {p1 pt pf : Nat} (hd0 : decode cd pc = .ok (.lcmp, 1)) (h1 : pc + 1 = p1) (hd : decode cd p1 = .ok (.ifCond .ne o, 3)) (ho : 0 ≤ (p1 : Int) + o) (hp : ((p1 : Int) + o).toNat = pt) (hf : p1 + 3 = pf) (WT : ¬ x = y → Wp p l e R s m args below meth c n0 Q h k n (mkF m pt Ls st)) (WF : x = y → Wp p l e R s m args below meth c n0 Q h k n (mkF m pf Ls st)) : Wp p l e R s m args below meth c n0 Q h k n (mkF m pc Ls (.long y :: .long x :: st)) :=
  own_lcmp C hd0 h1 (own_if_ne C hd ho hp hf (fun g => WT (fun q => g ((lw_eq x y).mpr q))) (fun g => WF ((lw_eq x y).mp g)))
theorem own_acmp_eq (C : Cx p s m meth c Z cd ml ret own nm) {o : Int} {a b : Addr} {pt pf : Nat} (hd : decode cd pc = .ok (.if_acmp .eq o, 3)) (ho : 0 ≤ (pc : Int) + o) (hp : ((pc : Int) + o).toNat = pt) (hf : pc + 3 = pf) (WT : a = b → Wp p l e R s m args below meth c n0 Q h k n (mkF m pt Ls st)) (WF : ¬ a = b → Wp p l e R s m args below meth c n0 Q h k n (mkF m pf Ls st)) : Wp p l e R s m args below meth c n0 Q h k n (mkF m pc Ls (.ref b :: .ref a :: st)) := by
  subst hf
  by_cases g : a = b
  · exact own_lift (fun T A t q => XS.acmpYes A C.1 rfl (pc0 := pc) (pc' := pt) rfl (hb C.2.2.1 hd) rfl (by simp [if_acmp.holds, g]) ho hp q) (WT g)
  · exact own_lift (fun T A t q => XS.acmpNo A C.1 rfl (hb C.2.2.1 hd) rfl (by simp [if_acmp.holds, g]) q) (WF g)
theorem own_acmp_ne (C : Cx p s m meth c Z cd ml ret own nm) {o : Int} {a b : Addr} {pt pf : Nat} (hd : decode cd pc = .ok (.if_acmp .ne o, 3)) (ho : 0 ≤ (pc : Int) + o) (hp : ((pc : Int) + o).toNat = pt) (hf : pc + 3 = pf) (WT : ¬ a = b → Wp p l e R s m args below meth c n0 Q h k n (mkF m pt Ls st)) (WF : a = b → Wp p l e R s m args below meth c n0 Q h k n (mkF m pf Ls st)) : Wp p l e R s m args below meth c n0 Q h k n (mkF m pc Ls (.ref b :: .ref a :: st)) := by
  subst hf
  by_cases g : a = b
  · exact own_lift (fun T A t q => XS.acmpNo A C.1 rfl (hb C.2.2.1 hd) rfl (by simp [if_acmp.holds, g]) q) (WF g)
  · exact own_lift (fun T A t q => XS.acmpYes A C.1 rfl (pc0 := pc) (pc' := pt) rfl (hb C.2.2.1 hd) rfl (by simp [if_acmp.holds, g]) ho hp q) (WT g)
theorem own_ifnull_y (C : Cx p s m meth c Z cd ml ret own nm) {o : Int} {pt : Nat} (hd : decode cd pc = .ok (.ifnull o, 3)) (ho : 0 ≤ (pc : Int) + o) (hp : ((pc : Int) + o).toNat = pt) (W : Wp p l e R s m args below meth c n0 Q h k n (mkF m pt Ls st)) : Wp p l e R s m args below meth c n0 Q h k n (mkF m pc Ls (.null :: st)) :=
  own_lift (fun T A t q => XS.ifnullYes A C.1 rfl (pc0 := pc) (pc' := pt) rfl (hb C.2.2.1 hd) rfl ho hp q) W
theorem own_ifnull_n (C : Cx p s m meth c Z cd ml ret own nm) {o : Int} {a : Addr} (hd : decode cd pc = .ok (.ifnull o, 3)) (hp : pc + 3 = pc') (W : Wp p l e R s m args below meth c n0 Q h k n (mkF m pc' Ls st)) : Wp p l e R s m args below meth c n0 Q h k n (mkF m pc Ls (.ref a :: st)) := by
  subst hp; exact own_lift (fun T A t q => XS.ifnullNo A C.1 rfl (hb C.2.2.1 hd) rfl q) W
theorem own_ifnonnull_y (C : Cx p s m meth c Z cd ml ret own nm) {o : Int} {a : Addr} {pt : Nat} (hd : decode cd pc = .ok (.ifnonnull o, 3)) (ho : 0 ≤ (pc : Int) + o) (hp : ((pc : Int) + o).toNat = pt) (W : Wp p l e R s m args below meth c n0 Q h k n (mkF m pt Ls st)) : Wp p l e R s m args below meth c n0 Q h k n (mkF m pc Ls (.ref a :: st)) :=
  own_lift (fun T A t q => XS.ifnonnullYes A C.1 rfl (pc0 := pc) (pc' := pt) rfl (hb C.2.2.1 hd) rfl ho hp q) W
theorem own_ifnonnull_n (C : Cx p s m meth c Z cd ml ret own nm) {o : Int} (hd : decode cd pc = .ok (.ifnonnull o, 3)) (hp : pc + 3 = pc') (W : Wp p l e R s m args below meth c n0 Q h k n (mkF m pc' Ls st)) : Wp p l e R s m args below meth c n0 Q h k n (mkF m pc Ls (.null :: st)) := by
  subst hp; exact own_lift (fun T A t q => XS.ifnonnullNo A C.1 rfl (hb C.2.2.1 hd) rfl q) W
theorem own_ldc (C : Cx p s m meth c Z cd ml ret own nm) {i : Nat} {v : Int32} (hd : decode cd pc = .ok (.ldc i, 2)) (w : (Jvm.Cond.constant own i v).before a0 Z = true) (hp : pc + 2 = pc') (W : Wp p l e R s m args below meth c n0 Q h k n (mkF m pc' Ls (.int v :: st))) : Wp p l e R s m args below meth c n0 Q h k n (mkF m pc Ls st) := by
  subst hp; exact own_liftX (fun T locs X eT t q => X.ldcInt C.1 C.2.2.2.2.1 (mvT C.2.1 w) (g := mkF m pc Ls st) rfl (hb C.2.2.1 hd) t q) W
theorem own_ldcw (C : Cx p s m meth c Z cd ml ret own nm) {i : Nat} {v : Int32} (hd : decode cd pc = .ok (.ldc_w i, 3)) (w : (Jvm.Cond.constant own i v).before a0 Z = true) (hp : pc + 3 = pc') (W : Wp p l e R s m args below meth c n0 Q h k n (mkF m pc' Ls (.int v :: st))) : Wp p l e R s m args below meth c n0 Q h k n (mkF m pc Ls st) := by
  subst hp; exact own_liftX (fun T locs X eT t q => X.ldcwInt C.1 C.2.2.2.2.1 (mvT C.2.1 w) (g := mkF m pc Ls st) rfl (hb C.2.2.1 hd) t q) W
theorem own_ldc2 (C : Cx p s m meth c Z cd ml ret own nm) {i : Nat} {v : Int64} (hd : decode cd pc = .ok (.ldc2_w i, 3)) (w : (Jvm.Cond.constantLong own i v).before a0 Z = true) (hp : pc + 3 = pc') (W : Wp p l e R s m args below meth c n0 Q h k n (mkF m pc' Ls (.long v :: st))) : Wp p l e R s m args below meth c n0 Q h k n (mkF m pc Ls st) := by
  subst hp; exact own_liftX (fun T locs X eT t q => X.ldc2Long C.1 C.2.2.2.2.1 (mvT C.2.1 w) (g := mkF m pc Ls st) rfl (hb C.2.2.1 hd) t q) W
/-! objects -/
theorem own_getfield (C : Cx p s m meth c Z cd ml ret own nm) {i : Nat} {O f d : String} {a : Addr} {v : Value} (hd : decode cd pc = .ok (.getfield i, 3)) (w : (Jvm.Cond.fieldLink own i O f d).before a0 Z = true) (F : Fld Z h a O f d v) (hp : pc + 3 = pc') (W : Wp p l e R s m args below meth c n0 Q h k n (mkF m pc' Ls (v :: st))) : Wp p l e R s m args below meth c n0 Q h k n (mkF m pc Ls (.ref a :: st)) := fun T locs X eT N => by
  subst hp
  obtain ⟨T', X', e', st'⟩ := getF X C.1 C.2.1 C.2.2.2.2.1 (host := "") (Or.inl w) Via.refl eT F (g := mkF m pc Ls (.ref a :: st)) rfl rfl (hb C.2.2.1 hd)
  obtain ⟨s₂, o, q, r⟩ := W T' locs X' e' N
  exact ⟨s₂, o, st' _ q, r⟩
theorem own_getstatic (C : Cx p s m meth c Z cd ml ret own nm) {i : Nat} {O f d : String} {v : Value} (hd : decode cd pc = .ok (.getstatic i, 3)) (w : (Jvm.Cond.fieldLink own i O f d).before a0 Z = true) (F : Sta Z h O f d v) (hp : pc + 3 = pc') (W : Wp p l e R s m args below meth c n0 Q h k n (mkF m pc' Ls (v :: st))) : Wp p l e R s m args below meth c n0 Q h k n (mkF m pc Ls st) := fun T locs X eT N => by
  subst hp
  obtain ⟨T', X', e', st'⟩ := getS2 X C.1 C.2.1 C.2.2.2.2.1 (host := "") (Or.inl w) Via.refl eT F (g := mkF m pc Ls st) rfl (hb C.2.2.1 hd)
  obtain ⟨s₂, o, q, r⟩ := W T' locs X' e' N
  exact ⟨s₂, o, st' _ q, r⟩
theorem own_putfield (C : Cx p s m meth c Z cd ml ret own nm) {i kk : Nat} {O f d K : String} {ty : FieldType} {a : Addr} {v old : Value} (hd : decode cd pc = .ok (.putfield i, 3)) (w : (Jvm.Cond.fieldLink own i O f d).before a0 Z = true) (F : Fld Z h a O f d old) (E : Exa Z h a K) (L : (Jvm.Cond.lays K O f d).before a0 Z = true ∨ ((Jvm.Cond.laysFinal K O f d).before a0 Z = true ∧ own = O ∧ nm = "<init>")) (wi : (Jvm.Cond.instantiable K kk).before a0 Z = true)
    (hty : parseFieldDescriptor d = some ty) (hn : narrow ty v = v) (hf : fits ty v = true) (ha : n0 ≤ a) (hp : pc + 3 = pc') (W : ∀ h', Wr h h' a (RoadKit.slotOf Z O f d) v → Fld Z h' a O f d v → Wp p l e R s m args below meth c n0 Q h' k n (mkF m pc' Ls st)) : Wp p l e R s m args below meth c n0 Q h k n (mkF m pc Ls (v :: .ref a :: st)) := fun T locs X eT N => by
  subst hp
  obtain ⟨T', h', X', e', Wr', st'⟩ := putF X C.1 C.2.1 C.2.2.2.2.1 (host := "") (Or.inl w) Via.refl eT F E (L.imp id fun q => ⟨q.1, q.2.1, C.2.2.2.2.2.2.2.trans q.2.2⟩) wi hty hn hf (g := mkF m pc Ls (v :: .ref a :: st)) rfl rfl (hb C.2.2.1 hd)
  obtain ⟨s₂, o, q, r⟩ := W h' Wr' (F.same Wr') T' _ X' e' (Fr.snoc X' N ha)
  exact ⟨s₂, o, st' _ q, r⟩
theorem own_new (C : Cx p s m meth c Z cd ml ret own nm) {i nn : Nat} {K : String} (hd : decode cd pc = .ok (.new i, 3)) (w : (Jvm.Cond.classLink own i K).before a0 Z = true) (wi : (Jvm.Cond.instantiable K nn).before a0 Z = true) (wz : (Jvm.Cond.initialized K).before a0 Z = true) (hc : k + 1 ≤ R.cells) (hl : n + nn ≤ R.slots) (hp : pc + 3 = pc')
    (W : ∀ h' a, a = h.size → Ext h h' → Exa Z h' a K → (∀ {O f d : String} {ty : FieldType}, Laid Z a0 K O f d → parseFieldDescriptor d = some ty → Fld Z h' a O f d (defaultValue ty)) → Wp p l e R s m args below meth c n0 Q h' (k + 1) (n + nn) (mkF m pc' Ls (.ref a :: st))) : Wp p l e R s m args below meth c n0 Q h k n (mkF m pc Ls st) := fun T locs X eT N => by
  subst hp
  obtain ⟨T', h', X', e', E', A', D', -, st'⟩ := newO X C.1 C.2.1 C.2.2.2.2.1 w wi wz eT (g := mkF m pc Ls st) rfl (hb C.2.2.1 hd) hc hl
  obtain ⟨s₂, o, q, r⟩ := W h' h.size rfl E' A' D' T' _ X' e' N
  exact ⟨s₂, o, st' _ q, r⟩
/-- java.lang.Object's own constructor -/
theorem own_initO (C : Cx p s m meth c Z cd ml ret own nm) {i : Nat} {wL : Nat} (hd : decode cd pc = .ok (.invokespecial i, 3)) (w1 : (Jvm.Cond.methodLink own i Lib.objectInit).before a0 Z = true) (w2 : (Jvm.Cond.instanceMethod Lib.objectInit).before a0 Z = true) (w3 : (Jvm.Cond.code Lib.objectInit ⟨#[0xb1]⟩ 1 none).before a0 Z = true)
    {a : Addr} (hsz : Ls.size = ml) (hf : 1 ≤ R.frames) (hW : 0 + (st.map fun v => v.category).sum ≤ wL) (hl : wL + 12 ≤ R.locals) (hp : pc + 3 = pc') (W : Wp p l e R s m args below meth c n0 Q h k n (mkF m pc' Ls st)) : Wp p l e R s m args below meth c n0 Q h k n (mkF m pc Ls (.ref a :: st)) := fun T locs X eT N => by
  subst hp
  obtain ⟨T', X', e', st'⟩ := initO X C.1 C.2.1 C.2.2.2.2.1 w1 w2 w3 eT (g := mkF m pc Ls (.ref a :: st)) rfl (by rw [C.2.2.2.1]; exact hsz) rfl (hb C.2.2.1 hd) hf (W := wL) hW hl
  obtain ⟨s₂, o, q, r⟩ := W T' locs X' e' N
  exact ⟨s₂, o, st' _ q, r⟩
/-! arrays: of ints (of any narrow kind), of longs -/
def AI (Z : State) (h : Heap) (a : Addr) (ty : FieldType) (xs : List Int32) : Prop := ∃ cl : Cell, Arr Z h a cl ty ∧ cl.slots = (xs.map Value.int).toArray ∧ xs.length < 2 ^ 31
def AJ (Z : State) (h : Heap) (a : Addr) (xs : List Int64) : Prop := ∃ cl : Cell, Arr Z h a cl .long ∧ cl.slots = (xs.map Value.long).toArray ∧ xs.length < 2 ^ 31
theorem AI.lt {a : Addr} {ty : FieldType} {xs : List Int32} (A : AI Z h a ty xs) : a < h.size := by obtain ⟨cl, A, -⟩ := A; exact A.lt
theorem AJ.lt {a : Addr} {xs : List Int64} (A : AJ Z h a xs) : a < h.size := by obtain ⟨cl, A, -⟩ := A; exact A.lt
theorem AI.ext {h' : Heap} {a : Addr} {ty : FieldType} {xs : List Int32} (A : AI Z h a ty xs) (E : Ext h h') : AI Z h' a ty xs := by obtain ⟨cl, A, r⟩ := A; exact ⟨cl, A.ext E, r⟩
theorem AJ.ext {h' : Heap} {a : Addr} {xs : List Int64} (A : AJ Z h a xs) (E : Ext h h') : AJ Z h' a xs := by obtain ⟨cl, A, r⟩ := A; exact ⟨cl, A.ext E, r⟩
theorem AI.other {h' : Heap} {a b : Addr} {sl : Nat} {v : Value} {ty : FieldType} {xs : List Int32} (A : AI Z h a ty xs) (W : Wr h h' b sl v) (q : a ≠ b) : AI Z h' a ty xs := by obtain ⟨cl, A, r⟩ := A; exact ⟨cl, A.other W q, r⟩
theorem AJ.other {h' : Heap} {a b : Addr} {sl : Nat} {v : Value} {xs : List Int64} (A : AJ Z h a xs) (W : Wr h h' b sl v) (q : a ≠ b) : AJ Z h' a xs := by obtain ⟨cl, A, r⟩ := A; exact ⟨cl, A.other W q, r⟩
theorem AI.keep {h' : Heap} {a : Addr} {ws : List Addr} {ty : FieldType} {xs : List Int32} (A : AI Z h a ty xs) (K : Keep h h' ws) (q : a ∉ ws) : AI Z h' a ty xs := by obtain ⟨cl, A, r⟩ := A; exact ⟨cl, ⟨K.2.1 a cl A.1 q, A.2⟩, r⟩
theorem AJ.keep {h' : Heap} {a : Addr} {ws : List Addr} {xs : List Int64} (A : AJ Z h a xs) (K : Keep h h' ws) (q : a ∉ ws) : AJ Z h' a xs := by obtain ⟨cl, A, r⟩ := A; exact ⟨cl, ⟨K.2.1 a cl A.1 q, A.2⟩, r⟩
theorem AI.same {h' : Heap} {a : Addr} {i : Nat} {x : Int32} {ty : FieldType} {xs : List Int32} (A : AI Z h a ty xs) (W : Wr h h' a i (.int x)) : AI Z h' a ty (xs.set i x) := by
  obtain ⟨cl, A, r1, r2⟩ := A
  exact ⟨_, A.same W, by simp [Cell.setSlot, r1, List.map_set], by simpa using r2⟩
theorem AJ.same {h' : Heap} {a : Addr} {i : Nat} {x : Int64} {xs : List Int64} (A : AJ Z h a xs) (W : Wr h h' a i (.long x)) : AJ Z h' a (xs.set i x) := by
  obtain ⟨cl, A, r1, r2⟩ := A
  exact ⟨_, A.same W, by simp [Cell.setSlot, r1, List.map_set], by simpa using r2⟩
theorem own_iaload (C : Cx p s m meth c Z cd ml ret own nm) {a : Addr} {j v : Int32} {i : Nat} {xs : List Int32} (hd : decode cd pc = .ok (.iaload, 1)) (A : AI Z h a .int xs) (hj : ¬ j < 0) (hi : j.toNatClampNeg = i) (hv : xs[i]? = some v) (hp : pc + 1 = pc') (W : Wp p l e R s m args below meth c n0 Q h k n (mkF m pc' Ls (.int v :: st))) : Wp p l e R s m args below meth c n0 Q h k n (mkF m pc Ls (.int j :: .ref a :: st)) := by
  subst hp hi
  obtain ⟨cl, A, r1, r2⟩ := A
  have hlt := (List.getElem?_eq_some_iff.mp hv).1
  exact own_liftX (fun T locs X eT t q => X.iaload C.1 (j := j) (v := .int v) (by rw [eT]; exact A.1) (State.isArrayOf_alike C.2.1.alike A.2.1) A.2.2 (fun z => z.elim hj fun y => by rw [r1] at y; simp at y; omega) (by rw [r1]; simp [hv]) (g := mkF m pc Ls (.int j :: .ref a :: st)) rfl rfl (hb C.2.2.1 hd) t q) W
theorem own_baload (C : Cx p s m meth c Z cd ml ret own nm) {a : Addr} {j v : Int32} {i : Nat} {xs : List Int32} (hd : decode cd pc = .ok (.baload, 1)) (A : AI Z h a .byte xs) (hj : ¬ j < 0) (hi : j.toNatClampNeg = i) (hv : xs[i]? = some v) (hp : pc + 1 = pc') (W : Wp p l e R s m args below meth c n0 Q h k n (mkF m pc' Ls (.int v :: st))) : Wp p l e R s m args below meth c n0 Q h k n (mkF m pc Ls (.int j :: .ref a :: st)) := by
  subst hp hi
  obtain ⟨cl, A, r1, r2⟩ := A
  have hlt := (List.getElem?_eq_some_iff.mp hv).1
  exact own_liftX (fun T locs X eT t q => X.baloadBytes C.1 (j := j) (v := .int v) (by rw [eT]; exact A.1) (State.isArrayOf_alike C.2.1.alike A.2.1) A.2.2 (fun z => z.elim hj fun y => by rw [r1] at y; simp at y; omega) (by rw [r1]; simp [hv]) (g := mkF m pc Ls (.int j :: .ref a :: st)) rfl rfl (hb C.2.2.1 hd) t q) W
theorem own_laload (C : Cx p s m meth c Z cd ml ret own nm) {a : Addr} {j : Int32} {v : Int64} {i : Nat} {xs : List Int64} (hd : decode cd pc = .ok (.laload, 1)) (A : AJ Z h a xs) (hj : ¬ j < 0) (hi : j.toNatClampNeg = i) (hv : xs[i]? = some v) (hp : pc + 1 = pc') (W : Wp p l e R s m args below meth c n0 Q h k n (mkF m pc' Ls (.long v :: st))) : Wp p l e R s m args below meth c n0 Q h k n (mkF m pc Ls (.int j :: .ref a :: st)) := by
  subst hp hi
  obtain ⟨cl, A, r1, r2⟩ := A
  have hlt := (List.getElem?_eq_some_iff.mp hv).1
  exact own_liftX (fun T locs X eT t q => X.laload C.1 (j := j) (v := .long v) (by rw [eT]; exact A.1) (State.isArrayOf_alike C.2.1.alike A.2.1) A.2.2 (fun z => z.elim hj fun y => by rw [r1] at y; simp at y; omega) (by rw [r1]; simp [hv]) (g := mkF m pc Ls (.int j :: .ref a :: st)) rfl rfl (hb C.2.2.1 hd) t q) W
theorem own_lenI (C : Cx p s m meth c Z cd ml ret own nm) {a : Addr} {v : Int32} {ty : FieldType} {xs : List Int32} (hd : decode cd pc = .ok (.arraylength, 1)) (A : AI Z h a ty xs) (hv : xs.length.toInt32 = v) (hp : pc + 1 = pc') (W : Wp p l e R s m args below meth c n0 Q h k n (mkF m pc' Ls (.int v :: st))) : Wp p l e R s m args below meth c n0 Q h k n (mkF m pc Ls (.ref a :: st)) := by
  subst hp hv
  obtain ⟨cl, A, r1, r2⟩ := A
  have e1 : cl.slots.size = xs.length := by rw [r1]; simp
  exact own_liftX (fun T locs X eT t q => X.arraylength C.1 (by rw [eT]; exact A.1) (State.isArrayOf_alike C.2.1.alike A.2.1) (g := mkF m pc Ls (.ref a :: st)) rfl rfl (hb C.2.2.1 hd) t (by rw [e1]; exact q)) W
theorem own_lenJ (C : Cx p s m meth c Z cd ml ret own nm) {a : Addr} {v : Int32} {xs : List Int64} (hd : decode cd pc = .ok (.arraylength, 1)) (A : AJ Z h a xs) (hv : xs.length.toInt32 = v) (hp : pc + 1 = pc') (W : Wp p l e R s m args below meth c n0 Q h k n (mkF m pc' Ls (.int v :: st))) : Wp p l e R s m args below meth c n0 Q h k n (mkF m pc Ls (.ref a :: st)) := by
  subst hp hv
  obtain ⟨cl, A, r1, r2⟩ := A
  have e1 : cl.slots.size = xs.length := by rw [r1]; simp
  exact own_liftX (fun T locs X eT t q => X.arraylength C.1 (by rw [eT]; exact A.1) (State.isArrayOf_alike C.2.1.alike A.2.1) (g := mkF m pc Ls (.ref a :: st)) rfl rfl (hb C.2.2.1 hd) t (by rw [e1]; exact q)) W
theorem own_iastore (C : Cx p s m meth c Z cd ml ret own nm) {a : Addr} {j x : Int32} {i : Nat} {xs ys : List Int32} (hd : decode cd pc = .ok (.iastore, 1)) (A : AI Z h a .int xs) (hj : ¬ j < 0) (hi : j.toNatClampNeg = i) (hlt : i < xs.length) (hys : xs.set i x = ys) (ha : n0 ≤ a) (hp : pc + 1 = pc') (W : ∀ h', Wr h h' a i (.int x) → AI Z h' a .int ys → Wp p l e R s m args below meth c n0 Q h' k n (mkF m pc' Ls st)) : Wp p l e R s m args below meth c n0 Q h k n (mkF m pc Ls (.int x :: .int j :: .ref a :: st)) := fun T locs X eT N => by
  subst hp hi hys
  have A' := A
  obtain ⟨cl, A, r1, r2⟩ := A
  obtain ⟨T', h', X', e', Wr', st'⟩ := stI X C.1 C.2.1 eT A (j := j) (x := x) (fun z => z.elim hj fun y => by rw [r1] at y; simp at y; omega) (g := mkF m pc Ls (.int x :: .int j :: .ref a :: st)) rfl rfl (hb C.2.2.1 hd)
  obtain ⟨s₂, o, q, r⟩ := W h' Wr' (A'.same Wr') T' _ X' e' (Fr.snoc X' N ha)
  exact ⟨s₂, o, st' _ q, r⟩
theorem own_lastore (C : Cx p s m meth c Z cd ml ret own nm) {a : Addr} {j : Int32} {x : Int64} {i : Nat} {xs ys : List Int64} (hd : decode cd pc = .ok (.lastore, 1)) (A : AJ Z h a xs) (hj : ¬ j < 0) (hi : j.toNatClampNeg = i) (hlt : i < xs.length) (hys : xs.set i x = ys) (ha : n0 ≤ a) (hp : pc + 1 = pc') (W : ∀ h', Wr h h' a i (.long x) → AJ Z h' a ys → Wp p l e R s m args below meth c n0 Q h' k n (mkF m pc' Ls st)) : Wp p l e R s m args below meth c n0 Q h k n (mkF m pc Ls (.long x :: .int j :: .ref a :: st)) := fun T locs X eT N => by
  subst hp hi hys
  have A' := A
  obtain ⟨cl, A, r1, r2⟩ := A
  obtain ⟨T', h', X', e', Wr', st'⟩ := stJ X C.1 C.2.1 eT A (j := j) (x := x) (fun z => z.elim hj fun y => by rw [r1] at y; simp at y; omega) (g := mkF m pc Ls (.long x :: .int j :: .ref a :: st)) rfl rfl (hb C.2.2.1 hd)
  obtain ⟨s₂, o, q, r⟩ := W h' Wr' (A'.same Wr') T' _ X' e' (Fr.snoc X' N ha)
  exact ⟨s₂, o, st' _ q, r⟩
theorem own_bastore (C : Cx p s m meth c Z cd ml ret own nm) {a : Addr} {j x : Int32} {i : Nat} {xs ys : List Int32} (hd : decode cd pc = .ok (.bastore, 1)) (A : AI Z h a .byte xs) (hj : ¬ j < 0) (hi : j.toNatClampNeg = i) (hlt : i < xs.length) (hys : xs.set i (nar .byte x) = ys) (ha : n0 ≤ a) (hp : pc + 1 = pc') (W : ∀ h', Wr h h' a i (.int (nar .byte x)) → AI Z h' a .byte ys → Wp p l e R s m args below meth c n0 Q h' k n (mkF m pc' Ls st)) : Wp p l e R s m args below meth c n0 Q h k n (mkF m pc Ls (.int x :: .int j :: .ref a :: st)) := fun T locs X eT N => by
  subst hp hi hys
  have A' := A
  obtain ⟨cl, A, r1, r2⟩ := A
  obtain ⟨T', h', X', e', Wr', st'⟩ := stB X C.1 C.2.1 eT A (j := j) (x := x) (fun z => z.elim hj fun y => by rw [r1] at y; simp at y; omega) (g := mkF m pc Ls (.int x :: .int j :: .ref a :: st)) rfl rfl (hb C.2.2.1 hd)
  obtain ⟨s₂, o, q, r⟩ := W h' Wr' (A'.same Wr') T' _ X' e' (Fr.snoc X' N ha)
  exact ⟨s₂, o, st' _ q, r⟩
theorem own_newI (C : Cx p s m meth c Z cd ml ret own nm) {aty : ArrayType} {ty : FieldType} {z : Int32} {len cap : Nat} (hd : decode cd pc = .ok (.newarray aty, 2)) (hty : newarray.typeOf aty = ty) (hdv : defaultValue ty = .int 0) (w : (Jvm.Cond.arrayClass ty).before a0 Z = true) (hz : ¬ z < 0) (hlen : z.toNatClampNeg = len) (hcap : len ≤ cap) (hb8 : cap * 8 ≤ 536870912) (hc : k + 1 ≤ R.cells) (hl : n + cap ≤ R.slots) (hp : pc + 2 = pc')
    (W : ∀ h' a, a = h.size → Ext h h' → AI Z h' a ty (List.replicate len 0) → Wp p l e R s m args below meth c n0 Q h' (k + 1) (n + cap) (mkF m pc' Ls (.ref a :: st))) : Wp p l e R s m args below meth c n0 Q h k n (mkF m pc Ls (.int z :: st)) := fun T locs X eT N => by
  subst hp hlen hty
  obtain ⟨T', h', cA, X', e', E', A', st'⟩ := newP X C.1 C.2.1 w eT (g := mkF m pc Ls (.int z :: st)) rfl (hb C.2.2.1 hd) rfl hz hcap hb8 hc hl
  obtain ⟨s₂, o, q, r⟩ := W h' h.size rfl E' ⟨_, A', by simp [newA, hdv], by simp; exact (back32 hz).2⟩ T' _ X' e' N
  exact ⟨s₂, o, st' _ q, r⟩
theorem own_newJ (C : Cx p s m meth c Z cd ml ret own nm) {z : Int32} {len cap : Nat} (hd : decode cd pc = .ok (.newarray .long, 2)) (w : (Jvm.Cond.arrayClass .long).before a0 Z = true) (hz : ¬ z < 0) (hlen : z.toNatClampNeg = len) (hcap : len ≤ cap) (hb8 : cap * 8 ≤ 536870912) (hc : k + 1 ≤ R.cells) (hl : n + cap ≤ R.slots) (hp : pc + 2 = pc')
    (W : ∀ h' a, a = h.size → Ext h h' → AJ Z h' a (List.replicate len 0) → Wp p l e R s m args below meth c n0 Q h' (k + 1) (n + cap) (mkF m pc' Ls (.ref a :: st))) : Wp p l e R s m args below meth c n0 Q h k n (mkF m pc Ls (.int z :: st)) := fun T locs X eT N => by
  subst hp hlen
  obtain ⟨T', h', cA, X', e', E', A', st'⟩ := newP X C.1 C.2.1 (aty := .long) w eT (g := mkF m pc Ls (.int z :: st)) rfl (hb C.2.2.1 hd) rfl hz hcap hb8 hc hl
  obtain ⟨s₂, o, q, r⟩ := W h' h.size rfl E' ⟨_, A', by simp [newA, newarray.typeOf, defaultValue], by simp; exact (back32 hz).2⟩ T' _ X' e' N
  exact ⟨s₂, o, st' _ q, r⟩
/-! calls -/
theorem own_callS (C : Cx p s m meth c Z cd ml ret own nm) {i : Nat} {y : MethodName} {bytes : ByteArray} {mL wL : Nat} {rt : Option FieldType} {rm : Room} {as : Array Value} {Qc : Option Value → Heap → Prop} {argsL rest : List Value}
    (M : Met l y bytes mL rt [] rm Z n0 as h Qc)
    (hd : decode cd pc = .ok (.invokestatic i, 3)) (w1 : (Jvm.Cond.methodLink own i y).before a0 Z = true) (w2 : (Jvm.Cond.static y).before a0 Z = true) (w3 : (Jvm.Cond.initialized y.cls).before a0 Z = true) (w4 : (Jvm.Cond.code y bytes mL rt).before a0 Z = true)
    (hy : y.cls ≠ "java/lang/invoke/MethodHandle" ∧ y.cls ≠ "java/lang/invoke/VarHandle") (hfr : rm.frames + 1 ≤ R.frames) (hlo : wL + (mL + 11) + rm.locals ≤ R.locals) (hsz : Ls.size = ml) (hlen : ∀ sig, parseMethodDescriptor y.desc = some sig → argsL.length = sig.parameters.length)
    (hst : st = argsL.reverse ++ rest) (has : argsL.toArray = as) (hW : 0 + (rest.map fun v => v.category).sum ≤ wL) (hc : k + rm.cells ≤ R.cells) (hs : n + rm.slots ≤ R.slots) (hp : pc + 3 = pc')
    (W : ∀ v h', Qc v h' → Wp p l e R s m args below meth c n0 Q h' (k + rm.cells) (n + rm.slots) (mkF m pc' Ls (v.toList ++ rest))) : Wp p l e R s m args below meth c n0 Q h k n (mkF m pc Ls st) := fun T locs X eT N => by
  subst hp has
  obtain ⟨_, _, ⟨T', L', k', n'⟩, -, X', ⟨Lc, hQ, l1, y1, z1⟩, st'⟩ := Jvm.LawKit.callS X C.1 (y := y) C.2.2.2.2.1 (mvT C.2.1 w1) (mvT C.2.1 w2) (mvT C.2.1 w3) (mvT C.2.1 w4) hy (backOf (W := wL) (Q := fun v h L => Qc v h ∧ Fr n0 L) M C.2.1 w4 w3 hfr hlo) (g := mkF m pc Ls st) rfl (by rw [C.2.2.2.1]; exact hsz) (argsL := argsL) (rest := rest) hlen hst hW (hb C.2.2.1 hd) (fun _ _ => ⟨rfl, eT, hc, hs⟩)
  dsimp only [Pt.U, Pt.locs, Pt.cells, Pt.slots] at X' l1 y1 z1 st' hQ
  subst l1 y1 z1
  obtain ⟨s₂, o, q, r⟩ := W _ _ hQ.1 T' _ X' rfl (Fr.app N hQ.2)
  exact ⟨s₂, o, st' _ q, r⟩
theorem own_callI (C : Cx p s m meth c Z cd ml ret own nm) {i : Nat} {K : String} {dsc : String} {bytes : ByteArray} {mL wL : Nat} {rm : Room} {as : Array Value} {Qc : Option Value → Heap → Prop} {argsL rest : List Value} {a : Addr}
    (M : Met l ⟨K, "<init>", dsc⟩ bytes mL none [] rm Z n0 as h Qc)
    (hd : decode cd pc = .ok (.invokespecial i, 3)) (w1 : (Jvm.Cond.methodLink own i ⟨K, "<init>", dsc⟩).before a0 Z = true) (w2 : (Jvm.Cond.instanceMethod ⟨K, "<init>", dsc⟩).before a0 Z = true) (w3 : (Jvm.Cond.initialized K).before a0 Z = true) (w4 : (Jvm.Cond.code ⟨K, "<init>", dsc⟩ bytes mL none).before a0 Z = true)
    (hy : K ≠ "java/lang/invoke/MethodHandle" ∧ K ≠ "java/lang/invoke/VarHandle") (hfr : rm.frames + 1 ≤ R.frames) (hlo : wL + (mL + 11) + rm.locals ≤ R.locals) (hsz : Ls.size = ml) (hlen : ∀ sig, parseMethodDescriptor dsc = some sig → argsL.length = sig.parameters.length)
    (hst : st = argsL.reverse ++ .ref a :: rest) (has : (Value.ref a :: argsL).toArray = as) (hW : 0 + (rest.map fun v => v.category).sum ≤ wL) (hc : k + rm.cells ≤ R.cells) (hs : n + rm.slots ≤ R.slots) (hp : pc + 3 = pc')
    (W : ∀ v h', Qc v h' → Wp p l e R s m args below meth c n0 Q h' (k + rm.cells) (n + rm.slots) (mkF m pc' Ls (v.toList ++ rest))) : Wp p l e R s m args below meth c n0 Q h k n (mkF m pc Ls st) := fun T locs X eT N => by
  subst hp has
  obtain ⟨_, _, ⟨T', L', k', n'⟩, -, X', ⟨Lc, hQ, l1, y1, z1⟩, st'⟩ := X.specialBack C.1 (y := ⟨K, "<init>", dsc⟩) rfl C.2.2.2.2.1 (mvT C.2.1 w1) (mvT C.2.1 w2) (mvT C.2.1 w4) hy (backOf (W := wL) (Q := fun v h L => Qc v h ∧ Fr n0 L) M C.2.1 w4 w3 hfr hlo) (g := mkF m pc Ls st) rfl (by rw [C.2.2.2.1]; exact hsz) (Steps.refl _) (a := a) (argsL := argsL) (rest := rest) hlen hst hW (hb C.2.2.1 hd) (fun _ _ => ⟨rfl, eT, hc, hs⟩)
  dsimp only [Pt.U, Pt.locs, Pt.cells, Pt.slots] at X' l1 y1 z1 st' hQ
  subst l1 y1 z1
  obtain ⟨s₂, o, q, r⟩ := W _ _ hQ.1 T' _ X' rfl (Fr.app N hQ.2)
  exact ⟨s₂, o, st'.trans q, r⟩
theorem own_callV (C : Cx p s m meth c Z cd ml ret own nm) {i : Nat} {y : MethodName} {bytes : ByteArray} {mL wL : Nat} {rt : Option FieldType} {rm : Room} {as : Array Value} {Qc : Option Value → Heap → Prop} {argsL rest : List Value} {a : Addr}
    (M : Met l y bytes mL rt [] rm Z n0 as h Qc) (E : Exa Z h a y.cls)
    (hd : decode cd pc = .ok (.invokevirtual i, 3)) (w1 : (Jvm.Cond.methodLink own i y).before a0 Z = true) (w2 : (Jvm.Cond.declares y).before a0 Z = true) (w5 : (Jvm.Cond.selects y.cls y y).before a0 Z = true) (w6 : (Jvm.Cond.instanceMethod y).before a0 Z = true) (w3 : (Jvm.Cond.initialized y.cls).before a0 Z = true) (w4 : (Jvm.Cond.code y bytes mL rt).before a0 Z = true)
    (hy : y.cls ≠ "java/lang/invoke/MethodHandle" ∧ y.cls ≠ "java/lang/invoke/VarHandle") (hfr : rm.frames + 1 ≤ R.frames) (hlo : wL + (mL + 11) + rm.locals ≤ R.locals) (hsz : Ls.size = ml) (hlen : ∀ sig, parseMethodDescriptor y.desc = some sig → argsL.length = sig.parameters.length)
    (hst : st = argsL.reverse ++ .ref a :: rest) (has : (Value.ref a :: argsL).toArray = as) (hW : 0 + (rest.map fun v => v.category).sum ≤ wL) (hc : k + rm.cells ≤ R.cells) (hs : n + rm.slots ≤ R.slots) (hp : pc + 3 = pc')
    (W : ∀ v h', Qc v h' → Wp p l e R s m args below meth c n0 Q h' (k + rm.cells) (n + rm.slots) (mkF m pc' Ls (v.toList ++ rest))) : Wp p l e R s m args below meth c n0 Q h k n (mkF m pc Ls st) := fun T locs X eT N => by
  subst hp has
  obtain ⟨cq, kq, qa, qb, qc⟩ := isOf C.2.1 eT E
  obtain ⟨_, _, ⟨T', L', k', n'⟩, -, X', ⟨Lc, hQ, l1, y1, z1⟩, st'⟩ := X.virtualBack C.1 (y := y) (z := y) C.2.2.2.2.1 (mvT C.2.1 w1) (mvT C.2.1 w2) (notFace_of_selects (args := #[]) (mvT C.2.1 w5)) (mvT C.2.1 w5) (mvT C.2.1 w6) hy (backOf (W := wL) (Q := fun v h L => Qc v h ∧ Fr n0 L) M C.2.1 w4 w3 hfr hlo) qa qc (g := mkF m pc Ls st) rfl (by rw [C.2.2.2.1]; exact hsz) (Steps.refl _) (argsL := argsL) (rest := rest) hlen hst hW (hb C.2.2.1 hd) (fun _ _ => ⟨rfl, eT, hc, hs⟩)
  dsimp only [Pt.U, Pt.locs, Pt.cells, Pt.slots] at X' l1 y1 z1 st' hQ
  subst l1 y1 z1
  obtain ⟨s₂, o, q, r⟩ := W _ _ hQ.1 T' _ X' rfl (Fr.app N hQ.2)
  exact ⟨s₂, o, st'.trans q, r⟩
theorem own_callP (C : Cx p s m meth c Z cd ml ret own nm) {i : Nat} {y : MethodName} {bytes : ByteArray} {mL wL : Nat} {rt : Option FieldType} {rm : Room} {as : Array Value} {Qc : Option Value → Heap → Prop} {argsL rest : List Value} {a : Addr}
    (M : Met l y bytes mL rt [] rm Z n0 as h Qc) (E : Exa Z h a y.cls)
    (hd : decode cd pc = .ok (.invokevirtual i, 3)) (w1 : (Jvm.Cond.methodLink own i y).before a0 Z = true) (w2 : (Jvm.Cond.privateMethod y).before a0 Z = true) (w5 : (Jvm.Cond.selects y.cls y y).before a0 Z = true) (w6 : (Jvm.Cond.instanceMethod y).before a0 Z = true) (w3 : (Jvm.Cond.initialized y.cls).before a0 Z = true) (w4 : (Jvm.Cond.code y bytes mL rt).before a0 Z = true)
    (hy : y.cls ≠ "java/lang/invoke/MethodHandle" ∧ y.cls ≠ "java/lang/invoke/VarHandle") (hfr : rm.frames + 1 ≤ R.frames) (hlo : wL + (mL + 11) + rm.locals ≤ R.locals) (hsz : Ls.size = ml) (hlen : ∀ sig, parseMethodDescriptor y.desc = some sig → argsL.length = sig.parameters.length)
    (hst : st = argsL.reverse ++ .ref a :: rest) (has : (Value.ref a :: argsL).toArray = as) (hW : 0 + (rest.map fun v => v.category).sum ≤ wL) (hc : k + rm.cells ≤ R.cells) (hs : n + rm.slots ≤ R.slots) (hp : pc + 3 = pc')
    (W : ∀ v h', Qc v h' → Wp p l e R s m args below meth c n0 Q h' (k + rm.cells) (n + rm.slots) (mkF m pc' Ls (v.toList ++ rest))) : Wp p l e R s m args below meth c n0 Q h k n (mkF m pc Ls st) := fun T locs X eT N => by
  subst hp has
  obtain ⟨cq, q1, q2⟩ := E.cell
  obtain ⟨_, _, ⟨T', L', k', n'⟩, -, X', ⟨Lc, hQ, l1, y1, z1⟩, st'⟩ := X.privateBack C.1 (y := y) C.2.2.2.2.1 (mvT C.2.1 w1) (mvT C.2.1 w6) (mvT C.2.1 w5) (Cond.privateMethod_at (mvP C.2.1 w2 (args := #[]))) (mvT C.2.1 w4) hy (backOf (W := wL) (Q := fun v h L => Qc v h ∧ Fr n0 L) M C.2.1 w4 w3 hfr hlo) (g := mkF m pc Ls st) rfl (by rw [C.2.2.2.1]; exact hsz) (Steps.refl _) (a := a) (by rw [eT]; exact q1) q2 (argsL := argsL) (rest := rest) hlen hst hW (hb C.2.2.1 hd) (fun _ _ => ⟨rfl, eT, hc, hs⟩)
  dsimp only [Pt.U, Pt.locs, Pt.cells, Pt.slots] at X' l1 y1 z1 st' hQ
  subst l1 y1 z1
  obtain ⟨s₂, o, q, r⟩ := W _ _ hQ.1 T' _ X' rfl (Fr.app N hQ.2)
  exact ⟨s₂, o, st'.trans q, r⟩
end OwnKit
def own_c1 (a0 a1 : Int64) : Int64 := a1 + (a0 >>> (52 : Int64))
def own_c2 (a0 a1 a2 : Int64) : Int64 := a2 + (own_c1 a0 a1 >>> (52 : Int64))
def own_c3 (a0 a1 a2 a3 : Int64) : Int64 := a3 + (own_c2 a0 a1 a2 >>> (52 : Int64))
def own_c4 (a0 a1 a2 a3 a4 : Int64) : Int64 := a4 + (own_c3 a0 a1 a2 a3 >>> (52 : Int64))

def own_f2 (x : Int64) : Int32 := (if x < (0 : Int64) then (0 : Int32) else (if (4503599627370495 : Int64) < x then (0 : Int32) else (1 : Int32)))
theorem own_f2_z (x : Int64) : own_f2 x = 0 ∨ own_f2 x = 1 := by
  simp only [own_f2]; repeat (first | exact Or.inl rfl | exact Or.inr rfl | split)
theorem d2_0 : decode method_2_code 0 = .ok (.lload_n 0, 1) := by decide +kernel
theorem d2_1 : decode method_2_code 1 = .ok (.lconst 0, 1) := by decide +kernel
theorem d2_2 : decode method_2_code 2 = .ok (.lcmp, 1) := by decide +kernel
theorem d2_3 : decode method_2_code 3 = .ok (.ifCond .lt 15, 3) := by decide +kernel
theorem d2_6 : decode method_2_code 6 = .ok (.lload_n 0, 1) := by decide +kernel
theorem d2_7 : decode method_2_code 7 = .ok (.ldc2_w 7, 3) := by decide +kernel
theorem d2_10 : decode method_2_code 10 = .ok (.lcmp, 1) := by decide +kernel
theorem d2_11 : decode method_2_code 11 = .ok (.ifCond .gt 7, 3) := by decide +kernel
theorem d2_14 : decode method_2_code 14 = .ok (.iconst 1, 1) := by decide +kernel
theorem d2_15 : decode method_2_code 15 = .ok (.goto 4, 3) := by decide +kernel
theorem d2_18 : decode method_2_code 18 = .ok (.iconst 0, 1) := by decide +kernel
theorem d2_19 : decode method_2_code 19 = .ok (.ireturn, 1) := by decide +kernel
theorem pn2 : plainName "com/example/libsworn/libsworn/P256FieldCarryPinLaw" = true := by first | (simp [plainName, overriddenIn]; done) | decide +kernel
theorem ef2 (m : MethodId) (x0 : Int64) : entryFrame m #[(.long x0)] 2 = mkF m 0 #[.val (.long x0), .second] [] := by first | (simp [entryFrame, mkF, argsToLocals, Value.category]; done) | rfl
theorem own_ki_0 : Int32.ofInt (0) = (0 : Int32) := by decide
theorem own_ki_1 : Int32.ofInt (1) = (1 : Int32) := by decide
set_option maxRecDepth 65536 in
set_option maxHeartbeats 40000000 in
theorem own_m2 (l : Launch) (Z : State) (a0 : Array Value) (hw : ∀ d ∈ tables_1, d.before a0 Z = true) (x : Int64)  (h0 : Heap) (n0 : Nat) (Z_ : n0 ≤ h0.size)  :
    Met l (⟨"com/example/libsworn/libsworn/P256FieldCarryPinLaw", "inLimb", "(J)Z"⟩ : MethodName) method_2_code 2 (some .boolean) [] ({ frames := 0, cells := 0, slots := 0, locals := 0 } : Room) Z n0 #[(.long x)] h0 (fun v h => v = some (.int (own_f2 x)) ∧ h0 = h) := by
  refine own_met pn2 (fun m => ef2 m x) ?_
  intro p e s m below meth c C
  refine own_lloadN (pc' := 1) C d2_0 rfl rfl ?_
  refine own_lconst (pc' := 2) (v := (0 : Int64)) C d2_1 (by decide) rfl ?_
  obtain ⟨vs_19, hvs_19⟩ : ∃ z : Int32, z = (if x < (0 : Int64) then (0 : Int32) else (if (4503599627370495 : Int64) < x then (0 : Int32) else (1 : Int32))) := ⟨_, rfl⟩
  have hzvs_19 : vs_19 = 0 ∨ vs_19 = 1 := by rw [hvs_19]; repeat (first | exact Or.inl rfl | exact Or.inr rfl | split)
  refine own_seq (g' := mkF m 19 #[.val (.long x), .second] [(.int vs_19)]) (fun J19 => ?_) ?_
  · refine own_lcmp_lt (pt := 18) (pf := 6) C d2_2 rfl d2_3 (by decide) (by decide) rfl ?_ ?_
    · intro hc2
      refine own_iconst (pc' := 19) (v := (0 : Int32)) C d2_18 own_ki_0 rfl ?_
      exact own_cast (by simp only [hvs_19, if_pos hc2]) (J19)
    · intro hc2
      refine own_lloadN (pc' := 7) C d2_6 rfl rfl ?_
      refine own_ldc2 (pc' := 10) (v := (4503599627370495 : Int64)) C d2_7 (hw _ (List.mem_of_getElem? (i := 0) rfl)) rfl ?_
      refine own_lcmp_gt (pt := 18) (pf := 14) C d2_10 rfl d2_11 (by decide) (by decide) rfl ?_ ?_
      · intro hc10
        refine own_iconst (pc' := 19) (v := (0 : Int32)) C d2_18 own_ki_0 rfl ?_
        exact own_cast (by simp only [hvs_19, if_neg hc2, if_pos hc10]) (J19)
      · intro hc10
        refine own_iconst (pc' := 15) (v := (1 : Int32)) C d2_14 own_ki_1 rfl ?_
        refine own_goto (pc' := 19) C d2_15 (by decide) (by decide) ?_
        exact own_cast (by simp only [hvs_19, if_neg hc2, if_neg hc10]) (J19)
  refine own_zret C d2_19 (by decide) (by decide) hzvs_19 ?_
  exact ⟨by simp only [own_f2, hvs_19], rfl⟩

theorem d1_0 : decode prog_6_method_14_code 0 = .ok (.aload_n 1, 1) := by decide +kernel
theorem d1_1 : decode prog_6_method_14_code 1 = .ok (.iconst 0, 1) := by decide +kernel
theorem d1_2 : decode prog_6_method_14_code 2 = .ok (.laload, 1) := by decide +kernel
theorem d1_3 : decode prog_6_method_14_code 3 = .ok (.lstore_n 2, 1) := by decide +kernel
theorem d1_4 : decode prog_6_method_14_code 4 = .ok (.aload_n 1, 1) := by decide +kernel
theorem d1_5 : decode prog_6_method_14_code 5 = .ok (.iconst 1, 1) := by decide +kernel
theorem d1_6 : decode prog_6_method_14_code 6 = .ok (.laload, 1) := by decide +kernel
theorem d1_7 : decode prog_6_method_14_code 7 = .ok (.lload_n 2, 1) := by decide +kernel
theorem d1_8 : decode prog_6_method_14_code 8 = .ok (.bipush 52, 2) := by decide +kernel
theorem d1_10 : decode prog_6_method_14_code 10 = .ok (.lshr, 1) := by decide +kernel
theorem d1_11 : decode prog_6_method_14_code 11 = .ok (.ladd, 1) := by decide +kernel
theorem d1_12 : decode prog_6_method_14_code 12 = .ok (.lstore 4, 2) := by decide +kernel
theorem d1_14 : decode prog_6_method_14_code 14 = .ok (.aload_n 1, 1) := by decide +kernel
theorem d1_15 : decode prog_6_method_14_code 15 = .ok (.iconst 2, 1) := by decide +kernel
theorem d1_16 : decode prog_6_method_14_code 16 = .ok (.laload, 1) := by decide +kernel
theorem d1_17 : decode prog_6_method_14_code 17 = .ok (.lload 4, 2) := by decide +kernel
theorem d1_19 : decode prog_6_method_14_code 19 = .ok (.bipush 52, 2) := by decide +kernel
theorem d1_21 : decode prog_6_method_14_code 21 = .ok (.lshr, 1) := by decide +kernel
theorem d1_22 : decode prog_6_method_14_code 22 = .ok (.ladd, 1) := by decide +kernel
theorem d1_23 : decode prog_6_method_14_code 23 = .ok (.lstore 6, 2) := by decide +kernel
theorem d1_25 : decode prog_6_method_14_code 25 = .ok (.aload_n 1, 1) := by decide +kernel
theorem d1_26 : decode prog_6_method_14_code 26 = .ok (.iconst 3, 1) := by decide +kernel
theorem d1_27 : decode prog_6_method_14_code 27 = .ok (.laload, 1) := by decide +kernel
theorem d1_28 : decode prog_6_method_14_code 28 = .ok (.lload 6, 2) := by decide +kernel
theorem d1_30 : decode prog_6_method_14_code 30 = .ok (.bipush 52, 2) := by decide +kernel
theorem d1_32 : decode prog_6_method_14_code 32 = .ok (.lshr, 1) := by decide +kernel
theorem d1_33 : decode prog_6_method_14_code 33 = .ok (.ladd, 1) := by decide +kernel
theorem d1_34 : decode prog_6_method_14_code 34 = .ok (.lstore 8, 2) := by decide +kernel
theorem d1_36 : decode prog_6_method_14_code 36 = .ok (.aload_n 0, 1) := by decide +kernel
theorem d1_37 : decode prog_6_method_14_code 37 = .ok (.iconst 4, 1) := by decide +kernel
theorem d1_38 : decode prog_6_method_14_code 38 = .ok (.aload_n 1, 1) := by decide +kernel
theorem d1_39 : decode prog_6_method_14_code 39 = .ok (.iconst 4, 1) := by decide +kernel
theorem d1_40 : decode prog_6_method_14_code 40 = .ok (.laload, 1) := by decide +kernel
theorem d1_41 : decode prog_6_method_14_code 41 = .ok (.lload 8, 2) := by decide +kernel
theorem d1_43 : decode prog_6_method_14_code 43 = .ok (.bipush 52, 2) := by decide +kernel
theorem d1_45 : decode prog_6_method_14_code 45 = .ok (.lshr, 1) := by decide +kernel
theorem d1_46 : decode prog_6_method_14_code 46 = .ok (.ladd, 1) := by decide +kernel
theorem d1_47 : decode prog_6_method_14_code 47 = .ok (.lastore, 1) := by decide +kernel
theorem d1_48 : decode prog_6_method_14_code 48 = .ok (.aload_n 0, 1) := by decide +kernel
theorem d1_49 : decode prog_6_method_14_code 49 = .ok (.iconst 0, 1) := by decide +kernel
theorem d1_50 : decode prog_6_method_14_code 50 = .ok (.lload_n 2, 1) := by decide +kernel
theorem d1_51 : decode prog_6_method_14_code 51 = .ok (.ldc2_w 21, 3) := by decide +kernel
theorem d1_54 : decode prog_6_method_14_code 54 = .ok (.land, 1) := by decide +kernel
theorem d1_55 : decode prog_6_method_14_code 55 = .ok (.lastore, 1) := by decide +kernel
theorem d1_56 : decode prog_6_method_14_code 56 = .ok (.aload_n 0, 1) := by decide +kernel
theorem d1_57 : decode prog_6_method_14_code 57 = .ok (.iconst 1, 1) := by decide +kernel
theorem d1_58 : decode prog_6_method_14_code 58 = .ok (.lload 4, 2) := by decide +kernel
theorem d1_60 : decode prog_6_method_14_code 60 = .ok (.ldc2_w 21, 3) := by decide +kernel
theorem d1_63 : decode prog_6_method_14_code 63 = .ok (.land, 1) := by decide +kernel
theorem d1_64 : decode prog_6_method_14_code 64 = .ok (.lastore, 1) := by decide +kernel
theorem d1_65 : decode prog_6_method_14_code 65 = .ok (.aload_n 0, 1) := by decide +kernel
theorem d1_66 : decode prog_6_method_14_code 66 = .ok (.iconst 2, 1) := by decide +kernel
theorem d1_67 : decode prog_6_method_14_code 67 = .ok (.lload 6, 2) := by decide +kernel
theorem d1_69 : decode prog_6_method_14_code 69 = .ok (.ldc2_w 21, 3) := by decide +kernel
theorem d1_72 : decode prog_6_method_14_code 72 = .ok (.land, 1) := by decide +kernel
theorem d1_73 : decode prog_6_method_14_code 73 = .ok (.lastore, 1) := by decide +kernel
theorem d1_74 : decode prog_6_method_14_code 74 = .ok (.aload_n 0, 1) := by decide +kernel
theorem d1_75 : decode prog_6_method_14_code 75 = .ok (.iconst 3, 1) := by decide +kernel
theorem d1_76 : decode prog_6_method_14_code 76 = .ok (.lload 8, 2) := by decide +kernel
theorem d1_78 : decode prog_6_method_14_code 78 = .ok (.ldc2_w 21, 3) := by decide +kernel
theorem d1_81 : decode prog_6_method_14_code 81 = .ok (.land, 1) := by decide +kernel
theorem d1_82 : decode prog_6_method_14_code 82 = .ok (.lastore, 1) := by decide +kernel
theorem d1_83 : decode prog_6_method_14_code 83 = .ok (.return_, 1) := by decide +kernel
theorem pn1 : plainName "com/example/libsworn/libsworn/P256Field" = true := by first | (simp [plainName, overriddenIn]; done) | decide +kernel
theorem ef1 (m : MethodId) (x0 : Addr) (x1 : Addr) : entryFrame m #[(.ref x0), (.ref x1)] 10 = mkF m 0 #[.val (.ref x0), .val (.ref x1), .unset, .unset, .unset, .unset, .unset, .unset, .unset, .unset] [] := by first | (simp [entryFrame, mkF, argsToLocals, Value.category]; done) | rfl
theorem own_kb_52 : (Int8.ofInt (52)).toInt32 = (52 : Int32) := by decide
theorem own_slshr_52 (x : Int64) : x >>> ((52 : Int32) &&& 0x3f).toInt64 = x >>> (52 : Int64) := by rw [show ((52 : Int32) &&& 0x3f).toInt64 = (52 : Int64) from by decide]
theorem own_ki_2 : Int32.ofInt (2) = (2 : Int32) := by decide
theorem own_ki_3 : Int32.ofInt (3) = (3 : Int32) := by decide
theorem own_ki_4 : Int32.ofInt (4) = (4 : Int32) := by decide
set_option maxRecDepth 65536 in
set_option maxHeartbeats 40000000 in
theorem own_carryA (l : Launch) (Z : State) (a0 : Array Value) (hw : ∀ d ∈ tables_1, d.before a0 Z = true) (r : Addr) (a : Addr) (a0_ a1_ a2_ a3_ a4_ r0_ r1_ r2_ r3_ r4_ : Int64) (h0 : Heap) (n0 : Nat) (Z_ : n0 ≤ h0.size) (A_r : AJ Z h0 r [r0_, r1_, r2_, r3_, r4_]) (A_a : AJ Z h0 a [a0_, a1_, a2_, a3_, a4_]) (g_r : n0 ≤ r) (ne_r_a : r ≠ a) :
    Met l (⟨"com/example/libsworn/libsworn/P256Field", "carry", "([J[J)V"⟩ : MethodName) prog_6_method_14_code 10 none [] ({ frames := 0, cells := 0, slots := 0, locals := 0 } : Room) Z n0 #[(.ref r), (.ref a)] h0 (fun v h => v = none ∧ Keep h0 h [r] ∧ AJ Z h r [(a0_ &&& (4503599627370495 : Int64)), (own_c1 a0_ a1_ &&& (4503599627370495 : Int64)), (own_c2 a0_ a1_ a2_ &&& (4503599627370495 : Int64)), (own_c3 a0_ a1_ a2_ a3_ &&& (4503599627370495 : Int64)), (own_c4 a0_ a1_ a2_ a3_ a4_)]) := by
  refine own_met pn1 (fun m => ef1 m r a) ?_
  intro p e s m below meth c C
  have K_ : Keep h0 h0 [r] := Keep.refl _ _
  refine own_aloadN (pc' := 1) C d1_0 rfl rfl rfl ?_
  refine own_iconst (pc' := 2) (v := (0 : Int32)) C d1_1 own_ki_0 rfl ?_
  refine own_laload (pc' := 3) (v := a0_) (i := 0) C d1_2 A_a (by decide) rfl rfl rfl ?_
  refine own_lstoreN (pc' := 4) (y := a0_) (Ls' := #[.val (.ref r), .val (.ref a), .val (.long a0_), .second, .unset, .unset, .unset, .unset, .unset, .unset]) C d1_3 rfl rfl rfl ?_
  refine own_aloadN (pc' := 5) C d1_4 rfl rfl rfl ?_
  refine own_iconst (pc' := 6) (v := (1 : Int32)) C d1_5 own_ki_1 rfl ?_
  refine own_laload (pc' := 7) (v := a1_) (i := 1) C d1_6 A_a (by decide) rfl rfl rfl ?_
  refine own_lloadN (pc' := 8) C d1_7 rfl rfl ?_
  refine own_bipush (pc' := 10) (v := (52 : Int32)) C d1_8 own_kb_52 rfl ?_
  refine own_lshr (pc' := 11) (v := (a0_ >>> (52 : Int64))) C d1_10 (own_slshr_52 _) rfl ?_
  refine own_ladd (pc' := 12) C d1_11 rfl rfl ?_
  obtain ⟨v4_12, hv4_12⟩ : ∃ z : Int64, z = (a1_ + (a0_ >>> (52 : Int64))) := ⟨_, rfl⟩
  refine own_lstore (pc' := 14) (y := v4_12) (Ls' := #[.val (.ref r), .val (.ref a), .val (.long a0_), .second, .val (.long v4_12), .second, .unset, .unset, .unset, .unset]) C d1_12 hv4_12.symm rfl rfl ?_
  refine own_aloadN (pc' := 15) C d1_14 rfl rfl rfl ?_
  refine own_iconst (pc' := 16) (v := (2 : Int32)) C d1_15 own_ki_2 rfl ?_
  refine own_laload (pc' := 17) (v := a2_) (i := 2) C d1_16 A_a (by decide) rfl rfl rfl ?_
  refine own_lload (pc' := 19) C d1_17 rfl rfl ?_
  refine own_bipush (pc' := 21) (v := (52 : Int32)) C d1_19 own_kb_52 rfl ?_
  refine own_lshr (pc' := 22) (v := (v4_12 >>> (52 : Int64))) C d1_21 (own_slshr_52 _) rfl ?_
  refine own_ladd (pc' := 23) C d1_22 rfl rfl ?_
  obtain ⟨v6_23, hv6_23⟩ : ∃ z : Int64, z = (a2_ + (v4_12 >>> (52 : Int64))) := ⟨_, rfl⟩
  refine own_lstore (pc' := 25) (y := v6_23) (Ls' := #[.val (.ref r), .val (.ref a), .val (.long a0_), .second, .val (.long v4_12), .second, .val (.long v6_23), .second, .unset, .unset]) C d1_23 hv6_23.symm rfl rfl ?_
  refine own_aloadN (pc' := 26) C d1_25 rfl rfl rfl ?_
  refine own_iconst (pc' := 27) (v := (3 : Int32)) C d1_26 own_ki_3 rfl ?_
  refine own_laload (pc' := 28) (v := a3_) (i := 3) C d1_27 A_a (by decide) rfl rfl rfl ?_
  refine own_lload (pc' := 30) C d1_28 rfl rfl ?_
  refine own_bipush (pc' := 32) (v := (52 : Int32)) C d1_30 own_kb_52 rfl ?_
  refine own_lshr (pc' := 33) (v := (v6_23 >>> (52 : Int64))) C d1_32 (own_slshr_52 _) rfl ?_
  refine own_ladd (pc' := 34) C d1_33 rfl rfl ?_
  obtain ⟨v8_34, hv8_34⟩ : ∃ z : Int64, z = (a3_ + (v6_23 >>> (52 : Int64))) := ⟨_, rfl⟩
  refine own_lstore (pc' := 36) (y := v8_34) (Ls' := #[.val (.ref r), .val (.ref a), .val (.long a0_), .second, .val (.long v4_12), .second, .val (.long v6_23), .second, .val (.long v8_34), .second]) C d1_34 hv8_34.symm rfl rfl ?_
  refine own_aloadN (pc' := 37) C d1_36 rfl rfl rfl ?_
  refine own_iconst (pc' := 38) (v := (4 : Int32)) C d1_37 own_ki_4 rfl ?_
  refine own_aloadN (pc' := 39) C d1_38 rfl rfl rfl ?_
  refine own_iconst (pc' := 40) (v := (4 : Int32)) C d1_39 own_ki_4 rfl ?_
  refine own_laload (pc' := 41) (v := a4_) (i := 4) C d1_40 A_a (by decide) rfl rfl rfl ?_
  refine own_lload (pc' := 43) C d1_41 rfl rfl ?_
  refine own_bipush (pc' := 45) (v := (52 : Int32)) C d1_43 own_kb_52 rfl ?_
  refine own_lshr (pc' := 46) (v := (v8_34 >>> (52 : Int64))) C d1_45 (own_slshr_52 _) rfl ?_
  refine own_ladd (pc' := 47) C d1_46 rfl rfl ?_
  obtain ⟨y47, hy47⟩ : ∃ z : Int64, z = (a4_ + (v8_34 >>> (52 : Int64))) := ⟨_, rfl⟩
  refine own_lastore (pc' := 48) (i := 4) (ys := [r0_, r1_, r2_, r3_, y47]) C d1_47 A_r (by decide) rfl (Nat.le_of_ble_eq_true rfl) (by rw [hy47]; rfl) g_r rfl ?_
  intro h1 W1 A1_
  replace A_a := A_a.other W1 (Ne.symm ne_r_a)
  replace A_r := A1_
  replace Z_ : n0 ≤ _ := Nat.le_trans Z_ (Nat.le_of_eq W1.size.symm)
  replace K_ := K_.wr W1 (Or.inl (List.mem_of_getElem? (i := 0) rfl))
  refine own_aloadN (pc' := 49) C d1_48 rfl rfl rfl ?_
  refine own_iconst (pc' := 50) (v := (0 : Int32)) C d1_49 own_ki_0 rfl ?_
  refine own_lloadN (pc' := 51) C d1_50 rfl rfl ?_
  refine own_ldc2 (pc' := 54) (v := (4503599627370495 : Int64)) C d1_51 (hw _ (List.mem_of_getElem? (i := 7) rfl)) rfl ?_
  refine own_land (pc' := 55) C d1_54 rfl rfl ?_
  obtain ⟨y55, hy55⟩ : ∃ z : Int64, z = (a0_ &&& (4503599627370495 : Int64)) := ⟨_, rfl⟩
  refine own_lastore (pc' := 56) (i := 0) (ys := [y55, r1_, r2_, r3_, y47]) C d1_55 A_r (by decide) rfl (Nat.le_of_ble_eq_true rfl) (by rw [hy55]; rfl) g_r rfl ?_
  intro h2 W2 A2_
  replace A_a := A_a.other W2 (Ne.symm ne_r_a)
  replace A_r := A2_
  replace Z_ : n0 ≤ _ := Nat.le_trans Z_ (Nat.le_of_eq W2.size.symm)
  replace K_ := K_.wr W2 (Or.inl (List.mem_of_getElem? (i := 0) rfl))
  refine own_aloadN (pc' := 57) C d1_56 rfl rfl rfl ?_
  refine own_iconst (pc' := 58) (v := (1 : Int32)) C d1_57 own_ki_1 rfl ?_
  refine own_lload (pc' := 60) C d1_58 rfl rfl ?_
  refine own_ldc2 (pc' := 63) (v := (4503599627370495 : Int64)) C d1_60 (hw _ (List.mem_of_getElem? (i := 7) rfl)) rfl ?_
  refine own_land (pc' := 64) C d1_63 rfl rfl ?_
  obtain ⟨y64, hy64⟩ : ∃ z : Int64, z = (v4_12 &&& (4503599627370495 : Int64)) := ⟨_, rfl⟩
  refine own_lastore (pc' := 65) (i := 1) (ys := [y55, y64, r2_, r3_, y47]) C d1_64 A_r (by decide) rfl (Nat.le_of_ble_eq_true rfl) (by rw [hy64]; rfl) g_r rfl ?_
  intro h3 W3 A3_
  replace A_a := A_a.other W3 (Ne.symm ne_r_a)
  replace A_r := A3_
  replace Z_ : n0 ≤ _ := Nat.le_trans Z_ (Nat.le_of_eq W3.size.symm)
  replace K_ := K_.wr W3 (Or.inl (List.mem_of_getElem? (i := 0) rfl))
  refine own_aloadN (pc' := 66) C d1_65 rfl rfl rfl ?_
  refine own_iconst (pc' := 67) (v := (2 : Int32)) C d1_66 own_ki_2 rfl ?_
  refine own_lload (pc' := 69) C d1_67 rfl rfl ?_
  refine own_ldc2 (pc' := 72) (v := (4503599627370495 : Int64)) C d1_69 (hw _ (List.mem_of_getElem? (i := 7) rfl)) rfl ?_
  refine own_land (pc' := 73) C d1_72 rfl rfl ?_
  obtain ⟨y73, hy73⟩ : ∃ z : Int64, z = (v6_23 &&& (4503599627370495 : Int64)) := ⟨_, rfl⟩
  refine own_lastore (pc' := 74) (i := 2) (ys := [y55, y64, y73, r3_, y47]) C d1_73 A_r (by decide) rfl (Nat.le_of_ble_eq_true rfl) (by rw [hy73]; rfl) g_r rfl ?_
  intro h4 W4 A4_
  replace A_a := A_a.other W4 (Ne.symm ne_r_a)
  replace A_r := A4_
  replace Z_ : n0 ≤ _ := Nat.le_trans Z_ (Nat.le_of_eq W4.size.symm)
  replace K_ := K_.wr W4 (Or.inl (List.mem_of_getElem? (i := 0) rfl))
  refine own_aloadN (pc' := 75) C d1_74 rfl rfl rfl ?_
  refine own_iconst (pc' := 76) (v := (3 : Int32)) C d1_75 own_ki_3 rfl ?_
  refine own_lload (pc' := 78) C d1_76 rfl rfl ?_
  refine own_ldc2 (pc' := 81) (v := (4503599627370495 : Int64)) C d1_78 (hw _ (List.mem_of_getElem? (i := 7) rfl)) rfl ?_
  refine own_land (pc' := 82) C d1_81 rfl rfl ?_
  obtain ⟨y82, hy82⟩ : ∃ z : Int64, z = (v8_34 &&& (4503599627370495 : Int64)) := ⟨_, rfl⟩
  refine own_lastore (pc' := 83) (i := 3) (ys := [y55, y64, y73, y82, y47]) C d1_82 A_r (by decide) rfl (Nat.le_of_ble_eq_true rfl) (by rw [hy82]; rfl) g_r rfl ?_
  intro h5 W5 A5_
  replace A_a := A_a.other W5 (Ne.symm ne_r_a)
  replace A_r := A5_
  replace Z_ : n0 ≤ _ := Nat.le_trans Z_ (Nat.le_of_eq W5.size.symm)
  replace K_ := K_.wr W5 (Or.inl (List.mem_of_getElem? (i := 0) rfl))
  refine own_vret C d1_83 (by decide) (by decide) ?_
  subst hv4_12 hv6_23 hv8_34 hy47 hy55 hy64 hy73 hy82
  exact ⟨rfl, K_, A_r⟩

set_option maxRecDepth 65536 in
set_option maxHeartbeats 40000000 in
theorem own_carryB (l : Launch) (Z : State) (a0 : Array Value) (hw : ∀ d ∈ tables_1, d.before a0 Z = true) (a : Addr) (a0_ a1_ a2_ a3_ a4_ : Int64) (h0 : Heap) (n0 : Nat) (Z_ : n0 ≤ h0.size) (A_a : AJ Z h0 a [a0_, a1_, a2_, a3_, a4_]) (g_a : n0 ≤ a) :
    Met l (⟨"com/example/libsworn/libsworn/P256Field", "carry", "([J[J)V"⟩ : MethodName) prog_6_method_14_code 10 none [] ({ frames := 0, cells := 0, slots := 0, locals := 0 } : Room) Z n0 #[(.ref a), (.ref a)] h0 (fun v h => v = none ∧ Keep h0 h [a] ∧ AJ Z h a [(a0_ &&& (4503599627370495 : Int64)), (own_c1 a0_ a1_ &&& (4503599627370495 : Int64)), (own_c2 a0_ a1_ a2_ &&& (4503599627370495 : Int64)), (own_c3 a0_ a1_ a2_ a3_ &&& (4503599627370495 : Int64)), (own_c4 a0_ a1_ a2_ a3_ a4_)]) := by
  refine own_met pn1 (fun m => ef1 m a a) ?_
  intro p e s m below meth c C
  have K_ : Keep h0 h0 [a] := Keep.refl _ _
  refine own_aloadN (pc' := 1) C d1_0 rfl rfl rfl ?_
  refine own_iconst (pc' := 2) (v := (0 : Int32)) C d1_1 own_ki_0 rfl ?_
  refine own_laload (pc' := 3) (v := a0_) (i := 0) C d1_2 A_a (by decide) rfl rfl rfl ?_
  refine own_lstoreN (pc' := 4) (y := a0_) (Ls' := #[.val (.ref a), .val (.ref a), .val (.long a0_), .second, .unset, .unset, .unset, .unset, .unset, .unset]) C d1_3 rfl rfl rfl ?_
  refine own_aloadN (pc' := 5) C d1_4 rfl rfl rfl ?_
  refine own_iconst (pc' := 6) (v := (1 : Int32)) C d1_5 own_ki_1 rfl ?_
  refine own_laload (pc' := 7) (v := a1_) (i := 1) C d1_6 A_a (by decide) rfl rfl rfl ?_
  refine own_lloadN (pc' := 8) C d1_7 rfl rfl ?_
  refine own_bipush (pc' := 10) (v := (52 : Int32)) C d1_8 own_kb_52 rfl ?_
  refine own_lshr (pc' := 11) (v := (a0_ >>> (52 : Int64))) C d1_10 (own_slshr_52 _) rfl ?_
  refine own_ladd (pc' := 12) C d1_11 rfl rfl ?_
  obtain ⟨v4_12, hv4_12⟩ : ∃ z : Int64, z = (a1_ + (a0_ >>> (52 : Int64))) := ⟨_, rfl⟩
  refine own_lstore (pc' := 14) (y := v4_12) (Ls' := #[.val (.ref a), .val (.ref a), .val (.long a0_), .second, .val (.long v4_12), .second, .unset, .unset, .unset, .unset]) C d1_12 hv4_12.symm rfl rfl ?_
  refine own_aloadN (pc' := 15) C d1_14 rfl rfl rfl ?_
  refine own_iconst (pc' := 16) (v := (2 : Int32)) C d1_15 own_ki_2 rfl ?_
  refine own_laload (pc' := 17) (v := a2_) (i := 2) C d1_16 A_a (by decide) rfl rfl rfl ?_
  refine own_lload (pc' := 19) C d1_17 rfl rfl ?_
  refine own_bipush (pc' := 21) (v := (52 : Int32)) C d1_19 own_kb_52 rfl ?_
  refine own_lshr (pc' := 22) (v := (v4_12 >>> (52 : Int64))) C d1_21 (own_slshr_52 _) rfl ?_
  refine own_ladd (pc' := 23) C d1_22 rfl rfl ?_
  obtain ⟨v6_23, hv6_23⟩ : ∃ z : Int64, z = (a2_ + (v4_12 >>> (52 : Int64))) := ⟨_, rfl⟩
  refine own_lstore (pc' := 25) (y := v6_23) (Ls' := #[.val (.ref a), .val (.ref a), .val (.long a0_), .second, .val (.long v4_12), .second, .val (.long v6_23), .second, .unset, .unset]) C d1_23 hv6_23.symm rfl rfl ?_
  refine own_aloadN (pc' := 26) C d1_25 rfl rfl rfl ?_
  refine own_iconst (pc' := 27) (v := (3 : Int32)) C d1_26 own_ki_3 rfl ?_
  refine own_laload (pc' := 28) (v := a3_) (i := 3) C d1_27 A_a (by decide) rfl rfl rfl ?_
  refine own_lload (pc' := 30) C d1_28 rfl rfl ?_
  refine own_bipush (pc' := 32) (v := (52 : Int32)) C d1_30 own_kb_52 rfl ?_
  refine own_lshr (pc' := 33) (v := (v6_23 >>> (52 : Int64))) C d1_32 (own_slshr_52 _) rfl ?_
  refine own_ladd (pc' := 34) C d1_33 rfl rfl ?_
  obtain ⟨v8_34, hv8_34⟩ : ∃ z : Int64, z = (a3_ + (v6_23 >>> (52 : Int64))) := ⟨_, rfl⟩
  refine own_lstore (pc' := 36) (y := v8_34) (Ls' := #[.val (.ref a), .val (.ref a), .val (.long a0_), .second, .val (.long v4_12), .second, .val (.long v6_23), .second, .val (.long v8_34), .second]) C d1_34 hv8_34.symm rfl rfl ?_
  refine own_aloadN (pc' := 37) C d1_36 rfl rfl rfl ?_
  refine own_iconst (pc' := 38) (v := (4 : Int32)) C d1_37 own_ki_4 rfl ?_
  refine own_aloadN (pc' := 39) C d1_38 rfl rfl rfl ?_
  refine own_iconst (pc' := 40) (v := (4 : Int32)) C d1_39 own_ki_4 rfl ?_
  refine own_laload (pc' := 41) (v := a4_) (i := 4) C d1_40 A_a (by decide) rfl rfl rfl ?_
  refine own_lload (pc' := 43) C d1_41 rfl rfl ?_
  refine own_bipush (pc' := 45) (v := (52 : Int32)) C d1_43 own_kb_52 rfl ?_
  refine own_lshr (pc' := 46) (v := (v8_34 >>> (52 : Int64))) C d1_45 (own_slshr_52 _) rfl ?_
  refine own_ladd (pc' := 47) C d1_46 rfl rfl ?_
  obtain ⟨y47, hy47⟩ : ∃ z : Int64, z = (a4_ + (v8_34 >>> (52 : Int64))) := ⟨_, rfl⟩
  refine own_lastore (pc' := 48) (i := 4) (ys := [a0_, a1_, a2_, a3_, y47]) C d1_47 A_a (by decide) rfl (Nat.le_of_ble_eq_true rfl) (by rw [hy47]; rfl) g_a rfl ?_
  intro h1 W1 A1_
  replace A_a := A1_
  replace Z_ : n0 ≤ _ := Nat.le_trans Z_ (Nat.le_of_eq W1.size.symm)
  replace K_ := K_.wr W1 (Or.inl (List.mem_of_getElem? (i := 0) rfl))
  refine own_aloadN (pc' := 49) C d1_48 rfl rfl rfl ?_
  refine own_iconst (pc' := 50) (v := (0 : Int32)) C d1_49 own_ki_0 rfl ?_
  refine own_lloadN (pc' := 51) C d1_50 rfl rfl ?_
  refine own_ldc2 (pc' := 54) (v := (4503599627370495 : Int64)) C d1_51 (hw _ (List.mem_of_getElem? (i := 7) rfl)) rfl ?_
  refine own_land (pc' := 55) C d1_54 rfl rfl ?_
  obtain ⟨y55, hy55⟩ : ∃ z : Int64, z = (a0_ &&& (4503599627370495 : Int64)) := ⟨_, rfl⟩
  refine own_lastore (pc' := 56) (i := 0) (ys := [y55, a1_, a2_, a3_, y47]) C d1_55 A_a (by decide) rfl (Nat.le_of_ble_eq_true rfl) (by rw [hy55]; rfl) g_a rfl ?_
  intro h2 W2 A2_
  replace A_a := A2_
  replace Z_ : n0 ≤ _ := Nat.le_trans Z_ (Nat.le_of_eq W2.size.symm)
  replace K_ := K_.wr W2 (Or.inl (List.mem_of_getElem? (i := 0) rfl))
  refine own_aloadN (pc' := 57) C d1_56 rfl rfl rfl ?_
  refine own_iconst (pc' := 58) (v := (1 : Int32)) C d1_57 own_ki_1 rfl ?_
  refine own_lload (pc' := 60) C d1_58 rfl rfl ?_
  refine own_ldc2 (pc' := 63) (v := (4503599627370495 : Int64)) C d1_60 (hw _ (List.mem_of_getElem? (i := 7) rfl)) rfl ?_
  refine own_land (pc' := 64) C d1_63 rfl rfl ?_
  obtain ⟨y64, hy64⟩ : ∃ z : Int64, z = (v4_12 &&& (4503599627370495 : Int64)) := ⟨_, rfl⟩
  refine own_lastore (pc' := 65) (i := 1) (ys := [y55, y64, a2_, a3_, y47]) C d1_64 A_a (by decide) rfl (Nat.le_of_ble_eq_true rfl) (by rw [hy64]; rfl) g_a rfl ?_
  intro h3 W3 A3_
  replace A_a := A3_
  replace Z_ : n0 ≤ _ := Nat.le_trans Z_ (Nat.le_of_eq W3.size.symm)
  replace K_ := K_.wr W3 (Or.inl (List.mem_of_getElem? (i := 0) rfl))
  refine own_aloadN (pc' := 66) C d1_65 rfl rfl rfl ?_
  refine own_iconst (pc' := 67) (v := (2 : Int32)) C d1_66 own_ki_2 rfl ?_
  refine own_lload (pc' := 69) C d1_67 rfl rfl ?_
  refine own_ldc2 (pc' := 72) (v := (4503599627370495 : Int64)) C d1_69 (hw _ (List.mem_of_getElem? (i := 7) rfl)) rfl ?_
  refine own_land (pc' := 73) C d1_72 rfl rfl ?_
  obtain ⟨y73, hy73⟩ : ∃ z : Int64, z = (v6_23 &&& (4503599627370495 : Int64)) := ⟨_, rfl⟩
  refine own_lastore (pc' := 74) (i := 2) (ys := [y55, y64, y73, a3_, y47]) C d1_73 A_a (by decide) rfl (Nat.le_of_ble_eq_true rfl) (by rw [hy73]; rfl) g_a rfl ?_
  intro h4 W4 A4_
  replace A_a := A4_
  replace Z_ : n0 ≤ _ := Nat.le_trans Z_ (Nat.le_of_eq W4.size.symm)
  replace K_ := K_.wr W4 (Or.inl (List.mem_of_getElem? (i := 0) rfl))
  refine own_aloadN (pc' := 75) C d1_74 rfl rfl rfl ?_
  refine own_iconst (pc' := 76) (v := (3 : Int32)) C d1_75 own_ki_3 rfl ?_
  refine own_lload (pc' := 78) C d1_76 rfl rfl ?_
  refine own_ldc2 (pc' := 81) (v := (4503599627370495 : Int64)) C d1_78 (hw _ (List.mem_of_getElem? (i := 7) rfl)) rfl ?_
  refine own_land (pc' := 82) C d1_81 rfl rfl ?_
  obtain ⟨y82, hy82⟩ : ∃ z : Int64, z = (v8_34 &&& (4503599627370495 : Int64)) := ⟨_, rfl⟩
  refine own_lastore (pc' := 83) (i := 3) (ys := [y55, y64, y73, y82, y47]) C d1_82 A_a (by decide) rfl (Nat.le_of_ble_eq_true rfl) (by rw [hy82]; rfl) g_a rfl ?_
  intro h5 W5 A5_
  replace A_a := A5_
  replace Z_ : n0 ≤ _ := Nat.le_trans Z_ (Nat.le_of_eq W5.size.symm)
  replace K_ := K_.wr W5 (Or.inl (List.mem_of_getElem? (i := 0) rfl))
  refine own_vret C d1_83 (by decide) (by decide) ?_
  subst hv4_12 hv6_23 hv8_34 hy47 hy55 hy64 hy73 hy82
  exact ⟨rfl, K_, A_a⟩

theorem own_limb {x r : Int64} (hr : r = x &&& (4503599627370495 : Int64)) : ¬ own_f2 r = 0 := by
  have h1 := c_maskL x 4503599627370495 52 (by decide) (by decide)
  rw [← hr] at h1
  have k0 : (0 : Int64).toInt = 0 := rfl
  have k1 : (4503599627370495 : Int64).toInt = 4503599627370495 := rfl
  simp only [own_f2, Int64.lt_iff_toInt_lt, k0, k1]
  repeat' split
  all_goals first | decide | (exfalso; omega)
theorem own_L {c r t : Int64} (ht : t = c - r) (hr : r = c &&& (4503599627370495 : Int64)) : (t &&& (4503599627370495 : Int64)) = 0 ∧ t >>> (52 : Int64) = c >>> (52 : Int64) := by
  have h1 := c_maskL c 4503599627370495 52 (by decide) (by decide)
  rw [← hr] at h1
  have h2 := c_lsub c r
  rw [← ht] at h2
  have h3 := c_maskL t 4503599627370495 52 (by decide) (by decide)
  have g1 := rng64 c; have g2 := rng64 t
  have s1 := c_lshr t 52 52 (by decide); have s2 := c_lshr c 52 52 (by decide)
  rw [show ((52 : Int32) &&& 0x3f).toInt64 = (52 : Int64) from by decide] at s1 s2
  have k0 : (0 : Int64).toInt = 0 := rfl
  rw [← Int64.toInt_inj, ← Int64.toInt_inj, h3, s1, s2, k0]
  omega

theorem pn0 : plainName "com/example/libsworn/libsworn/P256FieldCarryPinLaw" = true := by first | (simp [plainName, overriddenIn]; done) | decide +kernel
theorem ef0 (m : MethodId) (x0 : Int64) (x1 : Int64) (x2 : Int64) (x3 : Int64) (x4 : Int64) (x5 : Int32) : entryFrame m #[(.long x0), (.long x1), (.long x2), (.long x3), (.long x4), (.int x5)] maxLocals = mkF m 0 #[.val (.long x0), .second, .val (.long x1), .second, .val (.long x2), .second, .val (.long x3), .second, .val (.long x4), .second, .val (.int x5), .unset, .unset, .unset, .unset, .unset, .unset, .unset, .unset, .unset, .unset, .unset, .unset, .unset, .unset, .unset, .unset, .unset, .unset, .unset, .unset, .unset, .unset, .unset, .unset, .unset, .unset, .unset, .unset, .unset, .unset, .unset, .unset, .unset, .unset, .unset, .unset, .unset, .unset, .unset, .unset, .unset, .unset] [] := by first | (simp [entryFrame, mkF, argsToLocals, Value.category, maxLocals]; done) | rfl
theorem pd1 : parseMethodDescriptor "([J[J)V" = some ⟨[(.array .long), (.array .long)], none⟩ := by decide +kernel
theorem pd2 : parseMethodDescriptor "(J)Z" = some ⟨[.long], some .boolean⟩ := by decide +kernel
theorem own_ki_5 : Int32.ofInt (5) = (5 : Int32) := by decide
theorem own_slshr_5 (x : Int64) : x >>> ((5 : Int32) &&& 0x3f).toInt64 = x >>> (5 : Int64) := by rw [show ((5 : Int32) &&& 0x3f).toInt64 = (5 : Int64) from by decide]
set_option maxRecDepth 65536 in
set_option maxHeartbeats 40000000 in
theorem own_law (l : Launch) (Z : State) (a0 : Array Value) (hw : ∀ d ∈ tables_1, d.before a0 Z = true) (ws : List Jvm.Cond) (p0 : Int64) (p1 : Int64) (p2 : Int64) (p3 : Int64) (p4 : Int64) (p5 : Int32)  (h0 : Heap) (n0 : Nat) (Z_ : n0 ≤ h0.size)  :
    Met l x code maxLocals ret ws room_1 Z n0 #[(.long p0), (.long p1), (.long p2), (.long p3), (.long p4), (.int p5)] h0 (fun v h => v = some (.int 1)) := by
  refine own_met pn0 (fun m => ef0 m p0 p1 p2 p3 p4 p5) ?_
  intro p e s m below meth c C0
  have C : Cx p s m meth c Z code 53 (some .boolean) "com/example/libsworn/libsworn/P256FieldCarryPinLaw" "law" := C0
  refine own_ldc2 (pc' := 3) (v := (4503599627370495 : Int64)) C at_0 (hw _ (List.mem_of_getElem? (i := 0) rfl)) rfl ?_
  refine own_lstore (pc' := 5) (y := (4503599627370495 : Int64)) (Ls' := #[.val (.long p0), .second, .val (.long p1), .second, .val (.long p2), .second, .val (.long p3), .second, .val (.long p4), .second, .val (.int p5), .val (.long (4503599627370495 : Int64)), .second, .unset, .unset, .unset, .unset, .unset, .unset, .unset, .unset, .unset, .unset, .unset, .unset, .unset, .unset, .unset, .unset, .unset, .unset, .unset, .unset, .unset, .unset, .unset, .unset, .unset, .unset, .unset, .unset, .unset, .unset, .unset, .unset, .unset, .unset, .unset, .unset, .unset, .unset, .unset, .unset]) C at_3 rfl rfl rfl ?_
  refine own_lloadN (pc' := 6) C at_5 rfl rfl ?_
  refine own_lstore (pc' := 8) (y := p0) (Ls' := #[.val (.long p0), .second, .val (.long p1), .second, .val (.long p2), .second, .val (.long p3), .second, .val (.long p4), .second, .val (.int p5), .val (.long (4503599627370495 : Int64)), .second, .val (.long p0), .second, .unset, .unset, .unset, .unset, .unset, .unset, .unset, .unset, .unset, .unset, .unset, .unset, .unset, .unset, .unset, .unset, .unset, .unset, .unset, .unset, .unset, .unset, .unset, .unset, .unset, .unset, .unset, .unset, .unset, .unset, .unset, .unset, .unset, .unset, .unset, .unset, .unset, .unset]) C at_6 rfl rfl rfl ?_
  refine own_lloadN (pc' := 9) C at_8 rfl rfl ?_
  refine own_iconst (pc' := 10) (v := (5 : Int32)) C at_9 own_ki_5 rfl ?_
  refine own_lshr (pc' := 11) (v := (p1 >>> (5 : Int64))) C at_10 (own_slshr_5 _) rfl ?_
  obtain ⟨v15_11, hv15_11⟩ : ∃ z : Int64, z = (p1 >>> (5 : Int64)) := ⟨_, rfl⟩
  refine own_lstore (pc' := 13) (y := v15_11) (Ls' := #[.val (.long p0), .second, .val (.long p1), .second, .val (.long p2), .second, .val (.long p3), .second, .val (.long p4), .second, .val (.int p5), .val (.long (4503599627370495 : Int64)), .second, .val (.long p0), .second, .val (.long v15_11), .second, .unset, .unset, .unset, .unset, .unset, .unset, .unset, .unset, .unset, .unset, .unset, .unset, .unset, .unset, .unset, .unset, .unset, .unset, .unset, .unset, .unset, .unset, .unset, .unset, .unset, .unset, .unset, .unset, .unset, .unset, .unset, .unset, .unset, .unset, .unset, .unset]) C at_11 hv15_11.symm rfl rfl ?_
  refine own_lload (pc' := 15) C at_13 rfl rfl ?_
  refine own_iconst (pc' := 16) (v := (5 : Int32)) C at_15 own_ki_5 rfl ?_
  refine own_lshr (pc' := 17) (v := (p2 >>> (5 : Int64))) C at_16 (own_slshr_5 _) rfl ?_
  obtain ⟨v17_17, hv17_17⟩ : ∃ z : Int64, z = (p2 >>> (5 : Int64)) := ⟨_, rfl⟩
  refine own_lstore (pc' := 19) (y := v17_17) (Ls' := #[.val (.long p0), .second, .val (.long p1), .second, .val (.long p2), .second, .val (.long p3), .second, .val (.long p4), .second, .val (.int p5), .val (.long (4503599627370495 : Int64)), .second, .val (.long p0), .second, .val (.long v15_11), .second, .val (.long v17_17), .second, .unset, .unset, .unset, .unset, .unset, .unset, .unset, .unset, .unset, .unset, .unset, .unset, .unset, .unset, .unset, .unset, .unset, .unset, .unset, .unset, .unset, .unset, .unset, .unset, .unset, .unset, .unset, .unset, .unset, .unset, .unset, .unset, .unset, .unset]) C at_17 hv17_17.symm rfl rfl ?_
  refine own_lload (pc' := 21) C at_19 rfl rfl ?_
  refine own_iconst (pc' := 22) (v := (5 : Int32)) C at_21 own_ki_5 rfl ?_
  refine own_lshr (pc' := 23) (v := (p3 >>> (5 : Int64))) C at_22 (own_slshr_5 _) rfl ?_
  obtain ⟨v19_23, hv19_23⟩ : ∃ z : Int64, z = (p3 >>> (5 : Int64)) := ⟨_, rfl⟩
  refine own_lstore (pc' := 25) (y := v19_23) (Ls' := #[.val (.long p0), .second, .val (.long p1), .second, .val (.long p2), .second, .val (.long p3), .second, .val (.long p4), .second, .val (.int p5), .val (.long (4503599627370495 : Int64)), .second, .val (.long p0), .second, .val (.long v15_11), .second, .val (.long v17_17), .second, .val (.long v19_23), .second, .unset, .unset, .unset, .unset, .unset, .unset, .unset, .unset, .unset, .unset, .unset, .unset, .unset, .unset, .unset, .unset, .unset, .unset, .unset, .unset, .unset, .unset, .unset, .unset, .unset, .unset, .unset, .unset, .unset, .unset, .unset, .unset]) C at_23 hv19_23.symm rfl rfl ?_
  refine own_lload (pc' := 27) C at_25 rfl rfl ?_
  refine own_iconst (pc' := 28) (v := (5 : Int32)) C at_27 own_ki_5 rfl ?_
  refine own_lshr (pc' := 29) (v := (p4 >>> (5 : Int64))) C at_28 (own_slshr_5 _) rfl ?_
  obtain ⟨v21_29, hv21_29⟩ : ∃ z : Int64, z = (p4 >>> (5 : Int64)) := ⟨_, rfl⟩
  refine own_lstore (pc' := 31) (y := v21_29) (Ls' := #[.val (.long p0), .second, .val (.long p1), .second, .val (.long p2), .second, .val (.long p3), .second, .val (.long p4), .second, .val (.int p5), .val (.long (4503599627370495 : Int64)), .second, .val (.long p0), .second, .val (.long v15_11), .second, .val (.long v17_17), .second, .val (.long v19_23), .second, .val (.long v21_29), .second, .unset, .unset, .unset, .unset, .unset, .unset, .unset, .unset, .unset, .unset, .unset, .unset, .unset, .unset, .unset, .unset, .unset, .unset, .unset, .unset, .unset, .unset, .unset, .unset, .unset, .unset, .unset, .unset, .unset, .unset]) C at_29 hv21_29.symm rfl rfl ?_
  refine own_iconst (pc' := 32) (v := (5 : Int32)) C at_31 own_ki_5 rfl ?_
  refine own_newJ (pc' := 34) (len := 5) (cap := 5) C at_32 (hw _ (List.mem_of_getElem? (i := 1) rfl)) (by decide) rfl (by decide) (by decide) (by decide) (by decide) rfl ?_
  intro h1 b1 g1 X1 A_b1
  have g_b1 : n0 ≤ b1 := g1 ▸ Z_
  replace Z_ := Nat.le_trans Z_ X1.1
  replace A_b1 : AJ Z h1 b1 [(0 : Int64), (0 : Int64), (0 : Int64), (0 : Int64), (0 : Int64)] := A_b1
  refine own_dup (pc' := 35) C at_34 rfl rfl ?_
  refine own_iconst (pc' := 36) (v := (0 : Int32)) C at_35 own_ki_0 rfl ?_
  refine own_lload (pc' := 38) C at_36 rfl rfl ?_
  refine own_lastore (pc' := 39) (i := 0) (ys := [p0, (0 : Int64), (0 : Int64), (0 : Int64), (0 : Int64)]) C at_38 A_b1 (by decide) rfl (Nat.le_of_ble_eq_true rfl) rfl g_b1 rfl ?_
  intro h2 W2 A2_
  replace A_b1 := A2_
  replace Z_ : n0 ≤ _ := Nat.le_trans Z_ (Nat.le_of_eq W2.size.symm)
  refine own_dup (pc' := 40) C at_39 rfl rfl ?_
  refine own_iconst (pc' := 41) (v := (1 : Int32)) C at_40 own_ki_1 rfl ?_
  refine own_lload (pc' := 43) C at_41 rfl rfl ?_
  refine own_lastore (pc' := 44) (i := 1) (ys := [p0, v15_11, (0 : Int64), (0 : Int64), (0 : Int64)]) C at_43 A_b1 (by decide) rfl (Nat.le_of_ble_eq_true rfl) rfl g_b1 rfl ?_
  intro h3 W3 A3_
  replace A_b1 := A3_
  replace Z_ : n0 ≤ _ := Nat.le_trans Z_ (Nat.le_of_eq W3.size.symm)
  refine own_dup (pc' := 45) C at_44 rfl rfl ?_
  refine own_iconst (pc' := 46) (v := (2 : Int32)) C at_45 own_ki_2 rfl ?_
  refine own_lload (pc' := 48) C at_46 rfl rfl ?_
  refine own_lastore (pc' := 49) (i := 2) (ys := [p0, v15_11, v17_17, (0 : Int64), (0 : Int64)]) C at_48 A_b1 (by decide) rfl (Nat.le_of_ble_eq_true rfl) rfl g_b1 rfl ?_
  intro h4 W4 A4_
  replace A_b1 := A4_
  replace Z_ : n0 ≤ _ := Nat.le_trans Z_ (Nat.le_of_eq W4.size.symm)
  refine own_dup (pc' := 50) C at_49 rfl rfl ?_
  refine own_iconst (pc' := 51) (v := (3 : Int32)) C at_50 own_ki_3 rfl ?_
  refine own_lload (pc' := 53) C at_51 rfl rfl ?_
  refine own_lastore (pc' := 54) (i := 3) (ys := [p0, v15_11, v17_17, v19_23, (0 : Int64)]) C at_53 A_b1 (by decide) rfl (Nat.le_of_ble_eq_true rfl) rfl g_b1 rfl ?_
  intro h5 W5 A5_
  replace A_b1 := A5_
  replace Z_ : n0 ≤ _ := Nat.le_trans Z_ (Nat.le_of_eq W5.size.symm)
  refine own_dup (pc' := 55) C at_54 rfl rfl ?_
  refine own_iconst (pc' := 56) (v := (4 : Int32)) C at_55 own_ki_4 rfl ?_
  refine own_lload (pc' := 58) C at_56 rfl rfl ?_
  refine own_lastore (pc' := 59) (i := 4) (ys := [p0, v15_11, v17_17, v19_23, v21_29]) C at_58 A_b1 (by decide) rfl (Nat.le_of_ble_eq_true rfl) rfl g_b1 rfl ?_
  intro h6 W6 A6_
  replace A_b1 := A6_
  replace Z_ : n0 ≤ _ := Nat.le_trans Z_ (Nat.le_of_eq W6.size.symm)
  refine own_astore (pc' := 61) (Ls' := #[.val (.long p0), .second, .val (.long p1), .second, .val (.long p2), .second, .val (.long p3), .second, .val (.long p4), .second, .val (.int p5), .val (.long (4503599627370495 : Int64)), .second, .val (.long p0), .second, .val (.long v15_11), .second, .val (.long v17_17), .second, .val (.long v19_23), .second, .val (.long v21_29), .second, .val (.ref b1), .unset, .unset, .unset, .unset, .unset, .unset, .unset, .unset, .unset, .unset, .unset, .unset, .unset, .unset, .unset, .unset, .unset, .unset, .unset, .unset, .unset, .unset, .unset, .unset, .unset, .unset, .unset, .unset, .unset]) C at_59 rfl rfl rfl ?_
  refine own_iload (pc' := 63) C at_61 rfl rfl ?_
  refine own_iconst (pc' := 64) (v := (1 : Int32)) C at_63 own_ki_1 rfl ?_
  refine own_iand (pc' := 65) C at_64 rfl rfl ?_
  refine own_if_eq (pt := 72) (pf := 68) C at_65 (by decide) (by decide) rfl ?_ ?_
  · intro hc65
    refine own_iconst (pc' := 73) (v := (0 : Int32)) C at_72 own_ki_0 rfl ?_
    refine own_istore (pc' := 75) (y := (0 : Int32)) (Ls' := #[.val (.long p0), .second, .val (.long p1), .second, .val (.long p2), .second, .val (.long p3), .second, .val (.long p4), .second, .val (.int p5), .val (.long (4503599627370495 : Int64)), .second, .val (.long p0), .second, .val (.long v15_11), .second, .val (.long v17_17), .second, .val (.long v19_23), .second, .val (.long v21_29), .second, .val (.ref b1), .val (.int (0 : Int32)), .unset, .unset, .unset, .unset, .unset, .unset, .unset, .unset, .unset, .unset, .unset, .unset, .unset, .unset, .unset, .unset, .unset, .unset, .unset, .unset, .unset, .unset, .unset, .unset, .unset, .unset, .unset, .unset]) C at_73 rfl rfl rfl ?_
    refine own_iload (pc' := 77) C at_75 rfl rfl ?_
    refine own_if_eq (pt := 87) (pf := 80) C at_77 (by decide) (by decide) rfl (fun _ => ?_) (fun q => absurd (by decide) q)
    refine own_iconst (pc' := 88) (v := (5 : Int32)) C at_87 own_ki_5 rfl ?_
    refine own_newJ (pc' := 90) (len := 5) (cap := 5) C at_88 (hw _ (List.mem_of_getElem? (i := 1) rfl)) (by decide) rfl (by decide) (by decide) (by decide) (by decide) rfl ?_
    intro h7 b7 g7 X7 A_b7
    have ne_b1_b7 : b1 ≠ b7 := Nat.ne_of_lt (g7 ▸ A_b1.lt)
    replace A_b1 := A_b1.ext X7
    have g_b7 : n0 ≤ b7 := g7 ▸ Z_
    replace Z_ := Nat.le_trans Z_ X7.1
    replace A_b7 : AJ Z h7 b7 [(0 : Int64), (0 : Int64), (0 : Int64), (0 : Int64), (0 : Int64)] := A_b7
    refine own_dup (pc' := 91) C at_90 rfl rfl ?_
    refine own_iconst (pc' := 92) (v := (0 : Int32)) C at_91 own_ki_0 rfl ?_
    refine own_ldc2 (pc' := 95) (v := (-1 : Int64)) C at_92 (hw _ (List.mem_of_getElem? (i := 2) rfl)) rfl ?_
    refine own_lastore (pc' := 96) (i := 0) (ys := [(-1 : Int64), (0 : Int64), (0 : Int64), (0 : Int64), (0 : Int64)]) C at_95 A_b7 (by decide) rfl (Nat.le_of_ble_eq_true rfl) rfl g_b7 rfl ?_
    intro h8 W8 A8_
    replace A_b1 := A_b1.other W8 ne_b1_b7
    replace A_b7 := A8_
    replace Z_ : n0 ≤ _ := Nat.le_trans Z_ (Nat.le_of_eq W8.size.symm)
    refine own_dup (pc' := 97) C at_96 rfl rfl ?_
    refine own_iconst (pc' := 98) (v := (1 : Int32)) C at_97 own_ki_1 rfl ?_
    refine own_ldc2 (pc' := 101) (v := (-1 : Int64)) C at_98 (hw _ (List.mem_of_getElem? (i := 2) rfl)) rfl ?_
    refine own_lastore (pc' := 102) (i := 1) (ys := [(-1 : Int64), (-1 : Int64), (0 : Int64), (0 : Int64), (0 : Int64)]) C at_101 A_b7 (by decide) rfl (Nat.le_of_ble_eq_true rfl) rfl g_b7 rfl ?_
    intro h9 W9 A9_
    replace A_b1 := A_b1.other W9 ne_b1_b7
    replace A_b7 := A9_
    replace Z_ : n0 ≤ _ := Nat.le_trans Z_ (Nat.le_of_eq W9.size.symm)
    refine own_dup (pc' := 103) C at_102 rfl rfl ?_
    refine own_iconst (pc' := 104) (v := (2 : Int32)) C at_103 own_ki_2 rfl ?_
    refine own_ldc2 (pc' := 107) (v := (-1 : Int64)) C at_104 (hw _ (List.mem_of_getElem? (i := 2) rfl)) rfl ?_
    refine own_lastore (pc' := 108) (i := 2) (ys := [(-1 : Int64), (-1 : Int64), (-1 : Int64), (0 : Int64), (0 : Int64)]) C at_107 A_b7 (by decide) rfl (Nat.le_of_ble_eq_true rfl) rfl g_b7 rfl ?_
    intro h10 W10 A10_
    replace A_b1 := A_b1.other W10 ne_b1_b7
    replace A_b7 := A10_
    replace Z_ : n0 ≤ _ := Nat.le_trans Z_ (Nat.le_of_eq W10.size.symm)
    refine own_dup (pc' := 109) C at_108 rfl rfl ?_
    refine own_iconst (pc' := 110) (v := (3 : Int32)) C at_109 own_ki_3 rfl ?_
    refine own_ldc2 (pc' := 113) (v := (-1 : Int64)) C at_110 (hw _ (List.mem_of_getElem? (i := 2) rfl)) rfl ?_
    refine own_lastore (pc' := 114) (i := 3) (ys := [(-1 : Int64), (-1 : Int64), (-1 : Int64), (-1 : Int64), (0 : Int64)]) C at_113 A_b7 (by decide) rfl (Nat.le_of_ble_eq_true rfl) rfl g_b7 rfl ?_
    intro h11 W11 A11_
    replace A_b1 := A_b1.other W11 ne_b1_b7
    replace A_b7 := A11_
    replace Z_ : n0 ≤ _ := Nat.le_trans Z_ (Nat.le_of_eq W11.size.symm)
    refine own_dup (pc' := 115) C at_114 rfl rfl ?_
    refine own_iconst (pc' := 116) (v := (4 : Int32)) C at_115 own_ki_4 rfl ?_
    refine own_ldc2 (pc' := 119) (v := (-1 : Int64)) C at_116 (hw _ (List.mem_of_getElem? (i := 2) rfl)) rfl ?_
    refine own_lastore (pc' := 120) (i := 4) (ys := [(-1 : Int64), (-1 : Int64), (-1 : Int64), (-1 : Int64), (-1 : Int64)]) C at_119 A_b7 (by decide) rfl (Nat.le_of_ble_eq_true rfl) rfl g_b7 rfl ?_
    intro h12 W12 A12_
    replace A_b1 := A_b1.other W12 ne_b1_b7
    replace A_b7 := A12_
    replace Z_ : n0 ≤ _ := Nat.le_trans Z_ (Nat.le_of_eq W12.size.symm)
    refine own_astore (pc' := 122) (Ls' := #[.val (.long p0), .second, .val (.long p1), .second, .val (.long p2), .second, .val (.long p3), .second, .val (.long p4), .second, .val (.int p5), .val (.long (4503599627370495 : Int64)), .second, .val (.long p0), .second, .val (.long v15_11), .second, .val (.long v17_17), .second, .val (.long v19_23), .second, .val (.long v21_29), .second, .val (.ref b1), .val (.int (0 : Int32)), .val (.ref b7), .unset, .unset, .unset, .unset, .unset, .unset, .unset, .unset, .unset, .unset, .unset, .unset, .unset, .unset, .unset, .unset, .unset, .unset, .unset, .unset, .unset, .unset, .unset, .unset, .unset, .unset, .unset]) C at_120 rfl rfl rfl ?_
    refine own_aload (pc' := 124) C at_122 rfl rfl rfl ?_
    refine own_aload (pc' := 126) C at_124 rfl rfl rfl ?_
    refine own_callS (pc' := 129) (wL := 0) (argsL := [(.ref b7), (.ref b1)]) (rest := []) C (own_carryA l Z a0 hw b7 b1 p0 v15_11 v17_17 v19_23 v21_29 (-1 : Int64) (-1 : Int64) (-1 : Int64) (-1 : Int64) (-1 : Int64) h12 n0 Z_ A_b7 A_b1 g_b7 (Ne.symm ne_b1_b7)) at_126 (hw _ (List.mem_of_getElem? (i := 3) rfl)) (hw _ (List.mem_of_getElem? (i := 4) rfl)) (hw _ (List.mem_of_getElem? (i := 5) rfl)) (hw _ (List.mem_of_getElem? (i := 6) rfl)) (by decide) (by decide) (by decide) rfl (lenOf pd1 rfl) rfl rfl (Nat.le_of_eq rfl) (by decide) (by decide) rfl ?_
    rintro _ h13 ⟨rfl, K13, A13_⟩
    replace A_b1 := A_b1.keep K13 (ninS ne_b1_b7 nin0)
    replace Z_ := Nat.le_trans Z_ K13.1
    replace A_b7 := A13_
    show Wp p l e _ s m _ below meth c n0 _ h13 ((0 + 1) + 1) ((0 + 5) + 5) (mkF m 129 #[.val (.long p0), .second, .val (.long p1), .second, .val (.long p2), .second, .val (.long p3), .second, .val (.long p4), .second, .val (.int p5), .val (.long (4503599627370495 : Int64)), .second, .val (.long p0), .second, .val (.long v15_11), .second, .val (.long v17_17), .second, .val (.long v19_23), .second, .val (.long v21_29), .second, .val (.ref b1), .val (.int (0 : Int32)), .val (.ref b7), .unset, .unset, .unset, .unset, .unset, .unset, .unset, .unset, .unset, .unset, .unset, .unset, .unset, .unset, .unset, .unset, .unset, .unset, .unset, .unset, .unset, .unset, .unset, .unset, .unset, .unset, .unset] [])
    refine own_iconst (pc' := 130) (v := (1 : Int32)) C at_129 own_ki_1 rfl ?_
    refine own_istore (pc' := 132) (y := (1 : Int32)) (Ls' := #[.val (.long p0), .second, .val (.long p1), .second, .val (.long p2), .second, .val (.long p3), .second, .val (.long p4), .second, .val (.int p5), .val (.long (4503599627370495 : Int64)), .second, .val (.long p0), .second, .val (.long v15_11), .second, .val (.long v17_17), .second, .val (.long v19_23), .second, .val (.long v21_29), .second, .val (.ref b1), .val (.int (0 : Int32)), .val (.ref b7), .val (.int (1 : Int32)), .unset, .unset, .unset, .unset, .unset, .unset, .unset, .unset, .unset, .unset, .unset, .unset, .unset, .unset, .unset, .unset, .unset, .unset, .unset, .unset, .unset, .unset, .unset, .unset, .unset, .unset]) C at_130 rfl rfl rfl ?_
    refine own_iload (pc' := 134) C at_132 rfl rfl ?_
    refine own_if_ne (pt := 199) (pf := 137) C at_134 (by decide) (by decide) rfl (fun q => absurd (by decide) q) (fun _ => ?_)
    refine own_iload (pc' := 139) C at_137 rfl rfl ?_
    refine own_if_eq (pt := 196) (pf := 142) C at_139 (by decide) (by decide) rfl (fun q => absurd q (by decide)) (fun _ => ?_)
    refine own_aload (pc' := 144) C at_142 rfl rfl rfl ?_
    refine own_iconst (pc' := 145) (v := (0 : Int32)) C at_144 own_ki_0 rfl ?_
    refine own_laload (pc' := 146) (v := p0) (i := 0) C at_145 A_b1 (by decide) rfl rfl rfl ?_
    refine own_lload (pc' := 148) C at_146 rfl rfl ?_
    refine own_lcmp_ne (pt := 196) (pf := 152) C at_148 rfl at_149 (by decide) (by decide) rfl (fun q => absurd rfl q) (fun _ => ?_)
    refine own_aload (pc' := 154) C at_152 rfl rfl rfl ?_
    refine own_iconst (pc' := 155) (v := (1 : Int32)) C at_154 own_ki_1 rfl ?_
    refine own_laload (pc' := 156) (v := v15_11) (i := 1) C at_155 A_b1 (by decide) rfl rfl rfl ?_
    refine own_lload (pc' := 158) C at_156 rfl rfl ?_
    refine own_lcmp_ne (pt := 196) (pf := 162) C at_158 rfl at_159 (by decide) (by decide) rfl (fun q => absurd rfl q) (fun _ => ?_)
    refine own_aload (pc' := 164) C at_162 rfl rfl rfl ?_
    refine own_iconst (pc' := 165) (v := (2 : Int32)) C at_164 own_ki_2 rfl ?_
    refine own_laload (pc' := 166) (v := v17_17) (i := 2) C at_165 A_b1 (by decide) rfl rfl rfl ?_
    refine own_lload (pc' := 168) C at_166 rfl rfl ?_
    refine own_lcmp_ne (pt := 196) (pf := 172) C at_168 rfl at_169 (by decide) (by decide) rfl (fun q => absurd rfl q) (fun _ => ?_)
    refine own_aload (pc' := 174) C at_172 rfl rfl rfl ?_
    refine own_iconst (pc' := 175) (v := (3 : Int32)) C at_174 own_ki_3 rfl ?_
    refine own_laload (pc' := 176) (v := v19_23) (i := 3) C at_175 A_b1 (by decide) rfl rfl rfl ?_
    refine own_lload (pc' := 178) C at_176 rfl rfl ?_
    refine own_lcmp_ne (pt := 196) (pf := 182) C at_178 rfl at_179 (by decide) (by decide) rfl (fun q => absurd rfl q) (fun _ => ?_)
    refine own_aload (pc' := 184) C at_182 rfl rfl rfl ?_
    refine own_iconst (pc' := 185) (v := (4 : Int32)) C at_184 own_ki_4 rfl ?_
    refine own_laload (pc' := 186) (v := v21_29) (i := 4) C at_185 A_b1 (by decide) rfl rfl rfl ?_
    refine own_lload (pc' := 188) C at_186 rfl rfl ?_
    refine own_lcmp_ne (pt := 196) (pf := 192) C at_188 rfl at_189 (by decide) (by decide) rfl (fun q => absurd rfl q) (fun _ => ?_)
    refine own_iconst (pc' := 193) (v := (1 : Int32)) C at_192 own_ki_1 rfl ?_
    refine own_goto (pc' := 197) C at_193 (by decide) (by decide) ?_
    refine own_istore (pc' := 199) (y := (1 : Int32)) (Ls' := #[.val (.long p0), .second, .val (.long p1), .second, .val (.long p2), .second, .val (.long p3), .second, .val (.long p4), .second, .val (.int p5), .val (.long (4503599627370495 : Int64)), .second, .val (.long p0), .second, .val (.long v15_11), .second, .val (.long v17_17), .second, .val (.long v19_23), .second, .val (.long v21_29), .second, .val (.ref b1), .val (.int (0 : Int32)), .val (.ref b7), .val (.int (1 : Int32)), .unset, .unset, .unset, .unset, .unset, .unset, .unset, .unset, .unset, .unset, .unset, .unset, .unset, .unset, .unset, .unset, .unset, .unset, .unset, .unset, .unset, .unset, .unset, .unset, .unset, .unset]) C at_197 rfl rfl rfl ?_
    refine own_aload (pc' := 201) C at_199 rfl rfl rfl ?_
    refine own_iconst (pc' := 202) (v := (0 : Int32)) C at_201 own_ki_0 rfl ?_
    refine own_laload (pc' := 203) (v := (p0 &&& (4503599627370495 : Int64))) (i := 0) C at_202 A_b7 (by decide) rfl rfl rfl ?_
    obtain ⟨v27_203, hv27_203⟩ : ∃ z : Int64, z = (p0 &&& (4503599627370495 : Int64)) := ⟨_, rfl⟩
    refine own_lstore (pc' := 205) (y := v27_203) (Ls' := #[.val (.long p0), .second, .val (.long p1), .second, .val (.long p2), .second, .val (.long p3), .second, .val (.long p4), .second, .val (.int p5), .val (.long (4503599627370495 : Int64)), .second, .val (.long p0), .second, .val (.long v15_11), .second, .val (.long v17_17), .second, .val (.long v19_23), .second, .val (.long v21_29), .second, .val (.ref b1), .val (.int (0 : Int32)), .val (.ref b7), .val (.int (1 : Int32)), .val (.long v27_203), .second, .unset, .unset, .unset, .unset, .unset, .unset, .unset, .unset, .unset, .unset, .unset, .unset, .unset, .unset, .unset, .unset, .unset, .unset, .unset, .unset, .unset, .unset, .unset, .unset]) C at_203 hv27_203.symm rfl rfl ?_
    refine own_aload (pc' := 207) C at_205 rfl rfl rfl ?_
    refine own_iconst (pc' := 208) (v := (1 : Int32)) C at_207 own_ki_1 rfl ?_
    refine own_laload (pc' := 209) (v := (own_c1 p0 v15_11 &&& (4503599627370495 : Int64))) (i := 1) C at_208 A_b7 (by decide) rfl rfl rfl ?_
    obtain ⟨v29_209, hv29_209⟩ : ∃ z : Int64, z = (own_c1 p0 v15_11 &&& (4503599627370495 : Int64)) := ⟨_, rfl⟩
    refine own_lstore (pc' := 211) (y := v29_209) (Ls' := #[.val (.long p0), .second, .val (.long p1), .second, .val (.long p2), .second, .val (.long p3), .second, .val (.long p4), .second, .val (.int p5), .val (.long (4503599627370495 : Int64)), .second, .val (.long p0), .second, .val (.long v15_11), .second, .val (.long v17_17), .second, .val (.long v19_23), .second, .val (.long v21_29), .second, .val (.ref b1), .val (.int (0 : Int32)), .val (.ref b7), .val (.int (1 : Int32)), .val (.long v27_203), .second, .val (.long v29_209), .second, .unset, .unset, .unset, .unset, .unset, .unset, .unset, .unset, .unset, .unset, .unset, .unset, .unset, .unset, .unset, .unset, .unset, .unset, .unset, .unset, .unset, .unset]) C at_209 hv29_209.symm rfl rfl ?_
    refine own_aload (pc' := 213) C at_211 rfl rfl rfl ?_
    refine own_iconst (pc' := 214) (v := (2 : Int32)) C at_213 own_ki_2 rfl ?_
    refine own_laload (pc' := 215) (v := (own_c2 p0 v15_11 v17_17 &&& (4503599627370495 : Int64))) (i := 2) C at_214 A_b7 (by decide) rfl rfl rfl ?_
    obtain ⟨v31_215, hv31_215⟩ : ∃ z : Int64, z = (own_c2 p0 v15_11 v17_17 &&& (4503599627370495 : Int64)) := ⟨_, rfl⟩
    refine own_lstore (pc' := 217) (y := v31_215) (Ls' := #[.val (.long p0), .second, .val (.long p1), .second, .val (.long p2), .second, .val (.long p3), .second, .val (.long p4), .second, .val (.int p5), .val (.long (4503599627370495 : Int64)), .second, .val (.long p0), .second, .val (.long v15_11), .second, .val (.long v17_17), .second, .val (.long v19_23), .second, .val (.long v21_29), .second, .val (.ref b1), .val (.int (0 : Int32)), .val (.ref b7), .val (.int (1 : Int32)), .val (.long v27_203), .second, .val (.long v29_209), .second, .val (.long v31_215), .second, .unset, .unset, .unset, .unset, .unset, .unset, .unset, .unset, .unset, .unset, .unset, .unset, .unset, .unset, .unset, .unset, .unset, .unset, .unset, .unset]) C at_215 hv31_215.symm rfl rfl ?_
    refine own_aload (pc' := 219) C at_217 rfl rfl rfl ?_
    refine own_iconst (pc' := 220) (v := (3 : Int32)) C at_219 own_ki_3 rfl ?_
    refine own_laload (pc' := 221) (v := (own_c3 p0 v15_11 v17_17 v19_23 &&& (4503599627370495 : Int64))) (i := 3) C at_220 A_b7 (by decide) rfl rfl rfl ?_
    obtain ⟨v33_221, hv33_221⟩ : ∃ z : Int64, z = (own_c3 p0 v15_11 v17_17 v19_23 &&& (4503599627370495 : Int64)) := ⟨_, rfl⟩
    refine own_lstore (pc' := 223) (y := v33_221) (Ls' := #[.val (.long p0), .second, .val (.long p1), .second, .val (.long p2), .second, .val (.long p3), .second, .val (.long p4), .second, .val (.int p5), .val (.long (4503599627370495 : Int64)), .second, .val (.long p0), .second, .val (.long v15_11), .second, .val (.long v17_17), .second, .val (.long v19_23), .second, .val (.long v21_29), .second, .val (.ref b1), .val (.int (0 : Int32)), .val (.ref b7), .val (.int (1 : Int32)), .val (.long v27_203), .second, .val (.long v29_209), .second, .val (.long v31_215), .second, .val (.long v33_221), .second, .unset, .unset, .unset, .unset, .unset, .unset, .unset, .unset, .unset, .unset, .unset, .unset, .unset, .unset, .unset, .unset, .unset, .unset]) C at_221 hv33_221.symm rfl rfl ?_
    refine own_aload (pc' := 225) C at_223 rfl rfl rfl ?_
    refine own_iconst (pc' := 226) (v := (4 : Int32)) C at_225 own_ki_4 rfl ?_
    refine own_laload (pc' := 227) (v := (own_c4 p0 v15_11 v17_17 v19_23 v21_29)) (i := 4) C at_226 A_b7 (by decide) rfl rfl rfl ?_
    obtain ⟨v35_227, hv35_227⟩ : ∃ z : Int64, z = (own_c4 p0 v15_11 v17_17 v19_23 v21_29) := ⟨_, rfl⟩
    refine own_lstore (pc' := 229) (y := v35_227) (Ls' := #[.val (.long p0), .second, .val (.long p1), .second, .val (.long p2), .second, .val (.long p3), .second, .val (.long p4), .second, .val (.int p5), .val (.long (4503599627370495 : Int64)), .second, .val (.long p0), .second, .val (.long v15_11), .second, .val (.long v17_17), .second, .val (.long v19_23), .second, .val (.long v21_29), .second, .val (.ref b1), .val (.int (0 : Int32)), .val (.ref b7), .val (.int (1 : Int32)), .val (.long v27_203), .second, .val (.long v29_209), .second, .val (.long v31_215), .second, .val (.long v33_221), .second, .val (.long v35_227), .second, .unset, .unset, .unset, .unset, .unset, .unset, .unset, .unset, .unset, .unset, .unset, .unset, .unset, .unset, .unset, .unset]) C at_227 hv35_227.symm rfl rfl ?_
    refine own_iload (pc' := 231) C at_229 rfl rfl ?_
    refine own_if_eq (pt := 270) (pf := 234) C at_231 (by decide) (by decide) rfl (fun q => absurd q (by decide)) (fun _ => ?_)
    refine own_lload (pc' := 236) C at_234 rfl rfl ?_
    refine own_callS (pc' := 239) (wL := 0) (argsL := [(.long v27_203)]) (rest := []) C (own_m2 l Z a0 hw v27_203 h13 n0 Z_) at_236 (hw _ (List.mem_of_getElem? (i := 8) rfl)) (hw _ (List.mem_of_getElem? (i := 9) rfl)) (hw _ (List.mem_of_getElem? (i := 10) rfl)) (hw _ (List.mem_of_getElem? (i := 11) rfl)) (by decide) (by decide) (by decide) rfl (lenOf pd2 rfl) rfl rfl (Nat.le_of_eq rfl) (by decide) (by decide) rfl ?_
    rintro _ _ ⟨rfl, rfl⟩
    show Wp p l e _ s m _ below meth c n0 _ h13 ((0 + 1) + 1) ((0 + 5) + 5) (mkF m 239 #[.val (.long p0), .second, .val (.long p1), .second, .val (.long p2), .second, .val (.long p3), .second, .val (.long p4), .second, .val (.int p5), .val (.long (4503599627370495 : Int64)), .second, .val (.long p0), .second, .val (.long v15_11), .second, .val (.long v17_17), .second, .val (.long v19_23), .second, .val (.long v21_29), .second, .val (.ref b1), .val (.int (0 : Int32)), .val (.ref b7), .val (.int (1 : Int32)), .val (.long v27_203), .second, .val (.long v29_209), .second, .val (.long v31_215), .second, .val (.long v33_221), .second, .val (.long v35_227), .second, .unset, .unset, .unset, .unset, .unset, .unset, .unset, .unset, .unset, .unset, .unset, .unset, .unset, .unset, .unset, .unset] [(.int (own_f2 v27_203))])
    refine own_if_eq (pt := 270) (pf := 242) C at_239 (by decide) (by decide) rfl (fun q => absurd q (own_limb hv27_203)) (fun _ => ?_)
    refine own_lload (pc' := 244) C at_242 rfl rfl ?_
    refine own_callS (pc' := 247) (wL := 0) (argsL := [(.long v29_209)]) (rest := []) C (own_m2 l Z a0 hw v29_209 h13 n0 Z_) at_244 (hw _ (List.mem_of_getElem? (i := 8) rfl)) (hw _ (List.mem_of_getElem? (i := 9) rfl)) (hw _ (List.mem_of_getElem? (i := 10) rfl)) (hw _ (List.mem_of_getElem? (i := 11) rfl)) (by decide) (by decide) (by decide) rfl (lenOf pd2 rfl) rfl rfl (Nat.le_of_eq rfl) (by decide) (by decide) rfl ?_
    rintro _ _ ⟨rfl, rfl⟩
    show Wp p l e _ s m _ below meth c n0 _ h13 ((0 + 1) + 1) ((0 + 5) + 5) (mkF m 247 #[.val (.long p0), .second, .val (.long p1), .second, .val (.long p2), .second, .val (.long p3), .second, .val (.long p4), .second, .val (.int p5), .val (.long (4503599627370495 : Int64)), .second, .val (.long p0), .second, .val (.long v15_11), .second, .val (.long v17_17), .second, .val (.long v19_23), .second, .val (.long v21_29), .second, .val (.ref b1), .val (.int (0 : Int32)), .val (.ref b7), .val (.int (1 : Int32)), .val (.long v27_203), .second, .val (.long v29_209), .second, .val (.long v31_215), .second, .val (.long v33_221), .second, .val (.long v35_227), .second, .unset, .unset, .unset, .unset, .unset, .unset, .unset, .unset, .unset, .unset, .unset, .unset, .unset, .unset, .unset, .unset] [(.int (own_f2 v29_209))])
    refine own_if_eq (pt := 270) (pf := 250) C at_247 (by decide) (by decide) rfl (fun q => absurd q (own_limb hv29_209)) (fun _ => ?_)
    refine own_lload (pc' := 252) C at_250 rfl rfl ?_
    refine own_callS (pc' := 255) (wL := 0) (argsL := [(.long v31_215)]) (rest := []) C (own_m2 l Z a0 hw v31_215 h13 n0 Z_) at_252 (hw _ (List.mem_of_getElem? (i := 8) rfl)) (hw _ (List.mem_of_getElem? (i := 9) rfl)) (hw _ (List.mem_of_getElem? (i := 10) rfl)) (hw _ (List.mem_of_getElem? (i := 11) rfl)) (by decide) (by decide) (by decide) rfl (lenOf pd2 rfl) rfl rfl (Nat.le_of_eq rfl) (by decide) (by decide) rfl ?_
    rintro _ _ ⟨rfl, rfl⟩
    show Wp p l e _ s m _ below meth c n0 _ h13 ((0 + 1) + 1) ((0 + 5) + 5) (mkF m 255 #[.val (.long p0), .second, .val (.long p1), .second, .val (.long p2), .second, .val (.long p3), .second, .val (.long p4), .second, .val (.int p5), .val (.long (4503599627370495 : Int64)), .second, .val (.long p0), .second, .val (.long v15_11), .second, .val (.long v17_17), .second, .val (.long v19_23), .second, .val (.long v21_29), .second, .val (.ref b1), .val (.int (0 : Int32)), .val (.ref b7), .val (.int (1 : Int32)), .val (.long v27_203), .second, .val (.long v29_209), .second, .val (.long v31_215), .second, .val (.long v33_221), .second, .val (.long v35_227), .second, .unset, .unset, .unset, .unset, .unset, .unset, .unset, .unset, .unset, .unset, .unset, .unset, .unset, .unset, .unset, .unset] [(.int (own_f2 v31_215))])
    refine own_if_eq (pt := 270) (pf := 258) C at_255 (by decide) (by decide) rfl (fun q => absurd q (own_limb hv31_215)) (fun _ => ?_)
    refine own_lload (pc' := 260) C at_258 rfl rfl ?_
    refine own_callS (pc' := 263) (wL := 0) (argsL := [(.long v33_221)]) (rest := []) C (own_m2 l Z a0 hw v33_221 h13 n0 Z_) at_260 (hw _ (List.mem_of_getElem? (i := 8) rfl)) (hw _ (List.mem_of_getElem? (i := 9) rfl)) (hw _ (List.mem_of_getElem? (i := 10) rfl)) (hw _ (List.mem_of_getElem? (i := 11) rfl)) (by decide) (by decide) (by decide) rfl (lenOf pd2 rfl) rfl rfl (Nat.le_of_eq rfl) (by decide) (by decide) rfl ?_
    rintro _ _ ⟨rfl, rfl⟩
    show Wp p l e _ s m _ below meth c n0 _ h13 ((0 + 1) + 1) ((0 + 5) + 5) (mkF m 263 #[.val (.long p0), .second, .val (.long p1), .second, .val (.long p2), .second, .val (.long p3), .second, .val (.long p4), .second, .val (.int p5), .val (.long (4503599627370495 : Int64)), .second, .val (.long p0), .second, .val (.long v15_11), .second, .val (.long v17_17), .second, .val (.long v19_23), .second, .val (.long v21_29), .second, .val (.ref b1), .val (.int (0 : Int32)), .val (.ref b7), .val (.int (1 : Int32)), .val (.long v27_203), .second, .val (.long v29_209), .second, .val (.long v31_215), .second, .val (.long v33_221), .second, .val (.long v35_227), .second, .unset, .unset, .unset, .unset, .unset, .unset, .unset, .unset, .unset, .unset, .unset, .unset, .unset, .unset, .unset, .unset] [(.int (own_f2 v33_221))])
    refine own_if_eq (pt := 270) (pf := 266) C at_263 (by decide) (by decide) rfl (fun q => absurd q (own_limb hv33_221)) (fun _ => ?_)
    refine own_iconst (pc' := 267) (v := (1 : Int32)) C at_266 own_ki_1 rfl ?_
    refine own_goto (pc' := 271) C at_267 (by decide) (by decide) ?_
    refine own_istore (pc' := 273) (y := (1 : Int32)) (Ls' := #[.val (.long p0), .second, .val (.long p1), .second, .val (.long p2), .second, .val (.long p3), .second, .val (.long p4), .second, .val (.int p5), .val (.long (4503599627370495 : Int64)), .second, .val (.long p0), .second, .val (.long v15_11), .second, .val (.long v17_17), .second, .val (.long v19_23), .second, .val (.long v21_29), .second, .val (.ref b1), .val (.int (0 : Int32)), .val (.ref b7), .val (.int (1 : Int32)), .val (.long v27_203), .second, .val (.long v29_209), .second, .val (.long v31_215), .second, .val (.long v33_221), .second, .val (.long v35_227), .second, .unset, .unset, .unset, .unset, .unset, .unset, .unset, .unset, .unset, .unset, .unset, .unset, .unset, .unset, .unset, .unset]) C at_271 rfl rfl rfl ?_
    refine own_lload (pc' := 275) C at_273 rfl rfl ?_
    refine own_lload (pc' := 277) C at_275 rfl rfl ?_
    refine own_lsub (pc' := 278) C at_277 rfl rfl ?_
    obtain ⟨v37_278, hv37_278⟩ : ∃ z : Int64, z = (p0 - v27_203) := ⟨_, rfl⟩
    refine own_lstore (pc' := 280) (y := v37_278) (Ls' := #[.val (.long p0), .second, .val (.long p1), .second, .val (.long p2), .second, .val (.long p3), .second, .val (.long p4), .second, .val (.int p5), .val (.long (4503599627370495 : Int64)), .second, .val (.long p0), .second, .val (.long v15_11), .second, .val (.long v17_17), .second, .val (.long v19_23), .second, .val (.long v21_29), .second, .val (.ref b1), .val (.int (0 : Int32)), .val (.ref b7), .val (.int (1 : Int32)), .val (.long v27_203), .second, .val (.long v29_209), .second, .val (.long v31_215), .second, .val (.long v33_221), .second, .val (.long v35_227), .second, .val (.long v37_278), .second, .unset, .unset, .unset, .unset, .unset, .unset, .unset, .unset, .unset, .unset, .unset, .unset, .unset, .unset]) C at_278 hv37_278.symm rfl rfl ?_
    refine own_iload (pc' := 282) C at_280 rfl rfl ?_
    refine own_if_eq (pt := 299) (pf := 285) C at_282 (by decide) (by decide) rfl (fun q => absurd q (by decide)) (fun _ => ?_)
    refine own_lload (pc' := 287) C at_285 rfl rfl ?_
    refine own_lload (pc' := 289) C at_287 rfl rfl ?_
    refine own_land (pc' := 290) C at_289 rfl rfl ?_
    refine own_lconst (pc' := 291) (v := (0 : Int64)) C at_290 (by decide) rfl ?_
    refine own_lcmp_ne (pt := 299) (pf := 295) C at_291 rfl at_292 (by decide) (by decide) rfl (fun q => absurd (own_L hv37_278 hv27_203).1 q) (fun _ => ?_)
    refine own_iconst (pc' := 296) (v := (1 : Int32)) C at_295 own_ki_1 rfl ?_
    refine own_goto (pc' := 300) C at_296 (by decide) (by decide) ?_
    refine own_istore (pc' := 302) (y := (1 : Int32)) (Ls' := #[.val (.long p0), .second, .val (.long p1), .second, .val (.long p2), .second, .val (.long p3), .second, .val (.long p4), .second, .val (.int p5), .val (.long (4503599627370495 : Int64)), .second, .val (.long p0), .second, .val (.long v15_11), .second, .val (.long v17_17), .second, .val (.long v19_23), .second, .val (.long v21_29), .second, .val (.ref b1), .val (.int (0 : Int32)), .val (.ref b7), .val (.int (1 : Int32)), .val (.long v27_203), .second, .val (.long v29_209), .second, .val (.long v31_215), .second, .val (.long v33_221), .second, .val (.long v35_227), .second, .val (.long v37_278), .second, .unset, .unset, .unset, .unset, .unset, .unset, .unset, .unset, .unset, .unset, .unset, .unset, .unset, .unset]) C at_300 rfl rfl rfl ?_
    refine own_lload (pc' := 304) C at_302 rfl rfl ?_
    refine own_bipush (pc' := 306) (v := (52 : Int32)) C at_304 own_kb_52 rfl ?_
    refine own_lshr (pc' := 307) (v := (v37_278 >>> (52 : Int64))) C at_306 (own_slshr_52 _) rfl ?_
    obtain ⟨v39_307, hv39_307⟩ : ∃ z : Int64, z = (v37_278 >>> (52 : Int64)) := ⟨_, rfl⟩
    refine own_lstore (pc' := 309) (y := v39_307) (Ls' := #[.val (.long p0), .second, .val (.long p1), .second, .val (.long p2), .second, .val (.long p3), .second, .val (.long p4), .second, .val (.int p5), .val (.long (4503599627370495 : Int64)), .second, .val (.long p0), .second, .val (.long v15_11), .second, .val (.long v17_17), .second, .val (.long v19_23), .second, .val (.long v21_29), .second, .val (.ref b1), .val (.int (0 : Int32)), .val (.ref b7), .val (.int (1 : Int32)), .val (.long v27_203), .second, .val (.long v29_209), .second, .val (.long v31_215), .second, .val (.long v33_221), .second, .val (.long v35_227), .second, .val (.long v37_278), .second, .val (.long v39_307), .second, .unset, .unset, .unset, .unset, .unset, .unset, .unset, .unset, .unset, .unset, .unset, .unset]) C at_307 hv39_307.symm rfl rfl ?_
    refine own_lload (pc' := 311) C at_309 rfl rfl ?_
    refine own_lload (pc' := 313) C at_311 rfl rfl ?_
    refine own_ladd (pc' := 314) C at_313 rfl rfl ?_
    refine own_lload (pc' := 316) C at_314 rfl rfl ?_
    refine own_lsub (pc' := 317) C at_316 rfl rfl ?_
    obtain ⟨v41_317, hv41_317⟩ : ∃ z : Int64, z = ((v15_11 + v39_307) - v29_209) := ⟨_, rfl⟩
    refine own_lstore (pc' := 319) (y := v41_317) (Ls' := #[.val (.long p0), .second, .val (.long p1), .second, .val (.long p2), .second, .val (.long p3), .second, .val (.long p4), .second, .val (.int p5), .val (.long (4503599627370495 : Int64)), .second, .val (.long p0), .second, .val (.long v15_11), .second, .val (.long v17_17), .second, .val (.long v19_23), .second, .val (.long v21_29), .second, .val (.ref b1), .val (.int (0 : Int32)), .val (.ref b7), .val (.int (1 : Int32)), .val (.long v27_203), .second, .val (.long v29_209), .second, .val (.long v31_215), .second, .val (.long v33_221), .second, .val (.long v35_227), .second, .val (.long v37_278), .second, .val (.long v39_307), .second, .val (.long v41_317), .second, .unset, .unset, .unset, .unset, .unset, .unset, .unset, .unset, .unset, .unset]) C at_317 hv41_317.symm rfl rfl ?_
    refine own_iload (pc' := 321) C at_319 rfl rfl ?_
    refine own_if_eq (pt := 338) (pf := 324) C at_321 (by decide) (by decide) rfl (fun q => absurd q (by decide)) (fun _ => ?_)
    refine own_lload (pc' := 326) C at_324 rfl rfl ?_
    refine own_lload (pc' := 328) C at_326 rfl rfl ?_
    refine own_land (pc' := 329) C at_328 rfl rfl ?_
    refine own_lconst (pc' := 330) (v := (0 : Int64)) C at_329 (by decide) rfl ?_
    have q1 : v29_209 = (v15_11 + v39_307) &&& (4503599627370495 : Int64) := by rw [hv29_209, hv39_307, (own_L hv37_278 hv27_203).2]; rfl
    refine own_lcmp_ne (pt := 338) (pf := 334) C at_330 rfl at_331 (by decide) (by decide) rfl (fun q => absurd (own_L hv41_317 q1).1 q) (fun _ => ?_)
    refine own_iconst (pc' := 335) (v := (1 : Int32)) C at_334 own_ki_1 rfl ?_
    refine own_goto (pc' := 339) C at_335 (by decide) (by decide) ?_
    refine own_istore (pc' := 341) (y := (1 : Int32)) (Ls' := #[.val (.long p0), .second, .val (.long p1), .second, .val (.long p2), .second, .val (.long p3), .second, .val (.long p4), .second, .val (.int p5), .val (.long (4503599627370495 : Int64)), .second, .val (.long p0), .second, .val (.long v15_11), .second, .val (.long v17_17), .second, .val (.long v19_23), .second, .val (.long v21_29), .second, .val (.ref b1), .val (.int (0 : Int32)), .val (.ref b7), .val (.int (1 : Int32)), .val (.long v27_203), .second, .val (.long v29_209), .second, .val (.long v31_215), .second, .val (.long v33_221), .second, .val (.long v35_227), .second, .val (.long v37_278), .second, .val (.long v39_307), .second, .val (.long v41_317), .second, .unset, .unset, .unset, .unset, .unset, .unset, .unset, .unset, .unset, .unset]) C at_339 rfl rfl rfl ?_
    refine own_lload (pc' := 343) C at_341 rfl rfl ?_
    refine own_bipush (pc' := 345) (v := (52 : Int32)) C at_343 own_kb_52 rfl ?_
    refine own_lshr (pc' := 346) (v := (v41_317 >>> (52 : Int64))) C at_345 (own_slshr_52 _) rfl ?_
    obtain ⟨v43_346, hv43_346⟩ : ∃ z : Int64, z = (v41_317 >>> (52 : Int64)) := ⟨_, rfl⟩
    refine own_lstore (pc' := 348) (y := v43_346) (Ls' := #[.val (.long p0), .second, .val (.long p1), .second, .val (.long p2), .second, .val (.long p3), .second, .val (.long p4), .second, .val (.int p5), .val (.long (4503599627370495 : Int64)), .second, .val (.long p0), .second, .val (.long v15_11), .second, .val (.long v17_17), .second, .val (.long v19_23), .second, .val (.long v21_29), .second, .val (.ref b1), .val (.int (0 : Int32)), .val (.ref b7), .val (.int (1 : Int32)), .val (.long v27_203), .second, .val (.long v29_209), .second, .val (.long v31_215), .second, .val (.long v33_221), .second, .val (.long v35_227), .second, .val (.long v37_278), .second, .val (.long v39_307), .second, .val (.long v41_317), .second, .val (.long v43_346), .second, .unset, .unset, .unset, .unset, .unset, .unset, .unset, .unset]) C at_346 hv43_346.symm rfl rfl ?_
    refine own_lload (pc' := 350) C at_348 rfl rfl ?_
    refine own_lload (pc' := 352) C at_350 rfl rfl ?_
    refine own_ladd (pc' := 353) C at_352 rfl rfl ?_
    refine own_lload (pc' := 355) C at_353 rfl rfl ?_
    refine own_lsub (pc' := 356) C at_355 rfl rfl ?_
    obtain ⟨v45_356, hv45_356⟩ : ∃ z : Int64, z = ((v17_17 + v43_346) - v31_215) := ⟨_, rfl⟩
    refine own_lstore (pc' := 358) (y := v45_356) (Ls' := #[.val (.long p0), .second, .val (.long p1), .second, .val (.long p2), .second, .val (.long p3), .second, .val (.long p4), .second, .val (.int p5), .val (.long (4503599627370495 : Int64)), .second, .val (.long p0), .second, .val (.long v15_11), .second, .val (.long v17_17), .second, .val (.long v19_23), .second, .val (.long v21_29), .second, .val (.ref b1), .val (.int (0 : Int32)), .val (.ref b7), .val (.int (1 : Int32)), .val (.long v27_203), .second, .val (.long v29_209), .second, .val (.long v31_215), .second, .val (.long v33_221), .second, .val (.long v35_227), .second, .val (.long v37_278), .second, .val (.long v39_307), .second, .val (.long v41_317), .second, .val (.long v43_346), .second, .val (.long v45_356), .second, .unset, .unset, .unset, .unset, .unset, .unset]) C at_356 hv45_356.symm rfl rfl ?_
    refine own_iload (pc' := 360) C at_358 rfl rfl ?_
    refine own_if_eq (pt := 377) (pf := 363) C at_360 (by decide) (by decide) rfl (fun q => absurd q (by decide)) (fun _ => ?_)
    refine own_lload (pc' := 365) C at_363 rfl rfl ?_
    refine own_lload (pc' := 367) C at_365 rfl rfl ?_
    refine own_land (pc' := 368) C at_367 rfl rfl ?_
    refine own_lconst (pc' := 369) (v := (0 : Int64)) C at_368 (by decide) rfl ?_
    have q2 : v31_215 = (v17_17 + v43_346) &&& (4503599627370495 : Int64) := by rw [hv31_215, hv43_346, (own_L hv41_317 q1).2, hv39_307, (own_L hv37_278 hv27_203).2]; rfl
    refine own_lcmp_ne (pt := 377) (pf := 373) C at_369 rfl at_370 (by decide) (by decide) rfl (fun q => absurd (own_L hv45_356 q2).1 q) (fun _ => ?_)
    refine own_iconst (pc' := 374) (v := (1 : Int32)) C at_373 own_ki_1 rfl ?_
    refine own_goto (pc' := 378) C at_374 (by decide) (by decide) ?_
    refine own_istore (pc' := 380) (y := (1 : Int32)) (Ls' := #[.val (.long p0), .second, .val (.long p1), .second, .val (.long p2), .second, .val (.long p3), .second, .val (.long p4), .second, .val (.int p5), .val (.long (4503599627370495 : Int64)), .second, .val (.long p0), .second, .val (.long v15_11), .second, .val (.long v17_17), .second, .val (.long v19_23), .second, .val (.long v21_29), .second, .val (.ref b1), .val (.int (0 : Int32)), .val (.ref b7), .val (.int (1 : Int32)), .val (.long v27_203), .second, .val (.long v29_209), .second, .val (.long v31_215), .second, .val (.long v33_221), .second, .val (.long v35_227), .second, .val (.long v37_278), .second, .val (.long v39_307), .second, .val (.long v41_317), .second, .val (.long v43_346), .second, .val (.long v45_356), .second, .unset, .unset, .unset, .unset, .unset, .unset]) C at_378 rfl rfl rfl ?_
    refine own_lload (pc' := 382) C at_380 rfl rfl ?_
    refine own_bipush (pc' := 384) (v := (52 : Int32)) C at_382 own_kb_52 rfl ?_
    refine own_lshr (pc' := 385) (v := (v45_356 >>> (52 : Int64))) C at_384 (own_slshr_52 _) rfl ?_
    obtain ⟨v47_385, hv47_385⟩ : ∃ z : Int64, z = (v45_356 >>> (52 : Int64)) := ⟨_, rfl⟩
    refine own_lstore (pc' := 387) (y := v47_385) (Ls' := #[.val (.long p0), .second, .val (.long p1), .second, .val (.long p2), .second, .val (.long p3), .second, .val (.long p4), .second, .val (.int p5), .val (.long (4503599627370495 : Int64)), .second, .val (.long p0), .second, .val (.long v15_11), .second, .val (.long v17_17), .second, .val (.long v19_23), .second, .val (.long v21_29), .second, .val (.ref b1), .val (.int (0 : Int32)), .val (.ref b7), .val (.int (1 : Int32)), .val (.long v27_203), .second, .val (.long v29_209), .second, .val (.long v31_215), .second, .val (.long v33_221), .second, .val (.long v35_227), .second, .val (.long v37_278), .second, .val (.long v39_307), .second, .val (.long v41_317), .second, .val (.long v43_346), .second, .val (.long v45_356), .second, .val (.long v47_385), .second, .unset, .unset, .unset, .unset]) C at_385 hv47_385.symm rfl rfl ?_
    refine own_lload (pc' := 389) C at_387 rfl rfl ?_
    refine own_lload (pc' := 391) C at_389 rfl rfl ?_
    refine own_ladd (pc' := 392) C at_391 rfl rfl ?_
    refine own_lload (pc' := 394) C at_392 rfl rfl ?_
    refine own_lsub (pc' := 395) C at_394 rfl rfl ?_
    obtain ⟨v49_395, hv49_395⟩ : ∃ z : Int64, z = ((v19_23 + v47_385) - v33_221) := ⟨_, rfl⟩
    refine own_lstore (pc' := 397) (y := v49_395) (Ls' := #[.val (.long p0), .second, .val (.long p1), .second, .val (.long p2), .second, .val (.long p3), .second, .val (.long p4), .second, .val (.int p5), .val (.long (4503599627370495 : Int64)), .second, .val (.long p0), .second, .val (.long v15_11), .second, .val (.long v17_17), .second, .val (.long v19_23), .second, .val (.long v21_29), .second, .val (.ref b1), .val (.int (0 : Int32)), .val (.ref b7), .val (.int (1 : Int32)), .val (.long v27_203), .second, .val (.long v29_209), .second, .val (.long v31_215), .second, .val (.long v33_221), .second, .val (.long v35_227), .second, .val (.long v37_278), .second, .val (.long v39_307), .second, .val (.long v41_317), .second, .val (.long v43_346), .second, .val (.long v45_356), .second, .val (.long v47_385), .second, .val (.long v49_395), .second, .unset, .unset]) C at_395 hv49_395.symm rfl rfl ?_
    refine own_iload (pc' := 399) C at_397 rfl rfl ?_
    refine own_if_eq (pt := 416) (pf := 402) C at_399 (by decide) (by decide) rfl (fun q => absurd q (by decide)) (fun _ => ?_)
    refine own_lload (pc' := 404) C at_402 rfl rfl ?_
    refine own_lload (pc' := 406) C at_404 rfl rfl ?_
    refine own_land (pc' := 407) C at_406 rfl rfl ?_
    refine own_lconst (pc' := 408) (v := (0 : Int64)) C at_407 (by decide) rfl ?_
    have q3 : v33_221 = (v19_23 + v47_385) &&& (4503599627370495 : Int64) := by rw [hv33_221, hv47_385, (own_L hv45_356 q2).2, hv43_346, (own_L hv41_317 q1).2, hv39_307, (own_L hv37_278 hv27_203).2]; rfl
    refine own_lcmp_ne (pt := 416) (pf := 412) C at_408 rfl at_409 (by decide) (by decide) rfl (fun q => absurd (own_L hv49_395 q3).1 q) (fun _ => ?_)
    refine own_iconst (pc' := 413) (v := (1 : Int32)) C at_412 own_ki_1 rfl ?_
    refine own_goto (pc' := 417) C at_413 (by decide) (by decide) ?_
    refine own_istore (pc' := 419) (y := (1 : Int32)) (Ls' := #[.val (.long p0), .second, .val (.long p1), .second, .val (.long p2), .second, .val (.long p3), .second, .val (.long p4), .second, .val (.int p5), .val (.long (4503599627370495 : Int64)), .second, .val (.long p0), .second, .val (.long v15_11), .second, .val (.long v17_17), .second, .val (.long v19_23), .second, .val (.long v21_29), .second, .val (.ref b1), .val (.int (0 : Int32)), .val (.ref b7), .val (.int (1 : Int32)), .val (.long v27_203), .second, .val (.long v29_209), .second, .val (.long v31_215), .second, .val (.long v33_221), .second, .val (.long v35_227), .second, .val (.long v37_278), .second, .val (.long v39_307), .second, .val (.long v41_317), .second, .val (.long v43_346), .second, .val (.long v45_356), .second, .val (.long v47_385), .second, .val (.long v49_395), .second, .unset, .unset]) C at_417 rfl rfl rfl ?_
    refine own_lload (pc' := 421) C at_419 rfl rfl ?_
    refine own_bipush (pc' := 423) (v := (52 : Int32)) C at_421 own_kb_52 rfl ?_
    refine own_lshr (pc' := 424) (v := (v49_395 >>> (52 : Int64))) C at_423 (own_slshr_52 _) rfl ?_
    obtain ⟨v51_424, hv51_424⟩ : ∃ z : Int64, z = (v49_395 >>> (52 : Int64)) := ⟨_, rfl⟩
    refine own_lstore (pc' := 426) (y := v51_424) (Ls' := #[.val (.long p0), .second, .val (.long p1), .second, .val (.long p2), .second, .val (.long p3), .second, .val (.long p4), .second, .val (.int p5), .val (.long (4503599627370495 : Int64)), .second, .val (.long p0), .second, .val (.long v15_11), .second, .val (.long v17_17), .second, .val (.long v19_23), .second, .val (.long v21_29), .second, .val (.ref b1), .val (.int (0 : Int32)), .val (.ref b7), .val (.int (1 : Int32)), .val (.long v27_203), .second, .val (.long v29_209), .second, .val (.long v31_215), .second, .val (.long v33_221), .second, .val (.long v35_227), .second, .val (.long v37_278), .second, .val (.long v39_307), .second, .val (.long v41_317), .second, .val (.long v43_346), .second, .val (.long v45_356), .second, .val (.long v47_385), .second, .val (.long v49_395), .second, .val (.long v51_424), .second]) C at_424 hv51_424.symm rfl rfl ?_
    refine own_iload (pc' := 428) C at_426 rfl rfl ?_
    refine own_if_eq (pt := 446) (pf := 431) C at_428 (by decide) (by decide) rfl (fun q => absurd q (by decide)) (fun _ => ?_)
    refine own_lload (pc' := 433) C at_431 rfl rfl ?_
    refine own_lload (pc' := 435) C at_433 rfl rfl ?_
    refine own_lload (pc' := 437) C at_435 rfl rfl ?_
    refine own_ladd (pc' := 438) C at_437 rfl rfl ?_
    refine own_lcmp_ne (pt := 446) (pf := 442) C at_438 rfl at_439 (by decide) (by decide) rfl (fun q => absurd (by rw [hv35_227, hv51_424, (own_L hv49_395 q3).2, hv47_385, (own_L hv45_356 q2).2, hv43_346, (own_L hv41_317 q1).2, hv39_307, (own_L hv37_278 hv27_203).2]; rfl) q) (fun _ => ?_)
    refine own_iconst (pc' := 443) (v := (1 : Int32)) C at_442 own_ki_1 rfl ?_
    refine own_goto (pc' := 447) C at_443 (by decide) (by decide) ?_
    refine own_istore (pc' := 449) (y := (1 : Int32)) (Ls' := #[.val (.long p0), .second, .val (.long p1), .second, .val (.long p2), .second, .val (.long p3), .second, .val (.long p4), .second, .val (.int p5), .val (.long (4503599627370495 : Int64)), .second, .val (.long p0), .second, .val (.long v15_11), .second, .val (.long v17_17), .second, .val (.long v19_23), .second, .val (.long v21_29), .second, .val (.ref b1), .val (.int (0 : Int32)), .val (.ref b7), .val (.int (1 : Int32)), .val (.long v27_203), .second, .val (.long v29_209), .second, .val (.long v31_215), .second, .val (.long v33_221), .second, .val (.long v35_227), .second, .val (.long v37_278), .second, .val (.long v39_307), .second, .val (.long v41_317), .second, .val (.long v43_346), .second, .val (.long v45_356), .second, .val (.long v47_385), .second, .val (.long v49_395), .second, .val (.long v51_424), .second]) C at_447 rfl rfl rfl ?_
    refine own_iload (pc' := 451) C at_449 rfl rfl ?_
    refine own_zret C at_451 (by decide) (by decide) (Or.inr rfl) ?_
    exact rfl
  · intro hc65
    refine own_iconst (pc' := 69) (v := (1 : Int32)) C at_68 own_ki_1 rfl ?_
    refine own_goto (pc' := 73) C at_69 (by decide) (by decide) ?_
    refine own_istore (pc' := 75) (y := (1 : Int32)) (Ls' := #[.val (.long p0), .second, .val (.long p1), .second, .val (.long p2), .second, .val (.long p3), .second, .val (.long p4), .second, .val (.int p5), .val (.long (4503599627370495 : Int64)), .second, .val (.long p0), .second, .val (.long v15_11), .second, .val (.long v17_17), .second, .val (.long v19_23), .second, .val (.long v21_29), .second, .val (.ref b1), .val (.int (1 : Int32)), .unset, .unset, .unset, .unset, .unset, .unset, .unset, .unset, .unset, .unset, .unset, .unset, .unset, .unset, .unset, .unset, .unset, .unset, .unset, .unset, .unset, .unset, .unset, .unset, .unset, .unset, .unset, .unset]) C at_73 rfl rfl rfl ?_
    refine own_iload (pc' := 77) C at_75 rfl rfl ?_
    refine own_if_eq (pt := 87) (pf := 80) C at_77 (by decide) (by decide) rfl (fun q => absurd q (by decide)) (fun _ => ?_)
    refine own_aload (pc' := 82) C at_80 rfl rfl rfl ?_
    refine own_astore (pc' := 84) (Ls' := #[.val (.long p0), .second, .val (.long p1), .second, .val (.long p2), .second, .val (.long p3), .second, .val (.long p4), .second, .val (.int p5), .val (.long (4503599627370495 : Int64)), .second, .val (.long p0), .second, .val (.long v15_11), .second, .val (.long v17_17), .second, .val (.long v19_23), .second, .val (.long v21_29), .second, .val (.ref b1), .val (.int (1 : Int32)), .val (.ref b1), .unset, .unset, .unset, .unset, .unset, .unset, .unset, .unset, .unset, .unset, .unset, .unset, .unset, .unset, .unset, .unset, .unset, .unset, .unset, .unset, .unset, .unset, .unset, .unset, .unset, .unset, .unset]) C at_82 rfl rfl rfl ?_
    refine own_goto (pc' := 122) C at_84 (by decide) (by decide) ?_
    refine own_aload (pc' := 124) C at_122 rfl rfl rfl ?_
    refine own_aload (pc' := 126) C at_124 rfl rfl rfl ?_
    refine own_callS (pc' := 129) (wL := 0) (argsL := [(.ref b1), (.ref b1)]) (rest := []) C (own_carryB l Z a0 hw b1 p0 v15_11 v17_17 v19_23 v21_29 h6 n0 Z_ A_b1 g_b1) at_126 (hw _ (List.mem_of_getElem? (i := 3) rfl)) (hw _ (List.mem_of_getElem? (i := 4) rfl)) (hw _ (List.mem_of_getElem? (i := 5) rfl)) (hw _ (List.mem_of_getElem? (i := 6) rfl)) (by decide) (by decide) (by decide) rfl (lenOf pd1 rfl) rfl rfl (Nat.le_of_eq rfl) (by decide) (by decide) rfl ?_
    rintro _ h7 ⟨rfl, K7, A7_⟩
    replace Z_ := Nat.le_trans Z_ K7.1
    replace A_b1 := A7_
    show Wp p l e _ s m _ below meth c n0 _ h7 (0 + 1) (0 + 5) (mkF m 129 #[.val (.long p0), .second, .val (.long p1), .second, .val (.long p2), .second, .val (.long p3), .second, .val (.long p4), .second, .val (.int p5), .val (.long (4503599627370495 : Int64)), .second, .val (.long p0), .second, .val (.long v15_11), .second, .val (.long v17_17), .second, .val (.long v19_23), .second, .val (.long v21_29), .second, .val (.ref b1), .val (.int (1 : Int32)), .val (.ref b1), .unset, .unset, .unset, .unset, .unset, .unset, .unset, .unset, .unset, .unset, .unset, .unset, .unset, .unset, .unset, .unset, .unset, .unset, .unset, .unset, .unset, .unset, .unset, .unset, .unset, .unset, .unset] [])
    refine own_iconst (pc' := 130) (v := (1 : Int32)) C at_129 own_ki_1 rfl ?_
    refine own_istore (pc' := 132) (y := (1 : Int32)) (Ls' := #[.val (.long p0), .second, .val (.long p1), .second, .val (.long p2), .second, .val (.long p3), .second, .val (.long p4), .second, .val (.int p5), .val (.long (4503599627370495 : Int64)), .second, .val (.long p0), .second, .val (.long v15_11), .second, .val (.long v17_17), .second, .val (.long v19_23), .second, .val (.long v21_29), .second, .val (.ref b1), .val (.int (1 : Int32)), .val (.ref b1), .val (.int (1 : Int32)), .unset, .unset, .unset, .unset, .unset, .unset, .unset, .unset, .unset, .unset, .unset, .unset, .unset, .unset, .unset, .unset, .unset, .unset, .unset, .unset, .unset, .unset, .unset, .unset, .unset, .unset]) C at_130 rfl rfl rfl ?_
    refine own_iload (pc' := 134) C at_132 rfl rfl ?_
    refine own_if_ne (pt := 199) (pf := 137) C at_134 (by decide) (by decide) rfl (fun _ => ?_) (fun q => absurd q (by decide))
    refine own_aload (pc' := 201) C at_199 rfl rfl rfl ?_
    refine own_iconst (pc' := 202) (v := (0 : Int32)) C at_201 own_ki_0 rfl ?_
    refine own_laload (pc' := 203) (v := (p0 &&& (4503599627370495 : Int64))) (i := 0) C at_202 A_b1 (by decide) rfl rfl rfl ?_
    obtain ⟨v27_203, hv27_203⟩ : ∃ z : Int64, z = (p0 &&& (4503599627370495 : Int64)) := ⟨_, rfl⟩
    refine own_lstore (pc' := 205) (y := v27_203) (Ls' := #[.val (.long p0), .second, .val (.long p1), .second, .val (.long p2), .second, .val (.long p3), .second, .val (.long p4), .second, .val (.int p5), .val (.long (4503599627370495 : Int64)), .second, .val (.long p0), .second, .val (.long v15_11), .second, .val (.long v17_17), .second, .val (.long v19_23), .second, .val (.long v21_29), .second, .val (.ref b1), .val (.int (1 : Int32)), .val (.ref b1), .val (.int (1 : Int32)), .val (.long v27_203), .second, .unset, .unset, .unset, .unset, .unset, .unset, .unset, .unset, .unset, .unset, .unset, .unset, .unset, .unset, .unset, .unset, .unset, .unset, .unset, .unset, .unset, .unset, .unset, .unset]) C at_203 hv27_203.symm rfl rfl ?_
    refine own_aload (pc' := 207) C at_205 rfl rfl rfl ?_
    refine own_iconst (pc' := 208) (v := (1 : Int32)) C at_207 own_ki_1 rfl ?_
    refine own_laload (pc' := 209) (v := (own_c1 p0 v15_11 &&& (4503599627370495 : Int64))) (i := 1) C at_208 A_b1 (by decide) rfl rfl rfl ?_
    obtain ⟨v29_209, hv29_209⟩ : ∃ z : Int64, z = (own_c1 p0 v15_11 &&& (4503599627370495 : Int64)) := ⟨_, rfl⟩
    refine own_lstore (pc' := 211) (y := v29_209) (Ls' := #[.val (.long p0), .second, .val (.long p1), .second, .val (.long p2), .second, .val (.long p3), .second, .val (.long p4), .second, .val (.int p5), .val (.long (4503599627370495 : Int64)), .second, .val (.long p0), .second, .val (.long v15_11), .second, .val (.long v17_17), .second, .val (.long v19_23), .second, .val (.long v21_29), .second, .val (.ref b1), .val (.int (1 : Int32)), .val (.ref b1), .val (.int (1 : Int32)), .val (.long v27_203), .second, .val (.long v29_209), .second, .unset, .unset, .unset, .unset, .unset, .unset, .unset, .unset, .unset, .unset, .unset, .unset, .unset, .unset, .unset, .unset, .unset, .unset, .unset, .unset, .unset, .unset]) C at_209 hv29_209.symm rfl rfl ?_
    refine own_aload (pc' := 213) C at_211 rfl rfl rfl ?_
    refine own_iconst (pc' := 214) (v := (2 : Int32)) C at_213 own_ki_2 rfl ?_
    refine own_laload (pc' := 215) (v := (own_c2 p0 v15_11 v17_17 &&& (4503599627370495 : Int64))) (i := 2) C at_214 A_b1 (by decide) rfl rfl rfl ?_
    obtain ⟨v31_215, hv31_215⟩ : ∃ z : Int64, z = (own_c2 p0 v15_11 v17_17 &&& (4503599627370495 : Int64)) := ⟨_, rfl⟩
    refine own_lstore (pc' := 217) (y := v31_215) (Ls' := #[.val (.long p0), .second, .val (.long p1), .second, .val (.long p2), .second, .val (.long p3), .second, .val (.long p4), .second, .val (.int p5), .val (.long (4503599627370495 : Int64)), .second, .val (.long p0), .second, .val (.long v15_11), .second, .val (.long v17_17), .second, .val (.long v19_23), .second, .val (.long v21_29), .second, .val (.ref b1), .val (.int (1 : Int32)), .val (.ref b1), .val (.int (1 : Int32)), .val (.long v27_203), .second, .val (.long v29_209), .second, .val (.long v31_215), .second, .unset, .unset, .unset, .unset, .unset, .unset, .unset, .unset, .unset, .unset, .unset, .unset, .unset, .unset, .unset, .unset, .unset, .unset, .unset, .unset]) C at_215 hv31_215.symm rfl rfl ?_
    refine own_aload (pc' := 219) C at_217 rfl rfl rfl ?_
    refine own_iconst (pc' := 220) (v := (3 : Int32)) C at_219 own_ki_3 rfl ?_
    refine own_laload (pc' := 221) (v := (own_c3 p0 v15_11 v17_17 v19_23 &&& (4503599627370495 : Int64))) (i := 3) C at_220 A_b1 (by decide) rfl rfl rfl ?_
    obtain ⟨v33_221, hv33_221⟩ : ∃ z : Int64, z = (own_c3 p0 v15_11 v17_17 v19_23 &&& (4503599627370495 : Int64)) := ⟨_, rfl⟩
    refine own_lstore (pc' := 223) (y := v33_221) (Ls' := #[.val (.long p0), .second, .val (.long p1), .second, .val (.long p2), .second, .val (.long p3), .second, .val (.long p4), .second, .val (.int p5), .val (.long (4503599627370495 : Int64)), .second, .val (.long p0), .second, .val (.long v15_11), .second, .val (.long v17_17), .second, .val (.long v19_23), .second, .val (.long v21_29), .second, .val (.ref b1), .val (.int (1 : Int32)), .val (.ref b1), .val (.int (1 : Int32)), .val (.long v27_203), .second, .val (.long v29_209), .second, .val (.long v31_215), .second, .val (.long v33_221), .second, .unset, .unset, .unset, .unset, .unset, .unset, .unset, .unset, .unset, .unset, .unset, .unset, .unset, .unset, .unset, .unset, .unset, .unset]) C at_221 hv33_221.symm rfl rfl ?_
    refine own_aload (pc' := 225) C at_223 rfl rfl rfl ?_
    refine own_iconst (pc' := 226) (v := (4 : Int32)) C at_225 own_ki_4 rfl ?_
    refine own_laload (pc' := 227) (v := (own_c4 p0 v15_11 v17_17 v19_23 v21_29)) (i := 4) C at_226 A_b1 (by decide) rfl rfl rfl ?_
    obtain ⟨v35_227, hv35_227⟩ : ∃ z : Int64, z = (own_c4 p0 v15_11 v17_17 v19_23 v21_29) := ⟨_, rfl⟩
    refine own_lstore (pc' := 229) (y := v35_227) (Ls' := #[.val (.long p0), .second, .val (.long p1), .second, .val (.long p2), .second, .val (.long p3), .second, .val (.long p4), .second, .val (.int p5), .val (.long (4503599627370495 : Int64)), .second, .val (.long p0), .second, .val (.long v15_11), .second, .val (.long v17_17), .second, .val (.long v19_23), .second, .val (.long v21_29), .second, .val (.ref b1), .val (.int (1 : Int32)), .val (.ref b1), .val (.int (1 : Int32)), .val (.long v27_203), .second, .val (.long v29_209), .second, .val (.long v31_215), .second, .val (.long v33_221), .second, .val (.long v35_227), .second, .unset, .unset, .unset, .unset, .unset, .unset, .unset, .unset, .unset, .unset, .unset, .unset, .unset, .unset, .unset, .unset]) C at_227 hv35_227.symm rfl rfl ?_
    refine own_iload (pc' := 231) C at_229 rfl rfl ?_
    refine own_if_eq (pt := 270) (pf := 234) C at_231 (by decide) (by decide) rfl (fun q => absurd q (by decide)) (fun _ => ?_)
    refine own_lload (pc' := 236) C at_234 rfl rfl ?_
    refine own_callS (pc' := 239) (wL := 0) (argsL := [(.long v27_203)]) (rest := []) C (own_m2 l Z a0 hw v27_203 h7 n0 Z_) at_236 (hw _ (List.mem_of_getElem? (i := 8) rfl)) (hw _ (List.mem_of_getElem? (i := 9) rfl)) (hw _ (List.mem_of_getElem? (i := 10) rfl)) (hw _ (List.mem_of_getElem? (i := 11) rfl)) (by decide) (by decide) (by decide) rfl (lenOf pd2 rfl) rfl rfl (Nat.le_of_eq rfl) (by decide) (by decide) rfl ?_
    rintro _ _ ⟨rfl, rfl⟩
    show Wp p l e _ s m _ below meth c n0 _ h7 (0 + 1) (0 + 5) (mkF m 239 #[.val (.long p0), .second, .val (.long p1), .second, .val (.long p2), .second, .val (.long p3), .second, .val (.long p4), .second, .val (.int p5), .val (.long (4503599627370495 : Int64)), .second, .val (.long p0), .second, .val (.long v15_11), .second, .val (.long v17_17), .second, .val (.long v19_23), .second, .val (.long v21_29), .second, .val (.ref b1), .val (.int (1 : Int32)), .val (.ref b1), .val (.int (1 : Int32)), .val (.long v27_203), .second, .val (.long v29_209), .second, .val (.long v31_215), .second, .val (.long v33_221), .second, .val (.long v35_227), .second, .unset, .unset, .unset, .unset, .unset, .unset, .unset, .unset, .unset, .unset, .unset, .unset, .unset, .unset, .unset, .unset] [(.int (own_f2 v27_203))])
    refine own_if_eq (pt := 270) (pf := 242) C at_239 (by decide) (by decide) rfl (fun q => absurd q (own_limb hv27_203)) (fun _ => ?_)
    refine own_lload (pc' := 244) C at_242 rfl rfl ?_
    refine own_callS (pc' := 247) (wL := 0) (argsL := [(.long v29_209)]) (rest := []) C (own_m2 l Z a0 hw v29_209 h7 n0 Z_) at_244 (hw _ (List.mem_of_getElem? (i := 8) rfl)) (hw _ (List.mem_of_getElem? (i := 9) rfl)) (hw _ (List.mem_of_getElem? (i := 10) rfl)) (hw _ (List.mem_of_getElem? (i := 11) rfl)) (by decide) (by decide) (by decide) rfl (lenOf pd2 rfl) rfl rfl (Nat.le_of_eq rfl) (by decide) (by decide) rfl ?_
    rintro _ _ ⟨rfl, rfl⟩
    show Wp p l e _ s m _ below meth c n0 _ h7 (0 + 1) (0 + 5) (mkF m 247 #[.val (.long p0), .second, .val (.long p1), .second, .val (.long p2), .second, .val (.long p3), .second, .val (.long p4), .second, .val (.int p5), .val (.long (4503599627370495 : Int64)), .second, .val (.long p0), .second, .val (.long v15_11), .second, .val (.long v17_17), .second, .val (.long v19_23), .second, .val (.long v21_29), .second, .val (.ref b1), .val (.int (1 : Int32)), .val (.ref b1), .val (.int (1 : Int32)), .val (.long v27_203), .second, .val (.long v29_209), .second, .val (.long v31_215), .second, .val (.long v33_221), .second, .val (.long v35_227), .second, .unset, .unset, .unset, .unset, .unset, .unset, .unset, .unset, .unset, .unset, .unset, .unset, .unset, .unset, .unset, .unset] [(.int (own_f2 v29_209))])
    refine own_if_eq (pt := 270) (pf := 250) C at_247 (by decide) (by decide) rfl (fun q => absurd q (own_limb hv29_209)) (fun _ => ?_)
    refine own_lload (pc' := 252) C at_250 rfl rfl ?_
    refine own_callS (pc' := 255) (wL := 0) (argsL := [(.long v31_215)]) (rest := []) C (own_m2 l Z a0 hw v31_215 h7 n0 Z_) at_252 (hw _ (List.mem_of_getElem? (i := 8) rfl)) (hw _ (List.mem_of_getElem? (i := 9) rfl)) (hw _ (List.mem_of_getElem? (i := 10) rfl)) (hw _ (List.mem_of_getElem? (i := 11) rfl)) (by decide) (by decide) (by decide) rfl (lenOf pd2 rfl) rfl rfl (Nat.le_of_eq rfl) (by decide) (by decide) rfl ?_
    rintro _ _ ⟨rfl, rfl⟩
    show Wp p l e _ s m _ below meth c n0 _ h7 (0 + 1) (0 + 5) (mkF m 255 #[.val (.long p0), .second, .val (.long p1), .second, .val (.long p2), .second, .val (.long p3), .second, .val (.long p4), .second, .val (.int p5), .val (.long (4503599627370495 : Int64)), .second, .val (.long p0), .second, .val (.long v15_11), .second, .val (.long v17_17), .second, .val (.long v19_23), .second, .val (.long v21_29), .second, .val (.ref b1), .val (.int (1 : Int32)), .val (.ref b1), .val (.int (1 : Int32)), .val (.long v27_203), .second, .val (.long v29_209), .second, .val (.long v31_215), .second, .val (.long v33_221), .second, .val (.long v35_227), .second, .unset, .unset, .unset, .unset, .unset, .unset, .unset, .unset, .unset, .unset, .unset, .unset, .unset, .unset, .unset, .unset] [(.int (own_f2 v31_215))])
    refine own_if_eq (pt := 270) (pf := 258) C at_255 (by decide) (by decide) rfl (fun q => absurd q (own_limb hv31_215)) (fun _ => ?_)
    refine own_lload (pc' := 260) C at_258 rfl rfl ?_
    refine own_callS (pc' := 263) (wL := 0) (argsL := [(.long v33_221)]) (rest := []) C (own_m2 l Z a0 hw v33_221 h7 n0 Z_) at_260 (hw _ (List.mem_of_getElem? (i := 8) rfl)) (hw _ (List.mem_of_getElem? (i := 9) rfl)) (hw _ (List.mem_of_getElem? (i := 10) rfl)) (hw _ (List.mem_of_getElem? (i := 11) rfl)) (by decide) (by decide) (by decide) rfl (lenOf pd2 rfl) rfl rfl (Nat.le_of_eq rfl) (by decide) (by decide) rfl ?_
    rintro _ _ ⟨rfl, rfl⟩
    show Wp p l e _ s m _ below meth c n0 _ h7 (0 + 1) (0 + 5) (mkF m 263 #[.val (.long p0), .second, .val (.long p1), .second, .val (.long p2), .second, .val (.long p3), .second, .val (.long p4), .second, .val (.int p5), .val (.long (4503599627370495 : Int64)), .second, .val (.long p0), .second, .val (.long v15_11), .second, .val (.long v17_17), .second, .val (.long v19_23), .second, .val (.long v21_29), .second, .val (.ref b1), .val (.int (1 : Int32)), .val (.ref b1), .val (.int (1 : Int32)), .val (.long v27_203), .second, .val (.long v29_209), .second, .val (.long v31_215), .second, .val (.long v33_221), .second, .val (.long v35_227), .second, .unset, .unset, .unset, .unset, .unset, .unset, .unset, .unset, .unset, .unset, .unset, .unset, .unset, .unset, .unset, .unset] [(.int (own_f2 v33_221))])
    refine own_if_eq (pt := 270) (pf := 266) C at_263 (by decide) (by decide) rfl (fun q => absurd q (own_limb hv33_221)) (fun _ => ?_)
    refine own_iconst (pc' := 267) (v := (1 : Int32)) C at_266 own_ki_1 rfl ?_
    refine own_goto (pc' := 271) C at_267 (by decide) (by decide) ?_
    refine own_istore (pc' := 273) (y := (1 : Int32)) (Ls' := #[.val (.long p0), .second, .val (.long p1), .second, .val (.long p2), .second, .val (.long p3), .second, .val (.long p4), .second, .val (.int p5), .val (.long (4503599627370495 : Int64)), .second, .val (.long p0), .second, .val (.long v15_11), .second, .val (.long v17_17), .second, .val (.long v19_23), .second, .val (.long v21_29), .second, .val (.ref b1), .val (.int (1 : Int32)), .val (.ref b1), .val (.int (1 : Int32)), .val (.long v27_203), .second, .val (.long v29_209), .second, .val (.long v31_215), .second, .val (.long v33_221), .second, .val (.long v35_227), .second, .unset, .unset, .unset, .unset, .unset, .unset, .unset, .unset, .unset, .unset, .unset, .unset, .unset, .unset, .unset, .unset]) C at_271 rfl rfl rfl ?_
    refine own_lload (pc' := 275) C at_273 rfl rfl ?_
    refine own_lload (pc' := 277) C at_275 rfl rfl ?_
    refine own_lsub (pc' := 278) C at_277 rfl rfl ?_
    obtain ⟨v37_278, hv37_278⟩ : ∃ z : Int64, z = (p0 - v27_203) := ⟨_, rfl⟩
    refine own_lstore (pc' := 280) (y := v37_278) (Ls' := #[.val (.long p0), .second, .val (.long p1), .second, .val (.long p2), .second, .val (.long p3), .second, .val (.long p4), .second, .val (.int p5), .val (.long (4503599627370495 : Int64)), .second, .val (.long p0), .second, .val (.long v15_11), .second, .val (.long v17_17), .second, .val (.long v19_23), .second, .val (.long v21_29), .second, .val (.ref b1), .val (.int (1 : Int32)), .val (.ref b1), .val (.int (1 : Int32)), .val (.long v27_203), .second, .val (.long v29_209), .second, .val (.long v31_215), .second, .val (.long v33_221), .second, .val (.long v35_227), .second, .val (.long v37_278), .second, .unset, .unset, .unset, .unset, .unset, .unset, .unset, .unset, .unset, .unset, .unset, .unset, .unset, .unset]) C at_278 hv37_278.symm rfl rfl ?_
    refine own_iload (pc' := 282) C at_280 rfl rfl ?_
    refine own_if_eq (pt := 299) (pf := 285) C at_282 (by decide) (by decide) rfl (fun q => absurd q (by decide)) (fun _ => ?_)
    refine own_lload (pc' := 287) C at_285 rfl rfl ?_
    refine own_lload (pc' := 289) C at_287 rfl rfl ?_
    refine own_land (pc' := 290) C at_289 rfl rfl ?_
    refine own_lconst (pc' := 291) (v := (0 : Int64)) C at_290 (by decide) rfl ?_
    refine own_lcmp_ne (pt := 299) (pf := 295) C at_291 rfl at_292 (by decide) (by decide) rfl (fun q => absurd (own_L hv37_278 hv27_203).1 q) (fun _ => ?_)
    refine own_iconst (pc' := 296) (v := (1 : Int32)) C at_295 own_ki_1 rfl ?_
    refine own_goto (pc' := 300) C at_296 (by decide) (by decide) ?_
    refine own_istore (pc' := 302) (y := (1 : Int32)) (Ls' := #[.val (.long p0), .second, .val (.long p1), .second, .val (.long p2), .second, .val (.long p3), .second, .val (.long p4), .second, .val (.int p5), .val (.long (4503599627370495 : Int64)), .second, .val (.long p0), .second, .val (.long v15_11), .second, .val (.long v17_17), .second, .val (.long v19_23), .second, .val (.long v21_29), .second, .val (.ref b1), .val (.int (1 : Int32)), .val (.ref b1), .val (.int (1 : Int32)), .val (.long v27_203), .second, .val (.long v29_209), .second, .val (.long v31_215), .second, .val (.long v33_221), .second, .val (.long v35_227), .second, .val (.long v37_278), .second, .unset, .unset, .unset, .unset, .unset, .unset, .unset, .unset, .unset, .unset, .unset, .unset, .unset, .unset]) C at_300 rfl rfl rfl ?_
    refine own_lload (pc' := 304) C at_302 rfl rfl ?_
    refine own_bipush (pc' := 306) (v := (52 : Int32)) C at_304 own_kb_52 rfl ?_
    refine own_lshr (pc' := 307) (v := (v37_278 >>> (52 : Int64))) C at_306 (own_slshr_52 _) rfl ?_
    obtain ⟨v39_307, hv39_307⟩ : ∃ z : Int64, z = (v37_278 >>> (52 : Int64)) := ⟨_, rfl⟩
    refine own_lstore (pc' := 309) (y := v39_307) (Ls' := #[.val (.long p0), .second, .val (.long p1), .second, .val (.long p2), .second, .val (.long p3), .second, .val (.long p4), .second, .val (.int p5), .val (.long (4503599627370495 : Int64)), .second, .val (.long p0), .second, .val (.long v15_11), .second, .val (.long v17_17), .second, .val (.long v19_23), .second, .val (.long v21_29), .second, .val (.ref b1), .val (.int (1 : Int32)), .val (.ref b1), .val (.int (1 : Int32)), .val (.long v27_203), .second, .val (.long v29_209), .second, .val (.long v31_215), .second, .val (.long v33_221), .second, .val (.long v35_227), .second, .val (.long v37_278), .second, .val (.long v39_307), .second, .unset, .unset, .unset, .unset, .unset, .unset, .unset, .unset, .unset, .unset, .unset, .unset]) C at_307 hv39_307.symm rfl rfl ?_
    refine own_lload (pc' := 311) C at_309 rfl rfl ?_
    refine own_lload (pc' := 313) C at_311 rfl rfl ?_
    refine own_ladd (pc' := 314) C at_313 rfl rfl ?_
    refine own_lload (pc' := 316) C at_314 rfl rfl ?_
    refine own_lsub (pc' := 317) C at_316 rfl rfl ?_
    obtain ⟨v41_317, hv41_317⟩ : ∃ z : Int64, z = ((v15_11 + v39_307) - v29_209) := ⟨_, rfl⟩
    refine own_lstore (pc' := 319) (y := v41_317) (Ls' := #[.val (.long p0), .second, .val (.long p1), .second, .val (.long p2), .second, .val (.long p3), .second, .val (.long p4), .second, .val (.int p5), .val (.long (4503599627370495 : Int64)), .second, .val (.long p0), .second, .val (.long v15_11), .second, .val (.long v17_17), .second, .val (.long v19_23), .second, .val (.long v21_29), .second, .val (.ref b1), .val (.int (1 : Int32)), .val (.ref b1), .val (.int (1 : Int32)), .val (.long v27_203), .second, .val (.long v29_209), .second, .val (.long v31_215), .second, .val (.long v33_221), .second, .val (.long v35_227), .second, .val (.long v37_278), .second, .val (.long v39_307), .second, .val (.long v41_317), .second, .unset, .unset, .unset, .unset, .unset, .unset, .unset, .unset, .unset, .unset]) C at_317 hv41_317.symm rfl rfl ?_
    refine own_iload (pc' := 321) C at_319 rfl rfl ?_
    refine own_if_eq (pt := 338) (pf := 324) C at_321 (by decide) (by decide) rfl (fun q => absurd q (by decide)) (fun _ => ?_)
    refine own_lload (pc' := 326) C at_324 rfl rfl ?_
    refine own_lload (pc' := 328) C at_326 rfl rfl ?_
    refine own_land (pc' := 329) C at_328 rfl rfl ?_
    refine own_lconst (pc' := 330) (v := (0 : Int64)) C at_329 (by decide) rfl ?_
    have q1 : v29_209 = (v15_11 + v39_307) &&& (4503599627370495 : Int64) := by rw [hv29_209, hv39_307, (own_L hv37_278 hv27_203).2]; rfl
    refine own_lcmp_ne (pt := 338) (pf := 334) C at_330 rfl at_331 (by decide) (by decide) rfl (fun q => absurd (own_L hv41_317 q1).1 q) (fun _ => ?_)
    refine own_iconst (pc' := 335) (v := (1 : Int32)) C at_334 own_ki_1 rfl ?_
    refine own_goto (pc' := 339) C at_335 (by decide) (by decide) ?_
    refine own_istore (pc' := 341) (y := (1 : Int32)) (Ls' := #[.val (.long p0), .second, .val (.long p1), .second, .val (.long p2), .second, .val (.long p3), .second, .val (.long p4), .second, .val (.int p5), .val (.long (4503599627370495 : Int64)), .second, .val (.long p0), .second, .val (.long v15_11), .second, .val (.long v17_17), .second, .val (.long v19_23), .second, .val (.long v21_29), .second, .val (.ref b1), .val (.int (1 : Int32)), .val (.ref b1), .val (.int (1 : Int32)), .val (.long v27_203), .second, .val (.long v29_209), .second, .val (.long v31_215), .second, .val (.long v33_221), .second, .val (.long v35_227), .second, .val (.long v37_278), .second, .val (.long v39_307), .second, .val (.long v41_317), .second, .unset, .unset, .unset, .unset, .unset, .unset, .unset, .unset, .unset, .unset]) C at_339 rfl rfl rfl ?_
    refine own_lload (pc' := 343) C at_341 rfl rfl ?_
    refine own_bipush (pc' := 345) (v := (52 : Int32)) C at_343 own_kb_52 rfl ?_
    refine own_lshr (pc' := 346) (v := (v41_317 >>> (52 : Int64))) C at_345 (own_slshr_52 _) rfl ?_
    obtain ⟨v43_346, hv43_346⟩ : ∃ z : Int64, z = (v41_317 >>> (52 : Int64)) := ⟨_, rfl⟩
    refine own_lstore (pc' := 348) (y := v43_346) (Ls' := #[.val (.long p0), .second, .val (.long p1), .second, .val (.long p2), .second, .val (.long p3), .second, .val (.long p4), .second, .val (.int p5), .val (.long (4503599627370495 : Int64)), .second, .val (.long p0), .second, .val (.long v15_11), .second, .val (.long v17_17), .second, .val (.long v19_23), .second, .val (.long v21_29), .second, .val (.ref b1), .val (.int (1 : Int32)), .val (.ref b1), .val (.int (1 : Int32)), .val (.long v27_203), .second, .val (.long v29_209), .second, .val (.long v31_215), .second, .val (.long v33_221), .second, .val (.long v35_227), .second, .val (.long v37_278), .second, .val (.long v39_307), .second, .val (.long v41_317), .second, .val (.long v43_346), .second, .unset, .unset, .unset, .unset, .unset, .unset, .unset, .unset]) C at_346 hv43_346.symm rfl rfl ?_
    refine own_lload (pc' := 350) C at_348 rfl rfl ?_
    refine own_lload (pc' := 352) C at_350 rfl rfl ?_
    refine own_ladd (pc' := 353) C at_352 rfl rfl ?_
    refine own_lload (pc' := 355) C at_353 rfl rfl ?_
    refine own_lsub (pc' := 356) C at_355 rfl rfl ?_
    obtain ⟨v45_356, hv45_356⟩ : ∃ z : Int64, z = ((v17_17 + v43_346) - v31_215) := ⟨_, rfl⟩
    refine own_lstore (pc' := 358) (y := v45_356) (Ls' := #[.val (.long p0), .second, .val (.long p1), .second, .val (.long p2), .second, .val (.long p3), .second, .val (.long p4), .second, .val (.int p5), .val (.long (4503599627370495 : Int64)), .second, .val (.long p0), .second, .val (.long v15_11), .second, .val (.long v17_17), .second, .val (.long v19_23), .second, .val (.long v21_29), .second, .val (.ref b1), .val (.int (1 : Int32)), .val (.ref b1), .val (.int (1 : Int32)), .val (.long v27_203), .second, .val (.long v29_209), .second, .val (.long v31_215), .second, .val (.long v33_221), .second, .val (.long v35_227), .second, .val (.long v37_278), .second, .val (.long v39_307), .second, .val (.long v41_317), .second, .val (.long v43_346), .second, .val (.long v45_356), .second, .unset, .unset, .unset, .unset, .unset, .unset]) C at_356 hv45_356.symm rfl rfl ?_
    refine own_iload (pc' := 360) C at_358 rfl rfl ?_
    refine own_if_eq (pt := 377) (pf := 363) C at_360 (by decide) (by decide) rfl (fun q => absurd q (by decide)) (fun _ => ?_)
    refine own_lload (pc' := 365) C at_363 rfl rfl ?_
    refine own_lload (pc' := 367) C at_365 rfl rfl ?_
    refine own_land (pc' := 368) C at_367 rfl rfl ?_
    refine own_lconst (pc' := 369) (v := (0 : Int64)) C at_368 (by decide) rfl ?_
    have q2 : v31_215 = (v17_17 + v43_346) &&& (4503599627370495 : Int64) := by rw [hv31_215, hv43_346, (own_L hv41_317 q1).2, hv39_307, (own_L hv37_278 hv27_203).2]; rfl
    refine own_lcmp_ne (pt := 377) (pf := 373) C at_369 rfl at_370 (by decide) (by decide) rfl (fun q => absurd (own_L hv45_356 q2).1 q) (fun _ => ?_)
    refine own_iconst (pc' := 374) (v := (1 : Int32)) C at_373 own_ki_1 rfl ?_
    refine own_goto (pc' := 378) C at_374 (by decide) (by decide) ?_
    refine own_istore (pc' := 380) (y := (1 : Int32)) (Ls' := #[.val (.long p0), .second, .val (.long p1), .second, .val (.long p2), .second, .val (.long p3), .second, .val (.long p4), .second, .val (.int p5), .val (.long (4503599627370495 : Int64)), .second, .val (.long p0), .second, .val (.long v15_11), .second, .val (.long v17_17), .second, .val (.long v19_23), .second, .val (.long v21_29), .second, .val (.ref b1), .val (.int (1 : Int32)), .val (.ref b1), .val (.int (1 : Int32)), .val (.long v27_203), .second, .val (.long v29_209), .second, .val (.long v31_215), .second, .val (.long v33_221), .second, .val (.long v35_227), .second, .val (.long v37_278), .second, .val (.long v39_307), .second, .val (.long v41_317), .second, .val (.long v43_346), .second, .val (.long v45_356), .second, .unset, .unset, .unset, .unset, .unset, .unset]) C at_378 rfl rfl rfl ?_
    refine own_lload (pc' := 382) C at_380 rfl rfl ?_
    refine own_bipush (pc' := 384) (v := (52 : Int32)) C at_382 own_kb_52 rfl ?_
    refine own_lshr (pc' := 385) (v := (v45_356 >>> (52 : Int64))) C at_384 (own_slshr_52 _) rfl ?_
    obtain ⟨v47_385, hv47_385⟩ : ∃ z : Int64, z = (v45_356 >>> (52 : Int64)) := ⟨_, rfl⟩
    refine own_lstore (pc' := 387) (y := v47_385) (Ls' := #[.val (.long p0), .second, .val (.long p1), .second, .val (.long p2), .second, .val (.long p3), .second, .val (.long p4), .second, .val (.int p5), .val (.long (4503599627370495 : Int64)), .second, .val (.long p0), .second, .val (.long v15_11), .second, .val (.long v17_17), .second, .val (.long v19_23), .second, .val (.long v21_29), .second, .val (.ref b1), .val (.int (1 : Int32)), .val (.ref b1), .val (.int (1 : Int32)), .val (.long v27_203), .second, .val (.long v29_209), .second, .val (.long v31_215), .second, .val (.long v33_221), .second, .val (.long v35_227), .second, .val (.long v37_278), .second, .val (.long v39_307), .second, .val (.long v41_317), .second, .val (.long v43_346), .second, .val (.long v45_356), .second, .val (.long v47_385), .second, .unset, .unset, .unset, .unset]) C at_385 hv47_385.symm rfl rfl ?_
    refine own_lload (pc' := 389) C at_387 rfl rfl ?_
    refine own_lload (pc' := 391) C at_389 rfl rfl ?_
    refine own_ladd (pc' := 392) C at_391 rfl rfl ?_
    refine own_lload (pc' := 394) C at_392 rfl rfl ?_
    refine own_lsub (pc' := 395) C at_394 rfl rfl ?_
    obtain ⟨v49_395, hv49_395⟩ : ∃ z : Int64, z = ((v19_23 + v47_385) - v33_221) := ⟨_, rfl⟩
    refine own_lstore (pc' := 397) (y := v49_395) (Ls' := #[.val (.long p0), .second, .val (.long p1), .second, .val (.long p2), .second, .val (.long p3), .second, .val (.long p4), .second, .val (.int p5), .val (.long (4503599627370495 : Int64)), .second, .val (.long p0), .second, .val (.long v15_11), .second, .val (.long v17_17), .second, .val (.long v19_23), .second, .val (.long v21_29), .second, .val (.ref b1), .val (.int (1 : Int32)), .val (.ref b1), .val (.int (1 : Int32)), .val (.long v27_203), .second, .val (.long v29_209), .second, .val (.long v31_215), .second, .val (.long v33_221), .second, .val (.long v35_227), .second, .val (.long v37_278), .second, .val (.long v39_307), .second, .val (.long v41_317), .second, .val (.long v43_346), .second, .val (.long v45_356), .second, .val (.long v47_385), .second, .val (.long v49_395), .second, .unset, .unset]) C at_395 hv49_395.symm rfl rfl ?_
    refine own_iload (pc' := 399) C at_397 rfl rfl ?_
    refine own_if_eq (pt := 416) (pf := 402) C at_399 (by decide) (by decide) rfl (fun q => absurd q (by decide)) (fun _ => ?_)
    refine own_lload (pc' := 404) C at_402 rfl rfl ?_
    refine own_lload (pc' := 406) C at_404 rfl rfl ?_
    refine own_land (pc' := 407) C at_406 rfl rfl ?_
    refine own_lconst (pc' := 408) (v := (0 : Int64)) C at_407 (by decide) rfl ?_
    have q3 : v33_221 = (v19_23 + v47_385) &&& (4503599627370495 : Int64) := by rw [hv33_221, hv47_385, (own_L hv45_356 q2).2, hv43_346, (own_L hv41_317 q1).2, hv39_307, (own_L hv37_278 hv27_203).2]; rfl
    refine own_lcmp_ne (pt := 416) (pf := 412) C at_408 rfl at_409 (by decide) (by decide) rfl (fun q => absurd (own_L hv49_395 q3).1 q) (fun _ => ?_)
    refine own_iconst (pc' := 413) (v := (1 : Int32)) C at_412 own_ki_1 rfl ?_
    refine own_goto (pc' := 417) C at_413 (by decide) (by decide) ?_
    refine own_istore (pc' := 419) (y := (1 : Int32)) (Ls' := #[.val (.long p0), .second, .val (.long p1), .second, .val (.long p2), .second, .val (.long p3), .second, .val (.long p4), .second, .val (.int p5), .val (.long (4503599627370495 : Int64)), .second, .val (.long p0), .second, .val (.long v15_11), .second, .val (.long v17_17), .second, .val (.long v19_23), .second, .val (.long v21_29), .second, .val (.ref b1), .val (.int (1 : Int32)), .val (.ref b1), .val (.int (1 : Int32)), .val (.long v27_203), .second, .val (.long v29_209), .second, .val (.long v31_215), .second, .val (.long v33_221), .second, .val (.long v35_227), .second, .val (.long v37_278), .second, .val (.long v39_307), .second, .val (.long v41_317), .second, .val (.long v43_346), .second, .val (.long v45_356), .second, .val (.long v47_385), .second, .val (.long v49_395), .second, .unset, .unset]) C at_417 rfl rfl rfl ?_
    refine own_lload (pc' := 421) C at_419 rfl rfl ?_
    refine own_bipush (pc' := 423) (v := (52 : Int32)) C at_421 own_kb_52 rfl ?_
    refine own_lshr (pc' := 424) (v := (v49_395 >>> (52 : Int64))) C at_423 (own_slshr_52 _) rfl ?_
    obtain ⟨v51_424, hv51_424⟩ : ∃ z : Int64, z = (v49_395 >>> (52 : Int64)) := ⟨_, rfl⟩
    refine own_lstore (pc' := 426) (y := v51_424) (Ls' := #[.val (.long p0), .second, .val (.long p1), .second, .val (.long p2), .second, .val (.long p3), .second, .val (.long p4), .second, .val (.int p5), .val (.long (4503599627370495 : Int64)), .second, .val (.long p0), .second, .val (.long v15_11), .second, .val (.long v17_17), .second, .val (.long v19_23), .second, .val (.long v21_29), .second, .val (.ref b1), .val (.int (1 : Int32)), .val (.ref b1), .val (.int (1 : Int32)), .val (.long v27_203), .second, .val (.long v29_209), .second, .val (.long v31_215), .second, .val (.long v33_221), .second, .val (.long v35_227), .second, .val (.long v37_278), .second, .val (.long v39_307), .second, .val (.long v41_317), .second, .val (.long v43_346), .second, .val (.long v45_356), .second, .val (.long v47_385), .second, .val (.long v49_395), .second, .val (.long v51_424), .second]) C at_424 hv51_424.symm rfl rfl ?_
    refine own_iload (pc' := 428) C at_426 rfl rfl ?_
    refine own_if_eq (pt := 446) (pf := 431) C at_428 (by decide) (by decide) rfl (fun q => absurd q (by decide)) (fun _ => ?_)
    refine own_lload (pc' := 433) C at_431 rfl rfl ?_
    refine own_lload (pc' := 435) C at_433 rfl rfl ?_
    refine own_lload (pc' := 437) C at_435 rfl rfl ?_
    refine own_ladd (pc' := 438) C at_437 rfl rfl ?_
    refine own_lcmp_ne (pt := 446) (pf := 442) C at_438 rfl at_439 (by decide) (by decide) rfl (fun q => absurd (by rw [hv35_227, hv51_424, (own_L hv49_395 q3).2, hv47_385, (own_L hv45_356 q2).2, hv43_346, (own_L hv41_317 q1).2, hv39_307, (own_L hv37_278 hv27_203).2]; rfl) q) (fun _ => ?_)
    refine own_iconst (pc' := 443) (v := (1 : Int32)) C at_442 own_ki_1 rfl ?_
    refine own_goto (pc' := 447) C at_443 (by decide) (by decide) ?_
    refine own_istore (pc' := 449) (y := (1 : Int32)) (Ls' := #[.val (.long p0), .second, .val (.long p1), .second, .val (.long p2), .second, .val (.long p3), .second, .val (.long p4), .second, .val (.int p5), .val (.long (4503599627370495 : Int64)), .second, .val (.long p0), .second, .val (.long v15_11), .second, .val (.long v17_17), .second, .val (.long v19_23), .second, .val (.long v21_29), .second, .val (.ref b1), .val (.int (1 : Int32)), .val (.ref b1), .val (.int (1 : Int32)), .val (.long v27_203), .second, .val (.long v29_209), .second, .val (.long v31_215), .second, .val (.long v33_221), .second, .val (.long v35_227), .second, .val (.long v37_278), .second, .val (.long v39_307), .second, .val (.long v41_317), .second, .val (.long v43_346), .second, .val (.long v45_356), .second, .val (.long v47_385), .second, .val (.long v49_395), .second, .val (.long v51_424), .second]) C at_447 rfl rfl rfl ?_
    refine own_iload (pc' := 451) C at_449 rfl rfl ?_
    refine own_zret C at_451 (by decide) (by decide) (Or.inr rfl) ?_
    exact rfl
set_option maxRecDepth 65536 in
set_option maxHeartbeats 40000000 in
theorem comes_1 {Post : Tables → Env → Array Value → State → Outcome → State → Prop} (hpost : ∀ tb e args s v u, (limb_1_1.after args s (.returned v) u = true ∧ limb_1_2.after args s (.returned v) u = true ∧ True) → FrameEnd s (.returned v) u (Jvm.fieldLocs frame_1_writes args s ++ Jvm.arrayLocs frame_1_arrays args s ++ Jvm.staticLocs frame_1_statics s) 16 128 → Post tb e args s (.returned v) u) :
    ArmFor flags0 classFile x code maxLocals ret World_1 tables_1 room_1 Calls_1 rest_1 Pre_1 Post := by
  intro l hfl _ _ p e ha hc hk s m args below hf hA hF happ hP
  obtain ⟨hcalls, hrest, hpre⟩ := hP
  obtain ⟨-, -, -, hnamed, -, -, -, hat⟩ := (Spec.applies_iff hf).mp happ
  obtain ⟨hg, hn⟩ := and_e (Cond.before_iff.mp (show (Jvm.Cond.and given_1 narrow_1).before args s = true from hpre))
  obtain ⟨hcount, q0⟩ := and_e hg
  obtain ⟨r0, q1⟩ := and_e q0
  obtain ⟨r1, q2⟩ := and_e q1
  obtain ⟨r2, q3⟩ := and_e q2
  obtain ⟨r3, q4⟩ := and_e q3
  obtain ⟨r4, q5⟩ := and_e q4
  obtain ⟨w0, w1, w2, w3, w4, w5, rfl⟩ : ∃ w0 w1 w2 w3 w4 w5 : Value, args = #[w0, w1, w2, w3, w4, w5] := by
    have hs : args.size = 6 := by simpa [Cond.value, given_1] using hcount
    obtain ⟨L⟩ := args
    match L, hs with
    | [w0, w1, w2, w3, w4, w5], _ => exact ⟨w0, w1, w2, w3, w4, w5, rfl⟩
  have hw := fun d (hd : d ∈ tables_1) => atoms_spec (ws := Jvm.Cond.code x code maxLocals ret :: tables_1) hat d (List.mem_cons_of_mem _ hd)
  obtain ⟨i0, e0⟩ := isL_v r0
  obtain rfl : w0 = (.long i0) := Option.some.inj e0
  obtain ⟨i1, e1⟩ := isL_v r1
  obtain rfl : w1 = (.long i1) := Option.some.inj e1
  obtain ⟨i2, e2⟩ := isL_v r2
  obtain rfl : w2 = (.long i2) := Option.some.inj e2
  obtain ⟨i3, e3⟩ := isL_v r3
  obtain rfl : w3 = (.long i3) := Option.some.inj e3
  obtain ⟨i4, e4⟩ := isL_v r4
  obtain rfl : w4 = (.long i4) := Option.some.inj e4
  obtain ⟨i5, e5⟩ := is_v q5
  obtain rfl : w5 = (.int i5) := Option.some.inj e5
  obtain ⟨n, o, h1, h2, h3, _, L, rfl, ⟨rfl, N⟩, hq⟩ := own_law l s _ hw tables_1 i0 i1 i2 i3 i4 i5  s.heap s.heap.size (Nat.le_refl _)  p e ha hc hk s m _ below hf ((Spec.applies_iff_loose hf).mp happ).1 ⟨rfl, State.Warmed39.refl s, rfl⟩ trivial
  refine ⟨n, _, h1, h2, h3, hpost _ _ _ _ _ _ ⟨Cond.after_iff.mpr rfl, Cond.after_iff.mpr (eq_i res_at (Term.int_eval (1)) rfl), trivial⟩ ⟨hq.1, hq.2.1, (hq.2.2.sift fun y hy => Or.inr (N y hy)).mono (by decide) (by decide)⟩⟩
theorem main_1_1 : Claimed_1_1 := comes_1 fun _ _ _ _ _ _ h hF => ⟨h.1, hF⟩
theorem main_1_2 : Claimed_1_2 := comes_1 fun _ _ _ _ _ _ h hF => ⟨h.2.1, hF⟩
end Jvm.Pilot.@@N@@
namespace Jvm.Pilot.@@N@@
open Jvm Jvm.ClassFile Sem Op Lib Jvm.Free Jvm.Stand Jvm.Pilot.@@N@@.Jvm.D
/-! MADE BY PROGRAM (witnessworld.py) out of the Statement's table words and the real class files: 11 classes; the members and pool entries that the words name. The judged class is class 1, her method 2. -/
namespace start1
open Jvm.ClassFile
def u (s : String) : CpInfo := .utf8 (stringToUtf16 s)
/-- a pool by its gaps: so many unusable entries, then the entry; so many at the end -/
def gap : Nat → List CpInfo → List CpInfo
  | 0, r => r
  | n + 1, r => .unusable :: gap n r
def poolList (es : List (Nat × CpInfo)) (last : Nat) : List CpInfo := es.foldr (fun e r => gap e.1 (e.2 :: r)) (gap last [])
def pool (es : List (Nat × CpInfo)) (last : Nat) : Array CpInfo := ⟨poolList es last⟩
def fileOf (pool : Array CpInfo) (this : Nat) (attrs : Array Attribute := #[]) (ms : Array MethodInfo := #[]) (fl : Nat := 33) (sup : Nat := 0) (ifs : Array Nat := #[]) (fds : Array FieldInfo := #[]) : ClassFile where
  minorVersion := 0
  majorVersion := 65
  constantPool := pool
  accessFlags := fl
  thisClass := this
  superClass := sup
  interfaces := ifs
  fields := fds
  methods := ms
  attributes := attrs
def plain (name : String) (sup : Option ClassId) : Class where
  name := name
  kind := .ordinary
  loader := none
  accessFlags := 33
  super := sup
  interfaces := #[]
  cf := none
  fields := #[]
  methods := #[]
  instanceTypes := #[]
  staticTypes := #[]
  resolved := #[]
  callSites := []
  init := .initialized
  statics := none
  mirror := none

def pool0 : Array CpInfo := pool [(5, u "<init>"), (0, u "()V"), (1, .class_ 10), (1, u "java/lang/Object")] 113

def k0m0 : Method := { name := "<init>", desc := "()V", sig := { parameters := [], returnType := none }, accessFlags := 1, code := none }
/-- java/lang/Object -/
def k0 : Class := { plain "java/lang/Object" none with
  accessFlags := 33
  interfaces := #[]
  cf := some (fileOf pool0 8 #[] #[{ accessFlags := 1, nameIndex := 5, descriptorIndex := 6, attributes := #[] }] 33 0 #[] #[])
  fields := #[]
  methods := #[k0m0]
  instanceTypes := #[]
  staticTypes := #[]
  resolved := Array.replicate 124 none
  statics := none }

def pool1 : Array CpInfo := pool [(2, .class_ 4), (1, u "java/lang/Object"), (0, u "<init>"), (0, u "()V"), (0, .long 4503599627370495), (1, .long 18446744073709551615), (1, .methodref 12 13), (0, .class_ 14), (0, .nameAndType 15 16), (0, u "com/example/libsworn/libsworn/P256Field"), (0, u "carry"), (0, u "([J[J)V"), (0, .methodref 18 19), (0, .class_ 20), (0, .nameAndType 21 22), (0, u "com/example/libsworn/libsworn/P256FieldCarryPinLaw"), (0, u "inLimb"), (0, u "(J)Z"), (3, u "law"), (0, u "(JJJJJI)Z")] 4

def k1m0 : Method := { name := "<init>", desc := "()V", sig := { parameters := [], returnType := none }, accessFlags := 2, code := none }
def k1c1 : Code := { maxStack := 4, maxLocals := 2, code := method_2_code, exceptionTable := #[], attributes := #[] }
def k1m1 : Method := { name := "inLimb", desc := "(J)Z", sig := { parameters := [.long], returnType := some .boolean }, accessFlags := 10, code := some k1c1 }
def k1c2 : Code := { maxStack := 6, maxLocals := 53, code := code, exceptionTable := #[], attributes := #[] }
def k1m2 : Method := { name := "law", desc := "(JJJJJI)Z", sig := { parameters := [.long, .long, .long, .long, .long, .int], returnType := some .boolean }, accessFlags := 9, code := some k1c2 }
/-- com/example/libsworn/libsworn/P256FieldCarryPinLaw -/
def k1 : Class := { plain "com/example/libsworn/libsworn/P256FieldCarryPinLaw" (some 0) with
  accessFlags := 49
  interfaces := #[]
  cf := some (fileOf pool1 18 #[] #[{ accessFlags := 2, nameIndex := 5, descriptorIndex := 6, attributes := #[] }, { accessFlags := 10, nameIndex := 21, descriptorIndex := 22, attributes := #[] }, { accessFlags := 9, nameIndex := 26, descriptorIndex := 27, attributes := #[] }] 49 2 #[] #[])
  fields := #[]
  methods := #[k1m0, k1m1, k1m2]
  instanceTypes := #[]
  staticTypes := #[]
  resolved := Array.replicate 32 none
  statics := none }

def pool2 : Array CpInfo := pool [(1, .class_ 2), (0, u "com/example/libsworn/libsworn/P256Field"), (1, .class_ 6), (1, u "java/lang/Object"), (0, u "<init>"), (0, u "()V"), (6, u "R_SQUARED"), (0, u "[J"), (4, .long 4503599627370495), (3, u "PRIME_LIMBS"), (30, u "carry"), (0, u "([J[J)V"), (2, u "ONE"), (0, u "Ljava/math/BigInteger;"), (12, u "PRIME"), (5, u "LIMBS"), (0, u "I"), (2, u "RADIX_BITS"), (1, u "LIMB_MASK"), (0, u "J"), (0, u "MONTGOMERY_BITS"), (1, u "TOP_TERMS")] 20

def k2m0 : Method := { name := "<init>", desc := "()V", sig := { parameters := [], returnType := none }, accessFlags := 2, code := none }
def k2c1 : Code := { maxStack := 7, maxLocals := 10, code := prog_6_method_14_code, exceptionTable := #[], attributes := #[] }
def k2m1 : Method := { name := "carry", desc := "([J[J)V", sig := { parameters := [(.array .long), (.array .long)], returnType := none }, accessFlags := 8, code := some k2c1 }
/-- com/example/libsworn/libsworn/P256Field -/
def k2 : Class := { plain "com/example/libsworn/libsworn/P256Field" (some 0) with
  accessFlags := 32
  interfaces := #[]
  cf := some (fileOf pool2 1 #[] #[{ accessFlags := 2, nameIndex := 7, descriptorIndex := 8, attributes := #[] }, { accessFlags := 8, nameIndex := 56, descriptorIndex := 57, attributes := #[] }] 32 4 #[] #[{ accessFlags := 24, nameIndex := 74, descriptorIndex := 61, attributes := #[] }, { accessFlags := 24, nameIndex := 80, descriptorIndex := 81, attributes := #[] }, { accessFlags := 26, nameIndex := 84, descriptorIndex := 81, attributes := #[] }, { accessFlags := 26, nameIndex := 86, descriptorIndex := 87, attributes := #[] }, { accessFlags := 26, nameIndex := 88, descriptorIndex := 81, attributes := #[] }, { accessFlags := 26, nameIndex := 25, descriptorIndex := 16, attributes := #[] }, { accessFlags := 26, nameIndex := 15, descriptorIndex := 16, attributes := #[] }, { accessFlags := 26, nameIndex := 90, descriptorIndex := 87, attributes := #[] }, { accessFlags := 24, nameIndex := 60, descriptorIndex := 16, attributes := #[] }])
  fields := #[{ name := "PRIME", type := (.object "java/math/BigInteger"), accessFlags := 24, slot := 0, constantValue := 0 }, { name := "LIMBS", type := .int, accessFlags := 24, slot := 1, constantValue := 0 }, { name := "RADIX_BITS", type := .int, accessFlags := 26, slot := 2, constantValue := 0 }, { name := "LIMB_MASK", type := .long, accessFlags := 26, slot := 3, constantValue := 0 }, { name := "MONTGOMERY_BITS", type := .int, accessFlags := 26, slot := 4, constantValue := 0 }, { name := "PRIME_LIMBS", type := (.array .long), accessFlags := 26, slot := 5, constantValue := 0 }, { name := "R_SQUARED", type := (.array .long), accessFlags := 26, slot := 6, constantValue := 0 }, { name := "TOP_TERMS", type := .long, accessFlags := 26, slot := 7, constantValue := 0 }, { name := "ONE", type := (.array .long), accessFlags := 24, slot := 8, constantValue := 0 }]
  methods := #[k2m0, k2m1]
  instanceTypes := #[]
  staticTypes := #[(.object "java/math/BigInteger"), .int, .int, .long, .int, (.array .long), (.array .long), .long, (.array .long)]
  resolved := Array.replicate 111 none
  statics := none }

def pool3 : Array CpInfo := pool [(1, u "java/lang/Cloneable"), (0, .class_ 1), (0, u "java/lang/Object"), (0, .class_ 3)] 3

/-- java/lang/Cloneable -/
def k3 : Class := { plain "java/lang/Cloneable" (some 0) with
  accessFlags := 1537
  interfaces := #[]
  cf := some (fileOf pool3 2 #[] #[] 1537 4 #[] #[])
  fields := #[]
  methods := #[]
  instanceTypes := #[]
  staticTypes := #[]
  resolved := Array.replicate 8 none
  statics := none }

def pool4 : Array CpInfo := pool [(1, u "java/io/Serializable"), (0, .class_ 1), (0, u "java/lang/Object"), (0, .class_ 3)] 3

/-- java/io/Serializable -/
def k4 : Class := { plain "java/io/Serializable" (some 0) with
  accessFlags := 1537
  interfaces := #[]
  cf := some (fileOf pool4 2 #[] #[] 1537 4 #[] #[])
  fields := #[]
  methods := #[]
  instanceTypes := #[]
  staticTypes := #[]
  resolved := Array.replicate 8 none
  statics := none }

/-- the primitive byte -/
def k5 : Class := { plain "byte" none with kind := .primitive 'B', accessFlags := 0x411 }
/-- [B -/
def k6 : Class := { plain "[B" (some 0) with kind := .array 5 .byte, interfaces := #[3, 4], accessFlags := 1041 }

/-- the primitive int -/
def k7 : Class := { plain "int" none with kind := .primitive 'I', accessFlags := 0x411 }
/-- [I -/
def k8 : Class := { plain "[I" (some 0) with kind := .array 7 .int, interfaces := #[3, 4], accessFlags := 1041 }

/-- the primitive long -/
def k9 : Class := { plain "long" none with kind := .primitive 'J', accessFlags := 0x411 }
/-- [J -/
def k10 : Class := { plain "[J" (some 0) with kind := .array 9 .long, interfaces := #[3, 4], accessFlags := 1041 }

def heap : Heap := #[]
def classes : Array Class := #[k0, k1, k2, k3, k4, k5, k6, k7, k8, k9, k10]
def interned : List (Array UInt16 × Addr) := []
def slotsUsed : Nat := 0
def theMethod : MethodId := ⟨1, 2⟩
def args0 : Array Value := #[.long 5, .long 5, .long 5, .long 5, .long 5, .int 9]
def aboutOver (below : List Frame) : State where
  vm := { classes := classes, interned := interned.toArray }
  heap := heap
  slotsUsed := slotsUsed
  threads := #[{ frames := .invoking theMethod args0 :: below }]
def below0 : List Frame := [.native { method := ⟨0, 0⟩, args := #[] }]
def about1 : State := aboutOver below0
def p0 : Program := .bare "" "" ""
def e0 : Env := launch0.env 0 0 0
theorem w_frames : about1.frames = Frame.invoking theMethod args0 :: below0 := rfl
set_option maxRecDepth 65536 in
theorem w_args : argsFit about1.vm theMethod args0 = true := by decide +kernel
set_option maxRecDepth 65536 in
theorem w_heap : heapFits about1 = true := by decide +kernel
set_option maxRecDepth 65536 in
theorem w_runnable : about1.curStatus? = some .runnable := by decide +kernel
set_option maxRecDepth 65536 in
theorem w_alone : about1.alone = true := by decide +kernel
set_option maxRecDepth 65536 in
theorem w_named : about1.methodNamed? x = some theMethod := by decide +kernel
set_option maxRecDepth 65536 in
theorem w_hears : about1.hears theMethod below0 = true := by decide +kernel
set_option maxRecDepth 65536 in
theorem w_ripe : about1.ripe theMethod args0 below0 = true := by decide +kernel
theorem w_running : about1.status = .running := rfl
set_option maxRecDepth 65536 in
theorem w_room : about1.hasRoom e0.platform room_1 = true :=
  launch0.hasRoom_least _ room_1 (by decide +kernel) (by decide +kernel) (by decide +kernel) (by decide +kernel) (by decide +kernel) (by decide +kernel)
theorem allAtoms_all (ts : List Jvm.Cond) (a : Array Jvm.Value) (st : Jvm.State) : (allAtoms ts).before a st = ts.all (fun c => c.before a st) := by
  induction ts with
  | nil => rfl
  | cons c t ih =>
    show (Jvm.Cond.and c (allAtoms t)).before a st = _
    rw [Jvm.Cond.before_and, ih, List.all_cons]
def words1 : List Jvm.Cond := Jvm.Cond.code x code maxLocals ret :: tables_1
/-- a 'code' word, met by the world's own term for the bytes: nothing is compared byte by byte -/
theorem code_word {y : MethodName} {bytes : ByteArray} {mx : Nat} {rt : Option FieldType} {a : Array Value} {s : State} {m : MethodId} {meth : Method} {c : Code} (h1 : s.methodNamed? y = some m) (h2 : s.vm.method? m = some meth) (h3 : meth.code = some c) (h4 : c.code = bytes)
    (h5 : (c.maxLocals == mx && c.exceptionTable.isEmpty && decide (c.maxStack ≤ mostOperands) && decide (meth.sig.returnType = rt) && !meth.locks && decide (parseMethodDescriptor y.desc = some meth.sig)) = true) : (Jvm.Cond.code y bytes mx rt).before a s = true := by
  simp only [Bool.and_eq_true, beq_iff_eq, Bool.not_eq_true', decide_eq_true_eq] at h5
  obtain ⟨⟨⟨⟨⟨g1, g2⟩, g3⟩, g4⟩, g5⟩, g6⟩ := h5
  simp [Cond.before, Cond.holds, Cond.value, h1, h2, h3, h4, g1, g2, g3, g4, g5, g6]
def isCode : Jvm.Cond → Bool
  | .code _ _ _ _ => true
  | _ => false
theorem all_split {L : List Jvm.Cond} {P : Jvm.Cond → Bool} (h1 : L.all (fun c => isCode c || P c) = true) (h2 : ∀ c ∈ L.filter isCode, P c = true) : L.all P = true := by
  refine List.all_eq_true.mpr fun c hc => ?_
  have h := List.all_eq_true.mp h1 c hc
  rcases Bool.eq_false_or_eq_true (isCode c) with hi | hi
  · exact h2 c (List.mem_filter.mpr ⟨hc, hi⟩)
  · simpa [hi] using h
set_option maxRecDepth 65536 in
theorem w_c0 : (Jvm.Cond.code x code maxLocals ret).before args0 about1 = true := code_word (m := ⟨1, 2⟩) (meth := k1m2) (c := k1c2) (by decide +kernel) rfl rfl rfl (by decide +kernel)
set_option maxRecDepth 65536 in
theorem w_c1 : (Jvm.Cond.code ({ cls := "com/example/libsworn/libsworn/P256Field", name := "carry", desc := "([J[J)V" } : Jvm.MethodName) prog_6_method_14_code (10 : Nat) (Option.none : Option Jvm.ClassFile.FieldType)).before args0 about1 = true := code_word (m := ⟨2, 1⟩) (meth := k2m1) (c := k2c1) (by decide +kernel) rfl rfl rfl (by decide +kernel)
set_option maxRecDepth 65536 in
theorem w_c2 : (Jvm.Cond.code ({ cls := "com/example/libsworn/libsworn/P256FieldCarryPinLaw", name := "inLimb", desc := "(J)Z" } : Jvm.MethodName) method_2_code (2 : Nat) (Option.some Jvm.ClassFile.FieldType.boolean)).before args0 about1 = true := code_word (m := ⟨1, 1⟩) (meth := k1m1) (c := k1c1) (by decide +kernel) rfl rfl rfl (by decide +kernel)
def codes1 : List Jvm.Cond := [Jvm.Cond.code x code maxLocals ret, Jvm.Cond.code ({ cls := "com/example/libsworn/libsworn/P256Field", name := "carry", desc := "([J[J)V" } : Jvm.MethodName) prog_6_method_14_code (10 : Nat) (Option.none : Option Jvm.ClassFile.FieldType), Jvm.Cond.code ({ cls := "com/example/libsworn/libsworn/P256FieldCarryPinLaw", name := "inLimb", desc := "(J)Z" } : Jvm.MethodName) method_2_code (2 : Nat) (Option.some Jvm.ClassFile.FieldType.boolean)]
set_option maxRecDepth 65536 in
theorem codes_eq : words1.filter isCode = codes1 := rfl
theorem w_codes : ∀ c ∈ words1.filter isCode, c.before args0 about1 = true := by
  rw [codes_eq]
  intro c hc
  simp only [codes1, List.mem_cons, List.not_mem_nil, or_false] at hc
  rcases hc with rfl | rfl | rfl
  · exact w_c0
  · exact w_c1
  · exact w_c2
set_option maxRecDepth 65536 in
theorem w_t1 : words1.all (fun c => isCode c || c.before args0 about1) = true := by decide +kernel
theorem w_tables : (allAtoms (Jvm.Cond.code x code maxLocals ret :: tables_1)).before args0 about1 = true := by
  rw [allAtoms_all]
  show words1.all (fun c => c.before args0 about1) = true
  refine all_split ?_ w_codes
  rw [w_t1]
set_option maxRecDepth 65536 in
theorem w_case : (Jvm.Cond.and given_1 narrow_1).before args0 about1 = true := by decide +kernel
theorem w_applies : (headSpec (Jvm.Cond.code x code maxLocals ret :: tables_1) room_1).applies x e0.platform about1 = true :=
  (Spec.applies_iff w_frames).mpr ⟨w_running, w_runnable, w_alone, w_named, w_hears, w_ripe, w_room, w_tables⟩
theorem atStart : AtStart classFile x code maxLocals ret World_1 tables_1 room_1 Calls_1 rest_1 Pre_1 launch0 p0 e0 about1 theMethod args0 below0 :=
  ⟨lists_1, trivial, launch0.admits_env _ _ _, launch0.least_env, fairChoices_fair.cas, fairChoices_fair.clock, w_frames, w_args, w_heap, w_applies, trivial, trivial, w_case⟩
end start1
theorem witness_1 : WitnessClaimed_1 := ⟨start1.p0, start1.e0, start1.about1, start1.theMethod, start1.args0, start1.below0, start1.atStart⟩
end Jvm.Pilot.@@N@@
