import JvmDerived
import JvmDerived.Pilot.@@N@@Statement
import JvmDerived.Pilot.@@N@@Code
set_option linter.unusedVariables false
set_option linter.unusedSimpArgs false
namespace Jvm.RoadKit
open Sem ClassFile Op Lib Jvm.Stand Jvm.Free Jvm.LawKit
section New
variable {p : Program} {l : Launch} {e : Env} {R : Room} {s : State} {m : MethodId} {args : Array Value} {below : List Frame} {meth : Method} {c : Code} {T : State} {locs : List Loc} {cells slots : Nat}
theorem retI (X : Stand p l e R s m args below meth c T locs cells slots) (hx : p.tables.exec = Jvm.exec) {pc : Nat} {Ls : Array Slot} {z : Int32} {rest : List Value} (hret : meth.sig.returnType = some .int) (hd : decode c.code pc = .ok (.ireturn, 1)) {fs : List Frame}
    (hl : ∀ (f : JFrame) (acts : List Action), f.method = m → f.locked = none → f.entered = [] → (doReturn e (T.setTop f) acts (some (.int z))).1 = T.setFrames fs) : Steps p.tables e below (T.setTop (mkF m pc Ls (.int z :: rest))) (T.setFrames fs) := by
  have hm' : T.vm.method? m = some meth := X.method'
  have hn : narrow .int (.int z) = .int z := rfl
  show Steps p.tables e below (T.setTop { method := m, pc := pc, locals := Ls, stack := _ :: rest, locked := none }) _
  jvm_step X.here [X.here.top, hx, hd, hm', hret, hn]
  first | (intro acts; rw [hl _ acts rfl rfl rfl]) | rw [hl _ _ rfl rfl rfl]
  exact Steps.refl _
end New
end Jvm.RoadKit
namespace Jvm.Pilot.@@N@@
open Jvm Jvm.ClassFile Sem Op Lib Jvm.Free Jvm.Stand Jvm.LawKit Jvm.RoadKit Bundle Jvm.Pilot.@@N@@.Jvm.D
section OwnKit
variable {p : Program} {l : Launch} {e : Env} {R : Room} {s : State} {m : MethodId} {args : Array Value} {below : List Frame} {meth : Method} {c : Code} {Z : State} {a0 : Array Value} {cd : ByteArray} {ml : Nat} {ret : Option FieldType} {own nm : String} {n0 : Nat} {Q : Option Value → Heap → Prop} {h : Heap} {k n : Nat}
/-- what stands fast while one body runs -/
def Cx (p : Program) (s : State) (m : MethodId) (meth : Method) (c : Code) (Z : State) (cd : ByteArray) (ml : Nat) (ret : Option FieldType) (own nm : String) : Prop :=
  p.tables.exec = Jvm.exec ∧ Z.Warmed39 s.vm ∧ c.code = cd ∧ c.maxLocals = ml ∧ s.vm.findClass own = some m.cls ∧ meth.sig.returnType = ret ∧ meth.locks = false ∧ meth.name = nm
/-- from this frame, over this heap, the body returns and Q holds -/
def Wp (p : Program) (l : Launch) (e : Env) (R : Room) (s : State) (m : MethodId) (args : Array Value) (below : List Frame) (meth : Method) (c : Code) (n0 : Nat) (Q : Option Value → Heap → Prop) (h : Heap) (k n : Nat) (g : JFrame) : Prop :=
  ∀ (T : State) (locs : List Loc), Stand p l e R s m args below meth c T locs k n → T.heap = h → Fr n0 locs →
    ∃ s₂ o, Steps p.tables e below (T.setTop g) s₂ ∧ s₂.status = .running ∧ Ended s₂ below o ∧ ∃ v L, o = .returned v ∧ (Q v s₂.heap ∧ Fr n0 L) ∧ FrameEnd s o s₂ L R.cells R.slots
/-- a callee's contract: called with these arguments over this heap it returns, and Q holds -/
def Met (l : Launch) (y : MethodName) (bytes : ByteArray) (mL : Nat) (rt : Option FieldType) (ws : List Jvm.Cond) (rm : Room) (Z : State) (n0 : Nat) (as : Array Value) (h : Heap) (Q : Option Value → Heap → Prop) : Prop :=
  MetFree l y (head1 (Jvm.Cond.code y bytes mL rt :: ws) rm) (fun a U => a = as ∧ Z.Warmed39 U.vm ∧ U.heap = h) (fun _ _ _ _ _ => True) (fun _ U o U' => ∃ v L, o = .returned v ∧ (Q v U'.heap ∧ Fr n0 L) ∧ FrameEnd U o U' L rm.cells rm.slots)
theorem own_met {y : MethodName} {bytes : ByteArray} {mL : Nat} {rt : Option FieldType} {ws : List Jvm.Cond} {rm : Room} {as : Array Value} {Ls : Array Slot} (hpn : plainName y.cls = true) (hef : ∀ m, entryFrame m as mL = mkF m 0 Ls [])
    (H : ∀ p e s m below meth c, Cx p s m meth c Z bytes mL rt y.cls y.name → Wp p l e rm s m as below meth c n0 Q h 0 0 (mkF m 0 Ls [])) : Met l y bytes mL rt ws rm Z n0 as h Q := by
  refine MetFree.of_bodySF (plainFor_of_name hpn) hisR ?_
  intro p e s m args below meth c s₁ Bd hml0 hP hK
  obtain ⟨rfl, hZ, hh⟩ := hP
  have hown : s.vm.findClass y.cls = some m.cls := findClass_of_methodNamed Bd.named
  have hnm := (name_of_methodNamed Bd.named Bd.method).1
  have X0 : Stand p l e rm s m args below meth c s₁ [] 0 0 := Stand.of_body Bd
  have e0 : s₁.heap = h := by rw [← hh, Bd.state]; rfl
  obtain ⟨s₂, o, st, r⟩ := H p e s m below meth c ⟨Bd.exec, hZ, Bd.bytes, hml0, hown, Bd.returns, Bd.notSynchronized, hnm⟩ s₁ [] X0 e0 (Fr.nil n0)
  exact ⟨s₂, o, castTop (hef m) st, r⟩
/-! single steps -/
theorem own_lift {g g' : JFrame} (H : ∀ T, At T m c below → ∀ t, Steps p.tables e below (T.setTop g') t → Steps p.tables e below (T.setTop g) t) (W : Wp p l e R s m args below meth c n0 Q h k n g') : Wp p l e R s m args below meth c n0 Q h k n g := fun T locs X eT N => by
  obtain ⟨s₂, o, st, r⟩ := W T locs X eT N
  exact ⟨s₂, o, H T X.here _ st, r⟩
theorem own_liftX {g g' : JFrame} (H : ∀ T locs, Stand p l e R s m args below meth c T locs k n → T.heap = h → ∀ t, Steps p.tables e below (T.setTop g') t → Steps p.tables e below (T.setTop g) t) (W : Wp p l e R s m args below meth c n0 Q h k n g') : Wp p l e R s m args below meth c n0 Q h k n g := fun T locs X eT N => by
  obtain ⟨s₂, o, st, r⟩ := W T locs X eT N
  exact ⟨s₂, o, H T locs X eT _ st, r⟩
theorem own_cast {g g' : JFrame} (q : g = g') (W : Wp p l e R s m args below meth c n0 Q h k n g') : Wp p l e R s m args below meth c n0 Q h k n g := q ▸ W
theorem own_seq {g g' : JFrame} (t : Wp p l e R s m args below meth c n0 Q h k n g' → Wp p l e R s m args below meth c n0 Q h k n g) (w : Wp p l e R s m args below meth c n0 Q h k n g') : Wp p l e R s m args below meth c n0 Q h k n g := t w
theorem own_seq1 {g : JFrame} {F : Slot → JFrame} (t : (∀ u, RoadKit.One u → Wp p l e R s m args below meth c n0 Q h k n (F u)) → Wp p l e R s m args below meth c n0 Q h k n g) (w : ∀ u, RoadKit.One u → Wp p l e R s m args below meth c n0 Q h k n (F u)) : Wp p l e R s m args below meth c n0 Q h k n g := t w
theorem own_seq2 {g : JFrame} {F : Slot → Slot → JFrame} (t : (∀ u, RoadKit.One u → ∀ v, RoadKit.One v → Wp p l e R s m args below meth c n0 Q h k n (F u v)) → Wp p l e R s m args below meth c n0 Q h k n g) (w : ∀ u, RoadKit.One u → ∀ v, RoadKit.One v → Wp p l e R s m args below meth c n0 Q h k n (F u v)) : Wp p l e R s m args below meth c n0 Q h k n g := t w
theorem own_seqH {g g' : JFrame} {P : Heap → Prop} {k' n' : Nat} (t : (∀ h', P h' → Wp p l e R s m args below meth c n0 Q h' k' n' g') → Wp p l e R s m args below meth c n0 Q h k n g) (w : ∀ h', P h' → Wp p l e R s m args below meth c n0 Q h' k' n' g') : Wp p l e R s m args below meth c n0 Q h k n g := t w
variable {pc pc' : Nat} {Ls Ls' : Array Slot} {st : List Value}
theorem own_iload (C : Cx p s m meth c Z cd ml ret own nm) {i : Nat} {v : Int32} (hd : decode cd pc = .ok (.iload i, 2)) (hl : Ls[i]? = some (.val (.int v))) (hp : pc + 2 = pc') (W : Wp p l e R s m args below meth c n0 Q h k n (mkF m pc' Ls (.int v :: st))) : Wp p l e R s m args below meth c n0 Q h k n (mkF m pc Ls st) := by
  subst hp; exact own_lift (fun T A t q => XS.iload A C.1 rfl (hb C.2.2.1 hd) hl q) W
theorem own_iloadN (C : Cx p s m meth c Z cd ml ret own nm) {i : Fin 4} {v : Int32} (hd : decode cd pc = .ok (.iload_n i, 1)) (hl : Ls[i.val]? = some (.val (.int v))) (hp : pc + 1 = pc') (W : Wp p l e R s m args below meth c n0 Q h k n (mkF m pc' Ls (.int v :: st))) : Wp p l e R s m args below meth c n0 Q h k n (mkF m pc Ls st) := by
  subst hp; exact own_lift (fun T A t q => XS.iloadN A C.1 rfl (hb C.2.2.1 hd) hl q) W
theorem own_lload (C : Cx p s m meth c Z cd ml ret own nm) {i : Nat} {v : Int64} (hd : decode cd pc = .ok (.lload i, 2)) (hl : Ls[i]? = some (.val (.long v))) (hp : pc + 2 = pc') (W : Wp p l e R s m args below meth c n0 Q h k n (mkF m pc' Ls (.long v :: st))) : Wp p l e R s m args below meth c n0 Q h k n (mkF m pc Ls st) := by
  subst hp; exact own_lift (fun T A t q => XS.lload A C.1 rfl (hb C.2.2.1 hd) hl q) W
theorem own_lloadN (C : Cx p s m meth c Z cd ml ret own nm) {i : Fin 4} {v : Int64} (hd : decode cd pc = .ok (.lload_n i, 1)) (hl : Ls[i.val]? = some (.val (.long v))) (hp : pc + 1 = pc') (W : Wp p l e R s m args below meth c n0 Q h k n (mkF m pc' Ls (.long v :: st))) : Wp p l e R s m args below meth c n0 Q h k n (mkF m pc Ls st) := by
  subst hp; exact own_lift (fun T A t q => XS.lloadN A C.1 rfl (hb C.2.2.1 hd) hl q) W
theorem own_aload (C : Cx p s m meth c Z cd ml ret own nm) {i : Nat} {v : Value} (hd : decode cd pc = .ok (.aload i, 2)) (hl : Ls[i]? = some (.val v)) (hv : v.isRef = true) (hp : pc + 2 = pc') (W : Wp p l e R s m args below meth c n0 Q h k n (mkF m pc' Ls (v :: st))) : Wp p l e R s m args below meth c n0 Q h k n (mkF m pc Ls st) := by
  subst hp; exact own_lift (fun T A t q => XS.aload A C.1 rfl (hb C.2.2.1 hd) hl hv q) W
theorem own_aloadN (C : Cx p s m meth c Z cd ml ret own nm) {i : Fin 4} {v : Value} (hd : decode cd pc = .ok (.aload_n i, 1)) (hl : Ls[i.val]? = some (.val v)) (hv : v.isRef = true) (hp : pc + 1 = pc') (W : Wp p l e R s m args below meth c n0 Q h k n (mkF m pc' Ls (v :: st))) : Wp p l e R s m args below meth c n0 Q h k n (mkF m pc Ls st) := by
  subst hp; exact own_lift (fun T A t q => XS.aloadN A C.1 rfl (hb C.2.2.1 hd) hl hv q) W
theorem own_istore (C : Cx p s m meth c Z cd ml ret own nm) {i : Nat} {x y : Int32} (hd : decode cd pc = .ok (.istore i, 2)) (hy : x = y) (hl : storeLocals Ls i (.int y) = some Ls') (hp : pc + 2 = pc') (W : Wp p l e R s m args below meth c n0 Q h k n (mkF m pc' Ls' st)) : Wp p l e R s m args below meth c n0 Q h k n (mkF m pc Ls (.int x :: st)) := by
  subst hp hy; exact own_lift (fun T A t q => XS.istore A C.1 rfl (hb C.2.2.1 hd) rfl hl q) W
theorem own_istoreN (C : Cx p s m meth c Z cd ml ret own nm) {i : Fin 4} {x y : Int32} (hd : decode cd pc = .ok (.istore_n i, 1)) (hy : x = y) (hl : storeLocals Ls i.val (.int y) = some Ls') (hp : pc + 1 = pc') (W : Wp p l e R s m args below meth c n0 Q h k n (mkF m pc' Ls' st)) : Wp p l e R s m args below meth c n0 Q h k n (mkF m pc Ls (.int x :: st)) := by
  subst hp hy; exact own_lift (fun T A t q => XS.istoreN A C.1 rfl (hb C.2.2.1 hd) rfl hl q) W
theorem own_lstore (C : Cx p s m meth c Z cd ml ret own nm) {i : Nat} {x y : Int64} (hd : decode cd pc = .ok (.lstore i, 2)) (hy : x = y) (hl : storeLocals Ls i (.long y) = some Ls') (hp : pc + 2 = pc') (W : Wp p l e R s m args below meth c n0 Q h k n (mkF m pc' Ls' st)) : Wp p l e R s m args below meth c n0 Q h k n (mkF m pc Ls (.long x :: st)) := by
  subst hp hy; exact own_lift (fun T A t q => XS.lstore A C.1 rfl (hb C.2.2.1 hd) rfl hl q) W
theorem own_lstoreN (C : Cx p s m meth c Z cd ml ret own nm) {i : Fin 4} {x y : Int64} (hd : decode cd pc = .ok (.lstore_n i, 1)) (hy : x = y) (hl : storeLocals Ls i.val (.long y) = some Ls') (hp : pc + 1 = pc') (W : Wp p l e R s m args below meth c n0 Q h k n (mkF m pc' Ls' st)) : Wp p l e R s m args below meth c n0 Q h k n (mkF m pc Ls (.long x :: st)) := by
  subst hp hy; exact own_lift (fun T A t q => XS.lstoreN A C.1 rfl (hb C.2.2.1 hd) rfl hl q) W
theorem own_astore (C : Cx p s m meth c Z cd ml ret own nm) {i : Nat} {x : Value} (hd : decode cd pc = .ok (.astore i, 2)) (hv : x.isRef = true) (hl : storeLocals Ls i x = some Ls') (hp : pc + 2 = pc') (W : Wp p l e R s m args below meth c n0 Q h k n (mkF m pc' Ls' st)) : Wp p l e R s m args below meth c n0 Q h k n (mkF m pc Ls (x :: st)) := by
  subst hp; exact own_lift (fun T A t q => XS.astore A C.1 rfl (hb C.2.2.1 hd) rfl hv hl q) W
theorem own_astoreN (C : Cx p s m meth c Z cd ml ret own nm) {i : Fin 4} {x : Value} (hd : decode cd pc = .ok (.astore_n i, 1)) (hv : x.isRef = true) (hl : storeLocals Ls i.val x = some Ls') (hp : pc + 1 = pc') (W : Wp p l e R s m args below meth c n0 Q h k n (mkF m pc' Ls' st)) : Wp p l e R s m args below meth c n0 Q h k n (mkF m pc Ls (x :: st)) := by
  subst hp; exact own_lift (fun T A t q => XS.astoreN A C.1 rfl (hb C.2.2.1 hd) rfl hv hl q) W
theorem own_iconst (C : Cx p s m meth c Z cd ml ret own nm) {i : Int} {v : Int32} (hd : decode cd pc = .ok (.iconst i, 1)) (hv : Int32.ofInt i = v) (hp : pc + 1 = pc') (W : Wp p l e R s m args below meth c n0 Q h k n (mkF m pc' Ls (.int v :: st))) : Wp p l e R s m args below meth c n0 Q h k n (mkF m pc Ls st) := by
  subst hp hv; exact own_lift (fun T A t q => XS.iconst A C.1 rfl (hb C.2.2.1 hd) q) W
theorem own_bipush (C : Cx p s m meth c Z cd ml ret own nm) {i : Int} {v : Int32} (hd : decode cd pc = .ok (.bipush i, 2)) (hv : (Int8.ofInt i).toInt32 = v) (hp : pc + 2 = pc') (W : Wp p l e R s m args below meth c n0 Q h k n (mkF m pc' Ls (.int v :: st))) : Wp p l e R s m args below meth c n0 Q h k n (mkF m pc Ls st) := by
  subst hp hv; exact own_lift (fun T A t q => XS.bipush A C.1 rfl (hb C.2.2.1 hd) q) W
theorem own_sipush (C : Cx p s m meth c Z cd ml ret own nm) {i : Int} {v : Int32} (hd : decode cd pc = .ok (.sipush i, 3)) (hv : (Int16.ofInt i).toInt32 = v) (hp : pc + 3 = pc') (W : Wp p l e R s m args below meth c n0 Q h k n (mkF m pc' Ls (.int v :: st))) : Wp p l e R s m args below meth c n0 Q h k n (mkF m pc Ls st) := by
  subst hp hv; exact own_lift (fun T A t q => XS.sipush A C.1 rfl (hb C.2.2.1 hd) q) W
theorem own_lconst (C : Cx p s m meth c Z cd ml ret own nm) {i : Fin 2} {v : Int64} (hd : decode cd pc = .ok (.lconst i, 1)) (hv : Int64.ofNat i.val = v) (hp : pc + 1 = pc') (W : Wp p l e R s m args below meth c n0 Q h k n (mkF m pc' Ls (.long v :: st))) : Wp p l e R s m args below meth c n0 Q h k n (mkF m pc Ls st) := by
  subst hp hv; exact own_lift (fun T A t q => XS.lconst A C.1 rfl (hb C.2.2.1 hd) q) W
theorem own_null (C : Cx p s m meth c Z cd ml ret own nm) (hd : decode cd pc = .ok (.aconst_null, 1)) (hp : pc + 1 = pc') (W : Wp p l e R s m args below meth c n0 Q h k n (mkF m pc' Ls (.null :: st))) : Wp p l e R s m args below meth c n0 Q h k n (mkF m pc Ls st) := by
  subst hp; exact own_lift (fun T A t q => XS.aconstNull A C.1 rfl (hb C.2.2.1 hd) q) W
/-! returns -/
theorem own_vret (C : Cx p s m meth c Z cd ml none own nm) (hd : decode cd pc = .ok (.return_, 1)) (hk : k ≤ R.cells) (hn : n ≤ R.slots) (hq : Q none h) : Wp p l e R s m args below meth c n0 Q h k n (mkF m pc Ls []) := fun T locs X eT N => by
  obtain ⟨hx, hZ, hby, hml, hown, hret, hlk, hnm⟩ := C
  obtain ⟨fs, hr, hrun, hended, hW, hsame⟩ := X.leave (v := none) (fun _ => rfl) hlk
  exact ⟨_, _, X.returnOut hx hret (hb hby hd) hr, hrun, hended, _, _, rfl, ⟨by rw [show (T.setFrames fs).heap = T.heap from rfl, eT]; exact hq, N⟩, ⟨_, rfl⟩, hW, hsame.mono hk hn⟩
theorem own_iret {z : Int32} (C : Cx p s m meth c Z cd ml (some .int) own nm) (hd : decode cd pc = .ok (.ireturn, 1)) (hk : k ≤ R.cells) (hn : n ≤ R.slots) (hq : Q (some (.int z)) h) : Wp p l e R s m args below meth c n0 Q h k n (mkF m pc Ls (.int z :: st)) := fun T locs X eT N => by
  obtain ⟨hx, hZ, hby, hml, hown, hret, hlk, hnm⟩ := C
  obtain ⟨fs, hr, hrun, hended, hW, hsame⟩ := X.leave (v := some (.int z)) (fun q => by rw [hret] at q; cases q) hlk
  exact ⟨_, _, retI X hx hret (hb hby hd) hr, hrun, hended, _, _, rfl, ⟨by rw [show (T.setFrames fs).heap = T.heap from rfl, eT]; exact hq, N⟩, ⟨_, rfl⟩, hW, hsame.mono hk hn⟩
theorem own_nret {z : Int32} {t : FieldType} (C : Cx p s m meth c Z cd ml (some t) own nm) (ht : t = .boolean ∨ t = .byte ∨ t = .char ∨ t = .short) (hd : decode cd pc = .ok (.ireturn, 1)) (hk : k ≤ R.cells) (hn : n ≤ R.slots) (hq : Q (some (.int (nar t z))) h) : Wp p l e R s m args below meth c n0 Q h k n (mkF m pc Ls (.int z :: st)) := fun T locs X eT N => by
  obtain ⟨hx, hZ, hby, hml, hown, hret, hlk, hnm⟩ := C
  obtain ⟨fs, hr, hrun, hended, hW, hsame⟩ := X.leave (v := some (.int (nar t z))) (fun q => by rw [hret] at q; cases q) hlk
  exact ⟨_, _, retN X hx hret ht (hb hby hd) hr, hrun, hended, _, _, rfl, ⟨by rw [show (T.setFrames fs).heap = T.heap from rfl, eT]; exact hq, N⟩, ⟨_, rfl⟩, hW, hsame.mono hk hn⟩
theorem own_zret {z : Int32} (C : Cx p s m meth c Z cd ml (some .boolean) own nm) (hd : decode cd pc = .ok (.ireturn, 1)) (hk : k ≤ R.cells) (hn : n ≤ R.slots) (hz : z = 0 ∨ z = 1) (hq : Q (some (.int z)) h) : Wp p l e R s m args below meth c n0 Q h k n (mkF m pc Ls (.int z :: st)) :=
  own_nret C (Or.inl rfl) hd hk hn (by rcases hz with rfl | rfl <;> exact hq)
theorem own_lret {z : Int64} (C : Cx p s m meth c Z cd ml (some .long) own nm) (hd : decode cd pc = .ok (.lreturn, 1)) (hk : k ≤ R.cells) (hn : n ≤ R.slots) (hq : Q (some (.long z)) h) : Wp p l e R s m args below meth c n0 Q h k n (mkF m pc Ls [.long z]) := fun T locs X eT N => by
  obtain ⟨hx, hZ, hby, hml, hown, hret, hlk, hnm⟩ := C
  obtain ⟨fs, hr, hrun, hended, hW, hsame⟩ := X.leave (v := some (.long z)) (fun q => by rw [hret] at q; cases q) hlk
  exact ⟨_, _, X.lreturnOut hx hret (hb hby hd) hr, hrun, hended, _, _, rfl, ⟨by rw [show (T.setFrames fs).heap = T.heap from rfl, eT]; exact hq, N⟩, ⟨_, rfl⟩, hW, hsame.mono hk hn⟩
theorem own_aret {z : Value} {t : FieldType} (C : Cx p s m meth c Z cd ml (some t) own nm) (hv : z.isRef = true) (ht : t.isReference = true) (hd : decode cd pc = .ok (.areturn, 1)) (hk : k ≤ R.cells) (hn : n ≤ R.slots) (hq : Q (some z) h) : Wp p l e R s m args below meth c n0 Q h k n (mkF m pc Ls (z :: st)) := fun T locs X eT N => by
  obtain ⟨hx, hZ, hby, hml, hown, hret, hlk, hnm⟩ := C
  obtain ⟨fs, hr, hrun, hended, hW, hsame⟩ := X.leave (v := some z) (fun q => by rw [hret] at q; cases q) hlk
  have hd' := hb hby hd
  refine ⟨_, _, ?_, hrun, hended, _, _, rfl, ⟨by rw [show (T.setFrames fs).heap = T.heap from rfl, eT]; exact hq, N⟩, ⟨_, rfl⟩, hW, hsame.mono hk hn⟩
  jvm_step X.here [X.here.top, hx, hd', X.method', hret, hv, ht]
  first | (intro acts; rw [hr _ acts rfl rfl rfl]) | rw [hr _ _ rfl rfl rfl]
  exact Steps.refl _
theorem own_iadd (C : Cx p s m meth c Z cd ml ret own nm) {x y v : Int32} (hd : decode cd pc = .ok (.iadd, 1)) (hv : x + y = v) (hp : pc + 1 = pc') (W : Wp p l e R s m args below meth c n0 Q h k n (mkF m pc' Ls (.int v :: st))) : Wp p l e R s m args below meth c n0 Q h k n (mkF m pc Ls (.int y :: .int x :: st)) := by
  subst hp hv; exact own_lift (fun T A t q => XS.iadd A C.1 rfl (hb C.2.2.1 hd) rfl q) W
theorem own_isub (C : Cx p s m meth c Z cd ml ret own nm) {x y v : Int32} (hd : decode cd pc = .ok (.isub, 1)) (hv : x - y = v) (hp : pc + 1 = pc') (W : Wp p l e R s m args below meth c n0 Q h k n (mkF m pc' Ls (.int v :: st))) : Wp p l e R s m args below meth c n0 Q h k n (mkF m pc Ls (.int y :: .int x :: st)) := by
  subst hp hv; exact own_lift (fun T A t q => XS.isub A C.1 rfl (hb C.2.2.1 hd) rfl q) W
theorem own_imul (C : Cx p s m meth c Z cd ml ret own nm) {x y v : Int32} (hd : decode cd pc = .ok (.imul, 1)) (hv : x * y = v) (hp : pc + 1 = pc') (W : Wp p l e R s m args below meth c n0 Q h k n (mkF m pc' Ls (.int v :: st))) : Wp p l e R s m args below meth c n0 Q h k n (mkF m pc Ls (.int y :: .int x :: st)) := by
  subst hp hv; exact own_lift (fun T A t q => XS.imul A C.1 rfl (hb C.2.2.1 hd) rfl q) W
theorem own_iand (C : Cx p s m meth c Z cd ml ret own nm) {x y v : Int32} (hd : decode cd pc = .ok (.iand, 1)) (hv : x &&& y = v) (hp : pc + 1 = pc') (W : Wp p l e R s m args below meth c n0 Q h k n (mkF m pc' Ls (.int v :: st))) : Wp p l e R s m args below meth c n0 Q h k n (mkF m pc Ls (.int y :: .int x :: st)) := by
  subst hp hv; exact own_lift (fun T A t q => XS.iand A C.1 rfl (hb C.2.2.1 hd) rfl q) W
theorem own_ior (C : Cx p s m meth c Z cd ml ret own nm) {x y v : Int32} (hd : decode cd pc = .ok (.ior, 1)) (hv : x ||| y = v) (hp : pc + 1 = pc') (W : Wp p l e R s m args below meth c n0 Q h k n (mkF m pc' Ls (.int v :: st))) : Wp p l e R s m args below meth c n0 Q h k n (mkF m pc Ls (.int y :: .int x :: st)) := by
  subst hp hv; exact own_lift (fun T A t q => XS.ior A C.1 rfl (hb C.2.2.1 hd) rfl q) W
theorem own_ixor (C : Cx p s m meth c Z cd ml ret own nm) {x y v : Int32} (hd : decode cd pc = .ok (.ixor, 1)) (hv : x ^^^ y = v) (hp : pc + 1 = pc') (W : Wp p l e R s m args below meth c n0 Q h k n (mkF m pc' Ls (.int v :: st))) : Wp p l e R s m args below meth c n0 Q h k n (mkF m pc Ls (.int y :: .int x :: st)) := by
  subst hp hv; exact own_lift (fun T A t q => XS.ixor A C.1 rfl (hb C.2.2.1 hd) rfl q) W
theorem own_ishl (C : Cx p s m meth c Z cd ml ret own nm) {x y v : Int32} (hd : decode cd pc = .ok (.ishl, 1)) (hv : x <<< (y &&& 31) = v) (hp : pc + 1 = pc') (W : Wp p l e R s m args below meth c n0 Q h k n (mkF m pc' Ls (.int v :: st))) : Wp p l e R s m args below meth c n0 Q h k n (mkF m pc Ls (.int y :: .int x :: st)) := by
  subst hp hv; exact own_lift (fun T A t q => XS.ishl A C.1 rfl (hb C.2.2.1 hd) rfl q) W
theorem own_ishr (C : Cx p s m meth c Z cd ml ret own nm) {x y v : Int32} (hd : decode cd pc = .ok (.ishr, 1)) (hv : x >>> (y &&& 31) = v) (hp : pc + 1 = pc') (W : Wp p l e R s m args below meth c n0 Q h k n (mkF m pc' Ls (.int v :: st))) : Wp p l e R s m args below meth c n0 Q h k n (mkF m pc Ls (.int y :: .int x :: st)) := by
  subst hp hv; exact own_lift (fun T A t q => XS.ishr A C.1 rfl (hb C.2.2.1 hd) rfl q) W
theorem own_iushr (C : Cx p s m meth c Z cd ml ret own nm) {x y v : Int32} (hd : decode cd pc = .ok (.iushr, 1)) (hv : (x.toUInt32 >>> (y &&& 31).toUInt32).toInt32 = v) (hp : pc + 1 = pc') (W : Wp p l e R s m args below meth c n0 Q h k n (mkF m pc' Ls (.int v :: st))) : Wp p l e R s m args below meth c n0 Q h k n (mkF m pc Ls (.int y :: .int x :: st)) := by
  subst hp hv; exact own_lift (fun T A t q => XS.iushr A C.1 rfl (hb C.2.2.1 hd) rfl q) W
theorem own_idiv (C : Cx p s m meth c Z cd ml ret own nm) {x y v : Int32} (hd : decode cd pc = .ok (.idiv, 1)) (hy : y ≠ 0) (hv : x / y = v) (hp : pc + 1 = pc') (W : Wp p l e R s m args below meth c n0 Q h k n (mkF m pc' Ls (.int v :: st))) : Wp p l e R s m args below meth c n0 Q h k n (mkF m pc Ls (.int y :: .int x :: st)) := by
  subst hp hv; exact own_lift (fun T A t q => XS.idiv A C.1 rfl (hb C.2.2.1 hd) rfl hy q) W
theorem own_ladd (C : Cx p s m meth c Z cd ml ret own nm) {x y v : Int64} (hd : decode cd pc = .ok (.ladd, 1)) (hv : x + y = v) (hp : pc + 1 = pc') (W : Wp p l e R s m args below meth c n0 Q h k n (mkF m pc' Ls (.long v :: st))) : Wp p l e R s m args below meth c n0 Q h k n (mkF m pc Ls (.long y :: .long x :: st)) := by
  subst hp hv; exact own_lift (fun T A t q => XS.ladd A C.1 rfl (hb C.2.2.1 hd) rfl q) W
theorem own_lsub (C : Cx p s m meth c Z cd ml ret own nm) {x y v : Int64} (hd : decode cd pc = .ok (.lsub, 1)) (hv : x - y = v) (hp : pc + 1 = pc') (W : Wp p l e R s m args below meth c n0 Q h k n (mkF m pc' Ls (.long v :: st))) : Wp p l e R s m args below meth c n0 Q h k n (mkF m pc Ls (.long y :: .long x :: st)) := by
  subst hp hv; exact own_lift (fun T A t q => XS.lsub A C.1 rfl (hb C.2.2.1 hd) rfl q) W
theorem own_lmul (C : Cx p s m meth c Z cd ml ret own nm) {x y v : Int64} (hd : decode cd pc = .ok (.lmul, 1)) (hv : x * y = v) (hp : pc + 1 = pc') (W : Wp p l e R s m args below meth c n0 Q h k n (mkF m pc' Ls (.long v :: st))) : Wp p l e R s m args below meth c n0 Q h k n (mkF m pc Ls (.long y :: .long x :: st)) := by
  subst hp hv; exact own_lift (fun T A t q => XS.lmul A C.1 rfl (hb C.2.2.1 hd) rfl q) W
theorem own_land (C : Cx p s m meth c Z cd ml ret own nm) {x y v : Int64} (hd : decode cd pc = .ok (.land, 1)) (hv : x &&& y = v) (hp : pc + 1 = pc') (W : Wp p l e R s m args below meth c n0 Q h k n (mkF m pc' Ls (.long v :: st))) : Wp p l e R s m args below meth c n0 Q h k n (mkF m pc Ls (.long y :: .long x :: st)) := by
  subst hp hv; exact own_lift (fun T A t q => XS.land A C.1 rfl (hb C.2.2.1 hd) rfl q) W
theorem own_lor (C : Cx p s m meth c Z cd ml ret own nm) {x y v : Int64} (hd : decode cd pc = .ok (.lor, 1)) (hv : x ||| y = v) (hp : pc + 1 = pc') (W : Wp p l e R s m args below meth c n0 Q h k n (mkF m pc' Ls (.long v :: st))) : Wp p l e R s m args below meth c n0 Q h k n (mkF m pc Ls (.long y :: .long x :: st)) := by
  subst hp hv; exact own_lift (fun T A t q => XS.lor A C.1 rfl (hb C.2.2.1 hd) rfl q) W
theorem own_lxor (C : Cx p s m meth c Z cd ml ret own nm) {x y v : Int64} (hd : decode cd pc = .ok (.lxor, 1)) (hv : x ^^^ y = v) (hp : pc + 1 = pc') (W : Wp p l e R s m args below meth c n0 Q h k n (mkF m pc' Ls (.long v :: st))) : Wp p l e R s m args below meth c n0 Q h k n (mkF m pc Ls (.long y :: .long x :: st)) := by
  subst hp hv; exact own_lift (fun T A t q => XS.lxor A C.1 rfl (hb C.2.2.1 hd) rfl q) W
theorem own_ldiv (C : Cx p s m meth c Z cd ml ret own nm) {x y v : Int64} (hd : decode cd pc = .ok (.ldiv, 1)) (hy : y ≠ 0) (hv : x / y = v) (hp : pc + 1 = pc') (W : Wp p l e R s m args below meth c n0 Q h k n (mkF m pc' Ls (.long v :: st))) : Wp p l e R s m args below meth c n0 Q h k n (mkF m pc Ls (.long y :: .long x :: st)) := by
  subst hp hv; exact own_lift (fun T A t q => XS.ldiv A C.1 rfl (hb C.2.2.1 hd) rfl hy q) W
theorem own_irem (C : Cx p s m meth c Z cd ml ret own nm) {x y v : Int32} (hd : decode cd pc = .ok (.irem, 1)) (hy : y ≠ 0) (hv : x % y = v) (hp : pc + 1 = pc') (W : Wp p l e R s m args below meth c n0 Q h k n (mkF m pc' Ls (.int v :: st))) : Wp p l e R s m args below meth c n0 Q h k n (mkF m pc Ls (.int y :: .int x :: st)) := by
  subst hp hv; exact own_liftX (fun T locs X eT t q => iremM X C.1 rfl (hb C.2.2.1 hd) rfl hy q) W
theorem own_lrem (C : Cx p s m meth c Z cd ml ret own nm) {x y v : Int64} (hd : decode cd pc = .ok (.lrem, 1)) (hy : y ≠ 0) (hv : x % y = v) (hp : pc + 1 = pc') (W : Wp p l e R s m args below meth c n0 Q h k n (mkF m pc' Ls (.long v :: st))) : Wp p l e R s m args below meth c n0 Q h k n (mkF m pc Ls (.long y :: .long x :: st)) := by
  subst hp; rw [← lrem_mod] at hv; subst hv; exact own_lift (fun T A t q => XS.lrem A C.1 rfl (hb C.2.2.1 hd) rfl hy q) W
theorem own_lshl (C : Cx p s m meth c Z cd ml ret own nm) {x v : Int64} {y : Int32} (hd : decode cd pc = .ok (.lshl, 1)) (hv : x <<< (y &&& 0x3f).toInt64 = v) (hp : pc + 1 = pc') (W : Wp p l e R s m args below meth c n0 Q h k n (mkF m pc' Ls (.long v :: st))) : Wp p l e R s m args below meth c n0 Q h k n (mkF m pc Ls (.int y :: .long x :: st)) := by
  subst hp hv; exact own_lift (fun T A t q => XS.lshl A C.1 rfl (hb C.2.2.1 hd) rfl q) W
theorem own_lshr (C : Cx p s m meth c Z cd ml ret own nm) {x v : Int64} {y : Int32} (hd : decode cd pc = .ok (.lshr, 1)) (hv : x >>> (y &&& 0x3f).toInt64 = v) (hp : pc + 1 = pc') (W : Wp p l e R s m args below meth c n0 Q h k n (mkF m pc' Ls (.long v :: st))) : Wp p l e R s m args below meth c n0 Q h k n (mkF m pc Ls (.int y :: .long x :: st)) := by
  subst hp hv; exact own_lift (fun T A t q => XS.lshr A C.1 rfl (hb C.2.2.1 hd) rfl q) W
theorem own_lushr (C : Cx p s m meth c Z cd ml ret own nm) {x v : Int64} {y : Int32} (hd : decode cd pc = .ok (.lushr, 1)) (hv : (x.toUInt64 >>> (y &&& 0x3f).toInt64.toUInt64).toInt64 = v) (hp : pc + 1 = pc') (W : Wp p l e R s m args below meth c n0 Q h k n (mkF m pc' Ls (.long v :: st))) : Wp p l e R s m args below meth c n0 Q h k n (mkF m pc Ls (.int y :: .long x :: st)) := by
  subst hp hv; exact own_lift (fun T A t q => XS.lushr A C.1 rfl (hb C.2.2.1 hd) rfl q) W
theorem own_ineg (C : Cx p s m meth c Z cd ml ret own nm) {x : Int32} {v : Int32} (hd : decode cd pc = .ok (.ineg, 1)) (hv : -x = v) (hp : pc + 1 = pc') (W : Wp p l e R s m args below meth c n0 Q h k n (mkF m pc' Ls (.int v :: st))) : Wp p l e R s m args below meth c n0 Q h k n (mkF m pc Ls (.int x :: st)) := by
  subst hp hv; exact own_lift (fun T A t q => XS.ineg A C.1 rfl (hb C.2.2.1 hd) rfl q) W
theorem own_lneg (C : Cx p s m meth c Z cd ml ret own nm) {x : Int64} {v : Int64} (hd : decode cd pc = .ok (.lneg, 1)) (hv : -x = v) (hp : pc + 1 = pc') (W : Wp p l e R s m args below meth c n0 Q h k n (mkF m pc' Ls (.long v :: st))) : Wp p l e R s m args below meth c n0 Q h k n (mkF m pc Ls (.long x :: st)) := by
  subst hp hv; exact own_lift (fun T A t q => XS.lneg A C.1 rfl (hb C.2.2.1 hd) rfl q) W
theorem own_i2l (C : Cx p s m meth c Z cd ml ret own nm) {x : Int32} {v : Int64} (hd : decode cd pc = .ok (.i2l, 1)) (hv : x.toInt64 = v) (hp : pc + 1 = pc') (W : Wp p l e R s m args below meth c n0 Q h k n (mkF m pc' Ls (.long v :: st))) : Wp p l e R s m args below meth c n0 Q h k n (mkF m pc Ls (.int x :: st)) := by
  subst hp hv; exact own_lift (fun T A t q => XS.i2l A C.1 rfl (hb C.2.2.1 hd) rfl q) W
theorem own_l2i (C : Cx p s m meth c Z cd ml ret own nm) {x : Int64} {v : Int32} (hd : decode cd pc = .ok (.l2i, 1)) (hv : x.toInt32 = v) (hp : pc + 1 = pc') (W : Wp p l e R s m args below meth c n0 Q h k n (mkF m pc' Ls (.int v :: st))) : Wp p l e R s m args below meth c n0 Q h k n (mkF m pc Ls (.long x :: st)) := by
  subst hp hv; exact own_lift (fun T A t q => XS.l2i A C.1 rfl (hb C.2.2.1 hd) rfl q) W
theorem own_i2b (C : Cx p s m meth c Z cd ml ret own nm) {x : Int32} {v : Int32} (hd : decode cd pc = .ok (.i2b, 1)) (hv : x.toInt8.toInt32 = v) (hp : pc + 1 = pc') (W : Wp p l e R s m args below meth c n0 Q h k n (mkF m pc' Ls (.int v :: st))) : Wp p l e R s m args below meth c n0 Q h k n (mkF m pc Ls (.int x :: st)) := by
  subst hp hv; exact own_lift (fun T A t q => XS.i2b A C.1 rfl (hb C.2.2.1 hd) rfl q) W
theorem own_i2s (C : Cx p s m meth c Z cd ml ret own nm) {x : Int32} {v : Int32} (hd : decode cd pc = .ok (.i2s, 1)) (hv : x.toInt16.toInt32 = v) (hp : pc + 1 = pc') (W : Wp p l e R s m args below meth c n0 Q h k n (mkF m pc' Ls (.int v :: st))) : Wp p l e R s m args below meth c n0 Q h k n (mkF m pc Ls (.int x :: st)) := by
  subst hp hv; exact own_lift (fun T A t q => XS.i2s A C.1 rfl (hb C.2.2.1 hd) rfl q) W
theorem own_i2c (C : Cx p s m meth c Z cd ml ret own nm) {x : Int32} {v : Int32} (hd : decode cd pc = .ok (.i2c, 1)) (hv : x.toUInt32.toUInt16.toUInt32.toInt32 = v) (hp : pc + 1 = pc') (W : Wp p l e R s m args below meth c n0 Q h k n (mkF m pc' Ls (.int v :: st))) : Wp p l e R s m args below meth c n0 Q h k n (mkF m pc Ls (.int x :: st)) := by
  subst hp hv; exact own_lift (fun T A t q => XS.i2c A C.1 rfl (hb C.2.2.1 hd) rfl q) W
theorem own_lcmp (C : Cx p s m meth c Z cd ml ret own nm) {x y : Int64} (hd : decode cd pc = .ok (.lcmp, 1)) (hp : pc + 1 = pc') (W : Wp p l e R s m args below meth c n0 Q h k n (mkF m pc' Ls (.int (lcmpW x y) :: st))) : Wp p l e R s m args below meth c n0 Q h k n (mkF m pc Ls (.long y :: .long x :: st)) := by
  subst hp; exact own_lift (fun T A t q => XS.lcmp A C.1 rfl (hb C.2.2.1 hd) rfl q) W
theorem own_dup (C : Cx p s m meth c Z cd ml ret own nm) {x : Value} (hd : decode cd pc = .ok (.dup, 1)) (hc : x.category = 1) (hp : pc + 1 = pc') (W : Wp p l e R s m args below meth c n0 Q h k n (mkF m pc' Ls (x :: x :: st))) : Wp p l e R s m args below meth c n0 Q h k n (mkF m pc Ls (x :: st)) := by
  subst hp; exact own_lift (fun T A t q => XS.dup A C.1 rfl (hb C.2.2.1 hd) rfl hc q) W
theorem own_pop (C : Cx p s m meth c Z cd ml ret own nm) {x : Value} (hd : decode cd pc = .ok (.pop, 1)) (hc : x.category = 1) (hp : pc + 1 = pc') (W : Wp p l e R s m args below meth c n0 Q h k n (mkF m pc' Ls st)) : Wp p l e R s m args below meth c n0 Q h k n (mkF m pc Ls (x :: st)) := by
  subst hp; exact own_lift (fun T A t q => XS.pop A C.1 rfl (hb C.2.2.1 hd) rfl hc q) W
theorem own_dupX1 (C : Cx p s m meth c Z cd ml ret own nm) {x y : Value} (hd : decode cd pc = .ok (.dup_x1, 1)) (hc : x.category = 1) (hc' : y.category = 1) (hp : pc + 1 = pc') (W : Wp p l e R s m args below meth c n0 Q h k n (mkF m pc' Ls (x :: y :: x :: st))) : Wp p l e R s m args below meth c n0 Q h k n (mkF m pc Ls (x :: y :: st)) := by
  subst hp; exact own_lift (fun T A t q => XS.dupX1 A C.1 rfl (hb C.2.2.1 hd) rfl hc hc' q) W
theorem own_dup2 (C : Cx p s m meth c Z cd ml ret own nm) {x y : Value} (hd : decode cd pc = .ok (.dup2, 1)) (hc : x.category = 1) (hc' : y.category = 1) (hp : pc + 1 = pc') (W : Wp p l e R s m args below meth c n0 Q h k n (mkF m pc' Ls (x :: y :: x :: y :: st))) : Wp p l e R s m args below meth c n0 Q h k n (mkF m pc Ls (x :: y :: st)) := by
  subst hp; exact own_lift (fun T A t q => Jvm.Free.XT.dup2 A C.1 rfl (hb C.2.2.1 hd) rfl hc hc' q) W
theorem own_iinc (C : Cx p s m meth c Z cd ml ret own nm) {i : Nat} {d : Int} {x v : Int32} (hd : decode cd pc = .ok (.iinc i d, 3)) (hl : Ls[i]? = some (.val (.int x))) (hv : x + Int32.ofInt d = v) (hl' : storeLocals Ls i (.int v) = some Ls') (hp : pc + 3 = pc') (W : Wp p l e R s m args below meth c n0 Q h k n (mkF m pc' Ls' st)) : Wp p l e R s m args below meth c n0 Q h k n (mkF m pc Ls st) := by
  subst hp hv; exact own_lift (fun T A t q => XS.iinc A C.1 rfl (hb C.2.2.1 hd) hl hl' q) W
theorem own_goto (C : Cx p s m meth c Z cd ml ret own nm) {o : Int} (hd : decode cd pc = .ok (.goto o, 3)) (ho : 0 ≤ (pc : Int) + o) (hp : ((pc : Int) + o).toNat = pc') (W : Wp p l e R s m args below meth c n0 Q h k n (mkF m pc' Ls st)) : Wp p l e R s m args below meth c n0 Q h k n (mkF m pc Ls st) :=
  own_lift (fun T A t q => XS.goto A C.1 rfl (pc0 := pc) (pc' := pc') rfl (hb C.2.2.1 hd) ho hp q) W
theorem own_icmp_lt (C : Cx p s m meth c Z cd ml ret own nm) {o : Int} {x y : Int32} {pt pf : Nat} (hd : decode cd pc = .ok (.if_icmp .lt o, 3)) (ho : 0 ≤ (pc : Int) + o) (hp : ((pc : Int) + o).toNat = pt) (hf : pc + 3 = pf) (WT : x < y → Wp p l e R s m args below meth c n0 Q h k n (mkF m pt Ls st)) (WF : ¬ x < y → Wp p l e R s m args below meth c n0 Q h k n (mkF m pf Ls st)) : Wp p l e R s m args below meth c n0 Q h k n (mkF m pc Ls (.int y :: .int x :: st)) := by
  subst hf
  by_cases g : x < y
  · exact own_lift (fun T A t q => XS.icmpYes A C.1 rfl (pc0 := pc) (pc' := pt) rfl (hb C.2.2.1 hd) rfl (tlt g).1 ho hp q) (WT g)
  · exact own_lift (fun T A t q => XS.icmpNo A C.1 rfl (hb C.2.2.1 hd) rfl (flt g).1 q) (WF g)
theorem own_if_lt (C : Cx p s m meth c Z cd ml ret own nm) {o : Int} {x : Int32} {pt pf : Nat} (hd : decode cd pc = .ok (.ifCond .lt o, 3)) (ho : 0 ≤ (pc : Int) + o) (hp : ((pc : Int) + o).toNat = pt) (hf : pc + 3 = pf) (WT : x < 0 → Wp p l e R s m args below meth c n0 Q h k n (mkF m pt Ls st)) (WF : ¬ x < 0 → Wp p l e R s m args below meth c n0 Q h k n (mkF m pf Ls st)) : Wp p l e R s m args below meth c n0 Q h k n (mkF m pc Ls (.int x :: st)) := by
  subst hf
  by_cases g : x < 0
  · exact own_lift (fun T A t q => XS.ifYes A C.1 rfl (pc0 := pc) (pc' := pt) rfl (hb C.2.2.1 hd) rfl ((if0 _ _).trans (tlt g).1) ho hp q) (WT g)
  · exact own_lift (fun T A t q => XS.ifNo A C.1 rfl (hb C.2.2.1 hd) rfl ((if0 _ _).trans (flt g).1) q) (WF g)
theorem own_lcmp_lt (C : Cx p s m meth c Z cd ml ret own nm) {o : Int} {x y : Int64} {p1 pt pf : Nat} (hd0 : decode cd pc = .ok (.lcmp, 1)) (h1 : pc + 1 = p1) (hd : decode cd p1 = .ok (.ifCond .lt o, 3)) (ho : 0 ≤ (p1 : Int) + o) (hp : ((p1 : Int) + o).toNat = pt) (hf : p1 + 3 = pf) (WT : x < y → Wp p l e R s m args below meth c n0 Q h k n (mkF m pt Ls st)) (WF : ¬ x < y → Wp p l e R s m args below meth c n0 Q h k n (mkF m pf Ls st)) : Wp p l e R s m args below meth c n0 Q h k n (mkF m pc Ls (.long y :: .long x :: st)) :=
  own_lcmp C hd0 h1 (own_if_lt C hd ho hp hf (fun g => WT ((lw_lt x y).mp g)) (fun g => WF (fun q => g ((lw_lt x y).mpr q))))
theorem own_icmp_ge (C : Cx p s m meth c Z cd ml ret own nm) {o : Int} {x y : Int32} {pt pf : Nat} (hd : decode cd pc = .ok (.if_icmp .ge o, 3)) (ho : 0 ≤ (pc : Int) + o) (hp : ((pc : Int) + o).toNat = pt) (hf : pc + 3 = pf) (WT : ¬ x < y → Wp p l e R s m args below meth c n0 Q h k n (mkF m pt Ls st)) (WF : x < y → Wp p l e R s m args below meth c n0 Q h k n (mkF m pf Ls st)) : Wp p l e R s m args below meth c n0 Q h k n (mkF m pc Ls (.int y :: .int x :: st)) := by
  subst hf
  by_cases g : x < y
  · exact own_lift (fun T A t q => XS.icmpNo A C.1 rfl (hb C.2.2.1 hd) rfl (tlt g).2.1 q) (WF g)
  · exact own_lift (fun T A t q => XS.icmpYes A C.1 rfl (pc0 := pc) (pc' := pt) rfl (hb C.2.2.1 hd) rfl (flt g).2.1 ho hp q) (WT g)
theorem own_if_ge (C : Cx p s m meth c Z cd ml ret own nm) {o : Int} {x : Int32} {pt pf : Nat} (hd : decode cd pc = .ok (.ifCond .ge o, 3)) (ho : 0 ≤ (pc : Int) + o) (hp : ((pc : Int) + o).toNat = pt) (hf : pc + 3 = pf) (WT : ¬ x < 0 → Wp p l e R s m args below meth c n0 Q h k n (mkF m pt Ls st)) (WF : x < 0 → Wp p l e R s m args below meth c n0 Q h k n (mkF m pf Ls st)) : Wp p l e R s m args below meth c n0 Q h k n (mkF m pc Ls (.int x :: st)) := by
  subst hf
  by_cases g : x < 0
  · exact own_lift (fun T A t q => XS.ifNo A C.1 rfl (hb C.2.2.1 hd) rfl ((if0 _ _).trans (tlt g).2.1) q) (WF g)
  · exact own_lift (fun T A t q => XS.ifYes A C.1 rfl (pc0 := pc) (pc' := pt) rfl (hb C.2.2.1 hd) rfl ((if0 _ _).trans (flt g).2.1) ho hp q) (WT g)
theorem own_lcmp_ge (C : Cx p s m meth c Z cd ml ret own nm) {o : Int} {x y : Int64} {p1 pt pf : Nat} (hd0 : decode cd pc = .ok (.lcmp, 1)) (h1 : pc + 1 = p1) (hd : decode cd p1 = .ok (.ifCond .ge o, 3)) (ho : 0 ≤ (p1 : Int) + o) (hp : ((p1 : Int) + o).toNat = pt) (hf : p1 + 3 = pf) (WT : ¬ x < y → Wp p l e R s m args below meth c n0 Q h k n (mkF m pt Ls st)) (WF : x < y → Wp p l e R s m args below meth c n0 Q h k n (mkF m pf Ls st)) : Wp p l e R s m args below meth c n0 Q h k n (mkF m pc Ls (.long y :: .long x :: st)) :=
  own_lcmp C hd0 h1 (own_if_ge C hd ho hp hf (fun g => WT (fun q => g ((lw_lt x y).mpr q))) (fun g => WF ((lw_lt x y).mp g)))
theorem own_icmp_gt (C : Cx p s m meth c Z cd ml ret own nm) {o : Int} {x y : Int32} {pt pf : Nat} (hd : decode cd pc = .ok (.if_icmp .gt o, 3)) (ho : 0 ≤ (pc : Int) + o) (hp : ((pc : Int) + o).toNat = pt) (hf : pc + 3 = pf) (WT : y < x → Wp p l e R s m args below meth c n0 Q h k n (mkF m pt Ls st)) (WF : ¬ y < x → Wp p l e R s m args below meth c n0 Q h k n (mkF m pf Ls st)) : Wp p l e R s m args below meth c n0 Q h k n (mkF m pc Ls (.int y :: .int x :: st)) := by
  subst hf
  by_cases g : y < x
  · exact own_lift (fun T A t q => XS.icmpYes A C.1 rfl (pc0 := pc) (pc' := pt) rfl (hb C.2.2.1 hd) rfl (tlt g).2.2.1 ho hp q) (WT g)
  · exact own_lift (fun T A t q => XS.icmpNo A C.1 rfl (hb C.2.2.1 hd) rfl (flt g).2.2.1 q) (WF g)
theorem own_if_gt (C : Cx p s m meth c Z cd ml ret own nm) {o : Int} {x : Int32} {pt pf : Nat} (hd : decode cd pc = .ok (.ifCond .gt o, 3)) (ho : 0 ≤ (pc : Int) + o) (hp : ((pc : Int) + o).toNat = pt) (hf : pc + 3 = pf) (WT : 0 < x → Wp p l e R s m args below meth c n0 Q h k n (mkF m pt Ls st)) (WF : ¬ 0 < x → Wp p l e R s m args below meth c n0 Q h k n (mkF m pf Ls st)) : Wp p l e R s m args below meth c n0 Q h k n (mkF m pc Ls (.int x :: st)) := by
  subst hf
  by_cases g : 0 < x
  · exact own_lift (fun T A t q => XS.ifYes A C.1 rfl (pc0 := pc) (pc' := pt) rfl (hb C.2.2.1 hd) rfl ((if0 _ _).trans (tlt g).2.2.1) ho hp q) (WT g)
  · exact own_lift (fun T A t q => XS.ifNo A C.1 rfl (hb C.2.2.1 hd) rfl ((if0 _ _).trans (flt g).2.2.1) q) (WF g)
theorem own_lcmp_gt (C : Cx p s m meth c Z cd ml ret own nm) {o : Int} {x y : Int64} {p1 pt pf : Nat} (hd0 : decode cd pc = .ok (.lcmp, 1)) (h1 : pc + 1 = p1) (hd : decode cd p1 = .ok (.ifCond .gt o, 3)) (ho : 0 ≤ (p1 : Int) + o) (hp : ((p1 : Int) + o).toNat = pt) (hf : p1 + 3 = pf) (WT : y < x → Wp p l e R s m args below meth c n0 Q h k n (mkF m pt Ls st)) (WF : ¬ y < x → Wp p l e R s m args below meth c n0 Q h k n (mkF m pf Ls st)) : Wp p l e R s m args below meth c n0 Q h k n (mkF m pc Ls (.long y :: .long x :: st)) :=
  own_lcmp C hd0 h1 (own_if_gt C hd ho hp hf (fun g => WT ((lw_gt x y).mp g)) (fun g => WF (fun q => g ((lw_gt x y).mpr q))))
theorem own_icmp_le (C : Cx p s m meth c Z cd ml ret own nm) {o : Int} {x y : Int32} {pt pf : Nat} (hd : decode cd pc = .ok (.if_icmp .le o, 3)) (ho : 0 ≤ (pc : Int) + o) (hp : ((pc : Int) + o).toNat = pt) (hf : pc + 3 = pf) (WT : ¬ y < x → Wp p l e R s m args below meth c n0 Q h k n (mkF m pt Ls st)) (WF : y < x → Wp p l e R s m args below meth c n0 Q h k n (mkF m pf Ls st)) : Wp p l e R s m args below meth c n0 Q h k n (mkF m pc Ls (.int y :: .int x :: st)) := by
  subst hf
  by_cases g : y < x
  · exact own_lift (fun T A t q => XS.icmpNo A C.1 rfl (hb C.2.2.1 hd) rfl (tlt g).2.2.2 q) (WF g)
  · exact own_lift (fun T A t q => XS.icmpYes A C.1 rfl (pc0 := pc) (pc' := pt) rfl (hb C.2.2.1 hd) rfl (flt g).2.2.2 ho hp q) (WT g)
theorem own_if_le (C : Cx p s m meth c Z cd ml ret own nm) {o : Int} {x : Int32} {pt pf : Nat} (hd : decode cd pc = .ok (.ifCond .le o, 3)) (ho : 0 ≤ (pc : Int) + o) (hp : ((pc : Int) + o).toNat = pt) (hf : pc + 3 = pf) (WT : ¬ 0 < x → Wp p l e R s m args below meth c n0 Q h k n (mkF m pt Ls st)) (WF : 0 < x → Wp p l e R s m args below meth c n0 Q h k n (mkF m pf Ls st)) : Wp p l e R s m args below meth c n0 Q h k n (mkF m pc Ls (.int x :: st)) := by
  subst hf
  by_cases g : 0 < x
  · exact own_lift (fun T A t q => XS.ifNo A C.1 rfl (hb C.2.2.1 hd) rfl ((if0 _ _).trans (tlt g).2.2.2) q) (WF g)
  · exact own_lift (fun T A t q => XS.ifYes A C.1 rfl (pc0 := pc) (pc' := pt) rfl (hb C.2.2.1 hd) rfl ((if0 _ _).trans (flt g).2.2.2) ho hp q) (WT g)
theorem own_lcmp_le (C : Cx p s m meth c Z cd ml ret own nm) {o : Int} {x y : Int64} {p1 pt pf : Nat} (hd0 : decode cd pc = .ok (.lcmp, 1)) (h1 : pc + 1 = p1) (hd : decode cd p1 = .ok (.ifCond .le o, 3)) (ho : 0 ≤ (p1 : Int) + o) (hp : ((p1 : Int) + o).toNat = pt) (hf : p1 + 3 = pf) (WT : ¬ y < x → Wp p l e R s m args below meth c n0 Q h k n (mkF m pt Ls st)) (WF : y < x → Wp p l e R s m args below meth c n0 Q h k n (mkF m pf Ls st)) : Wp p l e R s m args below meth c n0 Q h k n (mkF m pc Ls (.long y :: .long x :: st)) :=
  own_lcmp C hd0 h1 (own_if_le C hd ho hp hf (fun g => WT (fun q => g ((lw_gt x y).mpr q))) (fun g => WF ((lw_gt x y).mp g)))
theorem own_icmp_eq (C : Cx p s m meth c Z cd ml ret own nm) {o : Int} {x y : Int32} {pt pf : Nat} (hd : decode cd pc = .ok (.if_icmp .eq o, 3)) (ho : 0 ≤ (pc : Int) + o) (hp : ((pc : Int) + o).toNat = pt) (hf : pc + 3 = pf) (WT : x = y → Wp p l e R s m args below meth c n0 Q h k n (mkF m pt Ls st)) (WF : ¬ x = y → Wp p l e R s m args below meth c n0 Q h k n (mkF m pf Ls st)) : Wp p l e R s m args below meth c n0 Q h k n (mkF m pc Ls (.int y :: .int x :: st)) := by
  subst hf
  by_cases g : x = y
  · exact own_lift (fun T A t q => XS.icmpYes A C.1 rfl (pc0 := pc) (pc' := pt) rfl (hb C.2.2.1 hd) rfl (teq g).1 ho hp q) (WT g)
  · exact own_lift (fun T A t q => XS.icmpNo A C.1 rfl (hb C.2.2.1 hd) rfl (feq g).1 q) (WF g)
theorem own_if_eq (C : Cx p s m meth c Z cd ml ret own nm) {o : Int} {x : Int32} {pt pf : Nat} (hd : decode cd pc = .ok (.ifCond .eq o, 3)) (ho : 0 ≤ (pc : Int) + o) (hp : ((pc : Int) + o).toNat = pt) (hf : pc + 3 = pf) (WT : x = 0 → Wp p l e R s m args below meth c n0 Q h k n (mkF m pt Ls st)) (WF : ¬ x = 0 → Wp p l e R s m args below meth c n0 Q h k n (mkF m pf Ls st)) : Wp p l e R s m args below meth c n0 Q h k n (mkF m pc Ls (.int x :: st)) := by
  subst hf
  by_cases g : x = 0
  · exact own_lift (fun T A t q => XS.ifYes A C.1 rfl (pc0 := pc) (pc' := pt) rfl (hb C.2.2.1 hd) rfl ((if0 _ _).trans (teq g).1) ho hp q) (WT g)
  · exact own_lift (fun T A t q => XS.ifNo A C.1 rfl (hb C.2.2.1 hd) rfl ((if0 _ _).trans (feq g).1) q) (WF g)
theorem own_lcmp_eq (C : Cx p s m meth c Z cd ml ret own nm) {o : Int} {x y : Int64} {p1 pt pf : Nat} (hd0 : decode cd pc = .ok (.lcmp, 1)) (h1 : pc + 1 = p1) (hd : decode cd p1 = .ok (.ifCond .eq o, 3)) (ho : 0 ≤ (p1 : Int) + o) (hp : ((p1 : Int) + o).toNat = pt) (hf : p1 + 3 = pf) (WT : x = y → Wp p l e R s m args below meth c n0 Q h k n (mkF m pt Ls st)) (WF : ¬ x = y → Wp p l e R s m args below meth c n0 Q h k n (mkF m pf Ls st)) : Wp p l e R s m args below meth c n0 Q h k n (mkF m pc Ls (.long y :: .long x :: st)) :=
  own_lcmp C hd0 h1 (own_if_eq C hd ho hp hf (fun g => WT ((lw_eq x y).mp g)) (fun g => WF (fun q => g ((lw_eq x y).mpr q))))
theorem own_icmp_ne (C : Cx p s m meth c Z cd ml ret own nm) {o : Int} {x y : Int32} {pt pf : Nat} (hd : decode cd pc = .ok (.if_icmp .ne o, 3)) (ho : 0 ≤ (pc : Int) + o) (hp : ((pc : Int) + o).toNat = pt) (hf : pc + 3 = pf) (WT : ¬ x = y → Wp p l e R s m args below meth c n0 Q h k n (mkF m pt Ls st)) (WF : x = y → Wp p l e R s m args below meth c n0 Q h k n (mkF m pf Ls st)) : Wp p l e R s m args below meth c n0 Q h k n (mkF m pc Ls (.int y :: .int x :: st)) := by
  subst hf
  by_cases g : x = y
  · exact own_lift (fun T A t q => XS.icmpNo A C.1 rfl (hb C.2.2.1 hd) rfl (teq g).2 q) (WF g)
  · exact own_lift (fun T A t q => XS.icmpYes A C.1 rfl (pc0 := pc) (pc' := pt) rfl (hb C.2.2.1 hd) rfl (feq g).2 ho hp q) (WT g)
theorem own_if_ne (C : Cx p s m meth c Z cd ml ret own nm) {o : Int} {x : Int32} {pt pf : Nat} (hd : decode cd pc = .ok (.ifCond .ne o, 3)) (ho : 0 ≤ (pc : Int) + o) (hp : ((pc : Int) + o).toNat = pt) (hf : pc + 3 = pf) (WT : ¬ x = 0 → Wp p l e R s m args below meth c n0 Q h k n (mkF m pt Ls st)) (WF : x = 0 → Wp p l e R s m args below meth c n0 Q h k n (mkF m pf Ls st)) : Wp p l e R s m args below meth c n0 Q h k n (mkF m pc Ls (.int x :: st)) := by
  subst hf
  by_cases g : x = 0
  · exact own_lift (fun T A t q => XS.ifNo A C.1 rfl (hb C.2.2.1 hd) rfl ((if0 _ _).trans (teq g).2) q) (WF g)
  · exact own_lift (fun T A t q => XS.ifYes A C.1 rfl (pc0 := pc) (pc' := pt) rfl (hb C.2.2.1 hd) rfl ((if0 _ _).trans (feq g).2) ho hp q) (WT g)
theorem own_lcmp_ne (C : Cx p s m meth c Z cd ml ret own nm) {o : Int} {x y : Int64} {p1 pt pf : Nat} (hd0 : decode cd pc = .ok (.lcmp, 1)) (h1 : pc + 1 = p1) (hd : decode cd p1 = .ok (.ifCond .ne o, 3)) (ho : 0 ≤ (p1 : Int) + o) (hp : ((p1 : Int) + o).toNat = pt) (hf : p1 + 3 = pf) (WT : ¬ x = y → Wp p l e R s m args below meth c n0 Q h k n (mkF m pt Ls st)) (WF : x = y → Wp p l e R s m args below meth c n0 Q h k n (mkF m pf Ls st)) : Wp p l e R s m args below meth c n0 Q h k n (mkF m pc Ls (.long y :: .long x :: st)) :=
  own_lcmp C hd0 h1 (own_if_ne C hd ho hp hf (fun g => WT (fun q => g ((lw_eq x y).mpr q))) (fun g => WF ((lw_eq x y).mp g)))
theorem own_acmp_eq (C : Cx p s m meth c Z cd ml ret own nm) {o : Int} {a b : Addr} {pt pf : Nat} (hd : decode cd pc = .ok (.if_acmp .eq o, 3)) (ho : 0 ≤ (pc : Int) + o) (hp : ((pc : Int) + o).toNat = pt) (hf : pc + 3 = pf) (WT : a = b → Wp p l e R s m args below meth c n0 Q h k n (mkF m pt Ls st)) (WF : ¬ a = b → Wp p l e R s m args below meth c n0 Q h k n (mkF m pf Ls st)) : Wp p l e R s m args below meth c n0 Q h k n (mkF m pc Ls (.ref b :: .ref a :: st)) := by
  subst hf
  by_cases g : a = b
  · exact own_lift (fun T A t q => XS.acmpYes A C.1 rfl (pc0 := pc) (pc' := pt) rfl (hb C.2.2.1 hd) rfl (by simp [if_acmp.holds, g]) ho hp q) (WT g)
  · exact own_lift (fun T A t q => XS.acmpNo A C.1 rfl (hb C.2.2.1 hd) rfl (by simp [if_acmp.holds, g]) q) (WF g)
theorem own_acmp_ne (C : Cx p s m meth c Z cd ml ret own nm) {o : Int} {a b : Addr} {pt pf : Nat} (hd : decode cd pc = .ok (.if_acmp .ne o, 3)) (ho : 0 ≤ (pc : Int) + o) (hp : ((pc : Int) + o).toNat = pt) (hf : pc + 3 = pf) (WT : ¬ a = b → Wp p l e R s m args below meth c n0 Q h k n (mkF m pt Ls st)) (WF : a = b → Wp p l e R s m args below meth c n0 Q h k n (mkF m pf Ls st)) : Wp p l e R s m args below meth c n0 Q h k n (mkF m pc Ls (.ref b :: .ref a :: st)) := by
  subst hf
  by_cases g : a = b
  · exact own_lift (fun T A t q => XS.acmpNo A C.1 rfl (hb C.2.2.1 hd) rfl (by simp [if_acmp.holds, g]) q) (WF g)
  · exact own_lift (fun T A t q => XS.acmpYes A C.1 rfl (pc0 := pc) (pc' := pt) rfl (hb C.2.2.1 hd) rfl (by simp [if_acmp.holds, g]) ho hp q) (WT g)
theorem own_ifnull_y (C : Cx p s m meth c Z cd ml ret own nm) {o : Int} {pt : Nat} (hd : decode cd pc = .ok (.ifnull o, 3)) (ho : 0 ≤ (pc : Int) + o) (hp : ((pc : Int) + o).toNat = pt) (W : Wp p l e R s m args below meth c n0 Q h k n (mkF m pt Ls st)) : Wp p l e R s m args below meth c n0 Q h k n (mkF m pc Ls (.null :: st)) :=
  own_lift (fun T A t q => XS.ifnullYes A C.1 rfl (pc0 := pc) (pc' := pt) rfl (hb C.2.2.1 hd) rfl ho hp q) W
theorem own_ifnull_n (C : Cx p s m meth c Z cd ml ret own nm) {o : Int} {a : Addr} (hd : decode cd pc = .ok (.ifnull o, 3)) (hp : pc + 3 = pc') (W : Wp p l e R s m args below meth c n0 Q h k n (mkF m pc' Ls st)) : Wp p l e R s m args below meth c n0 Q h k n (mkF m pc Ls (.ref a :: st)) := by
  subst hp; exact own_lift (fun T A t q => XS.ifnullNo A C.1 rfl (hb C.2.2.1 hd) rfl q) W
theorem own_ifnonnull_y (C : Cx p s m meth c Z cd ml ret own nm) {o : Int} {a : Addr} {pt : Nat} (hd : decode cd pc = .ok (.ifnonnull o, 3)) (ho : 0 ≤ (pc : Int) + o) (hp : ((pc : Int) + o).toNat = pt) (W : Wp p l e R s m args below meth c n0 Q h k n (mkF m pt Ls st)) : Wp p l e R s m args below meth c n0 Q h k n (mkF m pc Ls (.ref a :: st)) :=
  own_lift (fun T A t q => XS.ifnonnullYes A C.1 rfl (pc0 := pc) (pc' := pt) rfl (hb C.2.2.1 hd) rfl ho hp q) W
theorem own_ifnonnull_n (C : Cx p s m meth c Z cd ml ret own nm) {o : Int} (hd : decode cd pc = .ok (.ifnonnull o, 3)) (hp : pc + 3 = pc') (W : Wp p l e R s m args below meth c n0 Q h k n (mkF m pc' Ls st)) : Wp p l e R s m args below meth c n0 Q h k n (mkF m pc Ls (.null :: st)) := by
  subst hp; exact own_lift (fun T A t q => XS.ifnonnullNo A C.1 rfl (hb C.2.2.1 hd) rfl q) W
theorem own_ldc (C : Cx p s m meth c Z cd ml ret own nm) {i : Nat} {v : Int32} (hd : decode cd pc = .ok (.ldc i, 2)) (w : (Jvm.Cond.constant own i v).before a0 Z = true) (hp : pc + 2 = pc') (W : Wp p l e R s m args below meth c n0 Q h k n (mkF m pc' Ls (.int v :: st))) : Wp p l e R s m args below meth c n0 Q h k n (mkF m pc Ls st) := by
  subst hp; exact own_liftX (fun T locs X eT t q => X.ldcInt C.1 C.2.2.2.2.1 (mvT C.2.1 w) (g := mkF m pc Ls st) rfl (hb C.2.2.1 hd) t q) W
theorem own_ldcw (C : Cx p s m meth c Z cd ml ret own nm) {i : Nat} {v : Int32} (hd : decode cd pc = .ok (.ldc_w i, 3)) (w : (Jvm.Cond.constant own i v).before a0 Z = true) (hp : pc + 3 = pc') (W : Wp p l e R s m args below meth c n0 Q h k n (mkF m pc' Ls (.int v :: st))) : Wp p l e R s m args below meth c n0 Q h k n (mkF m pc Ls st) := by
  subst hp; exact own_liftX (fun T locs X eT t q => X.ldcwInt C.1 C.2.2.2.2.1 (mvT C.2.1 w) (g := mkF m pc Ls st) rfl (hb C.2.2.1 hd) t q) W
theorem own_ldc2 (C : Cx p s m meth c Z cd ml ret own nm) {i : Nat} {v : Int64} (hd : decode cd pc = .ok (.ldc2_w i, 3)) (w : (Jvm.Cond.constantLong own i v).before a0 Z = true) (hp : pc + 3 = pc') (W : Wp p l e R s m args below meth c n0 Q h k n (mkF m pc' Ls (.long v :: st))) : Wp p l e R s m args below meth c n0 Q h k n (mkF m pc Ls st) := by
  subst hp; exact own_liftX (fun T locs X eT t q => X.ldc2Long C.1 C.2.2.2.2.1 (mvT C.2.1 w) (g := mkF m pc Ls st) rfl (hb C.2.2.1 hd) t q) W
theorem own_dupX2 (C : Cx p s m meth c Z cd ml ret own nm) {x y z : Value} (hd : decode cd pc = .ok (.dup_x2, 1)) (hc : x.category = 1) (hc' : y.category = 1) (hc'' : z.category = 1) (hp : pc + 1 = pc') (W : Wp p l e R s m args below meth c n0 Q h k n (mkF m pc' Ls (x :: y :: z :: x :: st))) : Wp p l e R s m args below meth c n0 Q h k n (mkF m pc Ls (x :: y :: z :: st)) := by
  subst hp
  have hd' := hb C.2.2.1 hd
  refine own_lift (fun T A t q => ?_) W
  jvm_step A [A.top, C.1, hd', hc, hc', hc'']
  exact q
/-! objects -/
theorem own_getfield (C : Cx p s m meth c Z cd ml ret own nm) {i : Nat} {O f d : String} {a : Addr} {v : Value} (hd : decode cd pc = .ok (.getfield i, 3)) (w : (Jvm.Cond.fieldLink own i O f d).before a0 Z = true) (F : Fld Z h a O f d v) (hp : pc + 3 = pc') (W : Wp p l e R s m args below meth c n0 Q h k n (mkF m pc' Ls (v :: st))) : Wp p l e R s m args below meth c n0 Q h k n (mkF m pc Ls (.ref a :: st)) := fun T locs X eT N => by
  subst hp
  obtain ⟨T', X', e', st'⟩ := getF X C.1 C.2.1 C.2.2.2.2.1 (host := "") (Or.inl w) Via.refl eT F (g := mkF m pc Ls (.ref a :: st)) rfl rfl (hb C.2.2.1 hd)
  obtain ⟨s₂, o, q, r⟩ := W T' locs X' e' N
  exact ⟨s₂, o, st' _ q, r⟩
theorem own_getstatic (C : Cx p s m meth c Z cd ml ret own nm) {i : Nat} {O f d : String} {v : Value} (hd : decode cd pc = .ok (.getstatic i, 3)) (w : (Jvm.Cond.fieldLink own i O f d).before a0 Z = true) (F : Sta Z h O f d v) (hp : pc + 3 = pc') (W : Wp p l e R s m args below meth c n0 Q h k n (mkF m pc' Ls (v :: st))) : Wp p l e R s m args below meth c n0 Q h k n (mkF m pc Ls st) := fun T locs X eT N => by
  subst hp
  obtain ⟨T', X', e', st'⟩ := getS2 X C.1 C.2.1 C.2.2.2.2.1 (host := "") (Or.inl w) Via.refl eT F (g := mkF m pc Ls st) rfl (hb C.2.2.1 hd)
  obtain ⟨s₂, o, q, r⟩ := W T' locs X' e' N
  exact ⟨s₂, o, st' _ q, r⟩
theorem own_putfield (C : Cx p s m meth c Z cd ml ret own nm) {i kk : Nat} {O f d K : String} {ty : FieldType} {a : Addr} {v old : Value} (hd : decode cd pc = .ok (.putfield i, 3)) (w : (Jvm.Cond.fieldLink own i O f d).before a0 Z = true) (F : Fld Z h a O f d old) (E : Exa Z h a K) (L : (Jvm.Cond.lays K O f d).before a0 Z = true ∨ ((Jvm.Cond.laysFinal K O f d).before a0 Z = true ∧ own = O ∧ nm = "<init>")) (wi : (Jvm.Cond.instantiable K kk).before a0 Z = true)
    (hty : parseFieldDescriptor d = some ty) (hn : narrow ty v = v) (hf : fits ty v = true) (ha : n0 ≤ a) (hp : pc + 3 = pc') (W : ∀ h', Wr h h' a (RoadKit.slotOf Z O f d) v → Fld Z h' a O f d v → Wp p l e R s m args below meth c n0 Q h' k n (mkF m pc' Ls st)) : Wp p l e R s m args below meth c n0 Q h k n (mkF m pc Ls (v :: .ref a :: st)) := fun T locs X eT N => by
  subst hp
  obtain ⟨T', h', X', e', Wr', st'⟩ := putF X C.1 C.2.1 C.2.2.2.2.1 (host := "") (Or.inl w) Via.refl eT F E (L.imp id fun q => ⟨q.1, q.2.1, C.2.2.2.2.2.2.2.trans q.2.2⟩) wi hty hn hf (g := mkF m pc Ls (v :: .ref a :: st)) rfl rfl (hb C.2.2.1 hd)
  obtain ⟨s₂, o, q, r⟩ := W h' Wr' (F.same Wr') T' _ X' e' (Fr.snoc X' N ha)
  exact ⟨s₂, o, st' _ q, r⟩
theorem own_new (C : Cx p s m meth c Z cd ml ret own nm) {i nn : Nat} {K : String} (hd : decode cd pc = .ok (.new i, 3)) (w : (Jvm.Cond.classLink own i K).before a0 Z = true) (wi : (Jvm.Cond.instantiable K nn).before a0 Z = true) (wz : (Jvm.Cond.initialized K).before a0 Z = true) (hc : k + 1 ≤ R.cells) (hl : n + nn ≤ R.slots) (hp : pc + 3 = pc')
    (W : ∀ h' a, a = h.size → Ext h h' → Exa Z h' a K → (∀ {O f d : String} {ty : FieldType}, Laid Z a0 K O f d → parseFieldDescriptor d = some ty → Fld Z h' a O f d (defaultValue ty)) → Wp p l e R s m args below meth c n0 Q h' (k + 1) (n + nn) (mkF m pc' Ls (.ref a :: st))) : Wp p l e R s m args below meth c n0 Q h k n (mkF m pc Ls st) := fun T locs X eT N => by
  subst hp
  obtain ⟨T', h', X', e', E', A', D', -, st'⟩ := newO X C.1 C.2.1 C.2.2.2.2.1 w wi wz eT (g := mkF m pc Ls st) rfl (hb C.2.2.1 hd) hc hl
  obtain ⟨s₂, o, q, r⟩ := W h' h.size rfl E' A' D' T' _ X' e' N
  exact ⟨s₂, o, st' _ q, r⟩
/-- java.lang.Object's own constructor -/
theorem own_initO (C : Cx p s m meth c Z cd ml ret own nm) {i : Nat} {wL : Nat} (hd : decode cd pc = .ok (.invokespecial i, 3)) (w1 : (Jvm.Cond.methodLink own i Lib.objectInit).before a0 Z = true) (w2 : (Jvm.Cond.instanceMethod Lib.objectInit).before a0 Z = true) (w3 : (Jvm.Cond.code Lib.objectInit ⟨#[0xb1]⟩ 1 none).before a0 Z = true)
    {a : Addr} (hsz : Ls.size = ml) (hf : 1 ≤ R.frames) (hW : 0 + (st.map fun v => v.category).sum ≤ wL) (hl : wL + 12 ≤ R.locals) (hp : pc + 3 = pc') (W : Wp p l e R s m args below meth c n0 Q h k n (mkF m pc' Ls st)) : Wp p l e R s m args below meth c n0 Q h k n (mkF m pc Ls (.ref a :: st)) := fun T locs X eT N => by
  subst hp
  obtain ⟨T', X', e', st'⟩ := initO X C.1 C.2.1 C.2.2.2.2.1 w1 w2 w3 eT (g := mkF m pc Ls (.ref a :: st)) rfl (by rw [C.2.2.2.1]; exact hsz) rfl (hb C.2.2.1 hd) hf (W := wL) hW hl
  obtain ⟨s₂, o, q, r⟩ := W T' locs X' e' N
  exact ⟨s₂, o, st' _ q, r⟩
/-! arrays: of ints (of any narrow kind), of longs -/
def AI (Z : State) (h : Heap) (a : Addr) (ty : FieldType) (xs : List Int32) : Prop := ∃ cl : Cell, Arr Z h a cl ty ∧ cl.slots = (xs.map Value.int).toArray ∧ xs.length < 2 ^ 31
def AJ (Z : State) (h : Heap) (a : Addr) (xs : List Int64) : Prop := ∃ cl : Cell, Arr Z h a cl .long ∧ cl.slots = (xs.map Value.long).toArray ∧ xs.length < 2 ^ 31
theorem AI.lt {a : Addr} {ty : FieldType} {xs : List Int32} (A : AI Z h a ty xs) : a < h.size := by obtain ⟨cl, A, -⟩ := A; exact A.lt
theorem AJ.lt {a : Addr} {xs : List Int64} (A : AJ Z h a xs) : a < h.size := by obtain ⟨cl, A, -⟩ := A; exact A.lt
theorem AI.ext {h' : Heap} {a : Addr} {ty : FieldType} {xs : List Int32} (A : AI Z h a ty xs) (E : Ext h h') : AI Z h' a ty xs := by obtain ⟨cl, A, r⟩ := A; exact ⟨cl, A.ext E, r⟩
theorem AJ.ext {h' : Heap} {a : Addr} {xs : List Int64} (A : AJ Z h a xs) (E : Ext h h') : AJ Z h' a xs := by obtain ⟨cl, A, r⟩ := A; exact ⟨cl, A.ext E, r⟩
theorem AI.other {h' : Heap} {a b : Addr} {sl : Nat} {v : Value} {ty : FieldType} {xs : List Int32} (A : AI Z h a ty xs) (W : Wr h h' b sl v) (q : a ≠ b) : AI Z h' a ty xs := by obtain ⟨cl, A, r⟩ := A; exact ⟨cl, A.other W q, r⟩
theorem AJ.other {h' : Heap} {a b : Addr} {sl : Nat} {v : Value} {xs : List Int64} (A : AJ Z h a xs) (W : Wr h h' b sl v) (q : a ≠ b) : AJ Z h' a xs := by obtain ⟨cl, A, r⟩ := A; exact ⟨cl, A.other W q, r⟩
theorem AI.keep {h' : Heap} {a : Addr} {ws : List Addr} {ty : FieldType} {xs : List Int32} (A : AI Z h a ty xs) (K : Keep h h' ws) (q : a ∉ ws) : AI Z h' a ty xs := by obtain ⟨cl, A, r⟩ := A; exact ⟨cl, ⟨K.2.1 a cl A.1 q, A.2⟩, r⟩
theorem AJ.keep {h' : Heap} {a : Addr} {ws : List Addr} {xs : List Int64} (A : AJ Z h a xs) (K : Keep h h' ws) (q : a ∉ ws) : AJ Z h' a xs := by obtain ⟨cl, A, r⟩ := A; exact ⟨cl, ⟨K.2.1 a cl A.1 q, A.2⟩, r⟩
theorem AI.same {h' : Heap} {a : Addr} {i : Nat} {x : Int32} {ty : FieldType} {xs : List Int32} (A : AI Z h a ty xs) (W : Wr h h' a i (.int x)) : AI Z h' a ty (xs.set i x) := by
  obtain ⟨cl, A, r1, r2⟩ := A
  exact ⟨_, A.same W, by simp [Cell.setSlot, r1, List.map_set], by simpa using r2⟩
theorem AJ.same {h' : Heap} {a : Addr} {i : Nat} {x : Int64} {xs : List Int64} (A : AJ Z h a xs) (W : Wr h h' a i (.long x)) : AJ Z h' a (xs.set i x) := by
  obtain ⟨cl, A, r1, r2⟩ := A
  exact ⟨_, A.same W, by simp [Cell.setSlot, r1, List.map_set], by simpa using r2⟩
theorem own_iaload (C : Cx p s m meth c Z cd ml ret own nm) {a : Addr} {j v : Int32} {i : Nat} {xs : List Int32} (hd : decode cd pc = .ok (.iaload, 1)) (A : AI Z h a .int xs) (hj : ¬ j < 0) (hi : j.toNatClampNeg = i) (hv : xs[i]? = some v) (hp : pc + 1 = pc') (W : Wp p l e R s m args below meth c n0 Q h k n (mkF m pc' Ls (.int v :: st))) : Wp p l e R s m args below meth c n0 Q h k n (mkF m pc Ls (.int j :: .ref a :: st)) := by
  subst hp hi
  obtain ⟨cl, A, r1, r2⟩ := A
  have hlt := (List.getElem?_eq_some_iff.mp hv).1
  exact own_liftX (fun T locs X eT t q => X.iaload C.1 (j := j) (v := .int v) (by rw [eT]; exact A.1) (State.isArrayOf_alike C.2.1.alike A.2.1) A.2.2 (fun z => z.elim hj fun y => by rw [r1] at y; simp at y; omega) (by rw [r1]; simp [hv]) (g := mkF m pc Ls (.int j :: .ref a :: st)) rfl rfl (hb C.2.2.1 hd) t q) W
theorem own_baload (C : Cx p s m meth c Z cd ml ret own nm) {a : Addr} {j v : Int32} {i : Nat} {xs : List Int32} (hd : decode cd pc = .ok (.baload, 1)) (A : AI Z h a .byte xs) (hj : ¬ j < 0) (hi : j.toNatClampNeg = i) (hv : xs[i]? = some v) (hp : pc + 1 = pc') (W : Wp p l e R s m args below meth c n0 Q h k n (mkF m pc' Ls (.int v :: st))) : Wp p l e R s m args below meth c n0 Q h k n (mkF m pc Ls (.int j :: .ref a :: st)) := by
  subst hp hi
  obtain ⟨cl, A, r1, r2⟩ := A
  have hlt := (List.getElem?_eq_some_iff.mp hv).1
  exact own_liftX (fun T locs X eT t q => X.baloadBytes C.1 (j := j) (v := .int v) (by rw [eT]; exact A.1) (State.isArrayOf_alike C.2.1.alike A.2.1) A.2.2 (fun z => z.elim hj fun y => by rw [r1] at y; simp at y; omega) (by rw [r1]; simp [hv]) (g := mkF m pc Ls (.int j :: .ref a :: st)) rfl rfl (hb C.2.2.1 hd) t q) W
theorem own_laload (C : Cx p s m meth c Z cd ml ret own nm) {a : Addr} {j : Int32} {v : Int64} {i : Nat} {xs : List Int64} (hd : decode cd pc = .ok (.laload, 1)) (A : AJ Z h a xs) (hj : ¬ j < 0) (hi : j.toNatClampNeg = i) (hv : xs[i]? = some v) (hp : pc + 1 = pc') (W : Wp p l e R s m args below meth c n0 Q h k n (mkF m pc' Ls (.long v :: st))) : Wp p l e R s m args below meth c n0 Q h k n (mkF m pc Ls (.int j :: .ref a :: st)) := by
  subst hp hi
  obtain ⟨cl, A, r1, r2⟩ := A
  have hlt := (List.getElem?_eq_some_iff.mp hv).1
  exact own_liftX (fun T locs X eT t q => X.laload C.1 (j := j) (v := .long v) (by rw [eT]; exact A.1) (State.isArrayOf_alike C.2.1.alike A.2.1) A.2.2 (fun z => z.elim hj fun y => by rw [r1] at y; simp at y; omega) (by rw [r1]; simp [hv]) (g := mkF m pc Ls (.int j :: .ref a :: st)) rfl rfl (hb C.2.2.1 hd) t q) W
theorem own_lenI (C : Cx p s m meth c Z cd ml ret own nm) {a : Addr} {v : Int32} {ty : FieldType} {xs : List Int32} (hd : decode cd pc = .ok (.arraylength, 1)) (A : AI Z h a ty xs) (hv : xs.length.toInt32 = v) (hp : pc + 1 = pc') (W : Wp p l e R s m args below meth c n0 Q h k n (mkF m pc' Ls (.int v :: st))) : Wp p l e R s m args below meth c n0 Q h k n (mkF m pc Ls (.ref a :: st)) := by
  subst hp hv
  obtain ⟨cl, A, r1, r2⟩ := A
  have e1 : cl.slots.size = xs.length := by rw [r1]; simp
  exact own_liftX (fun T locs X eT t q => X.arraylength C.1 (by rw [eT]; exact A.1) (State.isArrayOf_alike C.2.1.alike A.2.1) (g := mkF m pc Ls (.ref a :: st)) rfl rfl (hb C.2.2.1 hd) t (by rw [e1]; exact q)) W
theorem own_lenJ (C : Cx p s m meth c Z cd ml ret own nm) {a : Addr} {v : Int32} {xs : List Int64} (hd : decode cd pc = .ok (.arraylength, 1)) (A : AJ Z h a xs) (hv : xs.length.toInt32 = v) (hp : pc + 1 = pc') (W : Wp p l e R s m args below meth c n0 Q h k n (mkF m pc' Ls (.int v :: st))) : Wp p l e R s m args below meth c n0 Q h k n (mkF m pc Ls (.ref a :: st)) := by
  subst hp hv
  obtain ⟨cl, A, r1, r2⟩ := A
  have e1 : cl.slots.size = xs.length := by rw [r1]; simp
  exact own_liftX (fun T locs X eT t q => X.arraylength C.1 (by rw [eT]; exact A.1) (State.isArrayOf_alike C.2.1.alike A.2.1) (g := mkF m pc Ls (.ref a :: st)) rfl rfl (hb C.2.2.1 hd) t (by rw [e1]; exact q)) W
theorem own_iastore (C : Cx p s m meth c Z cd ml ret own nm) {a : Addr} {j x : Int32} {i : Nat} {xs ys : List Int32} (hd : decode cd pc = .ok (.iastore, 1)) (A : AI Z h a .int xs) (hj : ¬ j < 0) (hi : j.toNatClampNeg = i) (hlt : i < xs.length) (hys : xs.set i x = ys) (ha : n0 ≤ a) (hp : pc + 1 = pc') (W : ∀ h', Wr h h' a i (.int x) → AI Z h' a .int ys → Wp p l e R s m args below meth c n0 Q h' k n (mkF m pc' Ls st)) : Wp p l e R s m args below meth c n0 Q h k n (mkF m pc Ls (.int x :: .int j :: .ref a :: st)) := fun T locs X eT N => by
  subst hp hi hys
  have A' := A
  obtain ⟨cl, A, r1, r2⟩ := A
  obtain ⟨T', h', X', e', Wr', st'⟩ := stI X C.1 C.2.1 eT A (j := j) (x := x) (fun z => z.elim hj fun y => by rw [r1] at y; simp at y; omega) (g := mkF m pc Ls (.int x :: .int j :: .ref a :: st)) rfl rfl (hb C.2.2.1 hd)
  obtain ⟨s₂, o, q, r⟩ := W h' Wr' (A'.same Wr') T' _ X' e' (Fr.snoc X' N ha)
  exact ⟨s₂, o, st' _ q, r⟩
theorem own_lastore (C : Cx p s m meth c Z cd ml ret own nm) {a : Addr} {j : Int32} {x : Int64} {i : Nat} {xs ys : List Int64} (hd : decode cd pc = .ok (.lastore, 1)) (A : AJ Z h a xs) (hj : ¬ j < 0) (hi : j.toNatClampNeg = i) (hlt : i < xs.length) (hys : xs.set i x = ys) (ha : n0 ≤ a) (hp : pc + 1 = pc') (W : ∀ h', Wr h h' a i (.long x) → AJ Z h' a ys → Wp p l e R s m args below meth c n0 Q h' k n (mkF m pc' Ls st)) : Wp p l e R s m args below meth c n0 Q h k n (mkF m pc Ls (.long x :: .int j :: .ref a :: st)) := fun T locs X eT N => by
  subst hp hi hys
  have A' := A
  obtain ⟨cl, A, r1, r2⟩ := A
  obtain ⟨T', h', X', e', Wr', st'⟩ := stJ X C.1 C.2.1 eT A (j := j) (x := x) (fun z => z.elim hj fun y => by rw [r1] at y; simp at y; omega) (g := mkF m pc Ls (.long x :: .int j :: .ref a :: st)) rfl rfl (hb C.2.2.1 hd)
  obtain ⟨s₂, o, q, r⟩ := W h' Wr' (A'.same Wr') T' _ X' e' (Fr.snoc X' N ha)
  exact ⟨s₂, o, st' _ q, r⟩
theorem own_bastore (C : Cx p s m meth c Z cd ml ret own nm) {a : Addr} {j x : Int32} {i : Nat} {xs ys : List Int32} (hd : decode cd pc = .ok (.bastore, 1)) (A : AI Z h a .byte xs) (hj : ¬ j < 0) (hi : j.toNatClampNeg = i) (hlt : i < xs.length) (hys : xs.set i (nar .byte x) = ys) (ha : n0 ≤ a) (hp : pc + 1 = pc') (W : ∀ h', Wr h h' a i (.int (nar .byte x)) → AI Z h' a .byte ys → Wp p l e R s m args below meth c n0 Q h' k n (mkF m pc' Ls st)) : Wp p l e R s m args below meth c n0 Q h k n (mkF m pc Ls (.int x :: .int j :: .ref a :: st)) := fun T locs X eT N => by
  subst hp hi hys
  have A' := A
  obtain ⟨cl, A, r1, r2⟩ := A
  obtain ⟨T', h', X', e', Wr', st'⟩ := stB X C.1 C.2.1 eT A (j := j) (x := x) (fun z => z.elim hj fun y => by rw [r1] at y; simp at y; omega) (g := mkF m pc Ls (.int x :: .int j :: .ref a :: st)) rfl rfl (hb C.2.2.1 hd)
  obtain ⟨s₂, o, q, r⟩ := W h' Wr' (A'.same Wr') T' _ X' e' (Fr.snoc X' N ha)
  exact ⟨s₂, o, st' _ q, r⟩
theorem own_newI (C : Cx p s m meth c Z cd ml ret own nm) {aty : ArrayType} {ty : FieldType} {z : Int32} {len cap : Nat} (hd : decode cd pc = .ok (.newarray aty, 2)) (hty : newarray.typeOf aty = ty) (hdv : defaultValue ty = .int 0) (w : (Jvm.Cond.arrayClass ty).before a0 Z = true) (hz : ¬ z < 0) (hlen : z.toNatClampNeg = len) (hcap : len ≤ cap) (hb8 : cap * 8 ≤ 536870912) (hc : k + 1 ≤ R.cells) (hl : n + cap ≤ R.slots) (hp : pc + 2 = pc')
    (W : ∀ h' a, a = h.size → Ext h h' → AI Z h' a ty (List.replicate len 0) → Wp p l e R s m args below meth c n0 Q h' (k + 1) (n + cap) (mkF m pc' Ls (.ref a :: st))) : Wp p l e R s m args below meth c n0 Q h k n (mkF m pc Ls (.int z :: st)) := fun T locs X eT N => by
  subst hp hlen hty
  obtain ⟨T', h', cA, X', e', E', A', st'⟩ := newP X C.1 C.2.1 w eT (g := mkF m pc Ls (.int z :: st)) rfl (hb C.2.2.1 hd) rfl hz hcap hb8 hc hl
  obtain ⟨s₂, o, q, r⟩ := W h' h.size rfl E' ⟨_, A', by simp [newA, hdv], by simp; exact (back32 hz).2⟩ T' _ X' e' N
  exact ⟨s₂, o, st' _ q, r⟩
theorem own_newJ (C : Cx p s m meth c Z cd ml ret own nm) {z : Int32} {len cap : Nat} (hd : decode cd pc = .ok (.newarray .long, 2)) (w : (Jvm.Cond.arrayClass .long).before a0 Z = true) (hz : ¬ z < 0) (hlen : z.toNatClampNeg = len) (hcap : len ≤ cap) (hb8 : cap * 8 ≤ 536870912) (hc : k + 1 ≤ R.cells) (hl : n + cap ≤ R.slots) (hp : pc + 2 = pc')
    (W : ∀ h' a, a = h.size → Ext h h' → AJ Z h' a (List.replicate len 0) → Wp p l e R s m args below meth c n0 Q h' (k + 1) (n + cap) (mkF m pc' Ls (.ref a :: st))) : Wp p l e R s m args below meth c n0 Q h k n (mkF m pc Ls (.int z :: st)) := fun T locs X eT N => by
  subst hp hlen
  obtain ⟨T', h', cA, X', e', E', A', st'⟩ := newP X C.1 C.2.1 (aty := .long) w eT (g := mkF m pc Ls (.int z :: st)) rfl (hb C.2.2.1 hd) rfl hz hcap hb8 hc hl
  obtain ⟨s₂, o, q, r⟩ := W h' h.size rfl E' ⟨_, A', by simp [newA, newarray.typeOf, defaultValue], by simp; exact (back32 hz).2⟩ T' _ X' e' N
  exact ⟨s₂, o, st' _ q, r⟩
/-! calls -/
theorem own_callS (C : Cx p s m meth c Z cd ml ret own nm) {i : Nat} {y : MethodName} {bytes : ByteArray} {mL wL : Nat} {rt : Option FieldType} {rm : Room} {as : Array Value} {Qc : Option Value → Heap → Prop} {argsL rest : List Value}
    (M : Met l y bytes mL rt [] rm Z n0 as h Qc)
    (hd : decode cd pc = .ok (.invokestatic i, 3)) (w1 : (Jvm.Cond.methodLink own i y).before a0 Z = true) (w2 : (Jvm.Cond.static y).before a0 Z = true) (w3 : (Jvm.Cond.initialized y.cls).before a0 Z = true) (w4 : (Jvm.Cond.code y bytes mL rt).before a0 Z = true)
    (hy : y.cls ≠ "java/lang/invoke/MethodHandle" ∧ y.cls ≠ "java/lang/invoke/VarHandle") (hfr : rm.frames + 1 ≤ R.frames) (hlo : wL + (mL + 11) + rm.locals ≤ R.locals) (hsz : Ls.size = ml) (hlen : ∀ sig, parseMethodDescriptor y.desc = some sig → argsL.length = sig.parameters.length)
    (hst : st = argsL.reverse ++ rest) (has : argsL.toArray = as) (hW : 0 + (rest.map fun v => v.category).sum ≤ wL) (hc : k + rm.cells ≤ R.cells) (hs : n + rm.slots ≤ R.slots) (hp : pc + 3 = pc')
    (W : ∀ v h', Qc v h' → Wp p l e R s m args below meth c n0 Q h' (k + rm.cells) (n + rm.slots) (mkF m pc' Ls (v.toList ++ rest))) : Wp p l e R s m args below meth c n0 Q h k n (mkF m pc Ls st) := fun T locs X eT N => by
  subst hp has
  obtain ⟨_, _, ⟨T', L', k', n'⟩, -, X', ⟨Lc, hQ, l1, y1, z1⟩, st'⟩ := Jvm.LawKit.callS X C.1 (y := y) C.2.2.2.2.1 (mvT C.2.1 w1) (mvT C.2.1 w2) (mvT C.2.1 w3) (mvT C.2.1 w4) hy (backOf (W := wL) (Q := fun v h L => Qc v h ∧ Fr n0 L) M C.2.1 w4 w3 hfr hlo) (g := mkF m pc Ls st) rfl (by rw [C.2.2.2.1]; exact hsz) (argsL := argsL) (rest := rest) hlen hst hW (hb C.2.2.1 hd) (fun _ _ => ⟨rfl, eT, hc, hs⟩)
  dsimp only [Pt.U, Pt.locs, Pt.cells, Pt.slots] at X' l1 y1 z1 st' hQ
  subst l1 y1 z1
  obtain ⟨s₂, o, q, r⟩ := W _ _ hQ.1 T' _ X' rfl (Fr.app N hQ.2)
  exact ⟨s₂, o, st' _ q, r⟩
theorem own_callI (C : Cx p s m meth c Z cd ml ret own nm) {i : Nat} {K : String} {dsc : String} {bytes : ByteArray} {mL wL : Nat} {rm : Room} {as : Array Value} {Qc : Option Value → Heap → Prop} {argsL rest : List Value} {a : Addr}
    (M : Met l ⟨K, "<init>", dsc⟩ bytes mL none [] rm Z n0 as h Qc)
    (hd : decode cd pc = .ok (.invokespecial i, 3)) (w1 : (Jvm.Cond.methodLink own i ⟨K, "<init>", dsc⟩).before a0 Z = true) (w2 : (Jvm.Cond.instanceMethod ⟨K, "<init>", dsc⟩).before a0 Z = true) (w3 : (Jvm.Cond.initialized K).before a0 Z = true) (w4 : (Jvm.Cond.code ⟨K, "<init>", dsc⟩ bytes mL none).before a0 Z = true)
    (hy : K ≠ "java/lang/invoke/MethodHandle" ∧ K ≠ "java/lang/invoke/VarHandle") (hfr : rm.frames + 1 ≤ R.frames) (hlo : wL + (mL + 11) + rm.locals ≤ R.locals) (hsz : Ls.size = ml) (hlen : ∀ sig, parseMethodDescriptor dsc = some sig → argsL.length = sig.parameters.length)
    (hst : st = argsL.reverse ++ .ref a :: rest) (has : (Value.ref a :: argsL).toArray = as) (hW : 0 + (rest.map fun v => v.category).sum ≤ wL) (hc : k + rm.cells ≤ R.cells) (hs : n + rm.slots ≤ R.slots) (hp : pc + 3 = pc')
    (W : ∀ v h', Qc v h' → Wp p l e R s m args below meth c n0 Q h' (k + rm.cells) (n + rm.slots) (mkF m pc' Ls (v.toList ++ rest))) : Wp p l e R s m args below meth c n0 Q h k n (mkF m pc Ls st) := fun T locs X eT N => by
  subst hp has
  obtain ⟨_, _, ⟨T', L', k', n'⟩, -, X', ⟨Lc, hQ, l1, y1, z1⟩, st'⟩ := X.specialBack C.1 (y := ⟨K, "<init>", dsc⟩) rfl C.2.2.2.2.1 (mvT C.2.1 w1) (mvT C.2.1 w2) (mvT C.2.1 w4) hy (backOf (W := wL) (Q := fun v h L => Qc v h ∧ Fr n0 L) M C.2.1 w4 w3 hfr hlo) (g := mkF m pc Ls st) rfl (by rw [C.2.2.2.1]; exact hsz) (Steps.refl _) (a := a) (argsL := argsL) (rest := rest) hlen hst hW (hb C.2.2.1 hd) (fun _ _ => ⟨rfl, eT, hc, hs⟩)
  dsimp only [Pt.U, Pt.locs, Pt.cells, Pt.slots] at X' l1 y1 z1 st' hQ
  subst l1 y1 z1
  obtain ⟨s₂, o, q, r⟩ := W _ _ hQ.1 T' _ X' rfl (Fr.app N hQ.2)
  exact ⟨s₂, o, st'.trans q, r⟩
theorem own_callV (C : Cx p s m meth c Z cd ml ret own nm) {i : Nat} {y : MethodName} {bytes : ByteArray} {mL wL : Nat} {rt : Option FieldType} {rm : Room} {as : Array Value} {Qc : Option Value → Heap → Prop} {argsL rest : List Value} {a : Addr}
    (M : Met l y bytes mL rt [] rm Z n0 as h Qc) (E : Exa Z h a y.cls)
    (hd : decode cd pc = .ok (.invokevirtual i, 3)) (w1 : (Jvm.Cond.methodLink own i y).before a0 Z = true) (w2 : (Jvm.Cond.declares y).before a0 Z = true) (w5 : (Jvm.Cond.selects y.cls y y).before a0 Z = true) (w6 : (Jvm.Cond.instanceMethod y).before a0 Z = true) (w3 : (Jvm.Cond.initialized y.cls).before a0 Z = true) (w4 : (Jvm.Cond.code y bytes mL rt).before a0 Z = true)
    (hy : y.cls ≠ "java/lang/invoke/MethodHandle" ∧ y.cls ≠ "java/lang/invoke/VarHandle") (hfr : rm.frames + 1 ≤ R.frames) (hlo : wL + (mL + 11) + rm.locals ≤ R.locals) (hsz : Ls.size = ml) (hlen : ∀ sig, parseMethodDescriptor y.desc = some sig → argsL.length = sig.parameters.length)
    (hst : st = argsL.reverse ++ .ref a :: rest) (has : (Value.ref a :: argsL).toArray = as) (hW : 0 + (rest.map fun v => v.category).sum ≤ wL) (hc : k + rm.cells ≤ R.cells) (hs : n + rm.slots ≤ R.slots) (hp : pc + 3 = pc')
    (W : ∀ v h', Qc v h' → Wp p l e R s m args below meth c n0 Q h' (k + rm.cells) (n + rm.slots) (mkF m pc' Ls (v.toList ++ rest))) : Wp p l e R s m args below meth c n0 Q h k n (mkF m pc Ls st) := fun T locs X eT N => by
  subst hp has
  obtain ⟨cq, kq, qa, qb, qc⟩ := isOf C.2.1 eT E
  obtain ⟨_, _, ⟨T', L', k', n'⟩, -, X', ⟨Lc, hQ, l1, y1, z1⟩, st'⟩ := X.virtualBack C.1 (y := y) (z := y) C.2.2.2.2.1 (mvT C.2.1 w1) (mvT C.2.1 w2) (notFace_of_selects (args := #[]) (mvT C.2.1 w5)) (mvT C.2.1 w5) (mvT C.2.1 w6) hy (backOf (W := wL) (Q := fun v h L => Qc v h ∧ Fr n0 L) M C.2.1 w4 w3 hfr hlo) qa qc (g := mkF m pc Ls st) rfl (by rw [C.2.2.2.1]; exact hsz) (Steps.refl _) (argsL := argsL) (rest := rest) hlen hst hW (hb C.2.2.1 hd) (fun _ _ => ⟨rfl, eT, hc, hs⟩)
  dsimp only [Pt.U, Pt.locs, Pt.cells, Pt.slots] at X' l1 y1 z1 st' hQ
  subst l1 y1 z1
  obtain ⟨s₂, o, q, r⟩ := W _ _ hQ.1 T' _ X' rfl (Fr.app N hQ.2)
  exact ⟨s₂, o, st'.trans q, r⟩
theorem own_callP (C : Cx p s m meth c Z cd ml ret own nm) {i : Nat} {y : MethodName} {bytes : ByteArray} {mL wL : Nat} {rt : Option FieldType} {rm : Room} {as : Array Value} {Qc : Option Value → Heap → Prop} {argsL rest : List Value} {a : Addr}
    (M : Met l y bytes mL rt [] rm Z n0 as h Qc) (E : Exa Z h a y.cls)
    (hd : decode cd pc = .ok (.invokevirtual i, 3)) (w1 : (Jvm.Cond.methodLink own i y).before a0 Z = true) (w2 : (Jvm.Cond.privateMethod y).before a0 Z = true) (w5 : (Jvm.Cond.selects y.cls y y).before a0 Z = true) (w6 : (Jvm.Cond.instanceMethod y).before a0 Z = true) (w3 : (Jvm.Cond.initialized y.cls).before a0 Z = true) (w4 : (Jvm.Cond.code y bytes mL rt).before a0 Z = true)
    (hy : y.cls ≠ "java/lang/invoke/MethodHandle" ∧ y.cls ≠ "java/lang/invoke/VarHandle") (hfr : rm.frames + 1 ≤ R.frames) (hlo : wL + (mL + 11) + rm.locals ≤ R.locals) (hsz : Ls.size = ml) (hlen : ∀ sig, parseMethodDescriptor y.desc = some sig → argsL.length = sig.parameters.length)
    (hst : st = argsL.reverse ++ .ref a :: rest) (has : (Value.ref a :: argsL).toArray = as) (hW : 0 + (rest.map fun v => v.category).sum ≤ wL) (hc : k + rm.cells ≤ R.cells) (hs : n + rm.slots ≤ R.slots) (hp : pc + 3 = pc')
    (W : ∀ v h', Qc v h' → Wp p l e R s m args below meth c n0 Q h' (k + rm.cells) (n + rm.slots) (mkF m pc' Ls (v.toList ++ rest))) : Wp p l e R s m args below meth c n0 Q h k n (mkF m pc Ls st) := fun T locs X eT N => by
  subst hp has
  obtain ⟨cq, q1, q2⟩ := E.cell
  obtain ⟨_, _, ⟨T', L', k', n'⟩, -, X', ⟨Lc, hQ, l1, y1, z1⟩, st'⟩ := X.privateBack C.1 (y := y) C.2.2.2.2.1 (mvT C.2.1 w1) (mvT C.2.1 w6) (mvT C.2.1 w5) (Cond.privateMethod_at (mvP C.2.1 w2 (args := #[]))) (mvT C.2.1 w4) hy (backOf (W := wL) (Q := fun v h L => Qc v h ∧ Fr n0 L) M C.2.1 w4 w3 hfr hlo) (g := mkF m pc Ls st) rfl (by rw [C.2.2.2.1]; exact hsz) (Steps.refl _) (a := a) (by rw [eT]; exact q1) q2 (argsL := argsL) (rest := rest) hlen hst hW (hb C.2.2.1 hd) (fun _ _ => ⟨rfl, eT, hc, hs⟩)
  dsimp only [Pt.U, Pt.locs, Pt.cells, Pt.slots] at X' l1 y1 z1 st' hQ
  subst l1 y1 z1
  obtain ⟨s₂, o, q, r⟩ := W _ _ hQ.1 T' _ X' rfl (Fr.app N hQ.2)
  exact ⟨s₂, o, st'.trans q, r⟩
end OwnKit
def own_f2 (j : Int32) (nn : Int32) (kj : Int32) (ki : Int32) (jf : Int32) : Int32 := (if j < nn then (if kj < ki then (1 : Int32) else (if kj = ki then (if jf = 0 then (0 : Int32) else (1 : Int32)) else (0 : Int32))) else (0 : Int32))
theorem d2_0 : decode method_3_code 0 = .ok (.iload_n 0, 1) := by decide +kernel
theorem d2_1 : decode method_3_code 1 = .ok (.iload_n 1, 1) := by decide +kernel
theorem d2_2 : decode method_3_code 2 = .ok (.if_icmp .ge 22, 3) := by decide +kernel
theorem d2_5 : decode method_3_code 5 = .ok (.iload_n 2, 1) := by decide +kernel
theorem d2_6 : decode method_3_code 6 = .ok (.iload_n 3, 1) := by decide +kernel
theorem d2_7 : decode method_3_code 7 = .ok (.if_icmp .lt 13, 3) := by decide +kernel
theorem d2_10 : decode method_3_code 10 = .ok (.iload_n 2, 1) := by decide +kernel
theorem d2_11 : decode method_3_code 11 = .ok (.iload_n 3, 1) := by decide +kernel
theorem d2_12 : decode method_3_code 12 = .ok (.if_icmp .ne 12, 3) := by decide +kernel
theorem d2_15 : decode method_3_code 15 = .ok (.iload 4, 2) := by decide +kernel
theorem d2_17 : decode method_3_code 17 = .ok (.ifCond .eq 7, 3) := by decide +kernel
theorem d2_20 : decode method_3_code 20 = .ok (.iconst 1, 1) := by decide +kernel
theorem d2_21 : decode method_3_code 21 = .ok (.goto 4, 3) := by decide +kernel
theorem d2_24 : decode method_3_code 24 = .ok (.iconst 0, 1) := by decide +kernel
theorem d2_25 : decode method_3_code 25 = .ok (.ireturn, 1) := by decide +kernel
theorem pn2 : plainName "com/example/precedence/precedence/TouchesSortedPinLaw" = true := by first | (simp [plainName, overriddenIn]; done) | decide +kernel
theorem ef2 (m : MethodId) (x0 : Int32) (x1 : Int32) (x2 : Int32) (x3 : Int32) (x4 : Int32) : entryFrame m #[(.int x0), (.int x1), (.int x2), (.int x3), (.int x4)] 5 = mkF m 0 #[.val (.int x0), .val (.int x1), .val (.int x2), .val (.int x3), .val (.int x4)] [] := by first | (simp [entryFrame, mkF, argsToLocals, Value.category]; done) | rfl
theorem own_ki_1 : Int32.ofInt (1) = (1 : Int32) := by decide
theorem own_ki_0 : Int32.ofInt (0) = (0 : Int32) := by decide
set_option maxRecDepth 65536 in
set_option maxHeartbeats 40000000 in
theorem own_m2 (l : Launch) (Z : State) (a0 : Array Value) (hw : ∀ d ∈ tables_1, d.before a0 Z = true) (j : Int32) (nn : Int32) (kj : Int32) (ki : Int32) (jf : Int32)  (h0 : Heap) (n0 : Nat) (Z_ : n0 ≤ h0.size)  :
    Met l (⟨"com/example/precedence/precedence/TouchesSortedPinLaw", "c", "(IIIIZ)I"⟩ : MethodName) method_3_code 5 (some .int) [] ({ frames := 0, cells := 0, slots := 0, locals := 0 } : Room) Z n0 #[(.int j), (.int nn), (.int kj), (.int ki), (.int jf)] h0 (fun v h => v = some (.int (own_f2 j nn kj ki jf)) ∧ h0 = h) := by
  refine own_met pn2 (fun m => ef2 m j nn kj ki jf) ?_
  intro p e s m below meth c C
  refine own_iloadN (pc' := 1) C d2_0 rfl rfl ?_
  refine own_iloadN (pc' := 2) C d2_1 rfl rfl ?_
  obtain ⟨vs_25, hvs_25⟩ : ∃ z : Int32, z = (if j < nn then (if kj < ki then (1 : Int32) else (if kj = ki then (if jf = 0 then (0 : Int32) else (1 : Int32)) else (0 : Int32))) else (0 : Int32)) := ⟨_, rfl⟩
  have hzvs_25 : vs_25 = 0 ∨ vs_25 = 1 := by rw [hvs_25]; repeat (first | exact Or.inl rfl | exact Or.inr rfl | split)
  refine own_seq (g' := mkF m 25 #[.val (.int j), .val (.int nn), .val (.int kj), .val (.int ki), .val (.int jf)] [(.int vs_25)]) (fun J25 => ?_) ?_
  · refine own_icmp_ge (pt := 24) (pf := 5) C d2_2 (by decide) (by decide) rfl ?_ ?_
    · intro hc2
      refine own_iconst (pc' := 25) (v := (0 : Int32)) C d2_24 own_ki_0 rfl ?_
      exact own_cast (by simp only [hvs_25, if_neg hc2]) (J25)
    · intro hc2
      refine own_iloadN (pc' := 6) C d2_5 rfl rfl ?_
      refine own_iloadN (pc' := 7) C d2_6 rfl rfl ?_
      refine own_icmp_lt (pt := 20) (pf := 10) C d2_7 (by decide) (by decide) rfl ?_ ?_
      · intro hc7
        refine own_iconst (pc' := 21) (v := (1 : Int32)) C d2_20 own_ki_1 rfl ?_
        refine own_goto (pc' := 25) C d2_21 (by decide) (by decide) ?_
        exact own_cast (by simp only [hvs_25, if_pos hc2, if_pos hc7]) (J25)
      · intro hc7
        refine own_iloadN (pc' := 11) C d2_10 rfl rfl ?_
        refine own_iloadN (pc' := 12) C d2_11 rfl rfl ?_
        refine own_icmp_ne (pt := 24) (pf := 15) C d2_12 (by decide) (by decide) rfl ?_ ?_
        · intro hc12
          refine own_iconst (pc' := 25) (v := (0 : Int32)) C d2_24 own_ki_0 rfl ?_
          exact own_cast (by simp only [hvs_25, if_pos hc2, if_neg hc7, if_neg hc12]) (J25)
        · intro hc12
          refine own_iload (pc' := 17) C d2_15 rfl rfl ?_
          refine own_if_eq (pt := 24) (pf := 20) C d2_17 (by decide) (by decide) rfl ?_ ?_
          · intro hc17
            refine own_iconst (pc' := 25) (v := (0 : Int32)) C d2_24 own_ki_0 rfl ?_
            exact own_cast (by simp only [hvs_25, if_pos hc2, if_neg hc7, if_pos hc12, if_pos hc17]) (J25)
          · intro hc17
            refine own_iconst (pc' := 21) (v := (1 : Int32)) C d2_20 own_ki_1 rfl ?_
            refine own_goto (pc' := 25) C d2_21 (by decide) (by decide) ?_
            exact own_cast (by simp only [hvs_25, if_pos hc2, if_neg hc7, if_pos hc12, if_neg hc17]) (J25)
  refine own_iret C d2_25 (by decide) (by decide) ?_
  exact ⟨by simp only [own_f2, ← hvs_25], rfl⟩

def own_rk (rs : List Int32) (x : Int32) : Int32 := rs.getD x.toNatClampNeg 0
def own_in4 (x : Int32) : Prop := ¬ x < 0 ∧ x.toNatClampNeg < 4
theorem own_get4 {r0 r1 r2 r3 x : Int32} (h : own_in4 x) : [r0, r1, r2, r3][x.toNatClampNeg]? = some (own_rk [r0, r1, r2, r3] x) := by
  have h2 := h.2
  simp only [own_rk, List.getD_eq_getElem?_getD]
  rw [List.getElem?_eq_getElem (by exact h2)]; rfl
def own_tab (len : Nat) (F : Nat → Int32) : List Int32 := (List.range len).map F
def own_inc (F : Nat → Int32) (c : Nat) : Nat → Int32 := fun m => F m + (if m = c then 1 else 0)
def own_pre (F : Nat → Int32) : Nat → Int32
  | 0 => F 0
  | m + 1 => F (m + 1) + own_pre F m
def own_mid (F : Nat → Int32) (i : Nat) : Nat → Int32 := fun m => if m ≤ i then own_pre F m else F m
def own_ub (k keys : Int32) : Prop := 0 ≤ k.toInt ∧ k.toInt < keys.toInt
def own_kb (keys : Int32) : Prop := 1 ≤ keys.toInt ∧ keys.toInt ≤ 8
def own_inb (n : Nat) (x : Int32) : Prop := ¬ x < 0 ∧ x.toNatClampNeg < n
theorem own_tabget {len i : Nat} {F : Nat → Int32} (h : i < len) : (own_tab len F)[i]? = some (F i) := by simp [own_tab, h]
theorem own_tab0 (len : Nat) : List.replicate len (0 : Int32) = own_tab len (fun _ => 0) := by
  apply List.ext_getElem?; intro i; simp only [own_tab, List.getElem?_map, List.getElem?_replicate, List.getElem?_range]
  by_cases h : i < len <;> simp [h]
theorem own_tabset {len c : Nat} {F G : Nat → Int32} {v : Int32} (h : ∀ m, G m = if m = c then v else F m) : (own_tab len F).set c v = own_tab len G := by
  apply List.ext_getElem?; intro i
  rw [List.getElem?_set]
  by_cases hi : i < len
  · by_cases hc : c = i
    · subst hc; simp [own_tab, hi, h c]
    · have hc' : ¬ i = c := fun q => hc q.symm
      simp [own_tab, hi, hc, h i, hc']
  · by_cases hc : c = i
    · subst hc; simp [own_tab, hi]
    · simp [own_tab, hi, hc]
theorem own_incset {len c : Nat} {F : Nat → Int32} : (own_tab len F).set c (F c + 1) = own_tab len (own_inc F c) := own_tabset fun m => by
  simp only [own_inc]; by_cases h : m = c
  · subst h; simp
  · simp [h]
theorem own_mid0 (F : Nat → Int32) : own_mid F 0 = F := by
  funext m; simp only [own_mid]; cases m with | zero => rfl | succ m => simp
theorem own_midset {len i : Nat} {F : Nat → Int32} : (own_tab len (own_mid F i)).set (i + 1) (own_mid F i (i + 1) + own_mid F i i) = own_tab len (own_mid F (i + 1)) := own_tabset fun m => by
  simp only [own_mid]
  by_cases h : m = i + 1
  · subst h; have n1 : ¬ i + 1 ≤ i := by omega
    simp [own_pre, n1]
  · by_cases h2 : m ≤ i
    · simp [h, h2, Nat.le_succ_of_le h2]
    · have : ¬ m ≤ i + 1 := by omega
      simp [h, h2, this]
theorem own_midend {len i : Nat} {F : Nat → Int32} (h : len = i + 1) : own_tab len (own_mid F i) = own_tab len (own_pre F) := by
  subst h
  apply List.ext_getElem?; intro m
  by_cases hm : m < i + 1
  · have : m ≤ i := by omega
    simp [own_tab, hm, own_mid, this]
  · simp [own_tab, hm]
theorem own_tablen (len : Nat) (F : Nat → Int32) : (own_tab len F).length = len := by simp [own_tab]
theorem own_sc {k keys : Int32} (hk : own_kb keys) (h : own_ub k keys) : ¬ k < 0 ∧ ¬ (k + 1) < 0 ∧ (k + 1).toNatClampNeg = k.toNatClampNeg + 1 ∧ k.toNatClampNeg < (keys + 1).toNatClampNeg ∧ k.toNatClampNeg + 1 < (keys + 1).toNatClampNeg := by
  obtain ⟨a1, a2⟩ := hk; obtain ⟨b1, b2⟩ := h
  have c1 := c_iadd k 1; have c2 := rng32 (k + 1); have c3 := c_iadd keys 1; have c4 := rng32 (keys + 1); have k1 : (1 : Int32).toInt = 1 := rfl
  have k0 : (0 : Int32).toInt = 0 := rfl
  simp only [Int32.lt_iff_toInt_lt, Int32.toNatClampNeg]
  omega
theorem own_ks {keys : Int32} (hk : own_kb keys) : ¬ (keys + 1) < 0 ∧ (keys + 1).toNatClampNeg = keys.toNatClampNeg + 1 ∧ keys.toNatClampNeg ≤ 8 := by
  obtain ⟨a1, a2⟩ := hk
  have c3 := c_iadd keys 1; have c4 := rng32 (keys + 1); have k1 : (1 : Int32).toInt = 1 := rfl
  have k0 : (0 : Int32).toInt = 0 := rfl
  simp only [Int32.lt_iff_toInt_lt, Int32.toNatClampNeg]
  omega
theorem own_irr (i : Int32) : ¬ i < i := by rw [Int32.lt_iff_toInt_lt]; omega

theorem d1_52 : decode prog_106_method_6_code 52 = .ok (.iload 4, 2) := by decide +kernel
theorem d1_54 : decode prog_106_method_6_code 54 = .ok (.iload_n 2, 1) := by decide +kernel
theorem d1_55 : decode prog_106_method_6_code 55 = .ok (.if_icmp .ge 22, 3) := by decide +kernel
theorem d1_58 : decode prog_106_method_6_code 58 = .ok (.aload_n 3, 1) := by decide +kernel
theorem d1_59 : decode prog_106_method_6_code 59 = .ok (.iload 4, 2) := by decide +kernel
theorem d1_61 : decode prog_106_method_6_code 61 = .ok (.iconst 1, 1) := by decide +kernel
theorem d1_62 : decode prog_106_method_6_code 62 = .ok (.iadd, 1) := by decide +kernel
theorem d1_63 : decode prog_106_method_6_code 63 = .ok (.dup2, 1) := by decide +kernel
theorem d1_64 : decode prog_106_method_6_code 64 = .ok (.iaload, 1) := by decide +kernel
theorem d1_65 : decode prog_106_method_6_code 65 = .ok (.aload_n 3, 1) := by decide +kernel
theorem d1_66 : decode prog_106_method_6_code 66 = .ok (.iload 4, 2) := by decide +kernel
theorem d1_68 : decode prog_106_method_6_code 68 = .ok (.iaload, 1) := by decide +kernel
theorem d1_69 : decode prog_106_method_6_code 69 = .ok (.iadd, 1) := by decide +kernel
theorem d1_70 : decode prog_106_method_6_code 70 = .ok (.iastore, 1) := by decide +kernel
theorem d1_71 : decode prog_106_method_6_code 71 = .ok (.iinc 4 1, 3) := by decide +kernel
theorem d1_74 : decode prog_106_method_6_code 74 = .ok (.goto (-22), 3) := by decide +kernel
theorem pn1 : plainName "com/example/precedence/precedence/Touches" = true := by first | (simp [plainName, overriddenIn]; done) | decide +kernel
theorem ef1 (m : MethodId) (x0 : Addr) (x1 : Addr) (x2 : Int32) : entryFrame m #[(.ref x0), (.ref x1), (.int x2)] 9 = mkF m 0 #[.val (.ref x0), .val (.ref x1), .val (.int x2), .unset, .unset, .unset, .unset, .unset, .unset] [] := by first | (simp [entryFrame, mkF, argsToLocals, Value.category]; done) | rfl
set_option maxRecDepth 65536 in
set_option maxHeartbeats 40000000 in
theorem own_loop2 {p : Program} {l : Launch} {e : Env} {R : Room} {s : State} {m : MethodId} {args : Array Value} {below : List Frame} {meth : Method} {c : Code} {Z : State} {n0 : Nat} {Q : Option Value → Heap → Prop} {k n : Nat} {a0 : Array Value} (hw : ∀ d ∈ tables_1, d.before a0 Z = true) (C : Cx p s m meth c Z prog_106_method_6_code 9 (some (.array .int)) "com/example/precedence/precedence/Touches" "sorted") {a : Addr} {keys : Int32} {F : Nat → Int32} {s0 s1 s5 s6 s7 s8 : Slot} (hk : own_kb keys) (g_a : n0 ≤ a) (j : Nat) :
    ∀ (h_ : Heap) (i : Int32), n0 ≤ h_.size → 0 ≤ i.toInt → i.toInt + j = keys.toInt → AI Z h_ a .int (own_tab (keys + 1).toNatClampNeg (own_mid F i.toNatClampNeg)) → (∀ h', Keep h_ h' [a] → AI Z h' a .int (own_tab (keys + 1).toNatClampNeg (own_pre F)) → Wp p l e R s m args below meth c n0 Q h' k n (mkF m 77 #[s0, s1, .val (.int keys), .val (.ref a), .val (.int keys), s5, s6, s7, s8] [])) → Wp p l e R s m args below meth c n0 Q h_ k n (mkF m 52 #[s0, s1, .val (.int keys), .val (.ref a), .val (.int i), s5, s6, s7, s8] []) := by
  induction j with
  | zero =>
    intro h_ i Z_ h1 h2 A_a hx
    have e0 : i = keys := Int32.toInt_inj.mp (by omega)
    subst e0
    rw [own_midend (own_ks hk).2.1] at A_a
    refine own_iload (pc' := 54) C d1_52 rfl rfl ?_
    refine own_iloadN (pc' := 55) C d1_54 rfl rfl ?_
    refine own_icmp_ge (pt := 77) (pf := 58) C d1_55 (by decide) (by decide) rfl (fun _ => ?_) (fun q => absurd q (own_irr i))
    exact hx h_ (Keep.refl _ _) A_a
  | succ j ih =>
    intro h_ i Z_ h1 h2 A_a hx
    have hu : own_ub i keys := ⟨h1, by omega⟩
    have hlt : i < keys := by rw [Int32.lt_iff_toInt_lt]; exact hu.2
    obtain ⟨q1, q2, q3, q4, q5⟩ := own_sc hk hu
    have g1 : (i + 1).toInt = i.toInt + 1 := by have := c_iadd i 1; have := rng32 (i + 1); have := rng32 keys; have k1 : (1 : Int32).toInt = 1 := rfl; omega
    refine own_iload (pc' := 54) C d1_52 rfl rfl ?_
    refine own_iloadN (pc' := 55) C d1_54 rfl rfl ?_
    refine own_icmp_ge (pt := 77) (pf := 58) C d1_55 (by decide) (by decide) rfl (fun q => absurd hlt q) (fun _ => ?_)
    refine own_aloadN (pc' := 59) C d1_58 rfl rfl rfl ?_
    refine own_iload (pc' := 61) C d1_59 rfl rfl ?_
    refine own_iconst (pc' := 62) (v := (1 : Int32)) C d1_61 own_ki_1 rfl ?_
    refine own_iadd (pc' := 63) C d1_62 rfl rfl ?_
    refine own_dup2 (pc' := 64) C d1_63 rfl rfl rfl ?_
    refine own_iaload (pc' := 65) (v := ((own_mid F i.toNatClampNeg) (i.toNatClampNeg + 1))) (i := (i.toNatClampNeg + 1)) C d1_64 A_a q2 q3 (own_tabget q5) rfl ?_
    refine own_aloadN (pc' := 66) C d1_65 rfl rfl rfl ?_
    refine own_iload (pc' := 68) C d1_66 rfl rfl ?_
    refine own_iaload (pc' := 69) (v := ((own_mid F i.toNatClampNeg) i.toNatClampNeg)) (i := i.toNatClampNeg) C d1_68 A_a q1 rfl (own_tabget q4) rfl ?_
    refine own_iadd (pc' := 70) C d1_69 rfl rfl ?_
    refine own_iastore (pc' := 71) (i := (i.toNatClampNeg + 1)) (ys := (own_tab (keys + 1).toNatClampNeg (own_mid F (i.toNatClampNeg + 1)))) C d1_70 A_a q2 q3 (by rw [own_tablen]; exact q5) own_midset g_a rfl ?_
    intro h1 W1 A1_
    replace A_a := A1_
    replace Z_ : n0 ≤ _ := Nat.le_trans Z_ (Nat.le_of_eq W1.size.symm)
    refine own_iinc (pc' := 74) (v := (i + (1 : Int32))) (Ls' := #[s0, s1, .val (.int keys), .val (.ref a), .val (.int (i + (1 : Int32))), s5, s6, s7, s8]) C d1_71 rfl rfl rfl rfl ?_
    refine own_goto (pc' := 52) C d1_74 (by decide) (by decide) ?_
    refine ih h1 _ Z_ (by omega) (by omega) (by rw [q3]; exact A_a) (fun h' K' A' => hx h' ((Keep.of_wr W1).trans K' (fun x hx => Or.inl hx)) A')

theorem d1_0 : decode prog_106_method_6_code 0 = .ok (.iload_n 2, 1) := by decide +kernel
theorem d1_1 : decode prog_106_method_6_code 1 = .ok (.iconst 1, 1) := by decide +kernel
theorem d1_2 : decode prog_106_method_6_code 2 = .ok (.iadd, 1) := by decide +kernel
theorem d1_3 : decode prog_106_method_6_code 3 = .ok (.newarray .int, 2) := by decide +kernel
theorem d1_5 : decode prog_106_method_6_code 5 = .ok (.astore_n 3, 1) := by decide +kernel
theorem d1_6 : decode prog_106_method_6_code 6 = .ok (.aload_n 0, 1) := by decide +kernel
theorem d1_7 : decode prog_106_method_6_code 7 = .ok (.astore 4, 2) := by decide +kernel
theorem d1_9 : decode prog_106_method_6_code 9 = .ok (.aload 4, 2) := by decide +kernel
theorem d1_11 : decode prog_106_method_6_code 11 = .ok (.arraylength, 1) := by decide +kernel
theorem d1_12 : decode prog_106_method_6_code 12 = .ok (.istore 5, 2) := by decide +kernel
theorem d1_14 : decode prog_106_method_6_code 14 = .ok (.iconst 0, 1) := by decide +kernel
theorem d1_15 : decode prog_106_method_6_code 15 = .ok (.istore 6, 2) := by decide +kernel
theorem d1_17 : decode prog_106_method_6_code 17 = .ok (.iload 6, 2) := by decide +kernel
theorem d1_19 : decode prog_106_method_6_code 19 = .ok (.iload 5, 2) := by decide +kernel
theorem d1_21 : decode prog_106_method_6_code 21 = .ok (.if_icmp .ge 28, 3) := by decide +kernel
theorem d1_49 : decode prog_106_method_6_code 49 = .ok (.iconst 0, 1) := by decide +kernel
theorem d1_50 : decode prog_106_method_6_code 50 = .ok (.istore 4, 2) := by decide +kernel
theorem d1_77 : decode prog_106_method_6_code 77 = .ok (.aload_n 0, 1) := by decide +kernel
theorem d1_78 : decode prog_106_method_6_code 78 = .ok (.arraylength, 1) := by decide +kernel
theorem d1_79 : decode prog_106_method_6_code 79 = .ok (.newarray .int, 2) := by decide +kernel
theorem d1_81 : decode prog_106_method_6_code 81 = .ok (.astore 4, 2) := by decide +kernel
theorem d1_83 : decode prog_106_method_6_code 83 = .ok (.aload_n 0, 1) := by decide +kernel
theorem d1_84 : decode prog_106_method_6_code 84 = .ok (.astore 5, 2) := by decide +kernel
theorem d1_86 : decode prog_106_method_6_code 86 = .ok (.aload 5, 2) := by decide +kernel
theorem d1_88 : decode prog_106_method_6_code 88 = .ok (.arraylength, 1) := by decide +kernel
theorem d1_89 : decode prog_106_method_6_code 89 = .ok (.istore 6, 2) := by decide +kernel
theorem d1_91 : decode prog_106_method_6_code 91 = .ok (.iconst 0, 1) := by decide +kernel
theorem d1_92 : decode prog_106_method_6_code 92 = .ok (.istore 7, 2) := by decide +kernel
theorem d1_94 : decode prog_106_method_6_code 94 = .ok (.iload 7, 2) := by decide +kernel
theorem d1_96 : decode prog_106_method_6_code 96 = .ok (.iload 6, 2) := by decide +kernel
theorem d1_98 : decode prog_106_method_6_code 98 = .ok (.if_icmp .ge 32, 3) := by decide +kernel
theorem d1_130 : decode prog_106_method_6_code 130 = .ok (.aload 4, 2) := by decide +kernel
theorem d1_132 : decode prog_106_method_6_code 132 = .ok (.areturn, 1) := by decide +kernel
set_option maxRecDepth 65536 in
set_option maxHeartbeats 40000000 in
theorem own_sort0 (l : Launch) (Z : State) (a0 : Array Value) (hw : ∀ d ∈ tables_1, d.before a0 Z = true) (pl : Addr) (ka : Addr) (keys : Int32) (y0_ y1_ y2_ y3_ : Int32) (h0 : Heap) (n0 : Nat) (Z_ : n0 ≤ h0.size) (A_pl : AI Z h0 pl .int []) (A_ka : AI Z h0 ka .int [y0_, y1_, y2_, y3_]) (hk : own_kb keys) :
    Met l (⟨"com/example/precedence/precedence/Touches", "sorted", "([I[II)[I"⟩ : MethodName) prog_106_method_6_code 9 (some (.array .int)) [] ({ frames := 0, cells := 2, slots := 9, locals := 0 } : Room) Z n0 #[(.ref pl), (.ref ka), (.int keys)] h0 (fun v h => ∃ o, v = some (.ref o) ∧ h0.size ≤ o ∧ Keep h0 h [] ∧ AI Z h o .int []) := by
  refine own_met pn1 (fun m => ef1 m pl ka keys) ?_
  intro p e s m below meth c C
  have K_ : Keep h0 h0 [] := Keep.refl _ _
  have hL := own_ks hk
  refine own_iloadN (pc' := 1) C d1_0 rfl rfl ?_
  refine own_iconst (pc' := 2) (v := (1 : Int32)) C d1_1 own_ki_1 rfl ?_
  refine own_iadd (pc' := 3) C d1_2 rfl rfl ?_
  refine own_newI (pc' := 5) (len := (keys + 1).toNatClampNeg) (cap := 9) C d1_3 rfl rfl (hw _ (List.mem_of_getElem? (i := 0) rfl)) (own_ks hk).1 rfl (by omega) (by decide) (by decide) (by decide) rfl ?_
  intro h1 b1 g1 X1 A_b1
  have ne_pl_b1 : pl ≠ b1 := Nat.ne_of_lt (g1 ▸ A_pl.lt)
  have ne_ka_b1 : ka ≠ b1 := Nat.ne_of_lt (g1 ▸ A_ka.lt)
  replace A_pl := A_pl.ext X1
  replace A_ka := A_ka.ext X1
  have g_b1 : n0 ≤ b1 := g1 ▸ Z_
  have sz_b1 : h0.size ≤ b1 := g1 ▸ K_.1
  replace K_ := K_.ext X1
  replace Z_ := Nat.le_trans Z_ X1.1
  rw [own_tab0] at A_b1
  refine own_astoreN (pc' := 6) (Ls' := #[.val (.ref pl), .val (.ref ka), .val (.int keys), .val (.ref b1), .unset, .unset, .unset, .unset, .unset]) C d1_5 rfl rfl rfl ?_
  refine own_aloadN (pc' := 7) C d1_6 rfl rfl rfl ?_
  refine own_astore (pc' := 9) (Ls' := #[.val (.ref pl), .val (.ref ka), .val (.int keys), .val (.ref b1), .val (.ref pl), .unset, .unset, .unset, .unset]) C d1_7 rfl rfl rfl ?_
  refine own_aload (pc' := 11) C d1_9 rfl rfl rfl ?_
  refine own_lenI (pc' := 12) (v := (0 : Int32)) C d1_11 A_pl rfl rfl ?_
  refine own_istore (pc' := 14) (y := (0 : Int32)) (Ls' := #[.val (.ref pl), .val (.ref ka), .val (.int keys), .val (.ref b1), .val (.ref pl), .val (.int (0 : Int32)), .unset, .unset, .unset]) C d1_12 rfl rfl rfl ?_
  refine own_iconst (pc' := 15) (v := (0 : Int32)) C d1_14 own_ki_0 rfl ?_
  refine own_istore (pc' := 17) (y := (0 : Int32)) (Ls' := #[.val (.ref pl), .val (.ref ka), .val (.int keys), .val (.ref b1), .val (.ref pl), .val (.int (0 : Int32)), .val (.int (0 : Int32)), .unset, .unset]) C d1_15 rfl rfl rfl ?_
  refine own_iload (pc' := 19) C d1_17 rfl rfl ?_
  refine own_iload (pc' := 21) C d1_19 rfl rfl ?_
  refine own_icmp_ge (pt := 49) (pf := 24) C d1_21 (by decide) (by decide) rfl (fun _ => ?_) (fun q => absurd q (by decide))
  refine own_iconst (pc' := 50) (v := (0 : Int32)) C d1_49 own_ki_0 rfl ?_
  refine own_istore (pc' := 52) (y := (0 : Int32)) (Ls' := #[.val (.ref pl), .val (.ref ka), .val (.int keys), .val (.ref b1), .val (.int (0 : Int32)), .val (.int (0 : Int32)), .val (.int (0 : Int32)), .unset, .unset]) C d1_50 rfl rfl rfl ?_
  refine own_loop2 hw C hk g_b1 keys.toInt.toNat h1 0 Z_ (by decide) (by have := hk.1; have k0 : (0 : Int32).toInt = 0 := rfl; omega) (by rw [show (0 : Int32).toNatClampNeg = 0 from rfl, own_mid0]; exact A_b1) ?_
  intro h2 K2 A2_
  replace A_pl := A_pl.keep K2 (ninS ne_pl_b1 nin0)
  replace A_ka := A_ka.keep K2 (ninS ne_ka_b1 nin0)
  replace Z_ := Nat.le_trans Z_ K2.1
  replace K_ := K_.trans K2 (allS (Or.inr sz_b1) all0)
  replace A_b1 := A2_
  refine own_aloadN (pc' := 78) C d1_77 rfl rfl rfl ?_
  refine own_lenI (pc' := 79) (v := (0 : Int32)) C d1_78 A_pl rfl rfl ?_
  refine own_newI (pc' := 81) (len := 0) (cap := 0) C d1_79 rfl rfl (hw _ (List.mem_of_getElem? (i := 0) rfl)) (by decide) rfl (by decide) (by decide) (by decide) (by decide) rfl ?_
  intro h3 b3 g3 X3 A_b3
  have ne_pl_b3 : pl ≠ b3 := Nat.ne_of_lt (g3 ▸ A_pl.lt)
  have ne_ka_b3 : ka ≠ b3 := Nat.ne_of_lt (g3 ▸ A_ka.lt)
  have ne_b1_b3 : b1 ≠ b3 := Nat.ne_of_lt (g3 ▸ A_b1.lt)
  replace A_pl := A_pl.ext X3
  replace A_ka := A_ka.ext X3
  replace A_b1 := A_b1.ext X3
  have g_b3 : n0 ≤ b3 := g3 ▸ Z_
  have sz_b3 : h0.size ≤ b3 := g3 ▸ K_.1
  replace K_ := K_.ext X3
  replace Z_ := Nat.le_trans Z_ X3.1
  replace A_b3 : AI Z h3 b3 .int [] := A_b3
  refine own_astore (pc' := 83) (Ls' := #[.val (.ref pl), .val (.ref ka), .val (.int keys), .val (.ref b1), .val (.ref b3), .val (.int (0 : Int32)), .val (.int (0 : Int32)), .unset, .unset]) C d1_81 rfl rfl rfl ?_
  refine own_aloadN (pc' := 84) C d1_83 rfl rfl rfl ?_
  refine own_astore (pc' := 86) (Ls' := #[.val (.ref pl), .val (.ref ka), .val (.int keys), .val (.ref b1), .val (.ref b3), .val (.ref pl), .val (.int (0 : Int32)), .unset, .unset]) C d1_84 rfl rfl rfl ?_
  refine own_aload (pc' := 88) C d1_86 rfl rfl rfl ?_
  refine own_lenI (pc' := 89) (v := (0 : Int32)) C d1_88 A_pl rfl rfl ?_
  refine own_istore (pc' := 91) (y := (0 : Int32)) (Ls' := #[.val (.ref pl), .val (.ref ka), .val (.int keys), .val (.ref b1), .val (.ref b3), .val (.ref pl), .val (.int (0 : Int32)), .unset, .unset]) C d1_89 rfl rfl rfl ?_
  refine own_iconst (pc' := 92) (v := (0 : Int32)) C d1_91 own_ki_0 rfl ?_
  refine own_istore (pc' := 94) (y := (0 : Int32)) (Ls' := #[.val (.ref pl), .val (.ref ka), .val (.int keys), .val (.ref b1), .val (.ref b3), .val (.ref pl), .val (.int (0 : Int32)), .val (.int (0 : Int32)), .unset]) C d1_92 rfl rfl rfl ?_
  refine own_iload (pc' := 96) C d1_94 rfl rfl ?_
  refine own_iload (pc' := 98) C d1_96 rfl rfl ?_
  refine own_icmp_ge (pt := 130) (pf := 101) C d1_98 (by decide) (by decide) rfl (fun _ => ?_) (fun q => absurd q (by decide))
  refine own_aload (pc' := 132) C d1_130 rfl rfl rfl ?_
  refine own_aret C rfl rfl d1_132 (by decide) (by decide) ?_
  exact ⟨b3, rfl, sz_b3, K_, A_b3⟩

theorem d1_24 : decode prog_106_method_6_code 24 = .ok (.aload 4, 2) := by decide +kernel
theorem d1_26 : decode prog_106_method_6_code 26 = .ok (.iload 6, 2) := by decide +kernel
theorem d1_28 : decode prog_106_method_6_code 28 = .ok (.iaload, 1) := by decide +kernel
theorem d1_29 : decode prog_106_method_6_code 29 = .ok (.istore 7, 2) := by decide +kernel
theorem d1_31 : decode prog_106_method_6_code 31 = .ok (.aload_n 3, 1) := by decide +kernel
theorem d1_32 : decode prog_106_method_6_code 32 = .ok (.aload_n 1, 1) := by decide +kernel
theorem d1_33 : decode prog_106_method_6_code 33 = .ok (.iload 7, 2) := by decide +kernel
theorem d1_35 : decode prog_106_method_6_code 35 = .ok (.iaload, 1) := by decide +kernel
theorem d1_36 : decode prog_106_method_6_code 36 = .ok (.iconst 1, 1) := by decide +kernel
theorem d1_37 : decode prog_106_method_6_code 37 = .ok (.iadd, 1) := by decide +kernel
theorem d1_38 : decode prog_106_method_6_code 38 = .ok (.dup2, 1) := by decide +kernel
theorem d1_39 : decode prog_106_method_6_code 39 = .ok (.iaload, 1) := by decide +kernel
theorem d1_40 : decode prog_106_method_6_code 40 = .ok (.iconst 1, 1) := by decide +kernel
theorem d1_41 : decode prog_106_method_6_code 41 = .ok (.iadd, 1) := by decide +kernel
theorem d1_42 : decode prog_106_method_6_code 42 = .ok (.iastore, 1) := by decide +kernel
theorem d1_43 : decode prog_106_method_6_code 43 = .ok (.iinc 6 1, 3) := by decide +kernel
theorem d1_46 : decode prog_106_method_6_code 46 = .ok (.goto (-29), 3) := by decide +kernel
theorem d1_101 : decode prog_106_method_6_code 101 = .ok (.aload 5, 2) := by decide +kernel
theorem d1_103 : decode prog_106_method_6_code 103 = .ok (.iload 7, 2) := by decide +kernel
theorem d1_105 : decode prog_106_method_6_code 105 = .ok (.iaload, 1) := by decide +kernel
theorem d1_106 : decode prog_106_method_6_code 106 = .ok (.istore 8, 2) := by decide +kernel
theorem d1_108 : decode prog_106_method_6_code 108 = .ok (.aload 4, 2) := by decide +kernel
theorem d1_110 : decode prog_106_method_6_code 110 = .ok (.aload_n 3, 1) := by decide +kernel
theorem d1_111 : decode prog_106_method_6_code 111 = .ok (.aload_n 1, 1) := by decide +kernel
theorem d1_112 : decode prog_106_method_6_code 112 = .ok (.iload 8, 2) := by decide +kernel
theorem d1_114 : decode prog_106_method_6_code 114 = .ok (.iaload, 1) := by decide +kernel
theorem d1_115 : decode prog_106_method_6_code 115 = .ok (.dup2, 1) := by decide +kernel
theorem d1_116 : decode prog_106_method_6_code 116 = .ok (.iaload, 1) := by decide +kernel
theorem d1_117 : decode prog_106_method_6_code 117 = .ok (.dup_x2, 1) := by decide +kernel
theorem d1_118 : decode prog_106_method_6_code 118 = .ok (.iconst 1, 1) := by decide +kernel
theorem d1_119 : decode prog_106_method_6_code 119 = .ok (.iadd, 1) := by decide +kernel
theorem d1_120 : decode prog_106_method_6_code 120 = .ok (.iastore, 1) := by decide +kernel
theorem d1_121 : decode prog_106_method_6_code 121 = .ok (.iload 8, 2) := by decide +kernel
theorem d1_123 : decode prog_106_method_6_code 123 = .ok (.iastore, 1) := by decide +kernel
theorem d1_124 : decode prog_106_method_6_code 124 = .ok (.iinc 7 1, 3) := by decide +kernel
theorem d1_127 : decode prog_106_method_6_code 127 = .ok (.goto (-33), 3) := by decide +kernel
set_option maxRecDepth 65536 in
set_option maxHeartbeats 40000000 in
theorem own_sort1 (l : Launch) (Z : State) (a0 : Array Value) (hw : ∀ d ∈ tables_1, d.before a0 Z = true) (pl : Addr) (ka : Addr) (keys : Int32) (p0_ y0_ y1_ y2_ y3_ : Int32) (h0 : Heap) (n0 : Nat) (Z_ : n0 ≤ h0.size) (A_pl : AI Z h0 pl .int [p0_]) (A_ka : AI Z h0 ka .int [y0_, y1_, y2_, y3_]) (hk : own_kb keys) (hp_p0_ : own_in4 p0_) (hu_p0_ : own_ub (own_rk [y0_, y1_, y2_, y3_] p0_) keys) (hb_0 : own_inb 1 ((own_pre (own_inc (fun _ => 0) ((own_rk [y0_, y1_, y2_, y3_] p0_).toNatClampNeg + 1))) (own_rk [y0_, y1_, y2_, y3_] p0_).toNatClampNeg)) :
    Met l (⟨"com/example/precedence/precedence/Touches", "sorted", "([I[II)[I"⟩ : MethodName) prog_106_method_6_code 9 (some (.array .int)) [] ({ frames := 0, cells := 2, slots := 10, locals := 0 } : Room) Z n0 #[(.ref pl), (.ref ka), (.int keys)] h0 (fun v h => ∃ o, v = some (.ref o) ∧ h0.size ≤ o ∧ Keep h0 h [] ∧ AI Z h o .int ([(0 : Int32)].set ((own_pre (own_inc (fun _ => 0) ((own_rk [y0_, y1_, y2_, y3_] p0_).toNatClampNeg + 1))) (own_rk [y0_, y1_, y2_, y3_] p0_).toNatClampNeg).toNatClampNeg p0_)) := by
  refine own_met pn1 (fun m => ef1 m pl ka keys) ?_
  intro p e s m below meth c C
  have K_ : Keep h0 h0 [] := Keep.refl _ _
  have hL := own_ks hk
  refine own_iloadN (pc' := 1) C d1_0 rfl rfl ?_
  refine own_iconst (pc' := 2) (v := (1 : Int32)) C d1_1 own_ki_1 rfl ?_
  refine own_iadd (pc' := 3) C d1_2 rfl rfl ?_
  refine own_newI (pc' := 5) (len := (keys + 1).toNatClampNeg) (cap := 9) C d1_3 rfl rfl (hw _ (List.mem_of_getElem? (i := 0) rfl)) (own_ks hk).1 rfl (by omega) (by decide) (by decide) (by decide) rfl ?_
  intro h1 b1 g1 X1 A_b1
  have ne_pl_b1 : pl ≠ b1 := Nat.ne_of_lt (g1 ▸ A_pl.lt)
  have ne_ka_b1 : ka ≠ b1 := Nat.ne_of_lt (g1 ▸ A_ka.lt)
  replace A_pl := A_pl.ext X1
  replace A_ka := A_ka.ext X1
  have g_b1 : n0 ≤ b1 := g1 ▸ Z_
  have sz_b1 : h0.size ≤ b1 := g1 ▸ K_.1
  replace K_ := K_.ext X1
  replace Z_ := Nat.le_trans Z_ X1.1
  rw [own_tab0] at A_b1
  refine own_astoreN (pc' := 6) (Ls' := #[.val (.ref pl), .val (.ref ka), .val (.int keys), .val (.ref b1), .unset, .unset, .unset, .unset, .unset]) C d1_5 rfl rfl rfl ?_
  refine own_aloadN (pc' := 7) C d1_6 rfl rfl rfl ?_
  refine own_astore (pc' := 9) (Ls' := #[.val (.ref pl), .val (.ref ka), .val (.int keys), .val (.ref b1), .val (.ref pl), .unset, .unset, .unset, .unset]) C d1_7 rfl rfl rfl ?_
  refine own_aload (pc' := 11) C d1_9 rfl rfl rfl ?_
  refine own_lenI (pc' := 12) (v := (1 : Int32)) C d1_11 A_pl rfl rfl ?_
  refine own_istore (pc' := 14) (y := (1 : Int32)) (Ls' := #[.val (.ref pl), .val (.ref ka), .val (.int keys), .val (.ref b1), .val (.ref pl), .val (.int (1 : Int32)), .unset, .unset, .unset]) C d1_12 rfl rfl rfl ?_
  refine own_iconst (pc' := 15) (v := (0 : Int32)) C d1_14 own_ki_0 rfl ?_
  refine own_istore (pc' := 17) (y := (0 : Int32)) (Ls' := #[.val (.ref pl), .val (.ref ka), .val (.int keys), .val (.ref b1), .val (.ref pl), .val (.int (1 : Int32)), .val (.int (0 : Int32)), .unset, .unset]) C d1_15 rfl rfl rfl ?_
  refine own_iload (pc' := 19) C d1_17 rfl rfl ?_
  refine own_iload (pc' := 21) C d1_19 rfl rfl ?_
  refine own_icmp_ge (pt := 49) (pf := 24) C d1_21 (by decide) (by decide) rfl (fun q => absurd (by decide) q) (fun _ => ?_)
  refine own_aload (pc' := 26) C d1_24 rfl rfl rfl ?_
  refine own_iload (pc' := 28) C d1_26 rfl rfl ?_
  refine own_iaload (pc' := 29) (v := p0_) (i := 0) C d1_28 A_pl (by decide) rfl rfl rfl ?_
  refine own_istore (pc' := 31) (y := p0_) (Ls' := #[.val (.ref pl), .val (.ref ka), .val (.int keys), .val (.ref b1), .val (.ref pl), .val (.int (1 : Int32)), .val (.int (0 : Int32)), .val (.int p0_), .unset]) C d1_29 rfl rfl rfl ?_
  refine own_aloadN (pc' := 32) C d1_31 rfl rfl rfl ?_
  refine own_aloadN (pc' := 33) C d1_32 rfl rfl rfl ?_
  refine own_iload (pc' := 35) C d1_33 rfl rfl ?_
  refine own_iaload (pc' := 36) (v := (own_rk [y0_, y1_, y2_, y3_] p0_)) (i := p0_.toNatClampNeg) C d1_35 A_ka hp_p0_.1 rfl (own_get4 hp_p0_) rfl ?_
  refine own_iconst (pc' := 37) (v := (1 : Int32)) C d1_36 own_ki_1 rfl ?_
  refine own_iadd (pc' := 38) C d1_37 rfl rfl ?_
  refine own_dup2 (pc' := 39) C d1_38 rfl rfl rfl ?_
  refine own_iaload (pc' := 40) (v := ((fun _ => 0) ((own_rk [y0_, y1_, y2_, y3_] p0_).toNatClampNeg + 1))) (i := ((own_rk [y0_, y1_, y2_, y3_] p0_).toNatClampNeg + 1)) C d1_39 A_b1 (own_sc hk hu_p0_).2.1 (own_sc hk hu_p0_).2.2.1 (own_tabget (own_sc hk hu_p0_).2.2.2.2) rfl ?_
  refine own_iconst (pc' := 41) (v := (1 : Int32)) C d1_40 own_ki_1 rfl ?_
  refine own_iadd (pc' := 42) C d1_41 rfl rfl ?_
  refine own_iastore (pc' := 43) (i := ((own_rk [y0_, y1_, y2_, y3_] p0_).toNatClampNeg + 1)) (ys := (own_tab (keys + 1).toNatClampNeg (own_inc (fun _ => 0) ((own_rk [y0_, y1_, y2_, y3_] p0_).toNatClampNeg + 1)))) C d1_42 A_b1 (own_sc hk hu_p0_).2.1 (own_sc hk hu_p0_).2.2.1 (by rw [own_tablen]; exact (own_sc hk hu_p0_).2.2.2.2) own_incset g_b1 rfl ?_
  intro h2 W2 A2_
  replace A_pl := A_pl.other W2 ne_pl_b1
  replace A_ka := A_ka.other W2 ne_ka_b1
  replace A_b1 := A2_
  replace Z_ : n0 ≤ _ := Nat.le_trans Z_ (Nat.le_of_eq W2.size.symm)
  replace K_ := K_.wr W2 (Or.inr sz_b1)
  refine own_iinc (pc' := 46) (v := (1 : Int32)) (Ls' := #[.val (.ref pl), .val (.ref ka), .val (.int keys), .val (.ref b1), .val (.ref pl), .val (.int (1 : Int32)), .val (.int (1 : Int32)), .val (.int p0_), .unset]) C d1_43 rfl (by decide) rfl rfl ?_
  refine own_goto (pc' := 17) C d1_46 (by decide) (by decide) ?_
  refine own_iload (pc' := 19) C d1_17 rfl rfl ?_
  refine own_iload (pc' := 21) C d1_19 rfl rfl ?_
  refine own_icmp_ge (pt := 49) (pf := 24) C d1_21 (by decide) (by decide) rfl (fun _ => ?_) (fun q => absurd q (by decide))
  refine own_iconst (pc' := 50) (v := (0 : Int32)) C d1_49 own_ki_0 rfl ?_
  refine own_istore (pc' := 52) (y := (0 : Int32)) (Ls' := #[.val (.ref pl), .val (.ref ka), .val (.int keys), .val (.ref b1), .val (.int (0 : Int32)), .val (.int (1 : Int32)), .val (.int (1 : Int32)), .val (.int p0_), .unset]) C d1_50 rfl rfl rfl ?_
  refine own_loop2 hw C hk g_b1 keys.toInt.toNat h2 0 Z_ (by decide) (by have := hk.1; have k0 : (0 : Int32).toInt = 0 := rfl; omega) (by rw [show (0 : Int32).toNatClampNeg = 0 from rfl, own_mid0]; exact A_b1) ?_
  intro h3 K3 A3_
  replace A_pl := A_pl.keep K3 (ninS ne_pl_b1 nin0)
  replace A_ka := A_ka.keep K3 (ninS ne_ka_b1 nin0)
  replace Z_ := Nat.le_trans Z_ K3.1
  replace K_ := K_.trans K3 (allS (Or.inr sz_b1) all0)
  replace A_b1 := A3_
  refine own_aloadN (pc' := 78) C d1_77 rfl rfl rfl ?_
  refine own_lenI (pc' := 79) (v := (1 : Int32)) C d1_78 A_pl rfl rfl ?_
  refine own_newI (pc' := 81) (len := 1) (cap := 1) C d1_79 rfl rfl (hw _ (List.mem_of_getElem? (i := 0) rfl)) (by decide) rfl (by decide) (by decide) (by decide) (by decide) rfl ?_
  intro h4 b4 g4 X4 A_b4
  have ne_pl_b4 : pl ≠ b4 := Nat.ne_of_lt (g4 ▸ A_pl.lt)
  have ne_ka_b4 : ka ≠ b4 := Nat.ne_of_lt (g4 ▸ A_ka.lt)
  have ne_b1_b4 : b1 ≠ b4 := Nat.ne_of_lt (g4 ▸ A_b1.lt)
  replace A_pl := A_pl.ext X4
  replace A_ka := A_ka.ext X4
  replace A_b1 := A_b1.ext X4
  have g_b4 : n0 ≤ b4 := g4 ▸ Z_
  have sz_b4 : h0.size ≤ b4 := g4 ▸ K_.1
  replace K_ := K_.ext X4
  replace Z_ := Nat.le_trans Z_ X4.1
  replace A_b4 : AI Z h4 b4 .int [(0 : Int32)] := A_b4
  refine own_astore (pc' := 83) (Ls' := #[.val (.ref pl), .val (.ref ka), .val (.int keys), .val (.ref b1), .val (.ref b4), .val (.int (1 : Int32)), .val (.int (1 : Int32)), .val (.int p0_), .unset]) C d1_81 rfl rfl rfl ?_
  refine own_aloadN (pc' := 84) C d1_83 rfl rfl rfl ?_
  refine own_astore (pc' := 86) (Ls' := #[.val (.ref pl), .val (.ref ka), .val (.int keys), .val (.ref b1), .val (.ref b4), .val (.ref pl), .val (.int (1 : Int32)), .val (.int p0_), .unset]) C d1_84 rfl rfl rfl ?_
  refine own_aload (pc' := 88) C d1_86 rfl rfl rfl ?_
  refine own_lenI (pc' := 89) (v := (1 : Int32)) C d1_88 A_pl rfl rfl ?_
  refine own_istore (pc' := 91) (y := (1 : Int32)) (Ls' := #[.val (.ref pl), .val (.ref ka), .val (.int keys), .val (.ref b1), .val (.ref b4), .val (.ref pl), .val (.int (1 : Int32)), .val (.int p0_), .unset]) C d1_89 rfl rfl rfl ?_
  refine own_iconst (pc' := 92) (v := (0 : Int32)) C d1_91 own_ki_0 rfl ?_
  refine own_istore (pc' := 94) (y := (0 : Int32)) (Ls' := #[.val (.ref pl), .val (.ref ka), .val (.int keys), .val (.ref b1), .val (.ref b4), .val (.ref pl), .val (.int (1 : Int32)), .val (.int (0 : Int32)), .unset]) C d1_92 rfl rfl rfl ?_
  refine own_iload (pc' := 96) C d1_94 rfl rfl ?_
  refine own_iload (pc' := 98) C d1_96 rfl rfl ?_
  refine own_icmp_ge (pt := 130) (pf := 101) C d1_98 (by decide) (by decide) rfl (fun q => absurd (by decide) q) (fun _ => ?_)
  refine own_aload (pc' := 103) C d1_101 rfl rfl rfl ?_
  refine own_iload (pc' := 105) C d1_103 rfl rfl ?_
  refine own_iaload (pc' := 106) (v := p0_) (i := 0) C d1_105 A_pl (by decide) rfl rfl rfl ?_
  refine own_istore (pc' := 108) (y := p0_) (Ls' := #[.val (.ref pl), .val (.ref ka), .val (.int keys), .val (.ref b1), .val (.ref b4), .val (.ref pl), .val (.int (1 : Int32)), .val (.int (0 : Int32)), .val (.int p0_)]) C d1_106 rfl rfl rfl ?_
  refine own_aload (pc' := 110) C d1_108 rfl rfl rfl ?_
  refine own_aloadN (pc' := 111) C d1_110 rfl rfl rfl ?_
  refine own_aloadN (pc' := 112) C d1_111 rfl rfl rfl ?_
  refine own_iload (pc' := 114) C d1_112 rfl rfl ?_
  refine own_iaload (pc' := 115) (v := (own_rk [y0_, y1_, y2_, y3_] p0_)) (i := p0_.toNatClampNeg) C d1_114 A_ka hp_p0_.1 rfl (own_get4 hp_p0_) rfl ?_
  refine own_dup2 (pc' := 116) C d1_115 rfl rfl rfl ?_
  refine own_iaload (pc' := 117) (v := ((own_pre (own_inc (fun _ => 0) ((own_rk [y0_, y1_, y2_, y3_] p0_).toNatClampNeg + 1))) (own_rk [y0_, y1_, y2_, y3_] p0_).toNatClampNeg)) (i := (own_rk [y0_, y1_, y2_, y3_] p0_).toNatClampNeg) C d1_116 A_b1 (own_sc hk hu_p0_).1 rfl (own_tabget (own_sc hk hu_p0_).2.2.2.1) rfl ?_
  refine own_dupX2 (pc' := 118) C d1_117 rfl rfl rfl rfl ?_
  refine own_iconst (pc' := 119) (v := (1 : Int32)) C d1_118 own_ki_1 rfl ?_
  refine own_iadd (pc' := 120) C d1_119 rfl rfl ?_
  refine own_iastore (pc' := 121) (i := (own_rk [y0_, y1_, y2_, y3_] p0_).toNatClampNeg) (ys := (own_tab (keys + 1).toNatClampNeg (own_inc (own_pre (own_inc (fun _ => 0) ((own_rk [y0_, y1_, y2_, y3_] p0_).toNatClampNeg + 1))) (own_rk [y0_, y1_, y2_, y3_] p0_).toNatClampNeg))) C d1_120 A_b1 (own_sc hk hu_p0_).1 rfl (by rw [own_tablen]; exact (own_sc hk hu_p0_).2.2.2.1) own_incset g_b1 rfl ?_
  intro h5 W5 A5_
  replace A_pl := A_pl.other W5 ne_pl_b1
  replace A_ka := A_ka.other W5 ne_ka_b1
  replace A_b4 := A_b4.other W5 (Ne.symm ne_b1_b4)
  replace A_b1 := A5_
  replace Z_ : n0 ≤ _ := Nat.le_trans Z_ (Nat.le_of_eq W5.size.symm)
  replace K_ := K_.wr W5 (Or.inr sz_b1)
  refine own_iload (pc' := 123) C d1_121 rfl rfl ?_
  refine own_iastore (pc' := 124) (i := ((own_pre (own_inc (fun _ => 0) ((own_rk [y0_, y1_, y2_, y3_] p0_).toNatClampNeg + 1))) (own_rk [y0_, y1_, y2_, y3_] p0_).toNatClampNeg).toNatClampNeg) (ys := ([(0 : Int32)].set ((own_pre (own_inc (fun _ => 0) ((own_rk [y0_, y1_, y2_, y3_] p0_).toNatClampNeg + 1))) (own_rk [y0_, y1_, y2_, y3_] p0_).toNatClampNeg).toNatClampNeg p0_)) C d1_123 A_b4 hb_0.1 rfl (by simpa using hb_0.2) rfl g_b4 rfl ?_
  intro h6 W6 A6_
  replace A_pl := A_pl.other W6 ne_pl_b4
  replace A_ka := A_ka.other W6 ne_ka_b4
  replace A_b1 := A_b1.other W6 ne_b1_b4
  replace A_b4 := A6_
  replace Z_ : n0 ≤ _ := Nat.le_trans Z_ (Nat.le_of_eq W6.size.symm)
  replace K_ := K_.wr W6 (Or.inr sz_b4)
  refine own_iinc (pc' := 127) (v := (1 : Int32)) (Ls' := #[.val (.ref pl), .val (.ref ka), .val (.int keys), .val (.ref b1), .val (.ref b4), .val (.ref pl), .val (.int (1 : Int32)), .val (.int (1 : Int32)), .val (.int p0_)]) C d1_124 rfl (by decide) rfl rfl ?_
  refine own_goto (pc' := 94) C d1_127 (by decide) (by decide) ?_
  refine own_iload (pc' := 96) C d1_94 rfl rfl ?_
  refine own_iload (pc' := 98) C d1_96 rfl rfl ?_
  refine own_icmp_ge (pt := 130) (pf := 101) C d1_98 (by decide) (by decide) rfl (fun _ => ?_) (fun q => absurd q (by decide))
  refine own_aload (pc' := 132) C d1_130 rfl rfl rfl ?_
  refine own_aret C rfl rfl d1_132 (by decide) (by decide) ?_
  exact ⟨b4, rfl, sz_b4, K_, A_b4⟩

set_option maxRecDepth 65536 in
set_option maxHeartbeats 40000000 in
theorem own_sort2 (l : Launch) (Z : State) (a0 : Array Value) (hw : ∀ d ∈ tables_1, d.before a0 Z = true) (pl : Addr) (ka : Addr) (keys : Int32) (p0_ p1_ y0_ y1_ y2_ y3_ : Int32) (h0 : Heap) (n0 : Nat) (Z_ : n0 ≤ h0.size) (A_pl : AI Z h0 pl .int [p0_, p1_]) (A_ka : AI Z h0 ka .int [y0_, y1_, y2_, y3_]) (hk : own_kb keys) (hp_p0_ : own_in4 p0_) (hu_p0_ : own_ub (own_rk [y0_, y1_, y2_, y3_] p0_) keys) (hp_p1_ : own_in4 p1_) (hu_p1_ : own_ub (own_rk [y0_, y1_, y2_, y3_] p1_) keys) (hb_0 : own_inb 2 ((own_pre (own_inc (own_inc (fun _ => 0) ((own_rk [y0_, y1_, y2_, y3_] p0_).toNatClampNeg + 1)) ((own_rk [y0_, y1_, y2_, y3_] p1_).toNatClampNeg + 1))) (own_rk [y0_, y1_, y2_, y3_] p0_).toNatClampNeg)) (hb_1 : own_inb 2 ((own_inc (own_pre (own_inc (own_inc (fun _ => 0) ((own_rk [y0_, y1_, y2_, y3_] p0_).toNatClampNeg + 1)) ((own_rk [y0_, y1_, y2_, y3_] p1_).toNatClampNeg + 1))) (own_rk [y0_, y1_, y2_, y3_] p0_).toNatClampNeg) (own_rk [y0_, y1_, y2_, y3_] p1_).toNatClampNeg)) :
    Met l (⟨"com/example/precedence/precedence/Touches", "sorted", "([I[II)[I"⟩ : MethodName) prog_106_method_6_code 9 (some (.array .int)) [] ({ frames := 0, cells := 2, slots := 11, locals := 0 } : Room) Z n0 #[(.ref pl), (.ref ka), (.int keys)] h0 (fun v h => ∃ o, v = some (.ref o) ∧ h0.size ≤ o ∧ Keep h0 h [] ∧ AI Z h o .int (([(0 : Int32), (0 : Int32)].set ((own_pre (own_inc (own_inc (fun _ => 0) ((own_rk [y0_, y1_, y2_, y3_] p0_).toNatClampNeg + 1)) ((own_rk [y0_, y1_, y2_, y3_] p1_).toNatClampNeg + 1))) (own_rk [y0_, y1_, y2_, y3_] p0_).toNatClampNeg).toNatClampNeg p0_).set ((own_inc (own_pre (own_inc (own_inc (fun _ => 0) ((own_rk [y0_, y1_, y2_, y3_] p0_).toNatClampNeg + 1)) ((own_rk [y0_, y1_, y2_, y3_] p1_).toNatClampNeg + 1))) (own_rk [y0_, y1_, y2_, y3_] p0_).toNatClampNeg) (own_rk [y0_, y1_, y2_, y3_] p1_).toNatClampNeg).toNatClampNeg p1_)) := by
  refine own_met pn1 (fun m => ef1 m pl ka keys) ?_
  intro p e s m below meth c C
  have K_ : Keep h0 h0 [] := Keep.refl _ _
  have hL := own_ks hk
  refine own_iloadN (pc' := 1) C d1_0 rfl rfl ?_
  refine own_iconst (pc' := 2) (v := (1 : Int32)) C d1_1 own_ki_1 rfl ?_
  refine own_iadd (pc' := 3) C d1_2 rfl rfl ?_
  refine own_newI (pc' := 5) (len := (keys + 1).toNatClampNeg) (cap := 9) C d1_3 rfl rfl (hw _ (List.mem_of_getElem? (i := 0) rfl)) (own_ks hk).1 rfl (by omega) (by decide) (by decide) (by decide) rfl ?_
  intro h1 b1 g1 X1 A_b1
  have ne_pl_b1 : pl ≠ b1 := Nat.ne_of_lt (g1 ▸ A_pl.lt)
  have ne_ka_b1 : ka ≠ b1 := Nat.ne_of_lt (g1 ▸ A_ka.lt)
  replace A_pl := A_pl.ext X1
  replace A_ka := A_ka.ext X1
  have g_b1 : n0 ≤ b1 := g1 ▸ Z_
  have sz_b1 : h0.size ≤ b1 := g1 ▸ K_.1
  replace K_ := K_.ext X1
  replace Z_ := Nat.le_trans Z_ X1.1
  rw [own_tab0] at A_b1
  refine own_astoreN (pc' := 6) (Ls' := #[.val (.ref pl), .val (.ref ka), .val (.int keys), .val (.ref b1), .unset, .unset, .unset, .unset, .unset]) C d1_5 rfl rfl rfl ?_
  refine own_aloadN (pc' := 7) C d1_6 rfl rfl rfl ?_
  refine own_astore (pc' := 9) (Ls' := #[.val (.ref pl), .val (.ref ka), .val (.int keys), .val (.ref b1), .val (.ref pl), .unset, .unset, .unset, .unset]) C d1_7 rfl rfl rfl ?_
  refine own_aload (pc' := 11) C d1_9 rfl rfl rfl ?_
  refine own_lenI (pc' := 12) (v := (2 : Int32)) C d1_11 A_pl rfl rfl ?_
  refine own_istore (pc' := 14) (y := (2 : Int32)) (Ls' := #[.val (.ref pl), .val (.ref ka), .val (.int keys), .val (.ref b1), .val (.ref pl), .val (.int (2 : Int32)), .unset, .unset, .unset]) C d1_12 rfl rfl rfl ?_
  refine own_iconst (pc' := 15) (v := (0 : Int32)) C d1_14 own_ki_0 rfl ?_
  refine own_istore (pc' := 17) (y := (0 : Int32)) (Ls' := #[.val (.ref pl), .val (.ref ka), .val (.int keys), .val (.ref b1), .val (.ref pl), .val (.int (2 : Int32)), .val (.int (0 : Int32)), .unset, .unset]) C d1_15 rfl rfl rfl ?_
  refine own_iload (pc' := 19) C d1_17 rfl rfl ?_
  refine own_iload (pc' := 21) C d1_19 rfl rfl ?_
  refine own_icmp_ge (pt := 49) (pf := 24) C d1_21 (by decide) (by decide) rfl (fun q => absurd (by decide) q) (fun _ => ?_)
  refine own_aload (pc' := 26) C d1_24 rfl rfl rfl ?_
  refine own_iload (pc' := 28) C d1_26 rfl rfl ?_
  refine own_iaload (pc' := 29) (v := p0_) (i := 0) C d1_28 A_pl (by decide) rfl rfl rfl ?_
  refine own_istore (pc' := 31) (y := p0_) (Ls' := #[.val (.ref pl), .val (.ref ka), .val (.int keys), .val (.ref b1), .val (.ref pl), .val (.int (2 : Int32)), .val (.int (0 : Int32)), .val (.int p0_), .unset]) C d1_29 rfl rfl rfl ?_
  refine own_aloadN (pc' := 32) C d1_31 rfl rfl rfl ?_
  refine own_aloadN (pc' := 33) C d1_32 rfl rfl rfl ?_
  refine own_iload (pc' := 35) C d1_33 rfl rfl ?_
  refine own_iaload (pc' := 36) (v := (own_rk [y0_, y1_, y2_, y3_] p0_)) (i := p0_.toNatClampNeg) C d1_35 A_ka hp_p0_.1 rfl (own_get4 hp_p0_) rfl ?_
  refine own_iconst (pc' := 37) (v := (1 : Int32)) C d1_36 own_ki_1 rfl ?_
  refine own_iadd (pc' := 38) C d1_37 rfl rfl ?_
  refine own_dup2 (pc' := 39) C d1_38 rfl rfl rfl ?_
  refine own_iaload (pc' := 40) (v := ((fun _ => 0) ((own_rk [y0_, y1_, y2_, y3_] p0_).toNatClampNeg + 1))) (i := ((own_rk [y0_, y1_, y2_, y3_] p0_).toNatClampNeg + 1)) C d1_39 A_b1 (own_sc hk hu_p0_).2.1 (own_sc hk hu_p0_).2.2.1 (own_tabget (own_sc hk hu_p0_).2.2.2.2) rfl ?_
  refine own_iconst (pc' := 41) (v := (1 : Int32)) C d1_40 own_ki_1 rfl ?_
  refine own_iadd (pc' := 42) C d1_41 rfl rfl ?_
  refine own_iastore (pc' := 43) (i := ((own_rk [y0_, y1_, y2_, y3_] p0_).toNatClampNeg + 1)) (ys := (own_tab (keys + 1).toNatClampNeg (own_inc (fun _ => 0) ((own_rk [y0_, y1_, y2_, y3_] p0_).toNatClampNeg + 1)))) C d1_42 A_b1 (own_sc hk hu_p0_).2.1 (own_sc hk hu_p0_).2.2.1 (by rw [own_tablen]; exact (own_sc hk hu_p0_).2.2.2.2) own_incset g_b1 rfl ?_
  intro h2 W2 A2_
  replace A_pl := A_pl.other W2 ne_pl_b1
  replace A_ka := A_ka.other W2 ne_ka_b1
  replace A_b1 := A2_
  replace Z_ : n0 ≤ _ := Nat.le_trans Z_ (Nat.le_of_eq W2.size.symm)
  replace K_ := K_.wr W2 (Or.inr sz_b1)
  refine own_iinc (pc' := 46) (v := (1 : Int32)) (Ls' := #[.val (.ref pl), .val (.ref ka), .val (.int keys), .val (.ref b1), .val (.ref pl), .val (.int (2 : Int32)), .val (.int (1 : Int32)), .val (.int p0_), .unset]) C d1_43 rfl (by decide) rfl rfl ?_
  refine own_goto (pc' := 17) C d1_46 (by decide) (by decide) ?_
  refine own_iload (pc' := 19) C d1_17 rfl rfl ?_
  refine own_iload (pc' := 21) C d1_19 rfl rfl ?_
  refine own_icmp_ge (pt := 49) (pf := 24) C d1_21 (by decide) (by decide) rfl (fun q => absurd (by decide) q) (fun _ => ?_)
  refine own_aload (pc' := 26) C d1_24 rfl rfl rfl ?_
  refine own_iload (pc' := 28) C d1_26 rfl rfl ?_
  refine own_iaload (pc' := 29) (v := p1_) (i := 1) C d1_28 A_pl (by decide) rfl rfl rfl ?_
  refine own_istore (pc' := 31) (y := p1_) (Ls' := #[.val (.ref pl), .val (.ref ka), .val (.int keys), .val (.ref b1), .val (.ref pl), .val (.int (2 : Int32)), .val (.int (1 : Int32)), .val (.int p1_), .unset]) C d1_29 rfl rfl rfl ?_
  refine own_aloadN (pc' := 32) C d1_31 rfl rfl rfl ?_
  refine own_aloadN (pc' := 33) C d1_32 rfl rfl rfl ?_
  refine own_iload (pc' := 35) C d1_33 rfl rfl ?_
  refine own_iaload (pc' := 36) (v := (own_rk [y0_, y1_, y2_, y3_] p1_)) (i := p1_.toNatClampNeg) C d1_35 A_ka hp_p1_.1 rfl (own_get4 hp_p1_) rfl ?_
  refine own_iconst (pc' := 37) (v := (1 : Int32)) C d1_36 own_ki_1 rfl ?_
  refine own_iadd (pc' := 38) C d1_37 rfl rfl ?_
  refine own_dup2 (pc' := 39) C d1_38 rfl rfl rfl ?_
  refine own_iaload (pc' := 40) (v := ((own_inc (fun _ => 0) ((own_rk [y0_, y1_, y2_, y3_] p0_).toNatClampNeg + 1)) ((own_rk [y0_, y1_, y2_, y3_] p1_).toNatClampNeg + 1))) (i := ((own_rk [y0_, y1_, y2_, y3_] p1_).toNatClampNeg + 1)) C d1_39 A_b1 (own_sc hk hu_p1_).2.1 (own_sc hk hu_p1_).2.2.1 (own_tabget (own_sc hk hu_p1_).2.2.2.2) rfl ?_
  refine own_iconst (pc' := 41) (v := (1 : Int32)) C d1_40 own_ki_1 rfl ?_
  refine own_iadd (pc' := 42) C d1_41 rfl rfl ?_
  refine own_iastore (pc' := 43) (i := ((own_rk [y0_, y1_, y2_, y3_] p1_).toNatClampNeg + 1)) (ys := (own_tab (keys + 1).toNatClampNeg (own_inc (own_inc (fun _ => 0) ((own_rk [y0_, y1_, y2_, y3_] p0_).toNatClampNeg + 1)) ((own_rk [y0_, y1_, y2_, y3_] p1_).toNatClampNeg + 1)))) C d1_42 A_b1 (own_sc hk hu_p1_).2.1 (own_sc hk hu_p1_).2.2.1 (by rw [own_tablen]; exact (own_sc hk hu_p1_).2.2.2.2) own_incset g_b1 rfl ?_
  intro h3 W3 A3_
  replace A_pl := A_pl.other W3 ne_pl_b1
  replace A_ka := A_ka.other W3 ne_ka_b1
  replace A_b1 := A3_
  replace Z_ : n0 ≤ _ := Nat.le_trans Z_ (Nat.le_of_eq W3.size.symm)
  replace K_ := K_.wr W3 (Or.inr sz_b1)
  refine own_iinc (pc' := 46) (v := (2 : Int32)) (Ls' := #[.val (.ref pl), .val (.ref ka), .val (.int keys), .val (.ref b1), .val (.ref pl), .val (.int (2 : Int32)), .val (.int (2 : Int32)), .val (.int p1_), .unset]) C d1_43 rfl (by decide) rfl rfl ?_
  refine own_goto (pc' := 17) C d1_46 (by decide) (by decide) ?_
  refine own_iload (pc' := 19) C d1_17 rfl rfl ?_
  refine own_iload (pc' := 21) C d1_19 rfl rfl ?_
  refine own_icmp_ge (pt := 49) (pf := 24) C d1_21 (by decide) (by decide) rfl (fun _ => ?_) (fun q => absurd q (by decide))
  refine own_iconst (pc' := 50) (v := (0 : Int32)) C d1_49 own_ki_0 rfl ?_
  refine own_istore (pc' := 52) (y := (0 : Int32)) (Ls' := #[.val (.ref pl), .val (.ref ka), .val (.int keys), .val (.ref b1), .val (.int (0 : Int32)), .val (.int (2 : Int32)), .val (.int (2 : Int32)), .val (.int p1_), .unset]) C d1_50 rfl rfl rfl ?_
  refine own_loop2 hw C hk g_b1 keys.toInt.toNat h3 0 Z_ (by decide) (by have := hk.1; have k0 : (0 : Int32).toInt = 0 := rfl; omega) (by rw [show (0 : Int32).toNatClampNeg = 0 from rfl, own_mid0]; exact A_b1) ?_
  intro h4 K4 A4_
  replace A_pl := A_pl.keep K4 (ninS ne_pl_b1 nin0)
  replace A_ka := A_ka.keep K4 (ninS ne_ka_b1 nin0)
  replace Z_ := Nat.le_trans Z_ K4.1
  replace K_ := K_.trans K4 (allS (Or.inr sz_b1) all0)
  replace A_b1 := A4_
  refine own_aloadN (pc' := 78) C d1_77 rfl rfl rfl ?_
  refine own_lenI (pc' := 79) (v := (2 : Int32)) C d1_78 A_pl rfl rfl ?_
  refine own_newI (pc' := 81) (len := 2) (cap := 2) C d1_79 rfl rfl (hw _ (List.mem_of_getElem? (i := 0) rfl)) (by decide) rfl (by decide) (by decide) (by decide) (by decide) rfl ?_
  intro h5 b5 g5 X5 A_b5
  have ne_pl_b5 : pl ≠ b5 := Nat.ne_of_lt (g5 ▸ A_pl.lt)
  have ne_ka_b5 : ka ≠ b5 := Nat.ne_of_lt (g5 ▸ A_ka.lt)
  have ne_b1_b5 : b1 ≠ b5 := Nat.ne_of_lt (g5 ▸ A_b1.lt)
  replace A_pl := A_pl.ext X5
  replace A_ka := A_ka.ext X5
  replace A_b1 := A_b1.ext X5
  have g_b5 : n0 ≤ b5 := g5 ▸ Z_
  have sz_b5 : h0.size ≤ b5 := g5 ▸ K_.1
  replace K_ := K_.ext X5
  replace Z_ := Nat.le_trans Z_ X5.1
  replace A_b5 : AI Z h5 b5 .int [(0 : Int32), (0 : Int32)] := A_b5
  refine own_astore (pc' := 83) (Ls' := #[.val (.ref pl), .val (.ref ka), .val (.int keys), .val (.ref b1), .val (.ref b5), .val (.int (2 : Int32)), .val (.int (2 : Int32)), .val (.int p1_), .unset]) C d1_81 rfl rfl rfl ?_
  refine own_aloadN (pc' := 84) C d1_83 rfl rfl rfl ?_
  refine own_astore (pc' := 86) (Ls' := #[.val (.ref pl), .val (.ref ka), .val (.int keys), .val (.ref b1), .val (.ref b5), .val (.ref pl), .val (.int (2 : Int32)), .val (.int p1_), .unset]) C d1_84 rfl rfl rfl ?_
  refine own_aload (pc' := 88) C d1_86 rfl rfl rfl ?_
  refine own_lenI (pc' := 89) (v := (2 : Int32)) C d1_88 A_pl rfl rfl ?_
  refine own_istore (pc' := 91) (y := (2 : Int32)) (Ls' := #[.val (.ref pl), .val (.ref ka), .val (.int keys), .val (.ref b1), .val (.ref b5), .val (.ref pl), .val (.int (2 : Int32)), .val (.int p1_), .unset]) C d1_89 rfl rfl rfl ?_
  refine own_iconst (pc' := 92) (v := (0 : Int32)) C d1_91 own_ki_0 rfl ?_
  refine own_istore (pc' := 94) (y := (0 : Int32)) (Ls' := #[.val (.ref pl), .val (.ref ka), .val (.int keys), .val (.ref b1), .val (.ref b5), .val (.ref pl), .val (.int (2 : Int32)), .val (.int (0 : Int32)), .unset]) C d1_92 rfl rfl rfl ?_
  refine own_iload (pc' := 96) C d1_94 rfl rfl ?_
  refine own_iload (pc' := 98) C d1_96 rfl rfl ?_
  refine own_icmp_ge (pt := 130) (pf := 101) C d1_98 (by decide) (by decide) rfl (fun q => absurd (by decide) q) (fun _ => ?_)
  refine own_aload (pc' := 103) C d1_101 rfl rfl rfl ?_
  refine own_iload (pc' := 105) C d1_103 rfl rfl ?_
  refine own_iaload (pc' := 106) (v := p0_) (i := 0) C d1_105 A_pl (by decide) rfl rfl rfl ?_
  refine own_istore (pc' := 108) (y := p0_) (Ls' := #[.val (.ref pl), .val (.ref ka), .val (.int keys), .val (.ref b1), .val (.ref b5), .val (.ref pl), .val (.int (2 : Int32)), .val (.int (0 : Int32)), .val (.int p0_)]) C d1_106 rfl rfl rfl ?_
  refine own_aload (pc' := 110) C d1_108 rfl rfl rfl ?_
  refine own_aloadN (pc' := 111) C d1_110 rfl rfl rfl ?_
  refine own_aloadN (pc' := 112) C d1_111 rfl rfl rfl ?_
  refine own_iload (pc' := 114) C d1_112 rfl rfl ?_
  refine own_iaload (pc' := 115) (v := (own_rk [y0_, y1_, y2_, y3_] p0_)) (i := p0_.toNatClampNeg) C d1_114 A_ka hp_p0_.1 rfl (own_get4 hp_p0_) rfl ?_
  refine own_dup2 (pc' := 116) C d1_115 rfl rfl rfl ?_
  refine own_iaload (pc' := 117) (v := ((own_pre (own_inc (own_inc (fun _ => 0) ((own_rk [y0_, y1_, y2_, y3_] p0_).toNatClampNeg + 1)) ((own_rk [y0_, y1_, y2_, y3_] p1_).toNatClampNeg + 1))) (own_rk [y0_, y1_, y2_, y3_] p0_).toNatClampNeg)) (i := (own_rk [y0_, y1_, y2_, y3_] p0_).toNatClampNeg) C d1_116 A_b1 (own_sc hk hu_p0_).1 rfl (own_tabget (own_sc hk hu_p0_).2.2.2.1) rfl ?_
  refine own_dupX2 (pc' := 118) C d1_117 rfl rfl rfl rfl ?_
  refine own_iconst (pc' := 119) (v := (1 : Int32)) C d1_118 own_ki_1 rfl ?_
  refine own_iadd (pc' := 120) C d1_119 rfl rfl ?_
  refine own_iastore (pc' := 121) (i := (own_rk [y0_, y1_, y2_, y3_] p0_).toNatClampNeg) (ys := (own_tab (keys + 1).toNatClampNeg (own_inc (own_pre (own_inc (own_inc (fun _ => 0) ((own_rk [y0_, y1_, y2_, y3_] p0_).toNatClampNeg + 1)) ((own_rk [y0_, y1_, y2_, y3_] p1_).toNatClampNeg + 1))) (own_rk [y0_, y1_, y2_, y3_] p0_).toNatClampNeg))) C d1_120 A_b1 (own_sc hk hu_p0_).1 rfl (by rw [own_tablen]; exact (own_sc hk hu_p0_).2.2.2.1) own_incset g_b1 rfl ?_
  intro h6 W6 A6_
  replace A_pl := A_pl.other W6 ne_pl_b1
  replace A_ka := A_ka.other W6 ne_ka_b1
  replace A_b5 := A_b5.other W6 (Ne.symm ne_b1_b5)
  replace A_b1 := A6_
  replace Z_ : n0 ≤ _ := Nat.le_trans Z_ (Nat.le_of_eq W6.size.symm)
  replace K_ := K_.wr W6 (Or.inr sz_b1)
  refine own_iload (pc' := 123) C d1_121 rfl rfl ?_
  refine own_iastore (pc' := 124) (i := ((own_pre (own_inc (own_inc (fun _ => 0) ((own_rk [y0_, y1_, y2_, y3_] p0_).toNatClampNeg + 1)) ((own_rk [y0_, y1_, y2_, y3_] p1_).toNatClampNeg + 1))) (own_rk [y0_, y1_, y2_, y3_] p0_).toNatClampNeg).toNatClampNeg) (ys := ([(0 : Int32), (0 : Int32)].set ((own_pre (own_inc (own_inc (fun _ => 0) ((own_rk [y0_, y1_, y2_, y3_] p0_).toNatClampNeg + 1)) ((own_rk [y0_, y1_, y2_, y3_] p1_).toNatClampNeg + 1))) (own_rk [y0_, y1_, y2_, y3_] p0_).toNatClampNeg).toNatClampNeg p0_)) C d1_123 A_b5 hb_0.1 rfl (by simpa using hb_0.2) rfl g_b5 rfl ?_
  intro h7 W7 A7_
  replace A_pl := A_pl.other W7 ne_pl_b5
  replace A_ka := A_ka.other W7 ne_ka_b5
  replace A_b1 := A_b1.other W7 ne_b1_b5
  replace A_b5 := A7_
  replace Z_ : n0 ≤ _ := Nat.le_trans Z_ (Nat.le_of_eq W7.size.symm)
  replace K_ := K_.wr W7 (Or.inr sz_b5)
  refine own_iinc (pc' := 127) (v := (1 : Int32)) (Ls' := #[.val (.ref pl), .val (.ref ka), .val (.int keys), .val (.ref b1), .val (.ref b5), .val (.ref pl), .val (.int (2 : Int32)), .val (.int (1 : Int32)), .val (.int p0_)]) C d1_124 rfl (by decide) rfl rfl ?_
  refine own_goto (pc' := 94) C d1_127 (by decide) (by decide) ?_
  refine own_iload (pc' := 96) C d1_94 rfl rfl ?_
  refine own_iload (pc' := 98) C d1_96 rfl rfl ?_
  refine own_icmp_ge (pt := 130) (pf := 101) C d1_98 (by decide) (by decide) rfl (fun q => absurd (by decide) q) (fun _ => ?_)
  refine own_aload (pc' := 103) C d1_101 rfl rfl rfl ?_
  refine own_iload (pc' := 105) C d1_103 rfl rfl ?_
  refine own_iaload (pc' := 106) (v := p1_) (i := 1) C d1_105 A_pl (by decide) rfl rfl rfl ?_
  refine own_istore (pc' := 108) (y := p1_) (Ls' := #[.val (.ref pl), .val (.ref ka), .val (.int keys), .val (.ref b1), .val (.ref b5), .val (.ref pl), .val (.int (2 : Int32)), .val (.int (1 : Int32)), .val (.int p1_)]) C d1_106 rfl rfl rfl ?_
  refine own_aload (pc' := 110) C d1_108 rfl rfl rfl ?_
  refine own_aloadN (pc' := 111) C d1_110 rfl rfl rfl ?_
  refine own_aloadN (pc' := 112) C d1_111 rfl rfl rfl ?_
  refine own_iload (pc' := 114) C d1_112 rfl rfl ?_
  refine own_iaload (pc' := 115) (v := (own_rk [y0_, y1_, y2_, y3_] p1_)) (i := p1_.toNatClampNeg) C d1_114 A_ka hp_p1_.1 rfl (own_get4 hp_p1_) rfl ?_
  refine own_dup2 (pc' := 116) C d1_115 rfl rfl rfl ?_
  refine own_iaload (pc' := 117) (v := ((own_inc (own_pre (own_inc (own_inc (fun _ => 0) ((own_rk [y0_, y1_, y2_, y3_] p0_).toNatClampNeg + 1)) ((own_rk [y0_, y1_, y2_, y3_] p1_).toNatClampNeg + 1))) (own_rk [y0_, y1_, y2_, y3_] p0_).toNatClampNeg) (own_rk [y0_, y1_, y2_, y3_] p1_).toNatClampNeg)) (i := (own_rk [y0_, y1_, y2_, y3_] p1_).toNatClampNeg) C d1_116 A_b1 (own_sc hk hu_p1_).1 rfl (own_tabget (own_sc hk hu_p1_).2.2.2.1) rfl ?_
  refine own_dupX2 (pc' := 118) C d1_117 rfl rfl rfl rfl ?_
  refine own_iconst (pc' := 119) (v := (1 : Int32)) C d1_118 own_ki_1 rfl ?_
  refine own_iadd (pc' := 120) C d1_119 rfl rfl ?_
  refine own_iastore (pc' := 121) (i := (own_rk [y0_, y1_, y2_, y3_] p1_).toNatClampNeg) (ys := (own_tab (keys + 1).toNatClampNeg (own_inc (own_inc (own_pre (own_inc (own_inc (fun _ => 0) ((own_rk [y0_, y1_, y2_, y3_] p0_).toNatClampNeg + 1)) ((own_rk [y0_, y1_, y2_, y3_] p1_).toNatClampNeg + 1))) (own_rk [y0_, y1_, y2_, y3_] p0_).toNatClampNeg) (own_rk [y0_, y1_, y2_, y3_] p1_).toNatClampNeg))) C d1_120 A_b1 (own_sc hk hu_p1_).1 rfl (by rw [own_tablen]; exact (own_sc hk hu_p1_).2.2.2.1) own_incset g_b1 rfl ?_
  intro h8 W8 A8_
  replace A_pl := A_pl.other W8 ne_pl_b1
  replace A_ka := A_ka.other W8 ne_ka_b1
  replace A_b5 := A_b5.other W8 (Ne.symm ne_b1_b5)
  replace A_b1 := A8_
  replace Z_ : n0 ≤ _ := Nat.le_trans Z_ (Nat.le_of_eq W8.size.symm)
  replace K_ := K_.wr W8 (Or.inr sz_b1)
  refine own_iload (pc' := 123) C d1_121 rfl rfl ?_
  refine own_iastore (pc' := 124) (i := ((own_inc (own_pre (own_inc (own_inc (fun _ => 0) ((own_rk [y0_, y1_, y2_, y3_] p0_).toNatClampNeg + 1)) ((own_rk [y0_, y1_, y2_, y3_] p1_).toNatClampNeg + 1))) (own_rk [y0_, y1_, y2_, y3_] p0_).toNatClampNeg) (own_rk [y0_, y1_, y2_, y3_] p1_).toNatClampNeg).toNatClampNeg) (ys := (([(0 : Int32), (0 : Int32)].set ((own_pre (own_inc (own_inc (fun _ => 0) ((own_rk [y0_, y1_, y2_, y3_] p0_).toNatClampNeg + 1)) ((own_rk [y0_, y1_, y2_, y3_] p1_).toNatClampNeg + 1))) (own_rk [y0_, y1_, y2_, y3_] p0_).toNatClampNeg).toNatClampNeg p0_).set ((own_inc (own_pre (own_inc (own_inc (fun _ => 0) ((own_rk [y0_, y1_, y2_, y3_] p0_).toNatClampNeg + 1)) ((own_rk [y0_, y1_, y2_, y3_] p1_).toNatClampNeg + 1))) (own_rk [y0_, y1_, y2_, y3_] p0_).toNatClampNeg) (own_rk [y0_, y1_, y2_, y3_] p1_).toNatClampNeg).toNatClampNeg p1_)) C d1_123 A_b5 hb_1.1 rfl (by simpa using hb_1.2) rfl g_b5 rfl ?_
  intro h9 W9 A9_
  replace A_pl := A_pl.other W9 ne_pl_b5
  replace A_ka := A_ka.other W9 ne_ka_b5
  replace A_b1 := A_b1.other W9 ne_b1_b5
  replace A_b5 := A9_
  replace Z_ : n0 ≤ _ := Nat.le_trans Z_ (Nat.le_of_eq W9.size.symm)
  replace K_ := K_.wr W9 (Or.inr sz_b5)
  refine own_iinc (pc' := 127) (v := (2 : Int32)) (Ls' := #[.val (.ref pl), .val (.ref ka), .val (.int keys), .val (.ref b1), .val (.ref b5), .val (.ref pl), .val (.int (2 : Int32)), .val (.int (2 : Int32)), .val (.int p1_)]) C d1_124 rfl (by decide) rfl rfl ?_
  refine own_goto (pc' := 94) C d1_127 (by decide) (by decide) ?_
  refine own_iload (pc' := 96) C d1_94 rfl rfl ?_
  refine own_iload (pc' := 98) C d1_96 rfl rfl ?_
  refine own_icmp_ge (pt := 130) (pf := 101) C d1_98 (by decide) (by decide) rfl (fun _ => ?_) (fun q => absurd q (by decide))
  refine own_aload (pc' := 132) C d1_130 rfl rfl rfl ?_
  refine own_aret C rfl rfl d1_132 (by decide) (by decide) ?_
  exact ⟨b5, rfl, sz_b5, K_, A_b5⟩

set_option maxRecDepth 65536 in
set_option maxHeartbeats 40000000 in
theorem own_sort3 (l : Launch) (Z : State) (a0 : Array Value) (hw : ∀ d ∈ tables_1, d.before a0 Z = true) (pl : Addr) (ka : Addr) (keys : Int32) (p0_ p1_ p2_ y0_ y1_ y2_ y3_ : Int32) (h0 : Heap) (n0 : Nat) (Z_ : n0 ≤ h0.size) (A_pl : AI Z h0 pl .int [p0_, p1_, p2_]) (A_ka : AI Z h0 ka .int [y0_, y1_, y2_, y3_]) (hk : own_kb keys) (hp_p0_ : own_in4 p0_) (hu_p0_ : own_ub (own_rk [y0_, y1_, y2_, y3_] p0_) keys) (hp_p1_ : own_in4 p1_) (hu_p1_ : own_ub (own_rk [y0_, y1_, y2_, y3_] p1_) keys) (hp_p2_ : own_in4 p2_) (hu_p2_ : own_ub (own_rk [y0_, y1_, y2_, y3_] p2_) keys) (hb_0 : own_inb 3 ((own_pre (own_inc (own_inc (own_inc (fun _ => 0) ((own_rk [y0_, y1_, y2_, y3_] p0_).toNatClampNeg + 1)) ((own_rk [y0_, y1_, y2_, y3_] p1_).toNatClampNeg + 1)) ((own_rk [y0_, y1_, y2_, y3_] p2_).toNatClampNeg + 1))) (own_rk [y0_, y1_, y2_, y3_] p0_).toNatClampNeg)) (hb_1 : own_inb 3 ((own_inc (own_pre (own_inc (own_inc (own_inc (fun _ => 0) ((own_rk [y0_, y1_, y2_, y3_] p0_).toNatClampNeg + 1)) ((own_rk [y0_, y1_, y2_, y3_] p1_).toNatClampNeg + 1)) ((own_rk [y0_, y1_, y2_, y3_] p2_).toNatClampNeg + 1))) (own_rk [y0_, y1_, y2_, y3_] p0_).toNatClampNeg) (own_rk [y0_, y1_, y2_, y3_] p1_).toNatClampNeg)) (hb_2 : own_inb 3 ((own_inc (own_inc (own_pre (own_inc (own_inc (own_inc (fun _ => 0) ((own_rk [y0_, y1_, y2_, y3_] p0_).toNatClampNeg + 1)) ((own_rk [y0_, y1_, y2_, y3_] p1_).toNatClampNeg + 1)) ((own_rk [y0_, y1_, y2_, y3_] p2_).toNatClampNeg + 1))) (own_rk [y0_, y1_, y2_, y3_] p0_).toNatClampNeg) (own_rk [y0_, y1_, y2_, y3_] p1_).toNatClampNeg) (own_rk [y0_, y1_, y2_, y3_] p2_).toNatClampNeg)) :
    Met l (⟨"com/example/precedence/precedence/Touches", "sorted", "([I[II)[I"⟩ : MethodName) prog_106_method_6_code 9 (some (.array .int)) [] ({ frames := 0, cells := 2, slots := 12, locals := 0 } : Room) Z n0 #[(.ref pl), (.ref ka), (.int keys)] h0 (fun v h => ∃ o, v = some (.ref o) ∧ h0.size ≤ o ∧ Keep h0 h [] ∧ AI Z h o .int ((([(0 : Int32), (0 : Int32), (0 : Int32)].set ((own_pre (own_inc (own_inc (own_inc (fun _ => 0) ((own_rk [y0_, y1_, y2_, y3_] p0_).toNatClampNeg + 1)) ((own_rk [y0_, y1_, y2_, y3_] p1_).toNatClampNeg + 1)) ((own_rk [y0_, y1_, y2_, y3_] p2_).toNatClampNeg + 1))) (own_rk [y0_, y1_, y2_, y3_] p0_).toNatClampNeg).toNatClampNeg p0_).set ((own_inc (own_pre (own_inc (own_inc (own_inc (fun _ => 0) ((own_rk [y0_, y1_, y2_, y3_] p0_).toNatClampNeg + 1)) ((own_rk [y0_, y1_, y2_, y3_] p1_).toNatClampNeg + 1)) ((own_rk [y0_, y1_, y2_, y3_] p2_).toNatClampNeg + 1))) (own_rk [y0_, y1_, y2_, y3_] p0_).toNatClampNeg) (own_rk [y0_, y1_, y2_, y3_] p1_).toNatClampNeg).toNatClampNeg p1_).set ((own_inc (own_inc (own_pre (own_inc (own_inc (own_inc (fun _ => 0) ((own_rk [y0_, y1_, y2_, y3_] p0_).toNatClampNeg + 1)) ((own_rk [y0_, y1_, y2_, y3_] p1_).toNatClampNeg + 1)) ((own_rk [y0_, y1_, y2_, y3_] p2_).toNatClampNeg + 1))) (own_rk [y0_, y1_, y2_, y3_] p0_).toNatClampNeg) (own_rk [y0_, y1_, y2_, y3_] p1_).toNatClampNeg) (own_rk [y0_, y1_, y2_, y3_] p2_).toNatClampNeg).toNatClampNeg p2_)) := by
  refine own_met pn1 (fun m => ef1 m pl ka keys) ?_
  intro p e s m below meth c C
  have K_ : Keep h0 h0 [] := Keep.refl _ _
  have hL := own_ks hk
  refine own_iloadN (pc' := 1) C d1_0 rfl rfl ?_
  refine own_iconst (pc' := 2) (v := (1 : Int32)) C d1_1 own_ki_1 rfl ?_
  refine own_iadd (pc' := 3) C d1_2 rfl rfl ?_
  refine own_newI (pc' := 5) (len := (keys + 1).toNatClampNeg) (cap := 9) C d1_3 rfl rfl (hw _ (List.mem_of_getElem? (i := 0) rfl)) (own_ks hk).1 rfl (by omega) (by decide) (by decide) (by decide) rfl ?_
  intro h1 b1 g1 X1 A_b1
  have ne_pl_b1 : pl ≠ b1 := Nat.ne_of_lt (g1 ▸ A_pl.lt)
  have ne_ka_b1 : ka ≠ b1 := Nat.ne_of_lt (g1 ▸ A_ka.lt)
  replace A_pl := A_pl.ext X1
  replace A_ka := A_ka.ext X1
  have g_b1 : n0 ≤ b1 := g1 ▸ Z_
  have sz_b1 : h0.size ≤ b1 := g1 ▸ K_.1
  replace K_ := K_.ext X1
  replace Z_ := Nat.le_trans Z_ X1.1
  rw [own_tab0] at A_b1
  refine own_astoreN (pc' := 6) (Ls' := #[.val (.ref pl), .val (.ref ka), .val (.int keys), .val (.ref b1), .unset, .unset, .unset, .unset, .unset]) C d1_5 rfl rfl rfl ?_
  refine own_aloadN (pc' := 7) C d1_6 rfl rfl rfl ?_
  refine own_astore (pc' := 9) (Ls' := #[.val (.ref pl), .val (.ref ka), .val (.int keys), .val (.ref b1), .val (.ref pl), .unset, .unset, .unset, .unset]) C d1_7 rfl rfl rfl ?_
  refine own_aload (pc' := 11) C d1_9 rfl rfl rfl ?_
  refine own_lenI (pc' := 12) (v := (3 : Int32)) C d1_11 A_pl rfl rfl ?_
  refine own_istore (pc' := 14) (y := (3 : Int32)) (Ls' := #[.val (.ref pl), .val (.ref ka), .val (.int keys), .val (.ref b1), .val (.ref pl), .val (.int (3 : Int32)), .unset, .unset, .unset]) C d1_12 rfl rfl rfl ?_
  refine own_iconst (pc' := 15) (v := (0 : Int32)) C d1_14 own_ki_0 rfl ?_
  refine own_istore (pc' := 17) (y := (0 : Int32)) (Ls' := #[.val (.ref pl), .val (.ref ka), .val (.int keys), .val (.ref b1), .val (.ref pl), .val (.int (3 : Int32)), .val (.int (0 : Int32)), .unset, .unset]) C d1_15 rfl rfl rfl ?_
  refine own_iload (pc' := 19) C d1_17 rfl rfl ?_
  refine own_iload (pc' := 21) C d1_19 rfl rfl ?_
  refine own_icmp_ge (pt := 49) (pf := 24) C d1_21 (by decide) (by decide) rfl (fun q => absurd (by decide) q) (fun _ => ?_)
  refine own_aload (pc' := 26) C d1_24 rfl rfl rfl ?_
  refine own_iload (pc' := 28) C d1_26 rfl rfl ?_
  refine own_iaload (pc' := 29) (v := p0_) (i := 0) C d1_28 A_pl (by decide) rfl rfl rfl ?_
  refine own_istore (pc' := 31) (y := p0_) (Ls' := #[.val (.ref pl), .val (.ref ka), .val (.int keys), .val (.ref b1), .val (.ref pl), .val (.int (3 : Int32)), .val (.int (0 : Int32)), .val (.int p0_), .unset]) C d1_29 rfl rfl rfl ?_
  refine own_aloadN (pc' := 32) C d1_31 rfl rfl rfl ?_
  refine own_aloadN (pc' := 33) C d1_32 rfl rfl rfl ?_
  refine own_iload (pc' := 35) C d1_33 rfl rfl ?_
  refine own_iaload (pc' := 36) (v := (own_rk [y0_, y1_, y2_, y3_] p0_)) (i := p0_.toNatClampNeg) C d1_35 A_ka hp_p0_.1 rfl (own_get4 hp_p0_) rfl ?_
  refine own_iconst (pc' := 37) (v := (1 : Int32)) C d1_36 own_ki_1 rfl ?_
  refine own_iadd (pc' := 38) C d1_37 rfl rfl ?_
  refine own_dup2 (pc' := 39) C d1_38 rfl rfl rfl ?_
  refine own_iaload (pc' := 40) (v := ((fun _ => 0) ((own_rk [y0_, y1_, y2_, y3_] p0_).toNatClampNeg + 1))) (i := ((own_rk [y0_, y1_, y2_, y3_] p0_).toNatClampNeg + 1)) C d1_39 A_b1 (own_sc hk hu_p0_).2.1 (own_sc hk hu_p0_).2.2.1 (own_tabget (own_sc hk hu_p0_).2.2.2.2) rfl ?_
  refine own_iconst (pc' := 41) (v := (1 : Int32)) C d1_40 own_ki_1 rfl ?_
  refine own_iadd (pc' := 42) C d1_41 rfl rfl ?_
  refine own_iastore (pc' := 43) (i := ((own_rk [y0_, y1_, y2_, y3_] p0_).toNatClampNeg + 1)) (ys := (own_tab (keys + 1).toNatClampNeg (own_inc (fun _ => 0) ((own_rk [y0_, y1_, y2_, y3_] p0_).toNatClampNeg + 1)))) C d1_42 A_b1 (own_sc hk hu_p0_).2.1 (own_sc hk hu_p0_).2.2.1 (by rw [own_tablen]; exact (own_sc hk hu_p0_).2.2.2.2) own_incset g_b1 rfl ?_
  intro h2 W2 A2_
  replace A_pl := A_pl.other W2 ne_pl_b1
  replace A_ka := A_ka.other W2 ne_ka_b1
  replace A_b1 := A2_
  replace Z_ : n0 ≤ _ := Nat.le_trans Z_ (Nat.le_of_eq W2.size.symm)
  replace K_ := K_.wr W2 (Or.inr sz_b1)
  refine own_iinc (pc' := 46) (v := (1 : Int32)) (Ls' := #[.val (.ref pl), .val (.ref ka), .val (.int keys), .val (.ref b1), .val (.ref pl), .val (.int (3 : Int32)), .val (.int (1 : Int32)), .val (.int p0_), .unset]) C d1_43 rfl (by decide) rfl rfl ?_
  refine own_goto (pc' := 17) C d1_46 (by decide) (by decide) ?_
  refine own_iload (pc' := 19) C d1_17 rfl rfl ?_
  refine own_iload (pc' := 21) C d1_19 rfl rfl ?_
  refine own_icmp_ge (pt := 49) (pf := 24) C d1_21 (by decide) (by decide) rfl (fun q => absurd (by decide) q) (fun _ => ?_)
  refine own_aload (pc' := 26) C d1_24 rfl rfl rfl ?_
  refine own_iload (pc' := 28) C d1_26 rfl rfl ?_
  refine own_iaload (pc' := 29) (v := p1_) (i := 1) C d1_28 A_pl (by decide) rfl rfl rfl ?_
  refine own_istore (pc' := 31) (y := p1_) (Ls' := #[.val (.ref pl), .val (.ref ka), .val (.int keys), .val (.ref b1), .val (.ref pl), .val (.int (3 : Int32)), .val (.int (1 : Int32)), .val (.int p1_), .unset]) C d1_29 rfl rfl rfl ?_
  refine own_aloadN (pc' := 32) C d1_31 rfl rfl rfl ?_
  refine own_aloadN (pc' := 33) C d1_32 rfl rfl rfl ?_
  refine own_iload (pc' := 35) C d1_33 rfl rfl ?_
  refine own_iaload (pc' := 36) (v := (own_rk [y0_, y1_, y2_, y3_] p1_)) (i := p1_.toNatClampNeg) C d1_35 A_ka hp_p1_.1 rfl (own_get4 hp_p1_) rfl ?_
  refine own_iconst (pc' := 37) (v := (1 : Int32)) C d1_36 own_ki_1 rfl ?_
  refine own_iadd (pc' := 38) C d1_37 rfl rfl ?_
  refine own_dup2 (pc' := 39) C d1_38 rfl rfl rfl ?_
  refine own_iaload (pc' := 40) (v := ((own_inc (fun _ => 0) ((own_rk [y0_, y1_, y2_, y3_] p0_).toNatClampNeg + 1)) ((own_rk [y0_, y1_, y2_, y3_] p1_).toNatClampNeg + 1))) (i := ((own_rk [y0_, y1_, y2_, y3_] p1_).toNatClampNeg + 1)) C d1_39 A_b1 (own_sc hk hu_p1_).2.1 (own_sc hk hu_p1_).2.2.1 (own_tabget (own_sc hk hu_p1_).2.2.2.2) rfl ?_
  refine own_iconst (pc' := 41) (v := (1 : Int32)) C d1_40 own_ki_1 rfl ?_
  refine own_iadd (pc' := 42) C d1_41 rfl rfl ?_
  refine own_iastore (pc' := 43) (i := ((own_rk [y0_, y1_, y2_, y3_] p1_).toNatClampNeg + 1)) (ys := (own_tab (keys + 1).toNatClampNeg (own_inc (own_inc (fun _ => 0) ((own_rk [y0_, y1_, y2_, y3_] p0_).toNatClampNeg + 1)) ((own_rk [y0_, y1_, y2_, y3_] p1_).toNatClampNeg + 1)))) C d1_42 A_b1 (own_sc hk hu_p1_).2.1 (own_sc hk hu_p1_).2.2.1 (by rw [own_tablen]; exact (own_sc hk hu_p1_).2.2.2.2) own_incset g_b1 rfl ?_
  intro h3 W3 A3_
  replace A_pl := A_pl.other W3 ne_pl_b1
  replace A_ka := A_ka.other W3 ne_ka_b1
  replace A_b1 := A3_
  replace Z_ : n0 ≤ _ := Nat.le_trans Z_ (Nat.le_of_eq W3.size.symm)
  replace K_ := K_.wr W3 (Or.inr sz_b1)
  refine own_iinc (pc' := 46) (v := (2 : Int32)) (Ls' := #[.val (.ref pl), .val (.ref ka), .val (.int keys), .val (.ref b1), .val (.ref pl), .val (.int (3 : Int32)), .val (.int (2 : Int32)), .val (.int p1_), .unset]) C d1_43 rfl (by decide) rfl rfl ?_
  refine own_goto (pc' := 17) C d1_46 (by decide) (by decide) ?_
  refine own_iload (pc' := 19) C d1_17 rfl rfl ?_
  refine own_iload (pc' := 21) C d1_19 rfl rfl ?_
  refine own_icmp_ge (pt := 49) (pf := 24) C d1_21 (by decide) (by decide) rfl (fun q => absurd (by decide) q) (fun _ => ?_)
  refine own_aload (pc' := 26) C d1_24 rfl rfl rfl ?_
  refine own_iload (pc' := 28) C d1_26 rfl rfl ?_
  refine own_iaload (pc' := 29) (v := p2_) (i := 2) C d1_28 A_pl (by decide) rfl rfl rfl ?_
  refine own_istore (pc' := 31) (y := p2_) (Ls' := #[.val (.ref pl), .val (.ref ka), .val (.int keys), .val (.ref b1), .val (.ref pl), .val (.int (3 : Int32)), .val (.int (2 : Int32)), .val (.int p2_), .unset]) C d1_29 rfl rfl rfl ?_
  refine own_aloadN (pc' := 32) C d1_31 rfl rfl rfl ?_
  refine own_aloadN (pc' := 33) C d1_32 rfl rfl rfl ?_
  refine own_iload (pc' := 35) C d1_33 rfl rfl ?_
  refine own_iaload (pc' := 36) (v := (own_rk [y0_, y1_, y2_, y3_] p2_)) (i := p2_.toNatClampNeg) C d1_35 A_ka hp_p2_.1 rfl (own_get4 hp_p2_) rfl ?_
  refine own_iconst (pc' := 37) (v := (1 : Int32)) C d1_36 own_ki_1 rfl ?_
  refine own_iadd (pc' := 38) C d1_37 rfl rfl ?_
  refine own_dup2 (pc' := 39) C d1_38 rfl rfl rfl ?_
  refine own_iaload (pc' := 40) (v := ((own_inc (own_inc (fun _ => 0) ((own_rk [y0_, y1_, y2_, y3_] p0_).toNatClampNeg + 1)) ((own_rk [y0_, y1_, y2_, y3_] p1_).toNatClampNeg + 1)) ((own_rk [y0_, y1_, y2_, y3_] p2_).toNatClampNeg + 1))) (i := ((own_rk [y0_, y1_, y2_, y3_] p2_).toNatClampNeg + 1)) C d1_39 A_b1 (own_sc hk hu_p2_).2.1 (own_sc hk hu_p2_).2.2.1 (own_tabget (own_sc hk hu_p2_).2.2.2.2) rfl ?_
  refine own_iconst (pc' := 41) (v := (1 : Int32)) C d1_40 own_ki_1 rfl ?_
  refine own_iadd (pc' := 42) C d1_41 rfl rfl ?_
  refine own_iastore (pc' := 43) (i := ((own_rk [y0_, y1_, y2_, y3_] p2_).toNatClampNeg + 1)) (ys := (own_tab (keys + 1).toNatClampNeg (own_inc (own_inc (own_inc (fun _ => 0) ((own_rk [y0_, y1_, y2_, y3_] p0_).toNatClampNeg + 1)) ((own_rk [y0_, y1_, y2_, y3_] p1_).toNatClampNeg + 1)) ((own_rk [y0_, y1_, y2_, y3_] p2_).toNatClampNeg + 1)))) C d1_42 A_b1 (own_sc hk hu_p2_).2.1 (own_sc hk hu_p2_).2.2.1 (by rw [own_tablen]; exact (own_sc hk hu_p2_).2.2.2.2) own_incset g_b1 rfl ?_
  intro h4 W4 A4_
  replace A_pl := A_pl.other W4 ne_pl_b1
  replace A_ka := A_ka.other W4 ne_ka_b1
  replace A_b1 := A4_
  replace Z_ : n0 ≤ _ := Nat.le_trans Z_ (Nat.le_of_eq W4.size.symm)
  replace K_ := K_.wr W4 (Or.inr sz_b1)
  refine own_iinc (pc' := 46) (v := (3 : Int32)) (Ls' := #[.val (.ref pl), .val (.ref ka), .val (.int keys), .val (.ref b1), .val (.ref pl), .val (.int (3 : Int32)), .val (.int (3 : Int32)), .val (.int p2_), .unset]) C d1_43 rfl (by decide) rfl rfl ?_
  refine own_goto (pc' := 17) C d1_46 (by decide) (by decide) ?_
  refine own_iload (pc' := 19) C d1_17 rfl rfl ?_
  refine own_iload (pc' := 21) C d1_19 rfl rfl ?_
  refine own_icmp_ge (pt := 49) (pf := 24) C d1_21 (by decide) (by decide) rfl (fun _ => ?_) (fun q => absurd q (by decide))
  refine own_iconst (pc' := 50) (v := (0 : Int32)) C d1_49 own_ki_0 rfl ?_
  refine own_istore (pc' := 52) (y := (0 : Int32)) (Ls' := #[.val (.ref pl), .val (.ref ka), .val (.int keys), .val (.ref b1), .val (.int (0 : Int32)), .val (.int (3 : Int32)), .val (.int (3 : Int32)), .val (.int p2_), .unset]) C d1_50 rfl rfl rfl ?_
  refine own_loop2 hw C hk g_b1 keys.toInt.toNat h4 0 Z_ (by decide) (by have := hk.1; have k0 : (0 : Int32).toInt = 0 := rfl; omega) (by rw [show (0 : Int32).toNatClampNeg = 0 from rfl, own_mid0]; exact A_b1) ?_
  intro h5 K5 A5_
  replace A_pl := A_pl.keep K5 (ninS ne_pl_b1 nin0)
  replace A_ka := A_ka.keep K5 (ninS ne_ka_b1 nin0)
  replace Z_ := Nat.le_trans Z_ K5.1
  replace K_ := K_.trans K5 (allS (Or.inr sz_b1) all0)
  replace A_b1 := A5_
  refine own_aloadN (pc' := 78) C d1_77 rfl rfl rfl ?_
  refine own_lenI (pc' := 79) (v := (3 : Int32)) C d1_78 A_pl rfl rfl ?_
  refine own_newI (pc' := 81) (len := 3) (cap := 3) C d1_79 rfl rfl (hw _ (List.mem_of_getElem? (i := 0) rfl)) (by decide) rfl (by decide) (by decide) (by decide) (by decide) rfl ?_
  intro h6 b6 g6 X6 A_b6
  have ne_pl_b6 : pl ≠ b6 := Nat.ne_of_lt (g6 ▸ A_pl.lt)
  have ne_ka_b6 : ka ≠ b6 := Nat.ne_of_lt (g6 ▸ A_ka.lt)
  have ne_b1_b6 : b1 ≠ b6 := Nat.ne_of_lt (g6 ▸ A_b1.lt)
  replace A_pl := A_pl.ext X6
  replace A_ka := A_ka.ext X6
  replace A_b1 := A_b1.ext X6
  have g_b6 : n0 ≤ b6 := g6 ▸ Z_
  have sz_b6 : h0.size ≤ b6 := g6 ▸ K_.1
  replace K_ := K_.ext X6
  replace Z_ := Nat.le_trans Z_ X6.1
  replace A_b6 : AI Z h6 b6 .int [(0 : Int32), (0 : Int32), (0 : Int32)] := A_b6
  refine own_astore (pc' := 83) (Ls' := #[.val (.ref pl), .val (.ref ka), .val (.int keys), .val (.ref b1), .val (.ref b6), .val (.int (3 : Int32)), .val (.int (3 : Int32)), .val (.int p2_), .unset]) C d1_81 rfl rfl rfl ?_
  refine own_aloadN (pc' := 84) C d1_83 rfl rfl rfl ?_
  refine own_astore (pc' := 86) (Ls' := #[.val (.ref pl), .val (.ref ka), .val (.int keys), .val (.ref b1), .val (.ref b6), .val (.ref pl), .val (.int (3 : Int32)), .val (.int p2_), .unset]) C d1_84 rfl rfl rfl ?_
  refine own_aload (pc' := 88) C d1_86 rfl rfl rfl ?_
  refine own_lenI (pc' := 89) (v := (3 : Int32)) C d1_88 A_pl rfl rfl ?_
  refine own_istore (pc' := 91) (y := (3 : Int32)) (Ls' := #[.val (.ref pl), .val (.ref ka), .val (.int keys), .val (.ref b1), .val (.ref b6), .val (.ref pl), .val (.int (3 : Int32)), .val (.int p2_), .unset]) C d1_89 rfl rfl rfl ?_
  refine own_iconst (pc' := 92) (v := (0 : Int32)) C d1_91 own_ki_0 rfl ?_
  refine own_istore (pc' := 94) (y := (0 : Int32)) (Ls' := #[.val (.ref pl), .val (.ref ka), .val (.int keys), .val (.ref b1), .val (.ref b6), .val (.ref pl), .val (.int (3 : Int32)), .val (.int (0 : Int32)), .unset]) C d1_92 rfl rfl rfl ?_
  refine own_iload (pc' := 96) C d1_94 rfl rfl ?_
  refine own_iload (pc' := 98) C d1_96 rfl rfl ?_
  refine own_icmp_ge (pt := 130) (pf := 101) C d1_98 (by decide) (by decide) rfl (fun q => absurd (by decide) q) (fun _ => ?_)
  refine own_aload (pc' := 103) C d1_101 rfl rfl rfl ?_
  refine own_iload (pc' := 105) C d1_103 rfl rfl ?_
  refine own_iaload (pc' := 106) (v := p0_) (i := 0) C d1_105 A_pl (by decide) rfl rfl rfl ?_
  refine own_istore (pc' := 108) (y := p0_) (Ls' := #[.val (.ref pl), .val (.ref ka), .val (.int keys), .val (.ref b1), .val (.ref b6), .val (.ref pl), .val (.int (3 : Int32)), .val (.int (0 : Int32)), .val (.int p0_)]) C d1_106 rfl rfl rfl ?_
  refine own_aload (pc' := 110) C d1_108 rfl rfl rfl ?_
  refine own_aloadN (pc' := 111) C d1_110 rfl rfl rfl ?_
  refine own_aloadN (pc' := 112) C d1_111 rfl rfl rfl ?_
  refine own_iload (pc' := 114) C d1_112 rfl rfl ?_
  refine own_iaload (pc' := 115) (v := (own_rk [y0_, y1_, y2_, y3_] p0_)) (i := p0_.toNatClampNeg) C d1_114 A_ka hp_p0_.1 rfl (own_get4 hp_p0_) rfl ?_
  refine own_dup2 (pc' := 116) C d1_115 rfl rfl rfl ?_
  refine own_iaload (pc' := 117) (v := ((own_pre (own_inc (own_inc (own_inc (fun _ => 0) ((own_rk [y0_, y1_, y2_, y3_] p0_).toNatClampNeg + 1)) ((own_rk [y0_, y1_, y2_, y3_] p1_).toNatClampNeg + 1)) ((own_rk [y0_, y1_, y2_, y3_] p2_).toNatClampNeg + 1))) (own_rk [y0_, y1_, y2_, y3_] p0_).toNatClampNeg)) (i := (own_rk [y0_, y1_, y2_, y3_] p0_).toNatClampNeg) C d1_116 A_b1 (own_sc hk hu_p0_).1 rfl (own_tabget (own_sc hk hu_p0_).2.2.2.1) rfl ?_
  refine own_dupX2 (pc' := 118) C d1_117 rfl rfl rfl rfl ?_
  refine own_iconst (pc' := 119) (v := (1 : Int32)) C d1_118 own_ki_1 rfl ?_
  refine own_iadd (pc' := 120) C d1_119 rfl rfl ?_
  refine own_iastore (pc' := 121) (i := (own_rk [y0_, y1_, y2_, y3_] p0_).toNatClampNeg) (ys := (own_tab (keys + 1).toNatClampNeg (own_inc (own_pre (own_inc (own_inc (own_inc (fun _ => 0) ((own_rk [y0_, y1_, y2_, y3_] p0_).toNatClampNeg + 1)) ((own_rk [y0_, y1_, y2_, y3_] p1_).toNatClampNeg + 1)) ((own_rk [y0_, y1_, y2_, y3_] p2_).toNatClampNeg + 1))) (own_rk [y0_, y1_, y2_, y3_] p0_).toNatClampNeg))) C d1_120 A_b1 (own_sc hk hu_p0_).1 rfl (by rw [own_tablen]; exact (own_sc hk hu_p0_).2.2.2.1) own_incset g_b1 rfl ?_
  intro h7 W7 A7_
  replace A_pl := A_pl.other W7 ne_pl_b1
  replace A_ka := A_ka.other W7 ne_ka_b1
  replace A_b6 := A_b6.other W7 (Ne.symm ne_b1_b6)
  replace A_b1 := A7_
  replace Z_ : n0 ≤ _ := Nat.le_trans Z_ (Nat.le_of_eq W7.size.symm)
  replace K_ := K_.wr W7 (Or.inr sz_b1)
  refine own_iload (pc' := 123) C d1_121 rfl rfl ?_
  refine own_iastore (pc' := 124) (i := ((own_pre (own_inc (own_inc (own_inc (fun _ => 0) ((own_rk [y0_, y1_, y2_, y3_] p0_).toNatClampNeg + 1)) ((own_rk [y0_, y1_, y2_, y3_] p1_).toNatClampNeg + 1)) ((own_rk [y0_, y1_, y2_, y3_] p2_).toNatClampNeg + 1))) (own_rk [y0_, y1_, y2_, y3_] p0_).toNatClampNeg).toNatClampNeg) (ys := ([(0 : Int32), (0 : Int32), (0 : Int32)].set ((own_pre (own_inc (own_inc (own_inc (fun _ => 0) ((own_rk [y0_, y1_, y2_, y3_] p0_).toNatClampNeg + 1)) ((own_rk [y0_, y1_, y2_, y3_] p1_).toNatClampNeg + 1)) ((own_rk [y0_, y1_, y2_, y3_] p2_).toNatClampNeg + 1))) (own_rk [y0_, y1_, y2_, y3_] p0_).toNatClampNeg).toNatClampNeg p0_)) C d1_123 A_b6 hb_0.1 rfl (by simpa using hb_0.2) rfl g_b6 rfl ?_
  intro h8 W8 A8_
  replace A_pl := A_pl.other W8 ne_pl_b6
  replace A_ka := A_ka.other W8 ne_ka_b6
  replace A_b1 := A_b1.other W8 ne_b1_b6
  replace A_b6 := A8_
  replace Z_ : n0 ≤ _ := Nat.le_trans Z_ (Nat.le_of_eq W8.size.symm)
  replace K_ := K_.wr W8 (Or.inr sz_b6)
  refine own_iinc (pc' := 127) (v := (1 : Int32)) (Ls' := #[.val (.ref pl), .val (.ref ka), .val (.int keys), .val (.ref b1), .val (.ref b6), .val (.ref pl), .val (.int (3 : Int32)), .val (.int (1 : Int32)), .val (.int p0_)]) C d1_124 rfl (by decide) rfl rfl ?_
  refine own_goto (pc' := 94) C d1_127 (by decide) (by decide) ?_
  refine own_iload (pc' := 96) C d1_94 rfl rfl ?_
  refine own_iload (pc' := 98) C d1_96 rfl rfl ?_
  refine own_icmp_ge (pt := 130) (pf := 101) C d1_98 (by decide) (by decide) rfl (fun q => absurd (by decide) q) (fun _ => ?_)
  refine own_aload (pc' := 103) C d1_101 rfl rfl rfl ?_
  refine own_iload (pc' := 105) C d1_103 rfl rfl ?_
  refine own_iaload (pc' := 106) (v := p1_) (i := 1) C d1_105 A_pl (by decide) rfl rfl rfl ?_
  refine own_istore (pc' := 108) (y := p1_) (Ls' := #[.val (.ref pl), .val (.ref ka), .val (.int keys), .val (.ref b1), .val (.ref b6), .val (.ref pl), .val (.int (3 : Int32)), .val (.int (1 : Int32)), .val (.int p1_)]) C d1_106 rfl rfl rfl ?_
  refine own_aload (pc' := 110) C d1_108 rfl rfl rfl ?_
  refine own_aloadN (pc' := 111) C d1_110 rfl rfl rfl ?_
  refine own_aloadN (pc' := 112) C d1_111 rfl rfl rfl ?_
  refine own_iload (pc' := 114) C d1_112 rfl rfl ?_
  refine own_iaload (pc' := 115) (v := (own_rk [y0_, y1_, y2_, y3_] p1_)) (i := p1_.toNatClampNeg) C d1_114 A_ka hp_p1_.1 rfl (own_get4 hp_p1_) rfl ?_
  refine own_dup2 (pc' := 116) C d1_115 rfl rfl rfl ?_
  refine own_iaload (pc' := 117) (v := ((own_inc (own_pre (own_inc (own_inc (own_inc (fun _ => 0) ((own_rk [y0_, y1_, y2_, y3_] p0_).toNatClampNeg + 1)) ((own_rk [y0_, y1_, y2_, y3_] p1_).toNatClampNeg + 1)) ((own_rk [y0_, y1_, y2_, y3_] p2_).toNatClampNeg + 1))) (own_rk [y0_, y1_, y2_, y3_] p0_).toNatClampNeg) (own_rk [y0_, y1_, y2_, y3_] p1_).toNatClampNeg)) (i := (own_rk [y0_, y1_, y2_, y3_] p1_).toNatClampNeg) C d1_116 A_b1 (own_sc hk hu_p1_).1 rfl (own_tabget (own_sc hk hu_p1_).2.2.2.1) rfl ?_
  refine own_dupX2 (pc' := 118) C d1_117 rfl rfl rfl rfl ?_
  refine own_iconst (pc' := 119) (v := (1 : Int32)) C d1_118 own_ki_1 rfl ?_
  refine own_iadd (pc' := 120) C d1_119 rfl rfl ?_
  refine own_iastore (pc' := 121) (i := (own_rk [y0_, y1_, y2_, y3_] p1_).toNatClampNeg) (ys := (own_tab (keys + 1).toNatClampNeg (own_inc (own_inc (own_pre (own_inc (own_inc (own_inc (fun _ => 0) ((own_rk [y0_, y1_, y2_, y3_] p0_).toNatClampNeg + 1)) ((own_rk [y0_, y1_, y2_, y3_] p1_).toNatClampNeg + 1)) ((own_rk [y0_, y1_, y2_, y3_] p2_).toNatClampNeg + 1))) (own_rk [y0_, y1_, y2_, y3_] p0_).toNatClampNeg) (own_rk [y0_, y1_, y2_, y3_] p1_).toNatClampNeg))) C d1_120 A_b1 (own_sc hk hu_p1_).1 rfl (by rw [own_tablen]; exact (own_sc hk hu_p1_).2.2.2.1) own_incset g_b1 rfl ?_
  intro h9 W9 A9_
  replace A_pl := A_pl.other W9 ne_pl_b1
  replace A_ka := A_ka.other W9 ne_ka_b1
  replace A_b6 := A_b6.other W9 (Ne.symm ne_b1_b6)
  replace A_b1 := A9_
  replace Z_ : n0 ≤ _ := Nat.le_trans Z_ (Nat.le_of_eq W9.size.symm)
  replace K_ := K_.wr W9 (Or.inr sz_b1)
  refine own_iload (pc' := 123) C d1_121 rfl rfl ?_
  refine own_iastore (pc' := 124) (i := ((own_inc (own_pre (own_inc (own_inc (own_inc (fun _ => 0) ((own_rk [y0_, y1_, y2_, y3_] p0_).toNatClampNeg + 1)) ((own_rk [y0_, y1_, y2_, y3_] p1_).toNatClampNeg + 1)) ((own_rk [y0_, y1_, y2_, y3_] p2_).toNatClampNeg + 1))) (own_rk [y0_, y1_, y2_, y3_] p0_).toNatClampNeg) (own_rk [y0_, y1_, y2_, y3_] p1_).toNatClampNeg).toNatClampNeg) (ys := (([(0 : Int32), (0 : Int32), (0 : Int32)].set ((own_pre (own_inc (own_inc (own_inc (fun _ => 0) ((own_rk [y0_, y1_, y2_, y3_] p0_).toNatClampNeg + 1)) ((own_rk [y0_, y1_, y2_, y3_] p1_).toNatClampNeg + 1)) ((own_rk [y0_, y1_, y2_, y3_] p2_).toNatClampNeg + 1))) (own_rk [y0_, y1_, y2_, y3_] p0_).toNatClampNeg).toNatClampNeg p0_).set ((own_inc (own_pre (own_inc (own_inc (own_inc (fun _ => 0) ((own_rk [y0_, y1_, y2_, y3_] p0_).toNatClampNeg + 1)) ((own_rk [y0_, y1_, y2_, y3_] p1_).toNatClampNeg + 1)) ((own_rk [y0_, y1_, y2_, y3_] p2_).toNatClampNeg + 1))) (own_rk [y0_, y1_, y2_, y3_] p0_).toNatClampNeg) (own_rk [y0_, y1_, y2_, y3_] p1_).toNatClampNeg).toNatClampNeg p1_)) C d1_123 A_b6 hb_1.1 rfl (by simpa using hb_1.2) rfl g_b6 rfl ?_
  intro h10 W10 A10_
  replace A_pl := A_pl.other W10 ne_pl_b6
  replace A_ka := A_ka.other W10 ne_ka_b6
  replace A_b1 := A_b1.other W10 ne_b1_b6
  replace A_b6 := A10_
  replace Z_ : n0 ≤ _ := Nat.le_trans Z_ (Nat.le_of_eq W10.size.symm)
  replace K_ := K_.wr W10 (Or.inr sz_b6)
  refine own_iinc (pc' := 127) (v := (2 : Int32)) (Ls' := #[.val (.ref pl), .val (.ref ka), .val (.int keys), .val (.ref b1), .val (.ref b6), .val (.ref pl), .val (.int (3 : Int32)), .val (.int (2 : Int32)), .val (.int p1_)]) C d1_124 rfl (by decide) rfl rfl ?_
  refine own_goto (pc' := 94) C d1_127 (by decide) (by decide) ?_
  refine own_iload (pc' := 96) C d1_94 rfl rfl ?_
  refine own_iload (pc' := 98) C d1_96 rfl rfl ?_
  refine own_icmp_ge (pt := 130) (pf := 101) C d1_98 (by decide) (by decide) rfl (fun q => absurd (by decide) q) (fun _ => ?_)
  refine own_aload (pc' := 103) C d1_101 rfl rfl rfl ?_
  refine own_iload (pc' := 105) C d1_103 rfl rfl ?_
  refine own_iaload (pc' := 106) (v := p2_) (i := 2) C d1_105 A_pl (by decide) rfl rfl rfl ?_
  refine own_istore (pc' := 108) (y := p2_) (Ls' := #[.val (.ref pl), .val (.ref ka), .val (.int keys), .val (.ref b1), .val (.ref b6), .val (.ref pl), .val (.int (3 : Int32)), .val (.int (2 : Int32)), .val (.int p2_)]) C d1_106 rfl rfl rfl ?_
  refine own_aload (pc' := 110) C d1_108 rfl rfl rfl ?_
  refine own_aloadN (pc' := 111) C d1_110 rfl rfl rfl ?_
  refine own_aloadN (pc' := 112) C d1_111 rfl rfl rfl ?_
  refine own_iload (pc' := 114) C d1_112 rfl rfl ?_
  refine own_iaload (pc' := 115) (v := (own_rk [y0_, y1_, y2_, y3_] p2_)) (i := p2_.toNatClampNeg) C d1_114 A_ka hp_p2_.1 rfl (own_get4 hp_p2_) rfl ?_
  refine own_dup2 (pc' := 116) C d1_115 rfl rfl rfl ?_
  refine own_iaload (pc' := 117) (v := ((own_inc (own_inc (own_pre (own_inc (own_inc (own_inc (fun _ => 0) ((own_rk [y0_, y1_, y2_, y3_] p0_).toNatClampNeg + 1)) ((own_rk [y0_, y1_, y2_, y3_] p1_).toNatClampNeg + 1)) ((own_rk [y0_, y1_, y2_, y3_] p2_).toNatClampNeg + 1))) (own_rk [y0_, y1_, y2_, y3_] p0_).toNatClampNeg) (own_rk [y0_, y1_, y2_, y3_] p1_).toNatClampNeg) (own_rk [y0_, y1_, y2_, y3_] p2_).toNatClampNeg)) (i := (own_rk [y0_, y1_, y2_, y3_] p2_).toNatClampNeg) C d1_116 A_b1 (own_sc hk hu_p2_).1 rfl (own_tabget (own_sc hk hu_p2_).2.2.2.1) rfl ?_
  refine own_dupX2 (pc' := 118) C d1_117 rfl rfl rfl rfl ?_
  refine own_iconst (pc' := 119) (v := (1 : Int32)) C d1_118 own_ki_1 rfl ?_
  refine own_iadd (pc' := 120) C d1_119 rfl rfl ?_
  refine own_iastore (pc' := 121) (i := (own_rk [y0_, y1_, y2_, y3_] p2_).toNatClampNeg) (ys := (own_tab (keys + 1).toNatClampNeg (own_inc (own_inc (own_inc (own_pre (own_inc (own_inc (own_inc (fun _ => 0) ((own_rk [y0_, y1_, y2_, y3_] p0_).toNatClampNeg + 1)) ((own_rk [y0_, y1_, y2_, y3_] p1_).toNatClampNeg + 1)) ((own_rk [y0_, y1_, y2_, y3_] p2_).toNatClampNeg + 1))) (own_rk [y0_, y1_, y2_, y3_] p0_).toNatClampNeg) (own_rk [y0_, y1_, y2_, y3_] p1_).toNatClampNeg) (own_rk [y0_, y1_, y2_, y3_] p2_).toNatClampNeg))) C d1_120 A_b1 (own_sc hk hu_p2_).1 rfl (by rw [own_tablen]; exact (own_sc hk hu_p2_).2.2.2.1) own_incset g_b1 rfl ?_
  intro h11 W11 A11_
  replace A_pl := A_pl.other W11 ne_pl_b1
  replace A_ka := A_ka.other W11 ne_ka_b1
  replace A_b6 := A_b6.other W11 (Ne.symm ne_b1_b6)
  replace A_b1 := A11_
  replace Z_ : n0 ≤ _ := Nat.le_trans Z_ (Nat.le_of_eq W11.size.symm)
  replace K_ := K_.wr W11 (Or.inr sz_b1)
  refine own_iload (pc' := 123) C d1_121 rfl rfl ?_
  refine own_iastore (pc' := 124) (i := ((own_inc (own_inc (own_pre (own_inc (own_inc (own_inc (fun _ => 0) ((own_rk [y0_, y1_, y2_, y3_] p0_).toNatClampNeg + 1)) ((own_rk [y0_, y1_, y2_, y3_] p1_).toNatClampNeg + 1)) ((own_rk [y0_, y1_, y2_, y3_] p2_).toNatClampNeg + 1))) (own_rk [y0_, y1_, y2_, y3_] p0_).toNatClampNeg) (own_rk [y0_, y1_, y2_, y3_] p1_).toNatClampNeg) (own_rk [y0_, y1_, y2_, y3_] p2_).toNatClampNeg).toNatClampNeg) (ys := ((([(0 : Int32), (0 : Int32), (0 : Int32)].set ((own_pre (own_inc (own_inc (own_inc (fun _ => 0) ((own_rk [y0_, y1_, y2_, y3_] p0_).toNatClampNeg + 1)) ((own_rk [y0_, y1_, y2_, y3_] p1_).toNatClampNeg + 1)) ((own_rk [y0_, y1_, y2_, y3_] p2_).toNatClampNeg + 1))) (own_rk [y0_, y1_, y2_, y3_] p0_).toNatClampNeg).toNatClampNeg p0_).set ((own_inc (own_pre (own_inc (own_inc (own_inc (fun _ => 0) ((own_rk [y0_, y1_, y2_, y3_] p0_).toNatClampNeg + 1)) ((own_rk [y0_, y1_, y2_, y3_] p1_).toNatClampNeg + 1)) ((own_rk [y0_, y1_, y2_, y3_] p2_).toNatClampNeg + 1))) (own_rk [y0_, y1_, y2_, y3_] p0_).toNatClampNeg) (own_rk [y0_, y1_, y2_, y3_] p1_).toNatClampNeg).toNatClampNeg p1_).set ((own_inc (own_inc (own_pre (own_inc (own_inc (own_inc (fun _ => 0) ((own_rk [y0_, y1_, y2_, y3_] p0_).toNatClampNeg + 1)) ((own_rk [y0_, y1_, y2_, y3_] p1_).toNatClampNeg + 1)) ((own_rk [y0_, y1_, y2_, y3_] p2_).toNatClampNeg + 1))) (own_rk [y0_, y1_, y2_, y3_] p0_).toNatClampNeg) (own_rk [y0_, y1_, y2_, y3_] p1_).toNatClampNeg) (own_rk [y0_, y1_, y2_, y3_] p2_).toNatClampNeg).toNatClampNeg p2_)) C d1_123 A_b6 hb_2.1 rfl (by simpa using hb_2.2) rfl g_b6 rfl ?_
  intro h12 W12 A12_
  replace A_pl := A_pl.other W12 ne_pl_b6
  replace A_ka := A_ka.other W12 ne_ka_b6
  replace A_b1 := A_b1.other W12 ne_b1_b6
  replace A_b6 := A12_
  replace Z_ : n0 ≤ _ := Nat.le_trans Z_ (Nat.le_of_eq W12.size.symm)
  replace K_ := K_.wr W12 (Or.inr sz_b6)
  refine own_iinc (pc' := 127) (v := (3 : Int32)) (Ls' := #[.val (.ref pl), .val (.ref ka), .val (.int keys), .val (.ref b1), .val (.ref b6), .val (.ref pl), .val (.int (3 : Int32)), .val (.int (3 : Int32)), .val (.int p2_)]) C d1_124 rfl (by decide) rfl rfl ?_
  refine own_goto (pc' := 94) C d1_127 (by decide) (by decide) ?_
  refine own_iload (pc' := 96) C d1_94 rfl rfl ?_
  refine own_iload (pc' := 98) C d1_96 rfl rfl ?_
  refine own_icmp_ge (pt := 130) (pf := 101) C d1_98 (by decide) (by decide) rfl (fun _ => ?_) (fun q => absurd q (by decide))
  refine own_aload (pc' := 132) C d1_130 rfl rfl rfl ?_
  refine own_aret C rfl rfl d1_132 (by decide) (by decide) ?_
  exact ⟨b6, rfl, sz_b6, K_, A_b6⟩

set_option maxRecDepth 65536 in
set_option maxHeartbeats 40000000 in
theorem own_sort4 (l : Launch) (Z : State) (a0 : Array Value) (hw : ∀ d ∈ tables_1, d.before a0 Z = true) (pl : Addr) (ka : Addr) (keys : Int32) (p0_ p1_ p2_ p3_ y0_ y1_ y2_ y3_ : Int32) (h0 : Heap) (n0 : Nat) (Z_ : n0 ≤ h0.size) (A_pl : AI Z h0 pl .int [p0_, p1_, p2_, p3_]) (A_ka : AI Z h0 ka .int [y0_, y1_, y2_, y3_]) (hk : own_kb keys) (hp_p0_ : own_in4 p0_) (hu_p0_ : own_ub (own_rk [y0_, y1_, y2_, y3_] p0_) keys) (hp_p1_ : own_in4 p1_) (hu_p1_ : own_ub (own_rk [y0_, y1_, y2_, y3_] p1_) keys) (hp_p2_ : own_in4 p2_) (hu_p2_ : own_ub (own_rk [y0_, y1_, y2_, y3_] p2_) keys) (hp_p3_ : own_in4 p3_) (hu_p3_ : own_ub (own_rk [y0_, y1_, y2_, y3_] p3_) keys) (hb_0 : own_inb 4 ((own_pre (own_inc (own_inc (own_inc (own_inc (fun _ => 0) ((own_rk [y0_, y1_, y2_, y3_] p0_).toNatClampNeg + 1)) ((own_rk [y0_, y1_, y2_, y3_] p1_).toNatClampNeg + 1)) ((own_rk [y0_, y1_, y2_, y3_] p2_).toNatClampNeg + 1)) ((own_rk [y0_, y1_, y2_, y3_] p3_).toNatClampNeg + 1))) (own_rk [y0_, y1_, y2_, y3_] p0_).toNatClampNeg)) (hb_1 : own_inb 4 ((own_inc (own_pre (own_inc (own_inc (own_inc (own_inc (fun _ => 0) ((own_rk [y0_, y1_, y2_, y3_] p0_).toNatClampNeg + 1)) ((own_rk [y0_, y1_, y2_, y3_] p1_).toNatClampNeg + 1)) ((own_rk [y0_, y1_, y2_, y3_] p2_).toNatClampNeg + 1)) ((own_rk [y0_, y1_, y2_, y3_] p3_).toNatClampNeg + 1))) (own_rk [y0_, y1_, y2_, y3_] p0_).toNatClampNeg) (own_rk [y0_, y1_, y2_, y3_] p1_).toNatClampNeg)) (hb_2 : own_inb 4 ((own_inc (own_inc (own_pre (own_inc (own_inc (own_inc (own_inc (fun _ => 0) ((own_rk [y0_, y1_, y2_, y3_] p0_).toNatClampNeg + 1)) ((own_rk [y0_, y1_, y2_, y3_] p1_).toNatClampNeg + 1)) ((own_rk [y0_, y1_, y2_, y3_] p2_).toNatClampNeg + 1)) ((own_rk [y0_, y1_, y2_, y3_] p3_).toNatClampNeg + 1))) (own_rk [y0_, y1_, y2_, y3_] p0_).toNatClampNeg) (own_rk [y0_, y1_, y2_, y3_] p1_).toNatClampNeg) (own_rk [y0_, y1_, y2_, y3_] p2_).toNatClampNeg)) (hb_3 : own_inb 4 ((own_inc (own_inc (own_inc (own_pre (own_inc (own_inc (own_inc (own_inc (fun _ => 0) ((own_rk [y0_, y1_, y2_, y3_] p0_).toNatClampNeg + 1)) ((own_rk [y0_, y1_, y2_, y3_] p1_).toNatClampNeg + 1)) ((own_rk [y0_, y1_, y2_, y3_] p2_).toNatClampNeg + 1)) ((own_rk [y0_, y1_, y2_, y3_] p3_).toNatClampNeg + 1))) (own_rk [y0_, y1_, y2_, y3_] p0_).toNatClampNeg) (own_rk [y0_, y1_, y2_, y3_] p1_).toNatClampNeg) (own_rk [y0_, y1_, y2_, y3_] p2_).toNatClampNeg) (own_rk [y0_, y1_, y2_, y3_] p3_).toNatClampNeg)) :
    Met l (⟨"com/example/precedence/precedence/Touches", "sorted", "([I[II)[I"⟩ : MethodName) prog_106_method_6_code 9 (some (.array .int)) [] ({ frames := 0, cells := 2, slots := 13, locals := 0 } : Room) Z n0 #[(.ref pl), (.ref ka), (.int keys)] h0 (fun v h => ∃ o, v = some (.ref o) ∧ h0.size ≤ o ∧ Keep h0 h [] ∧ AI Z h o .int (((([(0 : Int32), (0 : Int32), (0 : Int32), (0 : Int32)].set ((own_pre (own_inc (own_inc (own_inc (own_inc (fun _ => 0) ((own_rk [y0_, y1_, y2_, y3_] p0_).toNatClampNeg + 1)) ((own_rk [y0_, y1_, y2_, y3_] p1_).toNatClampNeg + 1)) ((own_rk [y0_, y1_, y2_, y3_] p2_).toNatClampNeg + 1)) ((own_rk [y0_, y1_, y2_, y3_] p3_).toNatClampNeg + 1))) (own_rk [y0_, y1_, y2_, y3_] p0_).toNatClampNeg).toNatClampNeg p0_).set ((own_inc (own_pre (own_inc (own_inc (own_inc (own_inc (fun _ => 0) ((own_rk [y0_, y1_, y2_, y3_] p0_).toNatClampNeg + 1)) ((own_rk [y0_, y1_, y2_, y3_] p1_).toNatClampNeg + 1)) ((own_rk [y0_, y1_, y2_, y3_] p2_).toNatClampNeg + 1)) ((own_rk [y0_, y1_, y2_, y3_] p3_).toNatClampNeg + 1))) (own_rk [y0_, y1_, y2_, y3_] p0_).toNatClampNeg) (own_rk [y0_, y1_, y2_, y3_] p1_).toNatClampNeg).toNatClampNeg p1_).set ((own_inc (own_inc (own_pre (own_inc (own_inc (own_inc (own_inc (fun _ => 0) ((own_rk [y0_, y1_, y2_, y3_] p0_).toNatClampNeg + 1)) ((own_rk [y0_, y1_, y2_, y3_] p1_).toNatClampNeg + 1)) ((own_rk [y0_, y1_, y2_, y3_] p2_).toNatClampNeg + 1)) ((own_rk [y0_, y1_, y2_, y3_] p3_).toNatClampNeg + 1))) (own_rk [y0_, y1_, y2_, y3_] p0_).toNatClampNeg) (own_rk [y0_, y1_, y2_, y3_] p1_).toNatClampNeg) (own_rk [y0_, y1_, y2_, y3_] p2_).toNatClampNeg).toNatClampNeg p2_).set ((own_inc (own_inc (own_inc (own_pre (own_inc (own_inc (own_inc (own_inc (fun _ => 0) ((own_rk [y0_, y1_, y2_, y3_] p0_).toNatClampNeg + 1)) ((own_rk [y0_, y1_, y2_, y3_] p1_).toNatClampNeg + 1)) ((own_rk [y0_, y1_, y2_, y3_] p2_).toNatClampNeg + 1)) ((own_rk [y0_, y1_, y2_, y3_] p3_).toNatClampNeg + 1))) (own_rk [y0_, y1_, y2_, y3_] p0_).toNatClampNeg) (own_rk [y0_, y1_, y2_, y3_] p1_).toNatClampNeg) (own_rk [y0_, y1_, y2_, y3_] p2_).toNatClampNeg) (own_rk [y0_, y1_, y2_, y3_] p3_).toNatClampNeg).toNatClampNeg p3_)) := by
  refine own_met pn1 (fun m => ef1 m pl ka keys) ?_
  intro p e s m below meth c C
  have K_ : Keep h0 h0 [] := Keep.refl _ _
  have hL := own_ks hk
  refine own_iloadN (pc' := 1) C d1_0 rfl rfl ?_
  refine own_iconst (pc' := 2) (v := (1 : Int32)) C d1_1 own_ki_1 rfl ?_
  refine own_iadd (pc' := 3) C d1_2 rfl rfl ?_
  refine own_newI (pc' := 5) (len := (keys + 1).toNatClampNeg) (cap := 9) C d1_3 rfl rfl (hw _ (List.mem_of_getElem? (i := 0) rfl)) (own_ks hk).1 rfl (by omega) (by decide) (by decide) (by decide) rfl ?_
  intro h1 b1 g1 X1 A_b1
  have ne_pl_b1 : pl ≠ b1 := Nat.ne_of_lt (g1 ▸ A_pl.lt)
  have ne_ka_b1 : ka ≠ b1 := Nat.ne_of_lt (g1 ▸ A_ka.lt)
  replace A_pl := A_pl.ext X1
  replace A_ka := A_ka.ext X1
  have g_b1 : n0 ≤ b1 := g1 ▸ Z_
  have sz_b1 : h0.size ≤ b1 := g1 ▸ K_.1
  replace K_ := K_.ext X1
  replace Z_ := Nat.le_trans Z_ X1.1
  rw [own_tab0] at A_b1
  refine own_astoreN (pc' := 6) (Ls' := #[.val (.ref pl), .val (.ref ka), .val (.int keys), .val (.ref b1), .unset, .unset, .unset, .unset, .unset]) C d1_5 rfl rfl rfl ?_
  refine own_aloadN (pc' := 7) C d1_6 rfl rfl rfl ?_
  refine own_astore (pc' := 9) (Ls' := #[.val (.ref pl), .val (.ref ka), .val (.int keys), .val (.ref b1), .val (.ref pl), .unset, .unset, .unset, .unset]) C d1_7 rfl rfl rfl ?_
  refine own_aload (pc' := 11) C d1_9 rfl rfl rfl ?_
  refine own_lenI (pc' := 12) (v := (4 : Int32)) C d1_11 A_pl rfl rfl ?_
  refine own_istore (pc' := 14) (y := (4 : Int32)) (Ls' := #[.val (.ref pl), .val (.ref ka), .val (.int keys), .val (.ref b1), .val (.ref pl), .val (.int (4 : Int32)), .unset, .unset, .unset]) C d1_12 rfl rfl rfl ?_
  refine own_iconst (pc' := 15) (v := (0 : Int32)) C d1_14 own_ki_0 rfl ?_
  refine own_istore (pc' := 17) (y := (0 : Int32)) (Ls' := #[.val (.ref pl), .val (.ref ka), .val (.int keys), .val (.ref b1), .val (.ref pl), .val (.int (4 : Int32)), .val (.int (0 : Int32)), .unset, .unset]) C d1_15 rfl rfl rfl ?_
  refine own_iload (pc' := 19) C d1_17 rfl rfl ?_
  refine own_iload (pc' := 21) C d1_19 rfl rfl ?_
  refine own_icmp_ge (pt := 49) (pf := 24) C d1_21 (by decide) (by decide) rfl (fun q => absurd (by decide) q) (fun _ => ?_)
  refine own_aload (pc' := 26) C d1_24 rfl rfl rfl ?_
  refine own_iload (pc' := 28) C d1_26 rfl rfl ?_
  refine own_iaload (pc' := 29) (v := p0_) (i := 0) C d1_28 A_pl (by decide) rfl rfl rfl ?_
  refine own_istore (pc' := 31) (y := p0_) (Ls' := #[.val (.ref pl), .val (.ref ka), .val (.int keys), .val (.ref b1), .val (.ref pl), .val (.int (4 : Int32)), .val (.int (0 : Int32)), .val (.int p0_), .unset]) C d1_29 rfl rfl rfl ?_
  refine own_aloadN (pc' := 32) C d1_31 rfl rfl rfl ?_
  refine own_aloadN (pc' := 33) C d1_32 rfl rfl rfl ?_
  refine own_iload (pc' := 35) C d1_33 rfl rfl ?_
  refine own_iaload (pc' := 36) (v := (own_rk [y0_, y1_, y2_, y3_] p0_)) (i := p0_.toNatClampNeg) C d1_35 A_ka hp_p0_.1 rfl (own_get4 hp_p0_) rfl ?_
  refine own_iconst (pc' := 37) (v := (1 : Int32)) C d1_36 own_ki_1 rfl ?_
  refine own_iadd (pc' := 38) C d1_37 rfl rfl ?_
  refine own_dup2 (pc' := 39) C d1_38 rfl rfl rfl ?_
  refine own_iaload (pc' := 40) (v := ((fun _ => 0) ((own_rk [y0_, y1_, y2_, y3_] p0_).toNatClampNeg + 1))) (i := ((own_rk [y0_, y1_, y2_, y3_] p0_).toNatClampNeg + 1)) C d1_39 A_b1 (own_sc hk hu_p0_).2.1 (own_sc hk hu_p0_).2.2.1 (own_tabget (own_sc hk hu_p0_).2.2.2.2) rfl ?_
  refine own_iconst (pc' := 41) (v := (1 : Int32)) C d1_40 own_ki_1 rfl ?_
  refine own_iadd (pc' := 42) C d1_41 rfl rfl ?_
  refine own_iastore (pc' := 43) (i := ((own_rk [y0_, y1_, y2_, y3_] p0_).toNatClampNeg + 1)) (ys := (own_tab (keys + 1).toNatClampNeg (own_inc (fun _ => 0) ((own_rk [y0_, y1_, y2_, y3_] p0_).toNatClampNeg + 1)))) C d1_42 A_b1 (own_sc hk hu_p0_).2.1 (own_sc hk hu_p0_).2.2.1 (by rw [own_tablen]; exact (own_sc hk hu_p0_).2.2.2.2) own_incset g_b1 rfl ?_
  intro h2 W2 A2_
  replace A_pl := A_pl.other W2 ne_pl_b1
  replace A_ka := A_ka.other W2 ne_ka_b1
  replace A_b1 := A2_
  replace Z_ : n0 ≤ _ := Nat.le_trans Z_ (Nat.le_of_eq W2.size.symm)
  replace K_ := K_.wr W2 (Or.inr sz_b1)
  refine own_iinc (pc' := 46) (v := (1 : Int32)) (Ls' := #[.val (.ref pl), .val (.ref ka), .val (.int keys), .val (.ref b1), .val (.ref pl), .val (.int (4 : Int32)), .val (.int (1 : Int32)), .val (.int p0_), .unset]) C d1_43 rfl (by decide) rfl rfl ?_
  refine own_goto (pc' := 17) C d1_46 (by decide) (by decide) ?_
  refine own_iload (pc' := 19) C d1_17 rfl rfl ?_
  refine own_iload (pc' := 21) C d1_19 rfl rfl ?_
  refine own_icmp_ge (pt := 49) (pf := 24) C d1_21 (by decide) (by decide) rfl (fun q => absurd (by decide) q) (fun _ => ?_)
  refine own_aload (pc' := 26) C d1_24 rfl rfl rfl ?_
  refine own_iload (pc' := 28) C d1_26 rfl rfl ?_
  refine own_iaload (pc' := 29) (v := p1_) (i := 1) C d1_28 A_pl (by decide) rfl rfl rfl ?_
  refine own_istore (pc' := 31) (y := p1_) (Ls' := #[.val (.ref pl), .val (.ref ka), .val (.int keys), .val (.ref b1), .val (.ref pl), .val (.int (4 : Int32)), .val (.int (1 : Int32)), .val (.int p1_), .unset]) C d1_29 rfl rfl rfl ?_
  refine own_aloadN (pc' := 32) C d1_31 rfl rfl rfl ?_
  refine own_aloadN (pc' := 33) C d1_32 rfl rfl rfl ?_
  refine own_iload (pc' := 35) C d1_33 rfl rfl ?_
  refine own_iaload (pc' := 36) (v := (own_rk [y0_, y1_, y2_, y3_] p1_)) (i := p1_.toNatClampNeg) C d1_35 A_ka hp_p1_.1 rfl (own_get4 hp_p1_) rfl ?_
  refine own_iconst (pc' := 37) (v := (1 : Int32)) C d1_36 own_ki_1 rfl ?_
  refine own_iadd (pc' := 38) C d1_37 rfl rfl ?_
  refine own_dup2 (pc' := 39) C d1_38 rfl rfl rfl ?_
  refine own_iaload (pc' := 40) (v := ((own_inc (fun _ => 0) ((own_rk [y0_, y1_, y2_, y3_] p0_).toNatClampNeg + 1)) ((own_rk [y0_, y1_, y2_, y3_] p1_).toNatClampNeg + 1))) (i := ((own_rk [y0_, y1_, y2_, y3_] p1_).toNatClampNeg + 1)) C d1_39 A_b1 (own_sc hk hu_p1_).2.1 (own_sc hk hu_p1_).2.2.1 (own_tabget (own_sc hk hu_p1_).2.2.2.2) rfl ?_
  refine own_iconst (pc' := 41) (v := (1 : Int32)) C d1_40 own_ki_1 rfl ?_
  refine own_iadd (pc' := 42) C d1_41 rfl rfl ?_
  refine own_iastore (pc' := 43) (i := ((own_rk [y0_, y1_, y2_, y3_] p1_).toNatClampNeg + 1)) (ys := (own_tab (keys + 1).toNatClampNeg (own_inc (own_inc (fun _ => 0) ((own_rk [y0_, y1_, y2_, y3_] p0_).toNatClampNeg + 1)) ((own_rk [y0_, y1_, y2_, y3_] p1_).toNatClampNeg + 1)))) C d1_42 A_b1 (own_sc hk hu_p1_).2.1 (own_sc hk hu_p1_).2.2.1 (by rw [own_tablen]; exact (own_sc hk hu_p1_).2.2.2.2) own_incset g_b1 rfl ?_
  intro h3 W3 A3_
  replace A_pl := A_pl.other W3 ne_pl_b1
  replace A_ka := A_ka.other W3 ne_ka_b1
  replace A_b1 := A3_
  replace Z_ : n0 ≤ _ := Nat.le_trans Z_ (Nat.le_of_eq W3.size.symm)
  replace K_ := K_.wr W3 (Or.inr sz_b1)
  refine own_iinc (pc' := 46) (v := (2 : Int32)) (Ls' := #[.val (.ref pl), .val (.ref ka), .val (.int keys), .val (.ref b1), .val (.ref pl), .val (.int (4 : Int32)), .val (.int (2 : Int32)), .val (.int p1_), .unset]) C d1_43 rfl (by decide) rfl rfl ?_
  refine own_goto (pc' := 17) C d1_46 (by decide) (by decide) ?_
  refine own_iload (pc' := 19) C d1_17 rfl rfl ?_
  refine own_iload (pc' := 21) C d1_19 rfl rfl ?_
  refine own_icmp_ge (pt := 49) (pf := 24) C d1_21 (by decide) (by decide) rfl (fun q => absurd (by decide) q) (fun _ => ?_)
  refine own_aload (pc' := 26) C d1_24 rfl rfl rfl ?_
  refine own_iload (pc' := 28) C d1_26 rfl rfl ?_
  refine own_iaload (pc' := 29) (v := p2_) (i := 2) C d1_28 A_pl (by decide) rfl rfl rfl ?_
  refine own_istore (pc' := 31) (y := p2_) (Ls' := #[.val (.ref pl), .val (.ref ka), .val (.int keys), .val (.ref b1), .val (.ref pl), .val (.int (4 : Int32)), .val (.int (2 : Int32)), .val (.int p2_), .unset]) C d1_29 rfl rfl rfl ?_
  refine own_aloadN (pc' := 32) C d1_31 rfl rfl rfl ?_
  refine own_aloadN (pc' := 33) C d1_32 rfl rfl rfl ?_
  refine own_iload (pc' := 35) C d1_33 rfl rfl ?_
  refine own_iaload (pc' := 36) (v := (own_rk [y0_, y1_, y2_, y3_] p2_)) (i := p2_.toNatClampNeg) C d1_35 A_ka hp_p2_.1 rfl (own_get4 hp_p2_) rfl ?_
  refine own_iconst (pc' := 37) (v := (1 : Int32)) C d1_36 own_ki_1 rfl ?_
  refine own_iadd (pc' := 38) C d1_37 rfl rfl ?_
  refine own_dup2 (pc' := 39) C d1_38 rfl rfl rfl ?_
  refine own_iaload (pc' := 40) (v := ((own_inc (own_inc (fun _ => 0) ((own_rk [y0_, y1_, y2_, y3_] p0_).toNatClampNeg + 1)) ((own_rk [y0_, y1_, y2_, y3_] p1_).toNatClampNeg + 1)) ((own_rk [y0_, y1_, y2_, y3_] p2_).toNatClampNeg + 1))) (i := ((own_rk [y0_, y1_, y2_, y3_] p2_).toNatClampNeg + 1)) C d1_39 A_b1 (own_sc hk hu_p2_).2.1 (own_sc hk hu_p2_).2.2.1 (own_tabget (own_sc hk hu_p2_).2.2.2.2) rfl ?_
  refine own_iconst (pc' := 41) (v := (1 : Int32)) C d1_40 own_ki_1 rfl ?_
  refine own_iadd (pc' := 42) C d1_41 rfl rfl ?_
  refine own_iastore (pc' := 43) (i := ((own_rk [y0_, y1_, y2_, y3_] p2_).toNatClampNeg + 1)) (ys := (own_tab (keys + 1).toNatClampNeg (own_inc (own_inc (own_inc (fun _ => 0) ((own_rk [y0_, y1_, y2_, y3_] p0_).toNatClampNeg + 1)) ((own_rk [y0_, y1_, y2_, y3_] p1_).toNatClampNeg + 1)) ((own_rk [y0_, y1_, y2_, y3_] p2_).toNatClampNeg + 1)))) C d1_42 A_b1 (own_sc hk hu_p2_).2.1 (own_sc hk hu_p2_).2.2.1 (by rw [own_tablen]; exact (own_sc hk hu_p2_).2.2.2.2) own_incset g_b1 rfl ?_
  intro h4 W4 A4_
  replace A_pl := A_pl.other W4 ne_pl_b1
  replace A_ka := A_ka.other W4 ne_ka_b1
  replace A_b1 := A4_
  replace Z_ : n0 ≤ _ := Nat.le_trans Z_ (Nat.le_of_eq W4.size.symm)
  replace K_ := K_.wr W4 (Or.inr sz_b1)
  refine own_iinc (pc' := 46) (v := (3 : Int32)) (Ls' := #[.val (.ref pl), .val (.ref ka), .val (.int keys), .val (.ref b1), .val (.ref pl), .val (.int (4 : Int32)), .val (.int (3 : Int32)), .val (.int p2_), .unset]) C d1_43 rfl (by decide) rfl rfl ?_
  refine own_goto (pc' := 17) C d1_46 (by decide) (by decide) ?_
  refine own_iload (pc' := 19) C d1_17 rfl rfl ?_
  refine own_iload (pc' := 21) C d1_19 rfl rfl ?_
  refine own_icmp_ge (pt := 49) (pf := 24) C d1_21 (by decide) (by decide) rfl (fun q => absurd (by decide) q) (fun _ => ?_)
  refine own_aload (pc' := 26) C d1_24 rfl rfl rfl ?_
  refine own_iload (pc' := 28) C d1_26 rfl rfl ?_
  refine own_iaload (pc' := 29) (v := p3_) (i := 3) C d1_28 A_pl (by decide) rfl rfl rfl ?_
  refine own_istore (pc' := 31) (y := p3_) (Ls' := #[.val (.ref pl), .val (.ref ka), .val (.int keys), .val (.ref b1), .val (.ref pl), .val (.int (4 : Int32)), .val (.int (3 : Int32)), .val (.int p3_), .unset]) C d1_29 rfl rfl rfl ?_
  refine own_aloadN (pc' := 32) C d1_31 rfl rfl rfl ?_
  refine own_aloadN (pc' := 33) C d1_32 rfl rfl rfl ?_
  refine own_iload (pc' := 35) C d1_33 rfl rfl ?_
  refine own_iaload (pc' := 36) (v := (own_rk [y0_, y1_, y2_, y3_] p3_)) (i := p3_.toNatClampNeg) C d1_35 A_ka hp_p3_.1 rfl (own_get4 hp_p3_) rfl ?_
  refine own_iconst (pc' := 37) (v := (1 : Int32)) C d1_36 own_ki_1 rfl ?_
  refine own_iadd (pc' := 38) C d1_37 rfl rfl ?_
  refine own_dup2 (pc' := 39) C d1_38 rfl rfl rfl ?_
  refine own_iaload (pc' := 40) (v := ((own_inc (own_inc (own_inc (fun _ => 0) ((own_rk [y0_, y1_, y2_, y3_] p0_).toNatClampNeg + 1)) ((own_rk [y0_, y1_, y2_, y3_] p1_).toNatClampNeg + 1)) ((own_rk [y0_, y1_, y2_, y3_] p2_).toNatClampNeg + 1)) ((own_rk [y0_, y1_, y2_, y3_] p3_).toNatClampNeg + 1))) (i := ((own_rk [y0_, y1_, y2_, y3_] p3_).toNatClampNeg + 1)) C d1_39 A_b1 (own_sc hk hu_p3_).2.1 (own_sc hk hu_p3_).2.2.1 (own_tabget (own_sc hk hu_p3_).2.2.2.2) rfl ?_
  refine own_iconst (pc' := 41) (v := (1 : Int32)) C d1_40 own_ki_1 rfl ?_
  refine own_iadd (pc' := 42) C d1_41 rfl rfl ?_
  refine own_iastore (pc' := 43) (i := ((own_rk [y0_, y1_, y2_, y3_] p3_).toNatClampNeg + 1)) (ys := (own_tab (keys + 1).toNatClampNeg (own_inc (own_inc (own_inc (own_inc (fun _ => 0) ((own_rk [y0_, y1_, y2_, y3_] p0_).toNatClampNeg + 1)) ((own_rk [y0_, y1_, y2_, y3_] p1_).toNatClampNeg + 1)) ((own_rk [y0_, y1_, y2_, y3_] p2_).toNatClampNeg + 1)) ((own_rk [y0_, y1_, y2_, y3_] p3_).toNatClampNeg + 1)))) C d1_42 A_b1 (own_sc hk hu_p3_).2.1 (own_sc hk hu_p3_).2.2.1 (by rw [own_tablen]; exact (own_sc hk hu_p3_).2.2.2.2) own_incset g_b1 rfl ?_
  intro h5 W5 A5_
  replace A_pl := A_pl.other W5 ne_pl_b1
  replace A_ka := A_ka.other W5 ne_ka_b1
  replace A_b1 := A5_
  replace Z_ : n0 ≤ _ := Nat.le_trans Z_ (Nat.le_of_eq W5.size.symm)
  replace K_ := K_.wr W5 (Or.inr sz_b1)
  refine own_iinc (pc' := 46) (v := (4 : Int32)) (Ls' := #[.val (.ref pl), .val (.ref ka), .val (.int keys), .val (.ref b1), .val (.ref pl), .val (.int (4 : Int32)), .val (.int (4 : Int32)), .val (.int p3_), .unset]) C d1_43 rfl (by decide) rfl rfl ?_
  refine own_goto (pc' := 17) C d1_46 (by decide) (by decide) ?_
  refine own_iload (pc' := 19) C d1_17 rfl rfl ?_
  refine own_iload (pc' := 21) C d1_19 rfl rfl ?_
  refine own_icmp_ge (pt := 49) (pf := 24) C d1_21 (by decide) (by decide) rfl (fun _ => ?_) (fun q => absurd q (by decide))
  refine own_iconst (pc' := 50) (v := (0 : Int32)) C d1_49 own_ki_0 rfl ?_
  refine own_istore (pc' := 52) (y := (0 : Int32)) (Ls' := #[.val (.ref pl), .val (.ref ka), .val (.int keys), .val (.ref b1), .val (.int (0 : Int32)), .val (.int (4 : Int32)), .val (.int (4 : Int32)), .val (.int p3_), .unset]) C d1_50 rfl rfl rfl ?_
  refine own_loop2 hw C hk g_b1 keys.toInt.toNat h5 0 Z_ (by decide) (by have := hk.1; have k0 : (0 : Int32).toInt = 0 := rfl; omega) (by rw [show (0 : Int32).toNatClampNeg = 0 from rfl, own_mid0]; exact A_b1) ?_
  intro h6 K6 A6_
  replace A_pl := A_pl.keep K6 (ninS ne_pl_b1 nin0)
  replace A_ka := A_ka.keep K6 (ninS ne_ka_b1 nin0)
  replace Z_ := Nat.le_trans Z_ K6.1
  replace K_ := K_.trans K6 (allS (Or.inr sz_b1) all0)
  replace A_b1 := A6_
  refine own_aloadN (pc' := 78) C d1_77 rfl rfl rfl ?_
  refine own_lenI (pc' := 79) (v := (4 : Int32)) C d1_78 A_pl rfl rfl ?_
  refine own_newI (pc' := 81) (len := 4) (cap := 4) C d1_79 rfl rfl (hw _ (List.mem_of_getElem? (i := 0) rfl)) (by decide) rfl (by decide) (by decide) (by decide) (by decide) rfl ?_
  intro h7 b7 g7 X7 A_b7
  have ne_pl_b7 : pl ≠ b7 := Nat.ne_of_lt (g7 ▸ A_pl.lt)
  have ne_ka_b7 : ka ≠ b7 := Nat.ne_of_lt (g7 ▸ A_ka.lt)
  have ne_b1_b7 : b1 ≠ b7 := Nat.ne_of_lt (g7 ▸ A_b1.lt)
  replace A_pl := A_pl.ext X7
  replace A_ka := A_ka.ext X7
  replace A_b1 := A_b1.ext X7
  have g_b7 : n0 ≤ b7 := g7 ▸ Z_
  have sz_b7 : h0.size ≤ b7 := g7 ▸ K_.1
  replace K_ := K_.ext X7
  replace Z_ := Nat.le_trans Z_ X7.1
  replace A_b7 : AI Z h7 b7 .int [(0 : Int32), (0 : Int32), (0 : Int32), (0 : Int32)] := A_b7
  refine own_astore (pc' := 83) (Ls' := #[.val (.ref pl), .val (.ref ka), .val (.int keys), .val (.ref b1), .val (.ref b7), .val (.int (4 : Int32)), .val (.int (4 : Int32)), .val (.int p3_), .unset]) C d1_81 rfl rfl rfl ?_
  refine own_aloadN (pc' := 84) C d1_83 rfl rfl rfl ?_
  refine own_astore (pc' := 86) (Ls' := #[.val (.ref pl), .val (.ref ka), .val (.int keys), .val (.ref b1), .val (.ref b7), .val (.ref pl), .val (.int (4 : Int32)), .val (.int p3_), .unset]) C d1_84 rfl rfl rfl ?_
  refine own_aload (pc' := 88) C d1_86 rfl rfl rfl ?_
  refine own_lenI (pc' := 89) (v := (4 : Int32)) C d1_88 A_pl rfl rfl ?_
  refine own_istore (pc' := 91) (y := (4 : Int32)) (Ls' := #[.val (.ref pl), .val (.ref ka), .val (.int keys), .val (.ref b1), .val (.ref b7), .val (.ref pl), .val (.int (4 : Int32)), .val (.int p3_), .unset]) C d1_89 rfl rfl rfl ?_
  refine own_iconst (pc' := 92) (v := (0 : Int32)) C d1_91 own_ki_0 rfl ?_
  refine own_istore (pc' := 94) (y := (0 : Int32)) (Ls' := #[.val (.ref pl), .val (.ref ka), .val (.int keys), .val (.ref b1), .val (.ref b7), .val (.ref pl), .val (.int (4 : Int32)), .val (.int (0 : Int32)), .unset]) C d1_92 rfl rfl rfl ?_
  refine own_iload (pc' := 96) C d1_94 rfl rfl ?_
  refine own_iload (pc' := 98) C d1_96 rfl rfl ?_
  refine own_icmp_ge (pt := 130) (pf := 101) C d1_98 (by decide) (by decide) rfl (fun q => absurd (by decide) q) (fun _ => ?_)
  refine own_aload (pc' := 103) C d1_101 rfl rfl rfl ?_
  refine own_iload (pc' := 105) C d1_103 rfl rfl ?_
  refine own_iaload (pc' := 106) (v := p0_) (i := 0) C d1_105 A_pl (by decide) rfl rfl rfl ?_
  refine own_istore (pc' := 108) (y := p0_) (Ls' := #[.val (.ref pl), .val (.ref ka), .val (.int keys), .val (.ref b1), .val (.ref b7), .val (.ref pl), .val (.int (4 : Int32)), .val (.int (0 : Int32)), .val (.int p0_)]) C d1_106 rfl rfl rfl ?_
  refine own_aload (pc' := 110) C d1_108 rfl rfl rfl ?_
  refine own_aloadN (pc' := 111) C d1_110 rfl rfl rfl ?_
  refine own_aloadN (pc' := 112) C d1_111 rfl rfl rfl ?_
  refine own_iload (pc' := 114) C d1_112 rfl rfl ?_
  refine own_iaload (pc' := 115) (v := (own_rk [y0_, y1_, y2_, y3_] p0_)) (i := p0_.toNatClampNeg) C d1_114 A_ka hp_p0_.1 rfl (own_get4 hp_p0_) rfl ?_
  refine own_dup2 (pc' := 116) C d1_115 rfl rfl rfl ?_
  refine own_iaload (pc' := 117) (v := ((own_pre (own_inc (own_inc (own_inc (own_inc (fun _ => 0) ((own_rk [y0_, y1_, y2_, y3_] p0_).toNatClampNeg + 1)) ((own_rk [y0_, y1_, y2_, y3_] p1_).toNatClampNeg + 1)) ((own_rk [y0_, y1_, y2_, y3_] p2_).toNatClampNeg + 1)) ((own_rk [y0_, y1_, y2_, y3_] p3_).toNatClampNeg + 1))) (own_rk [y0_, y1_, y2_, y3_] p0_).toNatClampNeg)) (i := (own_rk [y0_, y1_, y2_, y3_] p0_).toNatClampNeg) C d1_116 A_b1 (own_sc hk hu_p0_).1 rfl (own_tabget (own_sc hk hu_p0_).2.2.2.1) rfl ?_
  refine own_dupX2 (pc' := 118) C d1_117 rfl rfl rfl rfl ?_
  refine own_iconst (pc' := 119) (v := (1 : Int32)) C d1_118 own_ki_1 rfl ?_
  refine own_iadd (pc' := 120) C d1_119 rfl rfl ?_
  refine own_iastore (pc' := 121) (i := (own_rk [y0_, y1_, y2_, y3_] p0_).toNatClampNeg) (ys := (own_tab (keys + 1).toNatClampNeg (own_inc (own_pre (own_inc (own_inc (own_inc (own_inc (fun _ => 0) ((own_rk [y0_, y1_, y2_, y3_] p0_).toNatClampNeg + 1)) ((own_rk [y0_, y1_, y2_, y3_] p1_).toNatClampNeg + 1)) ((own_rk [y0_, y1_, y2_, y3_] p2_).toNatClampNeg + 1)) ((own_rk [y0_, y1_, y2_, y3_] p3_).toNatClampNeg + 1))) (own_rk [y0_, y1_, y2_, y3_] p0_).toNatClampNeg))) C d1_120 A_b1 (own_sc hk hu_p0_).1 rfl (by rw [own_tablen]; exact (own_sc hk hu_p0_).2.2.2.1) own_incset g_b1 rfl ?_
  intro h8 W8 A8_
  replace A_pl := A_pl.other W8 ne_pl_b1
  replace A_ka := A_ka.other W8 ne_ka_b1
  replace A_b7 := A_b7.other W8 (Ne.symm ne_b1_b7)
  replace A_b1 := A8_
  replace Z_ : n0 ≤ _ := Nat.le_trans Z_ (Nat.le_of_eq W8.size.symm)
  replace K_ := K_.wr W8 (Or.inr sz_b1)
  refine own_iload (pc' := 123) C d1_121 rfl rfl ?_
  refine own_iastore (pc' := 124) (i := ((own_pre (own_inc (own_inc (own_inc (own_inc (fun _ => 0) ((own_rk [y0_, y1_, y2_, y3_] p0_).toNatClampNeg + 1)) ((own_rk [y0_, y1_, y2_, y3_] p1_).toNatClampNeg + 1)) ((own_rk [y0_, y1_, y2_, y3_] p2_).toNatClampNeg + 1)) ((own_rk [y0_, y1_, y2_, y3_] p3_).toNatClampNeg + 1))) (own_rk [y0_, y1_, y2_, y3_] p0_).toNatClampNeg).toNatClampNeg) (ys := ([(0 : Int32), (0 : Int32), (0 : Int32), (0 : Int32)].set ((own_pre (own_inc (own_inc (own_inc (own_inc (fun _ => 0) ((own_rk [y0_, y1_, y2_, y3_] p0_).toNatClampNeg + 1)) ((own_rk [y0_, y1_, y2_, y3_] p1_).toNatClampNeg + 1)) ((own_rk [y0_, y1_, y2_, y3_] p2_).toNatClampNeg + 1)) ((own_rk [y0_, y1_, y2_, y3_] p3_).toNatClampNeg + 1))) (own_rk [y0_, y1_, y2_, y3_] p0_).toNatClampNeg).toNatClampNeg p0_)) C d1_123 A_b7 hb_0.1 rfl (by simpa using hb_0.2) rfl g_b7 rfl ?_
  intro h9 W9 A9_
  replace A_pl := A_pl.other W9 ne_pl_b7
  replace A_ka := A_ka.other W9 ne_ka_b7
  replace A_b1 := A_b1.other W9 ne_b1_b7
  replace A_b7 := A9_
  replace Z_ : n0 ≤ _ := Nat.le_trans Z_ (Nat.le_of_eq W9.size.symm)
  replace K_ := K_.wr W9 (Or.inr sz_b7)
  refine own_iinc (pc' := 127) (v := (1 : Int32)) (Ls' := #[.val (.ref pl), .val (.ref ka), .val (.int keys), .val (.ref b1), .val (.ref b7), .val (.ref pl), .val (.int (4 : Int32)), .val (.int (1 : Int32)), .val (.int p0_)]) C d1_124 rfl (by decide) rfl rfl ?_
  refine own_goto (pc' := 94) C d1_127 (by decide) (by decide) ?_
  refine own_iload (pc' := 96) C d1_94 rfl rfl ?_
  refine own_iload (pc' := 98) C d1_96 rfl rfl ?_
  refine own_icmp_ge (pt := 130) (pf := 101) C d1_98 (by decide) (by decide) rfl (fun q => absurd (by decide) q) (fun _ => ?_)
  refine own_aload (pc' := 103) C d1_101 rfl rfl rfl ?_
  refine own_iload (pc' := 105) C d1_103 rfl rfl ?_
  refine own_iaload (pc' := 106) (v := p1_) (i := 1) C d1_105 A_pl (by decide) rfl rfl rfl ?_
  refine own_istore (pc' := 108) (y := p1_) (Ls' := #[.val (.ref pl), .val (.ref ka), .val (.int keys), .val (.ref b1), .val (.ref b7), .val (.ref pl), .val (.int (4 : Int32)), .val (.int (1 : Int32)), .val (.int p1_)]) C d1_106 rfl rfl rfl ?_
  refine own_aload (pc' := 110) C d1_108 rfl rfl rfl ?_
  refine own_aloadN (pc' := 111) C d1_110 rfl rfl rfl ?_
  refine own_aloadN (pc' := 112) C d1_111 rfl rfl rfl ?_
  refine own_iload (pc' := 114) C d1_112 rfl rfl ?_
  refine own_iaload (pc' := 115) (v := (own_rk [y0_, y1_, y2_, y3_] p1_)) (i := p1_.toNatClampNeg) C d1_114 A_ka hp_p1_.1 rfl (own_get4 hp_p1_) rfl ?_
  refine own_dup2 (pc' := 116) C d1_115 rfl rfl rfl ?_
  refine own_iaload (pc' := 117) (v := ((own_inc (own_pre (own_inc (own_inc (own_inc (own_inc (fun _ => 0) ((own_rk [y0_, y1_, y2_, y3_] p0_).toNatClampNeg + 1)) ((own_rk [y0_, y1_, y2_, y3_] p1_).toNatClampNeg + 1)) ((own_rk [y0_, y1_, y2_, y3_] p2_).toNatClampNeg + 1)) ((own_rk [y0_, y1_, y2_, y3_] p3_).toNatClampNeg + 1))) (own_rk [y0_, y1_, y2_, y3_] p0_).toNatClampNeg) (own_rk [y0_, y1_, y2_, y3_] p1_).toNatClampNeg)) (i := (own_rk [y0_, y1_, y2_, y3_] p1_).toNatClampNeg) C d1_116 A_b1 (own_sc hk hu_p1_).1 rfl (own_tabget (own_sc hk hu_p1_).2.2.2.1) rfl ?_
  refine own_dupX2 (pc' := 118) C d1_117 rfl rfl rfl rfl ?_
  refine own_iconst (pc' := 119) (v := (1 : Int32)) C d1_118 own_ki_1 rfl ?_
  refine own_iadd (pc' := 120) C d1_119 rfl rfl ?_
  refine own_iastore (pc' := 121) (i := (own_rk [y0_, y1_, y2_, y3_] p1_).toNatClampNeg) (ys := (own_tab (keys + 1).toNatClampNeg (own_inc (own_inc (own_pre (own_inc (own_inc (own_inc (own_inc (fun _ => 0) ((own_rk [y0_, y1_, y2_, y3_] p0_).toNatClampNeg + 1)) ((own_rk [y0_, y1_, y2_, y3_] p1_).toNatClampNeg + 1)) ((own_rk [y0_, y1_, y2_, y3_] p2_).toNatClampNeg + 1)) ((own_rk [y0_, y1_, y2_, y3_] p3_).toNatClampNeg + 1))) (own_rk [y0_, y1_, y2_, y3_] p0_).toNatClampNeg) (own_rk [y0_, y1_, y2_, y3_] p1_).toNatClampNeg))) C d1_120 A_b1 (own_sc hk hu_p1_).1 rfl (by rw [own_tablen]; exact (own_sc hk hu_p1_).2.2.2.1) own_incset g_b1 rfl ?_
  intro h10 W10 A10_
  replace A_pl := A_pl.other W10 ne_pl_b1
  replace A_ka := A_ka.other W10 ne_ka_b1
  replace A_b7 := A_b7.other W10 (Ne.symm ne_b1_b7)
  replace A_b1 := A10_
  replace Z_ : n0 ≤ _ := Nat.le_trans Z_ (Nat.le_of_eq W10.size.symm)
  replace K_ := K_.wr W10 (Or.inr sz_b1)
  refine own_iload (pc' := 123) C d1_121 rfl rfl ?_
  refine own_iastore (pc' := 124) (i := ((own_inc (own_pre (own_inc (own_inc (own_inc (own_inc (fun _ => 0) ((own_rk [y0_, y1_, y2_, y3_] p0_).toNatClampNeg + 1)) ((own_rk [y0_, y1_, y2_, y3_] p1_).toNatClampNeg + 1)) ((own_rk [y0_, y1_, y2_, y3_] p2_).toNatClampNeg + 1)) ((own_rk [y0_, y1_, y2_, y3_] p3_).toNatClampNeg + 1))) (own_rk [y0_, y1_, y2_, y3_] p0_).toNatClampNeg) (own_rk [y0_, y1_, y2_, y3_] p1_).toNatClampNeg).toNatClampNeg) (ys := (([(0 : Int32), (0 : Int32), (0 : Int32), (0 : Int32)].set ((own_pre (own_inc (own_inc (own_inc (own_inc (fun _ => 0) ((own_rk [y0_, y1_, y2_, y3_] p0_).toNatClampNeg + 1)) ((own_rk [y0_, y1_, y2_, y3_] p1_).toNatClampNeg + 1)) ((own_rk [y0_, y1_, y2_, y3_] p2_).toNatClampNeg + 1)) ((own_rk [y0_, y1_, y2_, y3_] p3_).toNatClampNeg + 1))) (own_rk [y0_, y1_, y2_, y3_] p0_).toNatClampNeg).toNatClampNeg p0_).set ((own_inc (own_pre (own_inc (own_inc (own_inc (own_inc (fun _ => 0) ((own_rk [y0_, y1_, y2_, y3_] p0_).toNatClampNeg + 1)) ((own_rk [y0_, y1_, y2_, y3_] p1_).toNatClampNeg + 1)) ((own_rk [y0_, y1_, y2_, y3_] p2_).toNatClampNeg + 1)) ((own_rk [y0_, y1_, y2_, y3_] p3_).toNatClampNeg + 1))) (own_rk [y0_, y1_, y2_, y3_] p0_).toNatClampNeg) (own_rk [y0_, y1_, y2_, y3_] p1_).toNatClampNeg).toNatClampNeg p1_)) C d1_123 A_b7 hb_1.1 rfl (by simpa using hb_1.2) rfl g_b7 rfl ?_
  intro h11 W11 A11_
  replace A_pl := A_pl.other W11 ne_pl_b7
  replace A_ka := A_ka.other W11 ne_ka_b7
  replace A_b1 := A_b1.other W11 ne_b1_b7
  replace A_b7 := A11_
  replace Z_ : n0 ≤ _ := Nat.le_trans Z_ (Nat.le_of_eq W11.size.symm)
  replace K_ := K_.wr W11 (Or.inr sz_b7)
  refine own_iinc (pc' := 127) (v := (2 : Int32)) (Ls' := #[.val (.ref pl), .val (.ref ka), .val (.int keys), .val (.ref b1), .val (.ref b7), .val (.ref pl), .val (.int (4 : Int32)), .val (.int (2 : Int32)), .val (.int p1_)]) C d1_124 rfl (by decide) rfl rfl ?_
  refine own_goto (pc' := 94) C d1_127 (by decide) (by decide) ?_
  refine own_iload (pc' := 96) C d1_94 rfl rfl ?_
  refine own_iload (pc' := 98) C d1_96 rfl rfl ?_
  refine own_icmp_ge (pt := 130) (pf := 101) C d1_98 (by decide) (by decide) rfl (fun q => absurd (by decide) q) (fun _ => ?_)
  refine own_aload (pc' := 103) C d1_101 rfl rfl rfl ?_
  refine own_iload (pc' := 105) C d1_103 rfl rfl ?_
  refine own_iaload (pc' := 106) (v := p2_) (i := 2) C d1_105 A_pl (by decide) rfl rfl rfl ?_
  refine own_istore (pc' := 108) (y := p2_) (Ls' := #[.val (.ref pl), .val (.ref ka), .val (.int keys), .val (.ref b1), .val (.ref b7), .val (.ref pl), .val (.int (4 : Int32)), .val (.int (2 : Int32)), .val (.int p2_)]) C d1_106 rfl rfl rfl ?_
  refine own_aload (pc' := 110) C d1_108 rfl rfl rfl ?_
  refine own_aloadN (pc' := 111) C d1_110 rfl rfl rfl ?_
  refine own_aloadN (pc' := 112) C d1_111 rfl rfl rfl ?_
  refine own_iload (pc' := 114) C d1_112 rfl rfl ?_
  refine own_iaload (pc' := 115) (v := (own_rk [y0_, y1_, y2_, y3_] p2_)) (i := p2_.toNatClampNeg) C d1_114 A_ka hp_p2_.1 rfl (own_get4 hp_p2_) rfl ?_
  refine own_dup2 (pc' := 116) C d1_115 rfl rfl rfl ?_
  refine own_iaload (pc' := 117) (v := ((own_inc (own_inc (own_pre (own_inc (own_inc (own_inc (own_inc (fun _ => 0) ((own_rk [y0_, y1_, y2_, y3_] p0_).toNatClampNeg + 1)) ((own_rk [y0_, y1_, y2_, y3_] p1_).toNatClampNeg + 1)) ((own_rk [y0_, y1_, y2_, y3_] p2_).toNatClampNeg + 1)) ((own_rk [y0_, y1_, y2_, y3_] p3_).toNatClampNeg + 1))) (own_rk [y0_, y1_, y2_, y3_] p0_).toNatClampNeg) (own_rk [y0_, y1_, y2_, y3_] p1_).toNatClampNeg) (own_rk [y0_, y1_, y2_, y3_] p2_).toNatClampNeg)) (i := (own_rk [y0_, y1_, y2_, y3_] p2_).toNatClampNeg) C d1_116 A_b1 (own_sc hk hu_p2_).1 rfl (own_tabget (own_sc hk hu_p2_).2.2.2.1) rfl ?_
  refine own_dupX2 (pc' := 118) C d1_117 rfl rfl rfl rfl ?_
  refine own_iconst (pc' := 119) (v := (1 : Int32)) C d1_118 own_ki_1 rfl ?_
  refine own_iadd (pc' := 120) C d1_119 rfl rfl ?_
  refine own_iastore (pc' := 121) (i := (own_rk [y0_, y1_, y2_, y3_] p2_).toNatClampNeg) (ys := (own_tab (keys + 1).toNatClampNeg (own_inc (own_inc (own_inc (own_pre (own_inc (own_inc (own_inc (own_inc (fun _ => 0) ((own_rk [y0_, y1_, y2_, y3_] p0_).toNatClampNeg + 1)) ((own_rk [y0_, y1_, y2_, y3_] p1_).toNatClampNeg + 1)) ((own_rk [y0_, y1_, y2_, y3_] p2_).toNatClampNeg + 1)) ((own_rk [y0_, y1_, y2_, y3_] p3_).toNatClampNeg + 1))) (own_rk [y0_, y1_, y2_, y3_] p0_).toNatClampNeg) (own_rk [y0_, y1_, y2_, y3_] p1_).toNatClampNeg) (own_rk [y0_, y1_, y2_, y3_] p2_).toNatClampNeg))) C d1_120 A_b1 (own_sc hk hu_p2_).1 rfl (by rw [own_tablen]; exact (own_sc hk hu_p2_).2.2.2.1) own_incset g_b1 rfl ?_
  intro h12 W12 A12_
  replace A_pl := A_pl.other W12 ne_pl_b1
  replace A_ka := A_ka.other W12 ne_ka_b1
  replace A_b7 := A_b7.other W12 (Ne.symm ne_b1_b7)
  replace A_b1 := A12_
  replace Z_ : n0 ≤ _ := Nat.le_trans Z_ (Nat.le_of_eq W12.size.symm)
  replace K_ := K_.wr W12 (Or.inr sz_b1)
  refine own_iload (pc' := 123) C d1_121 rfl rfl ?_
  refine own_iastore (pc' := 124) (i := ((own_inc (own_inc (own_pre (own_inc (own_inc (own_inc (own_inc (fun _ => 0) ((own_rk [y0_, y1_, y2_, y3_] p0_).toNatClampNeg + 1)) ((own_rk [y0_, y1_, y2_, y3_] p1_).toNatClampNeg + 1)) ((own_rk [y0_, y1_, y2_, y3_] p2_).toNatClampNeg + 1)) ((own_rk [y0_, y1_, y2_, y3_] p3_).toNatClampNeg + 1))) (own_rk [y0_, y1_, y2_, y3_] p0_).toNatClampNeg) (own_rk [y0_, y1_, y2_, y3_] p1_).toNatClampNeg) (own_rk [y0_, y1_, y2_, y3_] p2_).toNatClampNeg).toNatClampNeg) (ys := ((([(0 : Int32), (0 : Int32), (0 : Int32), (0 : Int32)].set ((own_pre (own_inc (own_inc (own_inc (own_inc (fun _ => 0) ((own_rk [y0_, y1_, y2_, y3_] p0_).toNatClampNeg + 1)) ((own_rk [y0_, y1_, y2_, y3_] p1_).toNatClampNeg + 1)) ((own_rk [y0_, y1_, y2_, y3_] p2_).toNatClampNeg + 1)) ((own_rk [y0_, y1_, y2_, y3_] p3_).toNatClampNeg + 1))) (own_rk [y0_, y1_, y2_, y3_] p0_).toNatClampNeg).toNatClampNeg p0_).set ((own_inc (own_pre (own_inc (own_inc (own_inc (own_inc (fun _ => 0) ((own_rk [y0_, y1_, y2_, y3_] p0_).toNatClampNeg + 1)) ((own_rk [y0_, y1_, y2_, y3_] p1_).toNatClampNeg + 1)) ((own_rk [y0_, y1_, y2_, y3_] p2_).toNatClampNeg + 1)) ((own_rk [y0_, y1_, y2_, y3_] p3_).toNatClampNeg + 1))) (own_rk [y0_, y1_, y2_, y3_] p0_).toNatClampNeg) (own_rk [y0_, y1_, y2_, y3_] p1_).toNatClampNeg).toNatClampNeg p1_).set ((own_inc (own_inc (own_pre (own_inc (own_inc (own_inc (own_inc (fun _ => 0) ((own_rk [y0_, y1_, y2_, y3_] p0_).toNatClampNeg + 1)) ((own_rk [y0_, y1_, y2_, y3_] p1_).toNatClampNeg + 1)) ((own_rk [y0_, y1_, y2_, y3_] p2_).toNatClampNeg + 1)) ((own_rk [y0_, y1_, y2_, y3_] p3_).toNatClampNeg + 1))) (own_rk [y0_, y1_, y2_, y3_] p0_).toNatClampNeg) (own_rk [y0_, y1_, y2_, y3_] p1_).toNatClampNeg) (own_rk [y0_, y1_, y2_, y3_] p2_).toNatClampNeg).toNatClampNeg p2_)) C d1_123 A_b7 hb_2.1 rfl (by simpa using hb_2.2) rfl g_b7 rfl ?_
  intro h13 W13 A13_
  replace A_pl := A_pl.other W13 ne_pl_b7
  replace A_ka := A_ka.other W13 ne_ka_b7
  replace A_b1 := A_b1.other W13 ne_b1_b7
  replace A_b7 := A13_
  replace Z_ : n0 ≤ _ := Nat.le_trans Z_ (Nat.le_of_eq W13.size.symm)
  replace K_ := K_.wr W13 (Or.inr sz_b7)
  refine own_iinc (pc' := 127) (v := (3 : Int32)) (Ls' := #[.val (.ref pl), .val (.ref ka), .val (.int keys), .val (.ref b1), .val (.ref b7), .val (.ref pl), .val (.int (4 : Int32)), .val (.int (3 : Int32)), .val (.int p2_)]) C d1_124 rfl (by decide) rfl rfl ?_
  refine own_goto (pc' := 94) C d1_127 (by decide) (by decide) ?_
  refine own_iload (pc' := 96) C d1_94 rfl rfl ?_
  refine own_iload (pc' := 98) C d1_96 rfl rfl ?_
  refine own_icmp_ge (pt := 130) (pf := 101) C d1_98 (by decide) (by decide) rfl (fun q => absurd (by decide) q) (fun _ => ?_)
  refine own_aload (pc' := 103) C d1_101 rfl rfl rfl ?_
  refine own_iload (pc' := 105) C d1_103 rfl rfl ?_
  refine own_iaload (pc' := 106) (v := p3_) (i := 3) C d1_105 A_pl (by decide) rfl rfl rfl ?_
  refine own_istore (pc' := 108) (y := p3_) (Ls' := #[.val (.ref pl), .val (.ref ka), .val (.int keys), .val (.ref b1), .val (.ref b7), .val (.ref pl), .val (.int (4 : Int32)), .val (.int (3 : Int32)), .val (.int p3_)]) C d1_106 rfl rfl rfl ?_
  refine own_aload (pc' := 110) C d1_108 rfl rfl rfl ?_
  refine own_aloadN (pc' := 111) C d1_110 rfl rfl rfl ?_
  refine own_aloadN (pc' := 112) C d1_111 rfl rfl rfl ?_
  refine own_iload (pc' := 114) C d1_112 rfl rfl ?_
  refine own_iaload (pc' := 115) (v := (own_rk [y0_, y1_, y2_, y3_] p3_)) (i := p3_.toNatClampNeg) C d1_114 A_ka hp_p3_.1 rfl (own_get4 hp_p3_) rfl ?_
  refine own_dup2 (pc' := 116) C d1_115 rfl rfl rfl ?_
  refine own_iaload (pc' := 117) (v := ((own_inc (own_inc (own_inc (own_pre (own_inc (own_inc (own_inc (own_inc (fun _ => 0) ((own_rk [y0_, y1_, y2_, y3_] p0_).toNatClampNeg + 1)) ((own_rk [y0_, y1_, y2_, y3_] p1_).toNatClampNeg + 1)) ((own_rk [y0_, y1_, y2_, y3_] p2_).toNatClampNeg + 1)) ((own_rk [y0_, y1_, y2_, y3_] p3_).toNatClampNeg + 1))) (own_rk [y0_, y1_, y2_, y3_] p0_).toNatClampNeg) (own_rk [y0_, y1_, y2_, y3_] p1_).toNatClampNeg) (own_rk [y0_, y1_, y2_, y3_] p2_).toNatClampNeg) (own_rk [y0_, y1_, y2_, y3_] p3_).toNatClampNeg)) (i := (own_rk [y0_, y1_, y2_, y3_] p3_).toNatClampNeg) C d1_116 A_b1 (own_sc hk hu_p3_).1 rfl (own_tabget (own_sc hk hu_p3_).2.2.2.1) rfl ?_
  refine own_dupX2 (pc' := 118) C d1_117 rfl rfl rfl rfl ?_
  refine own_iconst (pc' := 119) (v := (1 : Int32)) C d1_118 own_ki_1 rfl ?_
  refine own_iadd (pc' := 120) C d1_119 rfl rfl ?_
  refine own_iastore (pc' := 121) (i := (own_rk [y0_, y1_, y2_, y3_] p3_).toNatClampNeg) (ys := (own_tab (keys + 1).toNatClampNeg (own_inc (own_inc (own_inc (own_inc (own_pre (own_inc (own_inc (own_inc (own_inc (fun _ => 0) ((own_rk [y0_, y1_, y2_, y3_] p0_).toNatClampNeg + 1)) ((own_rk [y0_, y1_, y2_, y3_] p1_).toNatClampNeg + 1)) ((own_rk [y0_, y1_, y2_, y3_] p2_).toNatClampNeg + 1)) ((own_rk [y0_, y1_, y2_, y3_] p3_).toNatClampNeg + 1))) (own_rk [y0_, y1_, y2_, y3_] p0_).toNatClampNeg) (own_rk [y0_, y1_, y2_, y3_] p1_).toNatClampNeg) (own_rk [y0_, y1_, y2_, y3_] p2_).toNatClampNeg) (own_rk [y0_, y1_, y2_, y3_] p3_).toNatClampNeg))) C d1_120 A_b1 (own_sc hk hu_p3_).1 rfl (by rw [own_tablen]; exact (own_sc hk hu_p3_).2.2.2.1) own_incset g_b1 rfl ?_
  intro h14 W14 A14_
  replace A_pl := A_pl.other W14 ne_pl_b1
  replace A_ka := A_ka.other W14 ne_ka_b1
  replace A_b7 := A_b7.other W14 (Ne.symm ne_b1_b7)
  replace A_b1 := A14_
  replace Z_ : n0 ≤ _ := Nat.le_trans Z_ (Nat.le_of_eq W14.size.symm)
  replace K_ := K_.wr W14 (Or.inr sz_b1)
  refine own_iload (pc' := 123) C d1_121 rfl rfl ?_
  refine own_iastore (pc' := 124) (i := ((own_inc (own_inc (own_inc (own_pre (own_inc (own_inc (own_inc (own_inc (fun _ => 0) ((own_rk [y0_, y1_, y2_, y3_] p0_).toNatClampNeg + 1)) ((own_rk [y0_, y1_, y2_, y3_] p1_).toNatClampNeg + 1)) ((own_rk [y0_, y1_, y2_, y3_] p2_).toNatClampNeg + 1)) ((own_rk [y0_, y1_, y2_, y3_] p3_).toNatClampNeg + 1))) (own_rk [y0_, y1_, y2_, y3_] p0_).toNatClampNeg) (own_rk [y0_, y1_, y2_, y3_] p1_).toNatClampNeg) (own_rk [y0_, y1_, y2_, y3_] p2_).toNatClampNeg) (own_rk [y0_, y1_, y2_, y3_] p3_).toNatClampNeg).toNatClampNeg) (ys := (((([(0 : Int32), (0 : Int32), (0 : Int32), (0 : Int32)].set ((own_pre (own_inc (own_inc (own_inc (own_inc (fun _ => 0) ((own_rk [y0_, y1_, y2_, y3_] p0_).toNatClampNeg + 1)) ((own_rk [y0_, y1_, y2_, y3_] p1_).toNatClampNeg + 1)) ((own_rk [y0_, y1_, y2_, y3_] p2_).toNatClampNeg + 1)) ((own_rk [y0_, y1_, y2_, y3_] p3_).toNatClampNeg + 1))) (own_rk [y0_, y1_, y2_, y3_] p0_).toNatClampNeg).toNatClampNeg p0_).set ((own_inc (own_pre (own_inc (own_inc (own_inc (own_inc (fun _ => 0) ((own_rk [y0_, y1_, y2_, y3_] p0_).toNatClampNeg + 1)) ((own_rk [y0_, y1_, y2_, y3_] p1_).toNatClampNeg + 1)) ((own_rk [y0_, y1_, y2_, y3_] p2_).toNatClampNeg + 1)) ((own_rk [y0_, y1_, y2_, y3_] p3_).toNatClampNeg + 1))) (own_rk [y0_, y1_, y2_, y3_] p0_).toNatClampNeg) (own_rk [y0_, y1_, y2_, y3_] p1_).toNatClampNeg).toNatClampNeg p1_).set ((own_inc (own_inc (own_pre (own_inc (own_inc (own_inc (own_inc (fun _ => 0) ((own_rk [y0_, y1_, y2_, y3_] p0_).toNatClampNeg + 1)) ((own_rk [y0_, y1_, y2_, y3_] p1_).toNatClampNeg + 1)) ((own_rk [y0_, y1_, y2_, y3_] p2_).toNatClampNeg + 1)) ((own_rk [y0_, y1_, y2_, y3_] p3_).toNatClampNeg + 1))) (own_rk [y0_, y1_, y2_, y3_] p0_).toNatClampNeg) (own_rk [y0_, y1_, y2_, y3_] p1_).toNatClampNeg) (own_rk [y0_, y1_, y2_, y3_] p2_).toNatClampNeg).toNatClampNeg p2_).set ((own_inc (own_inc (own_inc (own_pre (own_inc (own_inc (own_inc (own_inc (fun _ => 0) ((own_rk [y0_, y1_, y2_, y3_] p0_).toNatClampNeg + 1)) ((own_rk [y0_, y1_, y2_, y3_] p1_).toNatClampNeg + 1)) ((own_rk [y0_, y1_, y2_, y3_] p2_).toNatClampNeg + 1)) ((own_rk [y0_, y1_, y2_, y3_] p3_).toNatClampNeg + 1))) (own_rk [y0_, y1_, y2_, y3_] p0_).toNatClampNeg) (own_rk [y0_, y1_, y2_, y3_] p1_).toNatClampNeg) (own_rk [y0_, y1_, y2_, y3_] p2_).toNatClampNeg) (own_rk [y0_, y1_, y2_, y3_] p3_).toNatClampNeg).toNatClampNeg p3_)) C d1_123 A_b7 hb_3.1 rfl (by simpa using hb_3.2) rfl g_b7 rfl ?_
  intro h15 W15 A15_
  replace A_pl := A_pl.other W15 ne_pl_b7
  replace A_ka := A_ka.other W15 ne_ka_b7
  replace A_b1 := A_b1.other W15 ne_b1_b7
  replace A_b7 := A15_
  replace Z_ : n0 ≤ _ := Nat.le_trans Z_ (Nat.le_of_eq W15.size.symm)
  replace K_ := K_.wr W15 (Or.inr sz_b7)
  refine own_iinc (pc' := 127) (v := (4 : Int32)) (Ls' := #[.val (.ref pl), .val (.ref ka), .val (.int keys), .val (.ref b1), .val (.ref b7), .val (.ref pl), .val (.int (4 : Int32)), .val (.int (4 : Int32)), .val (.int p3_)]) C d1_124 rfl (by decide) rfl rfl ?_
  refine own_goto (pc' := 94) C d1_127 (by decide) (by decide) ?_
  refine own_iload (pc' := 96) C d1_94 rfl rfl ?_
  refine own_iload (pc' := 98) C d1_96 rfl rfl ?_
  refine own_icmp_ge (pt := 130) (pf := 101) C d1_98 (by decide) (by decide) rfl (fun _ => ?_) (fun q => absurd q (by decide))
  refine own_aload (pc' := 132) C d1_130 rfl rfl rfl ?_
  refine own_aret C rfl rfl d1_132 (by decide) (by decide) ?_
  exact ⟨b7, rfl, sz_b7, K_, A_b7⟩

def own_ok (xs : List Int32) (i nn q p : Int32) : Int32 := if i < nn then (if q < nn then (if xs.getD q.toNatClampNeg 0 = p then 1 else 0) else 0) else 1
theorem own_get {xs : List Int32} {i : Nat} (h : i < xs.length) : xs[i]? = some (xs.getD i 0) := by
  rw [List.getD_eq_getElem?_getD, List.getElem?_eq_getElem h]; rfl

theorem d3_0 : decode method_4_code 0 = .ok (.iload_n 0, 1) := by decide +kernel
theorem d3_1 : decode method_4_code 1 = .ok (.iload_n 1, 1) := by decide +kernel
theorem d3_2 : decode method_4_code 2 = .ok (.if_icmp .ge 16, 3) := by decide +kernel
theorem d3_5 : decode method_4_code 5 = .ok (.iload_n 3, 1) := by decide +kernel
theorem d3_6 : decode method_4_code 6 = .ok (.iload_n 1, 1) := by decide +kernel
theorem d3_7 : decode method_4_code 7 = .ok (.if_icmp .ge 15, 3) := by decide +kernel
theorem d3_10 : decode method_4_code 10 = .ok (.aload_n 2, 1) := by decide +kernel
theorem d3_11 : decode method_4_code 11 = .ok (.iload_n 3, 1) := by decide +kernel
theorem d3_12 : decode method_4_code 12 = .ok (.iaload, 1) := by decide +kernel
theorem d3_13 : decode method_4_code 13 = .ok (.iload 4, 2) := by decide +kernel
theorem d3_15 : decode method_4_code 15 = .ok (.if_icmp .ne 7, 3) := by decide +kernel
theorem d3_18 : decode method_4_code 18 = .ok (.iconst 1, 1) := by decide +kernel
theorem d3_19 : decode method_4_code 19 = .ok (.goto 4, 3) := by decide +kernel
theorem d3_22 : decode method_4_code 22 = .ok (.iconst 0, 1) := by decide +kernel
theorem d3_23 : decode method_4_code 23 = .ok (.ireturn, 1) := by decide +kernel
theorem pn3 : plainName "com/example/precedence/precedence/TouchesSortedPinLaw" = true := by first | (simp [plainName, overriddenIn]; done) | decide +kernel
theorem ef3 (m : MethodId) (x0 : Int32) (x1 : Int32) (x2 : Addr) (x3 : Int32) (x4 : Int32) : entryFrame m #[(.int x0), (.int x1), (.ref x2), (.int x3), (.int x4)] 5 = mkF m 0 #[.val (.int x0), .val (.int x1), .val (.ref x2), .val (.int x3), .val (.int x4)] [] := by first | (simp [entryFrame, mkF, argsToLocals, Value.category]; done) | rfl
set_option maxRecDepth 65536 in
set_option maxHeartbeats 40000000 in
theorem own_okk (l : Launch) (Z : State) (a0 : Array Value) (hw : ∀ d ∈ tables_1, d.before a0 Z = true) (i : Int32) (nn : Int32) (sx : Addr) (q : Int32) (u : Int32) (xs : List Int32) (h0 : Heap) (n0 : Nat) (Z_ : n0 ≤ h0.size) (A_s : AI Z h0 sx .int xs) (hq : ¬ q < 0) (hl : q < nn → q.toNatClampNeg < xs.length) :
    Met l (⟨"com/example/precedence/precedence/TouchesSortedPinLaw", "ok", "(II[III)Z"⟩ : MethodName) method_4_code 5 (some .boolean) [] ({ frames := 0, cells := 0, slots := 0, locals := 0 } : Room) Z n0 #[(.int i), (.int nn), (.ref sx), (.int q), (.int u)] h0 (fun v h => v = some (.int (own_ok xs i nn q u)) ∧ h0 = h) := by
  refine own_met pn3 (fun m => ef3 m i nn sx q u) ?_
  intro p e s m below meth c C
  refine own_iloadN (pc' := 1) C d3_0 rfl rfl ?_
  refine own_iloadN (pc' := 2) C d3_1 rfl rfl ?_
  obtain ⟨vs_23, hvs_23⟩ : ∃ z : Int32, z = (if i < nn then (if q < nn then (if (xs.getD q.toNatClampNeg 0) = u then (1 : Int32) else (0 : Int32)) else (0 : Int32)) else (1 : Int32)) := ⟨_, rfl⟩
  have hzvs_23 : vs_23 = 0 ∨ vs_23 = 1 := by rw [hvs_23]; repeat (first | exact Or.inl rfl | exact Or.inr rfl | split)
  refine own_seq (g' := mkF m 23 #[.val (.int i), .val (.int nn), .val (.ref sx), .val (.int q), .val (.int u)] [(.int vs_23)]) (fun J23 => ?_) ?_
  · refine own_icmp_ge (pt := 18) (pf := 5) C d3_2 (by decide) (by decide) rfl ?_ ?_
    · intro hc2
      refine own_iconst (pc' := 19) (v := (1 : Int32)) C d3_18 own_ki_1 rfl ?_
      refine own_goto (pc' := 23) C d3_19 (by decide) (by decide) ?_
      exact own_cast (by simp only [hvs_23, if_neg hc2]) (J23)
    · intro hc2
      refine own_iloadN (pc' := 6) C d3_5 rfl rfl ?_
      refine own_iloadN (pc' := 7) C d3_6 rfl rfl ?_
      refine own_icmp_ge (pt := 22) (pf := 10) C d3_7 (by decide) (by decide) rfl ?_ ?_
      · intro hc7
        refine own_iconst (pc' := 23) (v := (0 : Int32)) C d3_22 own_ki_0 rfl ?_
        exact own_cast (by simp only [hvs_23, if_pos hc2, if_neg hc7]) (J23)
      · intro hc7
        refine own_aloadN (pc' := 11) C d3_10 rfl rfl rfl ?_
        refine own_iloadN (pc' := 12) C d3_11 rfl rfl ?_
        refine own_iaload (pc' := 13) (v := (xs.getD q.toNatClampNeg 0)) (i := q.toNatClampNeg) C d3_12 A_s hq rfl (own_get (hl hc7)) rfl ?_
        refine own_iload (pc' := 15) C d3_13 rfl rfl ?_
        refine own_icmp_ne (pt := 22) (pf := 18) C d3_15 (by decide) (by decide) rfl ?_ ?_
        · intro hc15
          refine own_iconst (pc' := 23) (v := (0 : Int32)) C d3_22 own_ki_0 rfl ?_
          exact own_cast (by simp only [hvs_23, if_pos hc2, if_pos hc7, if_neg hc15]) (J23)
        · intro hc15
          refine own_iconst (pc' := 19) (v := (1 : Int32)) C d3_18 own_ki_1 rfl ?_
          refine own_goto (pc' := 23) C d3_19 (by decide) (by decide) ?_
          exact own_cast (by simp only [hvs_23, if_pos hc2, if_pos hc7, if_pos hc15]) (J23)
  refine own_zret C d3_23 (by decide) (by decide) hzvs_23 ?_
  exact ⟨by rw [own_ok, hvs_23], rfl⟩

def own_chk1 (c0 : Nat) : Bool := decide (¬ ((own_pre (own_inc (fun _ => 0) (c0 + 1))) c0) < 0) && decide (((own_pre (own_inc (fun _ => 0) (c0 + 1))) c0).toNatClampNeg < 1) && decide ((((own_f2 (1 : Int32) (1 : Int32) (0 : Int32) (Int32.ofNat c0) (0 : Int32)) + (own_f2 (2 : Int32) (1 : Int32) (0 : Int32) (Int32.ofNat c0) (0 : Int32))) + (own_f2 (3 : Int32) (1 : Int32) (0 : Int32) (Int32.ofNat c0) (0 : Int32))) = ((own_pre (own_inc (fun _ => 0) (c0 + 1))) c0))
set_option maxRecDepth 65536 in
theorem own_all1 : ∀ c0 : Fin 8, own_chk1 c0.val = true := by decide +kernel
def own_chk2 (c0 c1 : Nat) : Bool := decide (¬ ((own_pre (own_inc (own_inc (fun _ => 0) (c0 + 1)) (c1 + 1))) c0) < 0) && decide (((own_pre (own_inc (own_inc (fun _ => 0) (c0 + 1)) (c1 + 1))) c0).toNatClampNeg < 2) && decide ((((own_f2 (1 : Int32) (2 : Int32) (Int32.ofNat c1) (Int32.ofNat c0) (0 : Int32)) + (own_f2 (2 : Int32) (2 : Int32) (0 : Int32) (Int32.ofNat c0) (0 : Int32))) + (own_f2 (3 : Int32) (2 : Int32) (0 : Int32) (Int32.ofNat c0) (0 : Int32))) = ((own_pre (own_inc (own_inc (fun _ => 0) (c0 + 1)) (c1 + 1))) c0)) && decide (¬ ((own_inc (own_pre (own_inc (own_inc (fun _ => 0) (c0 + 1)) (c1 + 1))) c0) c1) < 0) && decide (((own_inc (own_pre (own_inc (own_inc (fun _ => 0) (c0 + 1)) (c1 + 1))) c0) c1).toNatClampNeg < 2) && decide ((((own_f2 (0 : Int32) (2 : Int32) (Int32.ofNat c0) (Int32.ofNat c1) (1 : Int32)) + (own_f2 (2 : Int32) (2 : Int32) (0 : Int32) (Int32.ofNat c1) (0 : Int32))) + (own_f2 (3 : Int32) (2 : Int32) (0 : Int32) (Int32.ofNat c1) (0 : Int32))) = ((own_inc (own_pre (own_inc (own_inc (fun _ => 0) (c0 + 1)) (c1 + 1))) c0) c1)) && decide (((own_pre (own_inc (own_inc (fun _ => 0) (c0 + 1)) (c1 + 1))) c0).toNatClampNeg ≠ ((own_inc (own_pre (own_inc (own_inc (fun _ => 0) (c0 + 1)) (c1 + 1))) c0) c1).toNatClampNeg)
set_option maxRecDepth 65536 in
theorem own_all2 : ∀ c0 c1 : Fin 8, own_chk2 c0.val c1.val = true := by decide +kernel
def own_chk3 (c0 c1 c2 : Nat) : Bool := decide (¬ ((own_pre (own_inc (own_inc (own_inc (fun _ => 0) (c0 + 1)) (c1 + 1)) (c2 + 1))) c0) < 0) && decide (((own_pre (own_inc (own_inc (own_inc (fun _ => 0) (c0 + 1)) (c1 + 1)) (c2 + 1))) c0).toNatClampNeg < 3) && decide ((((own_f2 (1 : Int32) (3 : Int32) (Int32.ofNat c1) (Int32.ofNat c0) (0 : Int32)) + (own_f2 (2 : Int32) (3 : Int32) (Int32.ofNat c2) (Int32.ofNat c0) (0 : Int32))) + (own_f2 (3 : Int32) (3 : Int32) (0 : Int32) (Int32.ofNat c0) (0 : Int32))) = ((own_pre (own_inc (own_inc (own_inc (fun _ => 0) (c0 + 1)) (c1 + 1)) (c2 + 1))) c0)) && decide (¬ ((own_inc (own_pre (own_inc (own_inc (own_inc (fun _ => 0) (c0 + 1)) (c1 + 1)) (c2 + 1))) c0) c1) < 0) && decide (((own_inc (own_pre (own_inc (own_inc (own_inc (fun _ => 0) (c0 + 1)) (c1 + 1)) (c2 + 1))) c0) c1).toNatClampNeg < 3) && decide ((((own_f2 (0 : Int32) (3 : Int32) (Int32.ofNat c0) (Int32.ofNat c1) (1 : Int32)) + (own_f2 (2 : Int32) (3 : Int32) (Int32.ofNat c2) (Int32.ofNat c1) (0 : Int32))) + (own_f2 (3 : Int32) (3 : Int32) (0 : Int32) (Int32.ofNat c1) (0 : Int32))) = ((own_inc (own_pre (own_inc (own_inc (own_inc (fun _ => 0) (c0 + 1)) (c1 + 1)) (c2 + 1))) c0) c1)) && decide (¬ ((own_inc (own_inc (own_pre (own_inc (own_inc (own_inc (fun _ => 0) (c0 + 1)) (c1 + 1)) (c2 + 1))) c0) c1) c2) < 0) && decide (((own_inc (own_inc (own_pre (own_inc (own_inc (own_inc (fun _ => 0) (c0 + 1)) (c1 + 1)) (c2 + 1))) c0) c1) c2).toNatClampNeg < 3) && decide ((((own_f2 (0 : Int32) (3 : Int32) (Int32.ofNat c0) (Int32.ofNat c2) (1 : Int32)) + (own_f2 (1 : Int32) (3 : Int32) (Int32.ofNat c1) (Int32.ofNat c2) (1 : Int32))) + (own_f2 (3 : Int32) (3 : Int32) (0 : Int32) (Int32.ofNat c2) (0 : Int32))) = ((own_inc (own_inc (own_pre (own_inc (own_inc (own_inc (fun _ => 0) (c0 + 1)) (c1 + 1)) (c2 + 1))) c0) c1) c2)) && decide (((own_pre (own_inc (own_inc (own_inc (fun _ => 0) (c0 + 1)) (c1 + 1)) (c2 + 1))) c0).toNatClampNeg ≠ ((own_inc (own_pre (own_inc (own_inc (own_inc (fun _ => 0) (c0 + 1)) (c1 + 1)) (c2 + 1))) c0) c1).toNatClampNeg) && decide (((own_pre (own_inc (own_inc (own_inc (fun _ => 0) (c0 + 1)) (c1 + 1)) (c2 + 1))) c0).toNatClampNeg ≠ ((own_inc (own_inc (own_pre (own_inc (own_inc (own_inc (fun _ => 0) (c0 + 1)) (c1 + 1)) (c2 + 1))) c0) c1) c2).toNatClampNeg) && decide (((own_inc (own_pre (own_inc (own_inc (own_inc (fun _ => 0) (c0 + 1)) (c1 + 1)) (c2 + 1))) c0) c1).toNatClampNeg ≠ ((own_inc (own_inc (own_pre (own_inc (own_inc (own_inc (fun _ => 0) (c0 + 1)) (c1 + 1)) (c2 + 1))) c0) c1) c2).toNatClampNeg)
set_option maxRecDepth 65536 in
theorem own_all3 : ∀ c0 c1 c2 : Fin 8, own_chk3 c0.val c1.val c2.val = true := by decide +kernel
def own_chk4 (c0 c1 c2 c3 : Nat) : Bool := decide (¬ ((own_pre (own_inc (own_inc (own_inc (own_inc (fun _ => 0) (c0 + 1)) (c1 + 1)) (c2 + 1)) (c3 + 1))) c0) < 0) && decide (((own_pre (own_inc (own_inc (own_inc (own_inc (fun _ => 0) (c0 + 1)) (c1 + 1)) (c2 + 1)) (c3 + 1))) c0).toNatClampNeg < 4) && decide ((((own_f2 (1 : Int32) (4 : Int32) (Int32.ofNat c1) (Int32.ofNat c0) (0 : Int32)) + (own_f2 (2 : Int32) (4 : Int32) (Int32.ofNat c2) (Int32.ofNat c0) (0 : Int32))) + (own_f2 (3 : Int32) (4 : Int32) (Int32.ofNat c3) (Int32.ofNat c0) (0 : Int32))) = ((own_pre (own_inc (own_inc (own_inc (own_inc (fun _ => 0) (c0 + 1)) (c1 + 1)) (c2 + 1)) (c3 + 1))) c0)) && decide (¬ ((own_inc (own_pre (own_inc (own_inc (own_inc (own_inc (fun _ => 0) (c0 + 1)) (c1 + 1)) (c2 + 1)) (c3 + 1))) c0) c1) < 0) && decide (((own_inc (own_pre (own_inc (own_inc (own_inc (own_inc (fun _ => 0) (c0 + 1)) (c1 + 1)) (c2 + 1)) (c3 + 1))) c0) c1).toNatClampNeg < 4) && decide ((((own_f2 (0 : Int32) (4 : Int32) (Int32.ofNat c0) (Int32.ofNat c1) (1 : Int32)) + (own_f2 (2 : Int32) (4 : Int32) (Int32.ofNat c2) (Int32.ofNat c1) (0 : Int32))) + (own_f2 (3 : Int32) (4 : Int32) (Int32.ofNat c3) (Int32.ofNat c1) (0 : Int32))) = ((own_inc (own_pre (own_inc (own_inc (own_inc (own_inc (fun _ => 0) (c0 + 1)) (c1 + 1)) (c2 + 1)) (c3 + 1))) c0) c1)) && decide (¬ ((own_inc (own_inc (own_pre (own_inc (own_inc (own_inc (own_inc (fun _ => 0) (c0 + 1)) (c1 + 1)) (c2 + 1)) (c3 + 1))) c0) c1) c2) < 0) && decide (((own_inc (own_inc (own_pre (own_inc (own_inc (own_inc (own_inc (fun _ => 0) (c0 + 1)) (c1 + 1)) (c2 + 1)) (c3 + 1))) c0) c1) c2).toNatClampNeg < 4) && decide ((((own_f2 (0 : Int32) (4 : Int32) (Int32.ofNat c0) (Int32.ofNat c2) (1 : Int32)) + (own_f2 (1 : Int32) (4 : Int32) (Int32.ofNat c1) (Int32.ofNat c2) (1 : Int32))) + (own_f2 (3 : Int32) (4 : Int32) (Int32.ofNat c3) (Int32.ofNat c2) (0 : Int32))) = ((own_inc (own_inc (own_pre (own_inc (own_inc (own_inc (own_inc (fun _ => 0) (c0 + 1)) (c1 + 1)) (c2 + 1)) (c3 + 1))) c0) c1) c2)) && decide (¬ ((own_inc (own_inc (own_inc (own_pre (own_inc (own_inc (own_inc (own_inc (fun _ => 0) (c0 + 1)) (c1 + 1)) (c2 + 1)) (c3 + 1))) c0) c1) c2) c3) < 0) && decide (((own_inc (own_inc (own_inc (own_pre (own_inc (own_inc (own_inc (own_inc (fun _ => 0) (c0 + 1)) (c1 + 1)) (c2 + 1)) (c3 + 1))) c0) c1) c2) c3).toNatClampNeg < 4) && decide ((((own_f2 (0 : Int32) (4 : Int32) (Int32.ofNat c0) (Int32.ofNat c3) (1 : Int32)) + (own_f2 (1 : Int32) (4 : Int32) (Int32.ofNat c1) (Int32.ofNat c3) (1 : Int32))) + (own_f2 (2 : Int32) (4 : Int32) (Int32.ofNat c2) (Int32.ofNat c3) (1 : Int32))) = ((own_inc (own_inc (own_inc (own_pre (own_inc (own_inc (own_inc (own_inc (fun _ => 0) (c0 + 1)) (c1 + 1)) (c2 + 1)) (c3 + 1))) c0) c1) c2) c3)) && decide (((own_pre (own_inc (own_inc (own_inc (own_inc (fun _ => 0) (c0 + 1)) (c1 + 1)) (c2 + 1)) (c3 + 1))) c0).toNatClampNeg ≠ ((own_inc (own_pre (own_inc (own_inc (own_inc (own_inc (fun _ => 0) (c0 + 1)) (c1 + 1)) (c2 + 1)) (c3 + 1))) c0) c1).toNatClampNeg) && decide (((own_pre (own_inc (own_inc (own_inc (own_inc (fun _ => 0) (c0 + 1)) (c1 + 1)) (c2 + 1)) (c3 + 1))) c0).toNatClampNeg ≠ ((own_inc (own_inc (own_pre (own_inc (own_inc (own_inc (own_inc (fun _ => 0) (c0 + 1)) (c1 + 1)) (c2 + 1)) (c3 + 1))) c0) c1) c2).toNatClampNeg) && decide (((own_pre (own_inc (own_inc (own_inc (own_inc (fun _ => 0) (c0 + 1)) (c1 + 1)) (c2 + 1)) (c3 + 1))) c0).toNatClampNeg ≠ ((own_inc (own_inc (own_inc (own_pre (own_inc (own_inc (own_inc (own_inc (fun _ => 0) (c0 + 1)) (c1 + 1)) (c2 + 1)) (c3 + 1))) c0) c1) c2) c3).toNatClampNeg) && decide (((own_inc (own_pre (own_inc (own_inc (own_inc (own_inc (fun _ => 0) (c0 + 1)) (c1 + 1)) (c2 + 1)) (c3 + 1))) c0) c1).toNatClampNeg ≠ ((own_inc (own_inc (own_pre (own_inc (own_inc (own_inc (own_inc (fun _ => 0) (c0 + 1)) (c1 + 1)) (c2 + 1)) (c3 + 1))) c0) c1) c2).toNatClampNeg) && decide (((own_inc (own_pre (own_inc (own_inc (own_inc (own_inc (fun _ => 0) (c0 + 1)) (c1 + 1)) (c2 + 1)) (c3 + 1))) c0) c1).toNatClampNeg ≠ ((own_inc (own_inc (own_inc (own_pre (own_inc (own_inc (own_inc (own_inc (fun _ => 0) (c0 + 1)) (c1 + 1)) (c2 + 1)) (c3 + 1))) c0) c1) c2) c3).toNatClampNeg) && decide (((own_inc (own_inc (own_pre (own_inc (own_inc (own_inc (own_inc (fun _ => 0) (c0 + 1)) (c1 + 1)) (c2 + 1)) (c3 + 1))) c0) c1) c2).toNatClampNeg ≠ ((own_inc (own_inc (own_inc (own_pre (own_inc (own_inc (own_inc (own_inc (fun _ => 0) (c0 + 1)) (c1 + 1)) (c2 + 1)) (c3 + 1))) c0) c1) c2) c3).toNatClampNeg)
set_option maxRecDepth 65536 in
theorem own_all4 : ∀ c0 c1 c2 c3 : Fin 8, own_chk4 c0.val c1.val c2.val c3.val = true := by decide +kernel
theorem own_c8 {k keys : Int32} (hk : own_kb keys) (h : own_ub k keys) : k.toNatClampNeg < 8 ∧ Int32.ofNat k.toNatClampNeg = k := by
  obtain ⟨a1, a2⟩ := hk; obtain ⟨b1, b2⟩ := h
  refine ⟨by simp only [Int32.toNatClampNeg]; omega, ?_⟩
  rw [← Int32.toInt_inj]
  have e : (Int32.ofNat k.toNatClampNeg).toInt = (k.toNatClampNeg : Int) := len_toInt (by simp only [Int32.toNatClampNeg]; omega)
  rw [e]; simp only [Int32.toNatClampNeg]; omega
theorem own_cz {j nn a b f a' b' : Int32} (h : ¬ j < nn) : own_f2 j nn a b f = own_f2 j nn a' b' f := by simp only [own_f2, h, if_false]
theorem own_c01 (j nn a b f : Int32) : 0 ≤ (own_f2 j nn a b f).toInt ∧ (own_f2 j nn a b f).toInt ≤ 1 := by
  simp only [own_f2]; repeat' split
  all_goals decide
theorem own_qn (a b c : Int32) (h1 : 0 ≤ a.toInt ∧ a.toInt ≤ 1) (h2 : 0 ≤ b.toInt ∧ b.toInt ≤ 1) (h3 : 0 ≤ c.toInt ∧ c.toInt ≤ 1) : ¬ ((a + b) + c) < 0 := by
  have e1 := c_iadd a b; have e2 := c_iadd (a + b) c; have r1 := rng32 (a + b); have r2 := rng32 ((a + b) + c)
  have k0 : (0 : Int32).toInt = 0 := rfl
  rw [Int32.lt_iff_toInt_lt]; omega
theorem own_p3 {x p : Int32} (h : p = x &&& 3) : own_in4 p := by
  have h1 := c_and x 3 (by decide); rw [← h] at h1
  have k3 : (3 : Int32).toInt = 3 := rfl
  have k0 : (0 : Int32).toInt = 0 := rfl
  simp only [own_in4, Int32.lt_iff_toInt_lt, Int32.toNatClampNeg]; omega
theorem own_keys {x keys : Int32} (h : keys = (1 : Int32) + (x &&& 7)) : own_kb keys := by
  have h1 := c_and x 7 (by decide); have h2 := c_iadd 1 (x &&& 7); rw [← h] at h2
  have k7 : (7 : Int32).toInt = 7 := rfl
  have k1 : (1 : Int32).toInt = 1 := rfl
  have r := rng32 keys
  simp only [own_kb]; omega
theorem own_kne {keys : Int32} (h : own_kb keys) : keys ≠ 0 := fun q => by
  subst q; have := h.1; have k0 : (0 : Int32).toInt = 0 := rfl; omega
theorem own_five {x z : Int32} (h : z = (x &&& 7) % 5) : z = 0 ∨ z = 1 ∨ z = 2 ∨ z = 3 ∨ z = 4 := by
  have h1 := c_and x 7 (by decide)
  have h2 := c_irem (x &&& 7) 5 5 rfl
  rw [← h] at h2
  have key : ∀ k : Int32, z.toInt = k.toInt → z = k := fun k q => Int32.toInt_inj.mp q
  have k : z.toInt = 0 ∨ z.toInt = 1 ∨ z.toInt = 2 ∨ z.toInt = 3 ∨ z.toInt = 4 := by omega
  exact k.imp (key 0) fun k => k.imp (key 1) fun k => k.imp (key 2) fun k => k.imp (key 3) (key 4)
theorem own_yb {x y keys : Int32} (hk : own_kb keys) (h : y = (x &&& 255) % keys) : own_ub y keys := by
  have h1 := c_and x 255 (by decide)
  have h2 := (c_iremV (x &&& 255) keys).1 h1.1 (by have := hk.1; omega)
  rw [← h] at h2
  exact ⟨h2.1, h2.2.1⟩
theorem own_rkb {y0 y1 y2 y3 p keys : Int32} (h : own_in4 p) (h0 : own_ub y0 keys) (h1 : own_ub y1 keys) (h2 : own_ub y2 keys) (h3 : own_ub y3 keys) : own_ub (own_rk [y0, y1, y2, y3] p) keys := by
  have q := h.2
  simp only [own_rk]
  generalize p.toNatClampNeg = m at q
  have : m = 0 ∨ m = 1 ∨ m = 2 ∨ m = 3 := by omega
  rcases this with rfl | rfl | rfl | rfl
  · exact h0
  · exact h1
  · exact h2
  · exact h3

theorem own_fin1 {k0 k1 k2 k3 keys p0 : Int32} (hk : own_kb keys) (u0 : own_ub k0 keys) : own_inb 1 ((own_pre (own_inc (fun _ => 0) (k0.toNatClampNeg + 1))) k0.toNatClampNeg) ∧ own_ok ([(0 : Int32)].set ((own_pre (own_inc (fun _ => 0) (k0.toNatClampNeg + 1))) k0.toNatClampNeg).toNatClampNeg p0) (0 : Int32) (1 : Int32) (((own_f2 (1 : Int32) (1 : Int32) k1 k0 (0 : Int32)) + (own_f2 (2 : Int32) (1 : Int32) k2 k0 (0 : Int32))) + (own_f2 (3 : Int32) (1 : Int32) k3 k0 (0 : Int32))) p0 = 1 := by
  obtain ⟨b0, e0⟩ := own_c8 hk u0
  have c := own_all1 ⟨k0.toNatClampNeg, b0⟩
  simp only [own_chk1, e0, Bool.and_eq_true, decide_eq_true_eq] at c
  have i0 : own_inb 1 ((own_pre (own_inc (fun _ => 0) (k0.toNatClampNeg + 1))) k0.toNatClampNeg) := ⟨c.1.1, c.1.2⟩
  have q0 : (((own_f2 (1 : Int32) (1 : Int32) k1 k0 (0 : Int32)) + (own_f2 (2 : Int32) (1 : Int32) k2 k0 (0 : Int32))) + (own_f2 (3 : Int32) (1 : Int32) k3 k0 (0 : Int32))) = ((own_pre (own_inc (fun _ => 0) (k0.toNatClampNeg + 1))) k0.toNatClampNeg) := by
    rw [← c.2]
    rw [own_cz (j := (1 : Int32)) (nn := (1 : Int32)) (a := k1) (b := k0) (a' := 0) (b' := k0) (by decide), own_cz (j := (2 : Int32)) (nn := (1 : Int32)) (a := k2) (b := k0) (a' := 0) (b' := k0) (by decide), own_cz (j := (3 : Int32)) (nn := (1 : Int32)) (a := k3) (b := k0) (a' := 0) (b' := k0) (by decide)]
  have lt : ∀ x : Int32, own_inb 1 x → x < (1 : Int32) := fun x h => by
    have h1 := h.1; have h2 := h.2; have kn : ((1 : Int32)).toInt = 1 := rfl; have k0 : (0 : Int32).toInt = 0 := rfl
    rw [Int32.lt_iff_toInt_lt] at h1 ⊢; simp only [Int32.toNatClampNeg] at h2; omega
  refine ⟨i0, ?_⟩
  · rw [own_ok, if_pos (by decide), q0, if_pos (lt _ i0), if_pos]
    have z := i0.2
    simp [List.getD_eq_getElem?_getD, List.getElem?_set, z, z]
theorem own_fin2 {k0 k1 k2 k3 keys p0 p1 : Int32} (hk : own_kb keys) (u0 : own_ub k0 keys) (u1 : own_ub k1 keys) : own_inb 2 ((own_pre (own_inc (own_inc (fun _ => 0) (k0.toNatClampNeg + 1)) (k1.toNatClampNeg + 1))) k0.toNatClampNeg) ∧ own_inb 2 ((own_inc (own_pre (own_inc (own_inc (fun _ => 0) (k0.toNatClampNeg + 1)) (k1.toNatClampNeg + 1))) k0.toNatClampNeg) k1.toNatClampNeg) ∧ own_ok (([(0 : Int32), (0 : Int32)].set ((own_pre (own_inc (own_inc (fun _ => 0) (k0.toNatClampNeg + 1)) (k1.toNatClampNeg + 1))) k0.toNatClampNeg).toNatClampNeg p0).set ((own_inc (own_pre (own_inc (own_inc (fun _ => 0) (k0.toNatClampNeg + 1)) (k1.toNatClampNeg + 1))) k0.toNatClampNeg) k1.toNatClampNeg).toNatClampNeg p1) (0 : Int32) (2 : Int32) (((own_f2 (1 : Int32) (2 : Int32) k1 k0 (0 : Int32)) + (own_f2 (2 : Int32) (2 : Int32) k2 k0 (0 : Int32))) + (own_f2 (3 : Int32) (2 : Int32) k3 k0 (0 : Int32))) p0 = 1 ∧ own_ok (([(0 : Int32), (0 : Int32)].set ((own_pre (own_inc (own_inc (fun _ => 0) (k0.toNatClampNeg + 1)) (k1.toNatClampNeg + 1))) k0.toNatClampNeg).toNatClampNeg p0).set ((own_inc (own_pre (own_inc (own_inc (fun _ => 0) (k0.toNatClampNeg + 1)) (k1.toNatClampNeg + 1))) k0.toNatClampNeg) k1.toNatClampNeg).toNatClampNeg p1) (1 : Int32) (2 : Int32) (((own_f2 (0 : Int32) (2 : Int32) k0 k1 (1 : Int32)) + (own_f2 (2 : Int32) (2 : Int32) k2 k1 (0 : Int32))) + (own_f2 (3 : Int32) (2 : Int32) k3 k1 (0 : Int32))) p1 = 1 := by
  obtain ⟨b0, e0⟩ := own_c8 hk u0
  obtain ⟨b1, e1⟩ := own_c8 hk u1
  have c := own_all2 ⟨k0.toNatClampNeg, b0⟩ ⟨k1.toNatClampNeg, b1⟩
  simp only [own_chk2, e0, e1, Bool.and_eq_true, decide_eq_true_eq] at c
  have i0 : own_inb 2 ((own_pre (own_inc (own_inc (fun _ => 0) (k0.toNatClampNeg + 1)) (k1.toNatClampNeg + 1))) k0.toNatClampNeg) := ⟨c.1.1.1.1.1.1, c.1.1.1.1.1.2⟩
  have i1 : own_inb 2 ((own_inc (own_pre (own_inc (own_inc (fun _ => 0) (k0.toNatClampNeg + 1)) (k1.toNatClampNeg + 1))) k0.toNatClampNeg) k1.toNatClampNeg) := ⟨c.1.1.1.2, c.1.1.2⟩
  have q0 : (((own_f2 (1 : Int32) (2 : Int32) k1 k0 (0 : Int32)) + (own_f2 (2 : Int32) (2 : Int32) k2 k0 (0 : Int32))) + (own_f2 (3 : Int32) (2 : Int32) k3 k0 (0 : Int32))) = ((own_pre (own_inc (own_inc (fun _ => 0) (k0.toNatClampNeg + 1)) (k1.toNatClampNeg + 1))) k0.toNatClampNeg) := by
    rw [← c.1.1.1.1.2]
    rw [own_cz (j := (2 : Int32)) (nn := (2 : Int32)) (a := k2) (b := k0) (a' := 0) (b' := k0) (by decide), own_cz (j := (3 : Int32)) (nn := (2 : Int32)) (a := k3) (b := k0) (a' := 0) (b' := k0) (by decide)]
  have q1 : (((own_f2 (0 : Int32) (2 : Int32) k0 k1 (1 : Int32)) + (own_f2 (2 : Int32) (2 : Int32) k2 k1 (0 : Int32))) + (own_f2 (3 : Int32) (2 : Int32) k3 k1 (0 : Int32))) = ((own_inc (own_pre (own_inc (own_inc (fun _ => 0) (k0.toNatClampNeg + 1)) (k1.toNatClampNeg + 1))) k0.toNatClampNeg) k1.toNatClampNeg) := by
    rw [← c.1.2]
    rw [own_cz (j := (2 : Int32)) (nn := (2 : Int32)) (a := k2) (b := k1) (a' := 0) (b' := k1) (by decide), own_cz (j := (3 : Int32)) (nn := (2 : Int32)) (a := k3) (b := k1) (a' := 0) (b' := k1) (by decide)]
  have n01 := c.2
  have n10 := Ne.symm n01
  have lt : ∀ x : Int32, own_inb 2 x → x < (2 : Int32) := fun x h => by
    have h1 := h.1; have h2 := h.2; have kn : ((2 : Int32)).toInt = 2 := rfl; have k0 : (0 : Int32).toInt = 0 := rfl
    rw [Int32.lt_iff_toInt_lt] at h1 ⊢; simp only [Int32.toNatClampNeg] at h2; omega
  refine ⟨i0, i1, ?_, ?_⟩
  · rw [own_ok, if_pos (by decide), q0, if_pos (lt _ i0), if_pos]
    have z := i0.2
    simp [List.getD_eq_getElem?_getD, List.getElem?_set, n10, z]
  · rw [own_ok, if_pos (by decide), q1, if_pos (lt _ i1), if_pos]
    have z := i1.2
    simp [List.getD_eq_getElem?_getD, List.getElem?_set, n01, z]
theorem own_fin3 {k0 k1 k2 k3 keys p0 p1 p2 : Int32} (hk : own_kb keys) (u0 : own_ub k0 keys) (u1 : own_ub k1 keys) (u2 : own_ub k2 keys) : own_inb 3 ((own_pre (own_inc (own_inc (own_inc (fun _ => 0) (k0.toNatClampNeg + 1)) (k1.toNatClampNeg + 1)) (k2.toNatClampNeg + 1))) k0.toNatClampNeg) ∧ own_inb 3 ((own_inc (own_pre (own_inc (own_inc (own_inc (fun _ => 0) (k0.toNatClampNeg + 1)) (k1.toNatClampNeg + 1)) (k2.toNatClampNeg + 1))) k0.toNatClampNeg) k1.toNatClampNeg) ∧ own_inb 3 ((own_inc (own_inc (own_pre (own_inc (own_inc (own_inc (fun _ => 0) (k0.toNatClampNeg + 1)) (k1.toNatClampNeg + 1)) (k2.toNatClampNeg + 1))) k0.toNatClampNeg) k1.toNatClampNeg) k2.toNatClampNeg) ∧ own_ok ((([(0 : Int32), (0 : Int32), (0 : Int32)].set ((own_pre (own_inc (own_inc (own_inc (fun _ => 0) (k0.toNatClampNeg + 1)) (k1.toNatClampNeg + 1)) (k2.toNatClampNeg + 1))) k0.toNatClampNeg).toNatClampNeg p0).set ((own_inc (own_pre (own_inc (own_inc (own_inc (fun _ => 0) (k0.toNatClampNeg + 1)) (k1.toNatClampNeg + 1)) (k2.toNatClampNeg + 1))) k0.toNatClampNeg) k1.toNatClampNeg).toNatClampNeg p1).set ((own_inc (own_inc (own_pre (own_inc (own_inc (own_inc (fun _ => 0) (k0.toNatClampNeg + 1)) (k1.toNatClampNeg + 1)) (k2.toNatClampNeg + 1))) k0.toNatClampNeg) k1.toNatClampNeg) k2.toNatClampNeg).toNatClampNeg p2) (0 : Int32) (3 : Int32) (((own_f2 (1 : Int32) (3 : Int32) k1 k0 (0 : Int32)) + (own_f2 (2 : Int32) (3 : Int32) k2 k0 (0 : Int32))) + (own_f2 (3 : Int32) (3 : Int32) k3 k0 (0 : Int32))) p0 = 1 ∧ own_ok ((([(0 : Int32), (0 : Int32), (0 : Int32)].set ((own_pre (own_inc (own_inc (own_inc (fun _ => 0) (k0.toNatClampNeg + 1)) (k1.toNatClampNeg + 1)) (k2.toNatClampNeg + 1))) k0.toNatClampNeg).toNatClampNeg p0).set ((own_inc (own_pre (own_inc (own_inc (own_inc (fun _ => 0) (k0.toNatClampNeg + 1)) (k1.toNatClampNeg + 1)) (k2.toNatClampNeg + 1))) k0.toNatClampNeg) k1.toNatClampNeg).toNatClampNeg p1).set ((own_inc (own_inc (own_pre (own_inc (own_inc (own_inc (fun _ => 0) (k0.toNatClampNeg + 1)) (k1.toNatClampNeg + 1)) (k2.toNatClampNeg + 1))) k0.toNatClampNeg) k1.toNatClampNeg) k2.toNatClampNeg).toNatClampNeg p2) (1 : Int32) (3 : Int32) (((own_f2 (0 : Int32) (3 : Int32) k0 k1 (1 : Int32)) + (own_f2 (2 : Int32) (3 : Int32) k2 k1 (0 : Int32))) + (own_f2 (3 : Int32) (3 : Int32) k3 k1 (0 : Int32))) p1 = 1 ∧ own_ok ((([(0 : Int32), (0 : Int32), (0 : Int32)].set ((own_pre (own_inc (own_inc (own_inc (fun _ => 0) (k0.toNatClampNeg + 1)) (k1.toNatClampNeg + 1)) (k2.toNatClampNeg + 1))) k0.toNatClampNeg).toNatClampNeg p0).set ((own_inc (own_pre (own_inc (own_inc (own_inc (fun _ => 0) (k0.toNatClampNeg + 1)) (k1.toNatClampNeg + 1)) (k2.toNatClampNeg + 1))) k0.toNatClampNeg) k1.toNatClampNeg).toNatClampNeg p1).set ((own_inc (own_inc (own_pre (own_inc (own_inc (own_inc (fun _ => 0) (k0.toNatClampNeg + 1)) (k1.toNatClampNeg + 1)) (k2.toNatClampNeg + 1))) k0.toNatClampNeg) k1.toNatClampNeg) k2.toNatClampNeg).toNatClampNeg p2) (2 : Int32) (3 : Int32) (((own_f2 (0 : Int32) (3 : Int32) k0 k2 (1 : Int32)) + (own_f2 (1 : Int32) (3 : Int32) k1 k2 (1 : Int32))) + (own_f2 (3 : Int32) (3 : Int32) k3 k2 (0 : Int32))) p2 = 1 := by
  obtain ⟨b0, e0⟩ := own_c8 hk u0
  obtain ⟨b1, e1⟩ := own_c8 hk u1
  obtain ⟨b2, e2⟩ := own_c8 hk u2
  have c := own_all3 ⟨k0.toNatClampNeg, b0⟩ ⟨k1.toNatClampNeg, b1⟩ ⟨k2.toNatClampNeg, b2⟩
  simp only [own_chk3, e0, e1, e2, Bool.and_eq_true, decide_eq_true_eq] at c
  have i0 : own_inb 3 ((own_pre (own_inc (own_inc (own_inc (fun _ => 0) (k0.toNatClampNeg + 1)) (k1.toNatClampNeg + 1)) (k2.toNatClampNeg + 1))) k0.toNatClampNeg) := ⟨c.1.1.1.1.1.1.1.1.1.1.1, c.1.1.1.1.1.1.1.1.1.1.2⟩
  have i1 : own_inb 3 ((own_inc (own_pre (own_inc (own_inc (own_inc (fun _ => 0) (k0.toNatClampNeg + 1)) (k1.toNatClampNeg + 1)) (k2.toNatClampNeg + 1))) k0.toNatClampNeg) k1.toNatClampNeg) := ⟨c.1.1.1.1.1.1.1.1.2, c.1.1.1.1.1.1.1.2⟩
  have i2 : own_inb 3 ((own_inc (own_inc (own_pre (own_inc (own_inc (own_inc (fun _ => 0) (k0.toNatClampNeg + 1)) (k1.toNatClampNeg + 1)) (k2.toNatClampNeg + 1))) k0.toNatClampNeg) k1.toNatClampNeg) k2.toNatClampNeg) := ⟨c.1.1.1.1.1.2, c.1.1.1.1.2⟩
  have q0 : (((own_f2 (1 : Int32) (3 : Int32) k1 k0 (0 : Int32)) + (own_f2 (2 : Int32) (3 : Int32) k2 k0 (0 : Int32))) + (own_f2 (3 : Int32) (3 : Int32) k3 k0 (0 : Int32))) = ((own_pre (own_inc (own_inc (own_inc (fun _ => 0) (k0.toNatClampNeg + 1)) (k1.toNatClampNeg + 1)) (k2.toNatClampNeg + 1))) k0.toNatClampNeg) := by
    rw [← c.1.1.1.1.1.1.1.1.1.2]
    rw [own_cz (j := (3 : Int32)) (nn := (3 : Int32)) (a := k3) (b := k0) (a' := 0) (b' := k0) (by decide)]
  have q1 : (((own_f2 (0 : Int32) (3 : Int32) k0 k1 (1 : Int32)) + (own_f2 (2 : Int32) (3 : Int32) k2 k1 (0 : Int32))) + (own_f2 (3 : Int32) (3 : Int32) k3 k1 (0 : Int32))) = ((own_inc (own_pre (own_inc (own_inc (own_inc (fun _ => 0) (k0.toNatClampNeg + 1)) (k1.toNatClampNeg + 1)) (k2.toNatClampNeg + 1))) k0.toNatClampNeg) k1.toNatClampNeg) := by
    rw [← c.1.1.1.1.1.1.2]
    rw [own_cz (j := (3 : Int32)) (nn := (3 : Int32)) (a := k3) (b := k1) (a' := 0) (b' := k1) (by decide)]
  have q2 : (((own_f2 (0 : Int32) (3 : Int32) k0 k2 (1 : Int32)) + (own_f2 (1 : Int32) (3 : Int32) k1 k2 (1 : Int32))) + (own_f2 (3 : Int32) (3 : Int32) k3 k2 (0 : Int32))) = ((own_inc (own_inc (own_pre (own_inc (own_inc (own_inc (fun _ => 0) (k0.toNatClampNeg + 1)) (k1.toNatClampNeg + 1)) (k2.toNatClampNeg + 1))) k0.toNatClampNeg) k1.toNatClampNeg) k2.toNatClampNeg) := by
    rw [← c.1.1.1.2]
    rw [own_cz (j := (3 : Int32)) (nn := (3 : Int32)) (a := k3) (b := k2) (a' := 0) (b' := k2) (by decide)]
  have n01 := c.1.1.2
  have n10 := Ne.symm n01
  have n02 := c.1.2
  have n20 := Ne.symm n02
  have n12 := c.2
  have n21 := Ne.symm n12
  have lt : ∀ x : Int32, own_inb 3 x → x < (3 : Int32) := fun x h => by
    have h1 := h.1; have h2 := h.2; have kn : ((3 : Int32)).toInt = 3 := rfl; have k0 : (0 : Int32).toInt = 0 := rfl
    rw [Int32.lt_iff_toInt_lt] at h1 ⊢; simp only [Int32.toNatClampNeg] at h2; omega
  refine ⟨i0, i1, i2, ?_, ?_, ?_⟩
  · rw [own_ok, if_pos (by decide), q0, if_pos (lt _ i0), if_pos]
    have z := i0.2
    simp [List.getD_eq_getElem?_getD, List.getElem?_set, n10, n20, z]
  · rw [own_ok, if_pos (by decide), q1, if_pos (lt _ i1), if_pos]
    have z := i1.2
    simp [List.getD_eq_getElem?_getD, List.getElem?_set, n01, n21, z]
  · rw [own_ok, if_pos (by decide), q2, if_pos (lt _ i2), if_pos]
    have z := i2.2
    simp [List.getD_eq_getElem?_getD, List.getElem?_set, n02, n12, z]
theorem own_fin4 {k0 k1 k2 k3 keys p0 p1 p2 p3 : Int32} (hk : own_kb keys) (u0 : own_ub k0 keys) (u1 : own_ub k1 keys) (u2 : own_ub k2 keys) (u3 : own_ub k3 keys) : own_inb 4 ((own_pre (own_inc (own_inc (own_inc (own_inc (fun _ => 0) (k0.toNatClampNeg + 1)) (k1.toNatClampNeg + 1)) (k2.toNatClampNeg + 1)) (k3.toNatClampNeg + 1))) k0.toNatClampNeg) ∧ own_inb 4 ((own_inc (own_pre (own_inc (own_inc (own_inc (own_inc (fun _ => 0) (k0.toNatClampNeg + 1)) (k1.toNatClampNeg + 1)) (k2.toNatClampNeg + 1)) (k3.toNatClampNeg + 1))) k0.toNatClampNeg) k1.toNatClampNeg) ∧ own_inb 4 ((own_inc (own_inc (own_pre (own_inc (own_inc (own_inc (own_inc (fun _ => 0) (k0.toNatClampNeg + 1)) (k1.toNatClampNeg + 1)) (k2.toNatClampNeg + 1)) (k3.toNatClampNeg + 1))) k0.toNatClampNeg) k1.toNatClampNeg) k2.toNatClampNeg) ∧ own_inb 4 ((own_inc (own_inc (own_inc (own_pre (own_inc (own_inc (own_inc (own_inc (fun _ => 0) (k0.toNatClampNeg + 1)) (k1.toNatClampNeg + 1)) (k2.toNatClampNeg + 1)) (k3.toNatClampNeg + 1))) k0.toNatClampNeg) k1.toNatClampNeg) k2.toNatClampNeg) k3.toNatClampNeg) ∧ own_ok (((([(0 : Int32), (0 : Int32), (0 : Int32), (0 : Int32)].set ((own_pre (own_inc (own_inc (own_inc (own_inc (fun _ => 0) (k0.toNatClampNeg + 1)) (k1.toNatClampNeg + 1)) (k2.toNatClampNeg + 1)) (k3.toNatClampNeg + 1))) k0.toNatClampNeg).toNatClampNeg p0).set ((own_inc (own_pre (own_inc (own_inc (own_inc (own_inc (fun _ => 0) (k0.toNatClampNeg + 1)) (k1.toNatClampNeg + 1)) (k2.toNatClampNeg + 1)) (k3.toNatClampNeg + 1))) k0.toNatClampNeg) k1.toNatClampNeg).toNatClampNeg p1).set ((own_inc (own_inc (own_pre (own_inc (own_inc (own_inc (own_inc (fun _ => 0) (k0.toNatClampNeg + 1)) (k1.toNatClampNeg + 1)) (k2.toNatClampNeg + 1)) (k3.toNatClampNeg + 1))) k0.toNatClampNeg) k1.toNatClampNeg) k2.toNatClampNeg).toNatClampNeg p2).set ((own_inc (own_inc (own_inc (own_pre (own_inc (own_inc (own_inc (own_inc (fun _ => 0) (k0.toNatClampNeg + 1)) (k1.toNatClampNeg + 1)) (k2.toNatClampNeg + 1)) (k3.toNatClampNeg + 1))) k0.toNatClampNeg) k1.toNatClampNeg) k2.toNatClampNeg) k3.toNatClampNeg).toNatClampNeg p3) (0 : Int32) (4 : Int32) (((own_f2 (1 : Int32) (4 : Int32) k1 k0 (0 : Int32)) + (own_f2 (2 : Int32) (4 : Int32) k2 k0 (0 : Int32))) + (own_f2 (3 : Int32) (4 : Int32) k3 k0 (0 : Int32))) p0 = 1 ∧ own_ok (((([(0 : Int32), (0 : Int32), (0 : Int32), (0 : Int32)].set ((own_pre (own_inc (own_inc (own_inc (own_inc (fun _ => 0) (k0.toNatClampNeg + 1)) (k1.toNatClampNeg + 1)) (k2.toNatClampNeg + 1)) (k3.toNatClampNeg + 1))) k0.toNatClampNeg).toNatClampNeg p0).set ((own_inc (own_pre (own_inc (own_inc (own_inc (own_inc (fun _ => 0) (k0.toNatClampNeg + 1)) (k1.toNatClampNeg + 1)) (k2.toNatClampNeg + 1)) (k3.toNatClampNeg + 1))) k0.toNatClampNeg) k1.toNatClampNeg).toNatClampNeg p1).set ((own_inc (own_inc (own_pre (own_inc (own_inc (own_inc (own_inc (fun _ => 0) (k0.toNatClampNeg + 1)) (k1.toNatClampNeg + 1)) (k2.toNatClampNeg + 1)) (k3.toNatClampNeg + 1))) k0.toNatClampNeg) k1.toNatClampNeg) k2.toNatClampNeg).toNatClampNeg p2).set ((own_inc (own_inc (own_inc (own_pre (own_inc (own_inc (own_inc (own_inc (fun _ => 0) (k0.toNatClampNeg + 1)) (k1.toNatClampNeg + 1)) (k2.toNatClampNeg + 1)) (k3.toNatClampNeg + 1))) k0.toNatClampNeg) k1.toNatClampNeg) k2.toNatClampNeg) k3.toNatClampNeg).toNatClampNeg p3) (1 : Int32) (4 : Int32) (((own_f2 (0 : Int32) (4 : Int32) k0 k1 (1 : Int32)) + (own_f2 (2 : Int32) (4 : Int32) k2 k1 (0 : Int32))) + (own_f2 (3 : Int32) (4 : Int32) k3 k1 (0 : Int32))) p1 = 1 ∧ own_ok (((([(0 : Int32), (0 : Int32), (0 : Int32), (0 : Int32)].set ((own_pre (own_inc (own_inc (own_inc (own_inc (fun _ => 0) (k0.toNatClampNeg + 1)) (k1.toNatClampNeg + 1)) (k2.toNatClampNeg + 1)) (k3.toNatClampNeg + 1))) k0.toNatClampNeg).toNatClampNeg p0).set ((own_inc (own_pre (own_inc (own_inc (own_inc (own_inc (fun _ => 0) (k0.toNatClampNeg + 1)) (k1.toNatClampNeg + 1)) (k2.toNatClampNeg + 1)) (k3.toNatClampNeg + 1))) k0.toNatClampNeg) k1.toNatClampNeg).toNatClampNeg p1).set ((own_inc (own_inc (own_pre (own_inc (own_inc (own_inc (own_inc (fun _ => 0) (k0.toNatClampNeg + 1)) (k1.toNatClampNeg + 1)) (k2.toNatClampNeg + 1)) (k3.toNatClampNeg + 1))) k0.toNatClampNeg) k1.toNatClampNeg) k2.toNatClampNeg).toNatClampNeg p2).set ((own_inc (own_inc (own_inc (own_pre (own_inc (own_inc (own_inc (own_inc (fun _ => 0) (k0.toNatClampNeg + 1)) (k1.toNatClampNeg + 1)) (k2.toNatClampNeg + 1)) (k3.toNatClampNeg + 1))) k0.toNatClampNeg) k1.toNatClampNeg) k2.toNatClampNeg) k3.toNatClampNeg).toNatClampNeg p3) (2 : Int32) (4 : Int32) (((own_f2 (0 : Int32) (4 : Int32) k0 k2 (1 : Int32)) + (own_f2 (1 : Int32) (4 : Int32) k1 k2 (1 : Int32))) + (own_f2 (3 : Int32) (4 : Int32) k3 k2 (0 : Int32))) p2 = 1 ∧ own_ok (((([(0 : Int32), (0 : Int32), (0 : Int32), (0 : Int32)].set ((own_pre (own_inc (own_inc (own_inc (own_inc (fun _ => 0) (k0.toNatClampNeg + 1)) (k1.toNatClampNeg + 1)) (k2.toNatClampNeg + 1)) (k3.toNatClampNeg + 1))) k0.toNatClampNeg).toNatClampNeg p0).set ((own_inc (own_pre (own_inc (own_inc (own_inc (own_inc (fun _ => 0) (k0.toNatClampNeg + 1)) (k1.toNatClampNeg + 1)) (k2.toNatClampNeg + 1)) (k3.toNatClampNeg + 1))) k0.toNatClampNeg) k1.toNatClampNeg).toNatClampNeg p1).set ((own_inc (own_inc (own_pre (own_inc (own_inc (own_inc (own_inc (fun _ => 0) (k0.toNatClampNeg + 1)) (k1.toNatClampNeg + 1)) (k2.toNatClampNeg + 1)) (k3.toNatClampNeg + 1))) k0.toNatClampNeg) k1.toNatClampNeg) k2.toNatClampNeg).toNatClampNeg p2).set ((own_inc (own_inc (own_inc (own_pre (own_inc (own_inc (own_inc (own_inc (fun _ => 0) (k0.toNatClampNeg + 1)) (k1.toNatClampNeg + 1)) (k2.toNatClampNeg + 1)) (k3.toNatClampNeg + 1))) k0.toNatClampNeg) k1.toNatClampNeg) k2.toNatClampNeg) k3.toNatClampNeg).toNatClampNeg p3) (3 : Int32) (4 : Int32) (((own_f2 (0 : Int32) (4 : Int32) k0 k3 (1 : Int32)) + (own_f2 (1 : Int32) (4 : Int32) k1 k3 (1 : Int32))) + (own_f2 (2 : Int32) (4 : Int32) k2 k3 (1 : Int32))) p3 = 1 := by
  obtain ⟨b0, e0⟩ := own_c8 hk u0
  obtain ⟨b1, e1⟩ := own_c8 hk u1
  obtain ⟨b2, e2⟩ := own_c8 hk u2
  obtain ⟨b3, e3⟩ := own_c8 hk u3
  have c := own_all4 ⟨k0.toNatClampNeg, b0⟩ ⟨k1.toNatClampNeg, b1⟩ ⟨k2.toNatClampNeg, b2⟩ ⟨k3.toNatClampNeg, b3⟩
  simp only [own_chk4, e0, e1, e2, e3, Bool.and_eq_true, decide_eq_true_eq] at c
  have i0 : own_inb 4 ((own_pre (own_inc (own_inc (own_inc (own_inc (fun _ => 0) (k0.toNatClampNeg + 1)) (k1.toNatClampNeg + 1)) (k2.toNatClampNeg + 1)) (k3.toNatClampNeg + 1))) k0.toNatClampNeg) := ⟨c.1.1.1.1.1.1.1.1.1.1.1.1.1.1.1.1.1, c.1.1.1.1.1.1.1.1.1.1.1.1.1.1.1.1.2⟩
  have i1 : own_inb 4 ((own_inc (own_pre (own_inc (own_inc (own_inc (own_inc (fun _ => 0) (k0.toNatClampNeg + 1)) (k1.toNatClampNeg + 1)) (k2.toNatClampNeg + 1)) (k3.toNatClampNeg + 1))) k0.toNatClampNeg) k1.toNatClampNeg) := ⟨c.1.1.1.1.1.1.1.1.1.1.1.1.1.1.2, c.1.1.1.1.1.1.1.1.1.1.1.1.1.2⟩
  have i2 : own_inb 4 ((own_inc (own_inc (own_pre (own_inc (own_inc (own_inc (own_inc (fun _ => 0) (k0.toNatClampNeg + 1)) (k1.toNatClampNeg + 1)) (k2.toNatClampNeg + 1)) (k3.toNatClampNeg + 1))) k0.toNatClampNeg) k1.toNatClampNeg) k2.toNatClampNeg) := ⟨c.1.1.1.1.1.1.1.1.1.1.1.2, c.1.1.1.1.1.1.1.1.1.1.2⟩
  have i3 : own_inb 4 ((own_inc (own_inc (own_inc (own_pre (own_inc (own_inc (own_inc (own_inc (fun _ => 0) (k0.toNatClampNeg + 1)) (k1.toNatClampNeg + 1)) (k2.toNatClampNeg + 1)) (k3.toNatClampNeg + 1))) k0.toNatClampNeg) k1.toNatClampNeg) k2.toNatClampNeg) k3.toNatClampNeg) := ⟨c.1.1.1.1.1.1.1.1.2, c.1.1.1.1.1.1.1.2⟩
  have q0 : (((own_f2 (1 : Int32) (4 : Int32) k1 k0 (0 : Int32)) + (own_f2 (2 : Int32) (4 : Int32) k2 k0 (0 : Int32))) + (own_f2 (3 : Int32) (4 : Int32) k3 k0 (0 : Int32))) = ((own_pre (own_inc (own_inc (own_inc (own_inc (fun _ => 0) (k0.toNatClampNeg + 1)) (k1.toNatClampNeg + 1)) (k2.toNatClampNeg + 1)) (k3.toNatClampNeg + 1))) k0.toNatClampNeg) := by
    rw [← c.1.1.1.1.1.1.1.1.1.1.1.1.1.1.1.2]
  have q1 : (((own_f2 (0 : Int32) (4 : Int32) k0 k1 (1 : Int32)) + (own_f2 (2 : Int32) (4 : Int32) k2 k1 (0 : Int32))) + (own_f2 (3 : Int32) (4 : Int32) k3 k1 (0 : Int32))) = ((own_inc (own_pre (own_inc (own_inc (own_inc (own_inc (fun _ => 0) (k0.toNatClampNeg + 1)) (k1.toNatClampNeg + 1)) (k2.toNatClampNeg + 1)) (k3.toNatClampNeg + 1))) k0.toNatClampNeg) k1.toNatClampNeg) := by
    rw [← c.1.1.1.1.1.1.1.1.1.1.1.1.2]
  have q2 : (((own_f2 (0 : Int32) (4 : Int32) k0 k2 (1 : Int32)) + (own_f2 (1 : Int32) (4 : Int32) k1 k2 (1 : Int32))) + (own_f2 (3 : Int32) (4 : Int32) k3 k2 (0 : Int32))) = ((own_inc (own_inc (own_pre (own_inc (own_inc (own_inc (own_inc (fun _ => 0) (k0.toNatClampNeg + 1)) (k1.toNatClampNeg + 1)) (k2.toNatClampNeg + 1)) (k3.toNatClampNeg + 1))) k0.toNatClampNeg) k1.toNatClampNeg) k2.toNatClampNeg) := by
    rw [← c.1.1.1.1.1.1.1.1.1.2]
  have q3 : (((own_f2 (0 : Int32) (4 : Int32) k0 k3 (1 : Int32)) + (own_f2 (1 : Int32) (4 : Int32) k1 k3 (1 : Int32))) + (own_f2 (2 : Int32) (4 : Int32) k2 k3 (1 : Int32))) = ((own_inc (own_inc (own_inc (own_pre (own_inc (own_inc (own_inc (own_inc (fun _ => 0) (k0.toNatClampNeg + 1)) (k1.toNatClampNeg + 1)) (k2.toNatClampNeg + 1)) (k3.toNatClampNeg + 1))) k0.toNatClampNeg) k1.toNatClampNeg) k2.toNatClampNeg) k3.toNatClampNeg) := by
    rw [← c.1.1.1.1.1.1.2]
  have n01 := c.1.1.1.1.1.2
  have n10 := Ne.symm n01
  have n02 := c.1.1.1.1.2
  have n20 := Ne.symm n02
  have n03 := c.1.1.1.2
  have n30 := Ne.symm n03
  have n12 := c.1.1.2
  have n21 := Ne.symm n12
  have n13 := c.1.2
  have n31 := Ne.symm n13
  have n23 := c.2
  have n32 := Ne.symm n23
  have lt : ∀ x : Int32, own_inb 4 x → x < (4 : Int32) := fun x h => by
    have h1 := h.1; have h2 := h.2; have kn : ((4 : Int32)).toInt = 4 := rfl; have k0 : (0 : Int32).toInt = 0 := rfl
    rw [Int32.lt_iff_toInt_lt] at h1 ⊢; simp only [Int32.toNatClampNeg] at h2; omega
  refine ⟨i0, i1, i2, i3, ?_, ?_, ?_, ?_⟩
  · rw [own_ok, if_pos (by decide), q0, if_pos (lt _ i0), if_pos]
    have z := i0.2
    simp [List.getD_eq_getElem?_getD, List.getElem?_set, n10, n20, n30, z]
  · rw [own_ok, if_pos (by decide), q1, if_pos (lt _ i1), if_pos]
    have z := i1.2
    simp [List.getD_eq_getElem?_getD, List.getElem?_set, n01, n21, n31, z]
  · rw [own_ok, if_pos (by decide), q2, if_pos (lt _ i2), if_pos]
    have z := i2.2
    simp [List.getD_eq_getElem?_getD, List.getElem?_set, n02, n12, n32, z]
  · rw [own_ok, if_pos (by decide), q3, if_pos (lt _ i3), if_pos]
    have z := i3.2
    simp [List.getD_eq_getElem?_getD, List.getElem?_set, n03, n13, n23, z]
theorem own_ltn {q nn : Int32} {xs : List Int32} (hq : ¬ q < 0) (hl : xs.length = nn.toNatClampNeg) : q < nn → q.toNatClampNeg < xs.length := fun h => by
  rw [hl]; rw [Int32.lt_iff_toInt_lt] at hq h
  have k0 : (0 : Int32).toInt = 0 := rfl
  simp only [Int32.toNatClampNeg]; omega

theorem pn0 : plainName "com/example/precedence/precedence/TouchesSortedPinLaw" = true := by first | (simp [plainName, overriddenIn]; done) | decide +kernel
theorem ef0 (m : MethodId) (x0 : Int32) (x1 : Int32) (x2 : Int32) : entryFrame m #[(.int x0), (.int x1), (.int x2)] maxLocals = mkF m 0 #[.val (.int x0), .val (.int x1), .val (.int x2), .unset, .unset, .unset, .unset, .unset, .unset, .unset, .unset, .unset, .unset, .unset, .unset, .unset, .unset, .unset, .unset, .unset] [] := by first | (simp [entryFrame, mkF, argsToLocals, Value.category, maxLocals]; done) | rfl
theorem pd1 : parseMethodDescriptor "([I[II)[I" = some ⟨[(.array .int), (.array .int), .int], some (.array .int)⟩ := by decide +kernel
theorem pd2 : parseMethodDescriptor "(IIIIZ)I" = some ⟨[.int, .int, .int, .int, .boolean], some .int⟩ := by decide +kernel
theorem pd3 : parseMethodDescriptor "(II[III)Z" = some ⟨[.int, .int, (.array .int), .int, .int], some .boolean⟩ := by decide +kernel
theorem own_kb_7 : (Int8.ofInt (7)).toInt32 = (7 : Int32) := by decide
theorem own_ki_5 : Int32.ofInt (5) = (5 : Int32) := by decide
theorem own_ki_3 : Int32.ofInt (3) = (3 : Int32) := by decide
theorem own_siushr_3 (x : Int32) : (x.toUInt32 >>> ((3 : Int32) &&& 31).toUInt32).toInt32 = (x.toUInt32 >>> (3 : UInt32)).toInt32 := by rw [show ((3 : Int32) &&& 31).toUInt32 = (3 : UInt32) from by decide]
theorem own_ki_4 : Int32.ofInt (4) = (4 : Int32) := by decide
theorem own_ks_255 : (Int16.ofInt (255)).toInt32 = (255 : Int32) := by decide
theorem own_kb_8 : (Int8.ofInt (8)).toInt32 = (8 : Int32) := by decide
theorem own_siushr_8 (x : Int32) : (x.toUInt32 >>> ((8 : Int32) &&& 31).toUInt32).toInt32 = (x.toUInt32 >>> (8 : UInt32)).toInt32 := by rw [show ((8 : Int32) &&& 31).toUInt32 = (8 : UInt32) from by decide]
theorem own_ki_2 : Int32.ofInt (2) = (2 : Int32) := by decide
theorem own_kb_16 : (Int8.ofInt (16)).toInt32 = (16 : Int32) := by decide
theorem own_siushr_16 (x : Int32) : (x.toUInt32 >>> ((16 : Int32) &&& 31).toUInt32).toInt32 = (x.toUInt32 >>> (16 : UInt32)).toInt32 := by rw [show ((16 : Int32) &&& 31).toUInt32 = (16 : UInt32) from by decide]
theorem own_kb_24 : (Int8.ofInt (24)).toInt32 = (24 : Int32) := by decide
theorem own_siushr_24 (x : Int32) : (x.toUInt32 >>> ((24 : Int32) &&& 31).toUInt32).toInt32 = (x.toUInt32 >>> (24 : UInt32)).toInt32 := by rw [show ((24 : Int32) &&& 31).toUInt32 = (24 : UInt32) from by decide]
theorem own_siushr_2 (x : Int32) : (x.toUInt32 >>> ((2 : Int32) &&& 31).toUInt32).toInt32 = (x.toUInt32 >>> (2 : UInt32)).toInt32 := by rw [show ((2 : Int32) &&& 31).toUInt32 = (2 : UInt32) from by decide]
theorem own_siushr_4 (x : Int32) : (x.toUInt32 >>> ((4 : Int32) &&& 31).toUInt32).toInt32 = (x.toUInt32 >>> (4 : UInt32)).toInt32 := by rw [show ((4 : Int32) &&& 31).toUInt32 = (4 : UInt32) from by decide]
theorem own_kb_6 : (Int8.ofInt (6)).toInt32 = (6 : Int32) := by decide
theorem own_siushr_6 (x : Int32) : (x.toUInt32 >>> ((6 : Int32) &&& 31).toUInt32).toInt32 = (x.toUInt32 >>> (6 : UInt32)).toInt32 := by rw [show ((6 : Int32) &&& 31).toUInt32 = (6 : UInt32) from by decide]
set_option maxRecDepth 65536 in
set_option maxHeartbeats 40000000 in
theorem own_law (l : Launch) (Z : State) (a0 : Array Value) (hw : ∀ d ∈ tables_1, d.before a0 Z = true) (ws : List Jvm.Cond) (p0 : Int32) (p1 : Int32) (p2 : Int32)  (h0 : Heap) (n0 : Nat) (Z_ : n0 ≤ h0.size)  :
    Met l x code maxLocals ret ws room_1 Z n0 #[(.int p0), (.int p1), (.int p2)] h0 (fun v h => v = some (.int 1)) := by
  refine own_met pn0 (fun m => ef0 m p0 p1 p2) ?_
  intro p e s m below meth c C0
  have C : Cx p s m meth c Z code 20 (some .boolean) "com/example/precedence/precedence/TouchesSortedPinLaw" "law" := C0
  refine own_iloadN (pc' := 1) C at_0 rfl rfl ?_
  refine own_bipush (pc' := 3) (v := (7 : Int32)) C at_1 own_kb_7 rfl ?_
  refine own_iand (pc' := 4) C at_3 rfl rfl ?_
  refine own_iconst (pc' := 5) (v := (5 : Int32)) C at_4 own_ki_5 rfl ?_
  refine own_irem (pc' := 6) C at_5 (by decide) rfl rfl ?_
  obtain ⟨v3_6, hv3_6⟩ : ∃ z : Int32, z = ((p0 &&& (7 : Int32)) % (5 : Int32)) := ⟨_, rfl⟩
  refine own_istoreN (pc' := 7) (y := v3_6) (Ls' := #[.val (.int p0), .val (.int p1), .val (.int p2), .val (.int v3_6), .unset, .unset, .unset, .unset, .unset, .unset, .unset, .unset, .unset, .unset, .unset, .unset, .unset, .unset, .unset, .unset]) C at_6 hv3_6.symm rfl rfl ?_
  rcases own_five hv3_6 with q | q | q | q | q
  · subst q
    refine own_iconst (pc' := 8) (v := (1 : Int32)) C at_7 own_ki_1 rfl ?_
    refine own_iloadN (pc' := 9) C at_8 rfl rfl ?_
    refine own_iconst (pc' := 10) (v := (3 : Int32)) C at_9 own_ki_3 rfl ?_
    refine own_iushr (pc' := 11) (v := (p0.toUInt32 >>> (3 : UInt32)).toInt32) C at_10 (own_siushr_3 _) rfl ?_
    refine own_bipush (pc' := 13) (v := (7 : Int32)) C at_11 own_kb_7 rfl ?_
    refine own_iand (pc' := 14) C at_13 rfl rfl ?_
    refine own_iadd (pc' := 15) C at_14 rfl rfl ?_
    obtain ⟨v4_15, hv4_15⟩ : ∃ z : Int32, z = ((1 : Int32) + ((p0.toUInt32 >>> (3 : UInt32)).toInt32 &&& (7 : Int32))) := ⟨_, rfl⟩
    refine own_istore (pc' := 17) (y := v4_15) (Ls' := #[.val (.int p0), .val (.int p1), .val (.int p2), .val (.int (0 : Int32)), .val (.int v4_15), .unset, .unset, .unset, .unset, .unset, .unset, .unset, .unset, .unset, .unset, .unset, .unset, .unset, .unset, .unset]) C at_15 hv4_15.symm rfl rfl ?_
    refine own_iconst (pc' := 18) (v := (4 : Int32)) C at_17 own_ki_4 rfl ?_
    refine own_newI (pc' := 20) (len := 4) (cap := 4) C at_18 rfl rfl (hw _ (List.mem_of_getElem? (i := 0) rfl)) (by decide) rfl (by decide) (by decide) (by decide) (by decide) rfl ?_
    intro h1 b1 g1 X1 A_b1
    have g_b1 : n0 ≤ b1 := g1 ▸ Z_
    replace Z_ := Nat.le_trans Z_ X1.1
    replace A_b1 : AI Z h1 b1 .int [(0 : Int32), (0 : Int32), (0 : Int32), (0 : Int32)] := A_b1
    refine own_astore (pc' := 22) (Ls' := #[.val (.int p0), .val (.int p1), .val (.int p2), .val (.int (0 : Int32)), .val (.int v4_15), .val (.ref b1), .unset, .unset, .unset, .unset, .unset, .unset, .unset, .unset, .unset, .unset, .unset, .unset, .unset, .unset]) C at_20 rfl rfl rfl ?_
    refine own_aload (pc' := 24) C at_22 rfl rfl rfl ?_
    refine own_iconst (pc' := 25) (v := (0 : Int32)) C at_24 own_ki_0 rfl ?_
    refine own_iloadN (pc' := 26) C at_25 rfl rfl ?_
    refine own_sipush (pc' := 29) (v := (255 : Int32)) C at_26 own_ks_255 rfl ?_
    refine own_iand (pc' := 30) C at_29 rfl rfl ?_
    refine own_iload (pc' := 32) C at_30 rfl rfl ?_
    refine own_irem (pc' := 33) C at_32 (own_kne (own_keys hv4_15)) rfl rfl ?_
    obtain ⟨y33, hy33⟩ : ∃ z : Int32, z = ((p1 &&& (255 : Int32)) % v4_15) := ⟨_, rfl⟩
    refine own_iastore (pc' := 34) (i := 0) (ys := [y33, (0 : Int32), (0 : Int32), (0 : Int32)]) C at_33 A_b1 (by decide) rfl (Nat.le_of_ble_eq_true rfl) (by rw [hy33]; rfl) g_b1 rfl ?_
    intro h2 W2 A2_
    replace A_b1 := A2_
    replace Z_ : n0 ≤ _ := Nat.le_trans Z_ (Nat.le_of_eq W2.size.symm)
    refine own_aload (pc' := 36) C at_34 rfl rfl rfl ?_
    refine own_iconst (pc' := 37) (v := (1 : Int32)) C at_36 own_ki_1 rfl ?_
    refine own_iloadN (pc' := 38) C at_37 rfl rfl ?_
    refine own_bipush (pc' := 40) (v := (8 : Int32)) C at_38 own_kb_8 rfl ?_
    refine own_iushr (pc' := 41) (v := (p1.toUInt32 >>> (8 : UInt32)).toInt32) C at_40 (own_siushr_8 _) rfl ?_
    refine own_sipush (pc' := 44) (v := (255 : Int32)) C at_41 own_ks_255 rfl ?_
    refine own_iand (pc' := 45) C at_44 rfl rfl ?_
    refine own_iload (pc' := 47) C at_45 rfl rfl ?_
    refine own_irem (pc' := 48) C at_47 (own_kne (own_keys hv4_15)) rfl rfl ?_
    obtain ⟨y48, hy48⟩ : ∃ z : Int32, z = (((p1.toUInt32 >>> (8 : UInt32)).toInt32 &&& (255 : Int32)) % v4_15) := ⟨_, rfl⟩
    refine own_iastore (pc' := 49) (i := 1) (ys := [y33, y48, (0 : Int32), (0 : Int32)]) C at_48 A_b1 (by decide) rfl (Nat.le_of_ble_eq_true rfl) (by rw [hy48]; rfl) g_b1 rfl ?_
    intro h3 W3 A3_
    replace A_b1 := A3_
    replace Z_ : n0 ≤ _ := Nat.le_trans Z_ (Nat.le_of_eq W3.size.symm)
    refine own_aload (pc' := 51) C at_49 rfl rfl rfl ?_
    refine own_iconst (pc' := 52) (v := (2 : Int32)) C at_51 own_ki_2 rfl ?_
    refine own_iloadN (pc' := 53) C at_52 rfl rfl ?_
    refine own_bipush (pc' := 55) (v := (16 : Int32)) C at_53 own_kb_16 rfl ?_
    refine own_iushr (pc' := 56) (v := (p1.toUInt32 >>> (16 : UInt32)).toInt32) C at_55 (own_siushr_16 _) rfl ?_
    refine own_sipush (pc' := 59) (v := (255 : Int32)) C at_56 own_ks_255 rfl ?_
    refine own_iand (pc' := 60) C at_59 rfl rfl ?_
    refine own_iload (pc' := 62) C at_60 rfl rfl ?_
    refine own_irem (pc' := 63) C at_62 (own_kne (own_keys hv4_15)) rfl rfl ?_
    obtain ⟨y63, hy63⟩ : ∃ z : Int32, z = (((p1.toUInt32 >>> (16 : UInt32)).toInt32 &&& (255 : Int32)) % v4_15) := ⟨_, rfl⟩
    refine own_iastore (pc' := 64) (i := 2) (ys := [y33, y48, y63, (0 : Int32)]) C at_63 A_b1 (by decide) rfl (Nat.le_of_ble_eq_true rfl) (by rw [hy63]; rfl) g_b1 rfl ?_
    intro h4 W4 A4_
    replace A_b1 := A4_
    replace Z_ : n0 ≤ _ := Nat.le_trans Z_ (Nat.le_of_eq W4.size.symm)
    refine own_aload (pc' := 66) C at_64 rfl rfl rfl ?_
    refine own_iconst (pc' := 67) (v := (3 : Int32)) C at_66 own_ki_3 rfl ?_
    refine own_iloadN (pc' := 68) C at_67 rfl rfl ?_
    refine own_bipush (pc' := 70) (v := (24 : Int32)) C at_68 own_kb_24 rfl ?_
    refine own_iushr (pc' := 71) (v := (p1.toUInt32 >>> (24 : UInt32)).toInt32) C at_70 (own_siushr_24 _) rfl ?_
    refine own_sipush (pc' := 74) (v := (255 : Int32)) C at_71 own_ks_255 rfl ?_
    refine own_iand (pc' := 75) C at_74 rfl rfl ?_
    refine own_iload (pc' := 77) C at_75 rfl rfl ?_
    refine own_irem (pc' := 78) C at_77 (own_kne (own_keys hv4_15)) rfl rfl ?_
    obtain ⟨y78, hy78⟩ : ∃ z : Int32, z = (((p1.toUInt32 >>> (24 : UInt32)).toInt32 &&& (255 : Int32)) % v4_15) := ⟨_, rfl⟩
    refine own_iastore (pc' := 79) (i := 3) (ys := [y33, y48, y63, y78]) C at_78 A_b1 (by decide) rfl (Nat.le_of_ble_eq_true rfl) (by rw [hy78]; rfl) g_b1 rfl ?_
    intro h5 W5 A5_
    replace A_b1 := A5_
    replace Z_ : n0 ≤ _ := Nat.le_trans Z_ (Nat.le_of_eq W5.size.symm)
    refine own_iloadN (pc' := 80) C at_79 rfl rfl ?_
    refine own_iconst (pc' := 81) (v := (3 : Int32)) C at_80 own_ki_3 rfl ?_
    refine own_iand (pc' := 82) C at_81 rfl rfl ?_
    obtain ⟨v6_82, hv6_82⟩ : ∃ z : Int32, z = (p2 &&& (3 : Int32)) := ⟨_, rfl⟩
    refine own_istore (pc' := 84) (y := v6_82) (Ls' := #[.val (.int p0), .val (.int p1), .val (.int p2), .val (.int (0 : Int32)), .val (.int v4_15), .val (.ref b1), .val (.int v6_82), .unset, .unset, .unset, .unset, .unset, .unset, .unset, .unset, .unset, .unset, .unset, .unset, .unset]) C at_82 hv6_82.symm rfl rfl ?_
    refine own_iloadN (pc' := 85) C at_84 rfl rfl ?_
    refine own_iconst (pc' := 86) (v := (2 : Int32)) C at_85 own_ki_2 rfl ?_
    refine own_iushr (pc' := 87) (v := (p2.toUInt32 >>> (2 : UInt32)).toInt32) C at_86 (own_siushr_2 _) rfl ?_
    refine own_iconst (pc' := 88) (v := (3 : Int32)) C at_87 own_ki_3 rfl ?_
    refine own_iand (pc' := 89) C at_88 rfl rfl ?_
    obtain ⟨v7_89, hv7_89⟩ : ∃ z : Int32, z = ((p2.toUInt32 >>> (2 : UInt32)).toInt32 &&& (3 : Int32)) := ⟨_, rfl⟩
    refine own_istore (pc' := 91) (y := v7_89) (Ls' := #[.val (.int p0), .val (.int p1), .val (.int p2), .val (.int (0 : Int32)), .val (.int v4_15), .val (.ref b1), .val (.int v6_82), .val (.int v7_89), .unset, .unset, .unset, .unset, .unset, .unset, .unset, .unset, .unset, .unset, .unset, .unset]) C at_89 hv7_89.symm rfl rfl ?_
    refine own_iloadN (pc' := 92) C at_91 rfl rfl ?_
    refine own_iconst (pc' := 93) (v := (4 : Int32)) C at_92 own_ki_4 rfl ?_
    refine own_iushr (pc' := 94) (v := (p2.toUInt32 >>> (4 : UInt32)).toInt32) C at_93 (own_siushr_4 _) rfl ?_
    refine own_iconst (pc' := 95) (v := (3 : Int32)) C at_94 own_ki_3 rfl ?_
    refine own_iand (pc' := 96) C at_95 rfl rfl ?_
    obtain ⟨v8_96, hv8_96⟩ : ∃ z : Int32, z = ((p2.toUInt32 >>> (4 : UInt32)).toInt32 &&& (3 : Int32)) := ⟨_, rfl⟩
    refine own_istore (pc' := 98) (y := v8_96) (Ls' := #[.val (.int p0), .val (.int p1), .val (.int p2), .val (.int (0 : Int32)), .val (.int v4_15), .val (.ref b1), .val (.int v6_82), .val (.int v7_89), .val (.int v8_96), .unset, .unset, .unset, .unset, .unset, .unset, .unset, .unset, .unset, .unset, .unset]) C at_96 hv8_96.symm rfl rfl ?_
    refine own_iloadN (pc' := 99) C at_98 rfl rfl ?_
    refine own_bipush (pc' := 101) (v := (6 : Int32)) C at_99 own_kb_6 rfl ?_
    refine own_iushr (pc' := 102) (v := (p2.toUInt32 >>> (6 : UInt32)).toInt32) C at_101 (own_siushr_6 _) rfl ?_
    refine own_iconst (pc' := 103) (v := (3 : Int32)) C at_102 own_ki_3 rfl ?_
    refine own_iand (pc' := 104) C at_103 rfl rfl ?_
    obtain ⟨v9_104, hv9_104⟩ : ∃ z : Int32, z = ((p2.toUInt32 >>> (6 : UInt32)).toInt32 &&& (3 : Int32)) := ⟨_, rfl⟩
    refine own_istore (pc' := 106) (y := v9_104) (Ls' := #[.val (.int p0), .val (.int p1), .val (.int p2), .val (.int (0 : Int32)), .val (.int v4_15), .val (.ref b1), .val (.int v6_82), .val (.int v7_89), .val (.int v8_96), .val (.int v9_104), .unset, .unset, .unset, .unset, .unset, .unset, .unset, .unset, .unset, .unset]) C at_104 hv9_104.symm rfl rfl ?_
    refine own_iloadN (pc' := 107) C at_106 rfl rfl ?_
    refine own_newI (pc' := 109) (len := 0) (cap := 0) C at_107 rfl rfl (hw _ (List.mem_of_getElem? (i := 0) rfl)) (by decide) rfl (by decide) (by decide) (by decide) (by decide) rfl ?_
    intro h6 b6 g6 X6 A_b6
    have ne_b1_b6 : b1 ≠ b6 := Nat.ne_of_lt (g6 ▸ A_b1.lt)
    replace A_b1 := A_b1.ext X6
    have g_b6 : n0 ≤ b6 := g6 ▸ Z_
    replace Z_ := Nat.le_trans Z_ X6.1
    replace A_b6 : AI Z h6 b6 .int [] := A_b6
    refine own_astore (pc' := 111) (Ls' := #[.val (.int p0), .val (.int p1), .val (.int p2), .val (.int (0 : Int32)), .val (.int v4_15), .val (.ref b1), .val (.int v6_82), .val (.int v7_89), .val (.int v8_96), .val (.int v9_104), .val (.ref b6), .unset, .unset, .unset, .unset, .unset, .unset, .unset, .unset, .unset]) C at_109 rfl rfl rfl ?_
    refine own_iloadN (pc' := 112) C at_111 rfl rfl ?_
    refine own_if_le (pt := 121) (pf := 115) C at_112 (by decide) (by decide) rfl (fun _ => ?_) (fun q => absurd q (by decide))
    refine own_iloadN (pc' := 122) C at_121 rfl rfl ?_
    refine own_iconst (pc' := 123) (v := (1 : Int32)) C at_122 own_ki_1 rfl ?_
    refine own_icmp_le (pt := 132) (pf := 126) C at_123 (by decide) (by decide) rfl (fun _ => ?_) (fun q => absurd q (by decide))
    refine own_iloadN (pc' := 133) C at_132 rfl rfl ?_
    refine own_iconst (pc' := 134) (v := (2 : Int32)) C at_133 own_ki_2 rfl ?_
    refine own_icmp_le (pt := 143) (pf := 137) C at_134 (by decide) (by decide) rfl (fun _ => ?_) (fun q => absurd q (by decide))
    refine own_iloadN (pc' := 144) C at_143 rfl rfl ?_
    refine own_iconst (pc' := 145) (v := (3 : Int32)) C at_144 own_ki_3 rfl ?_
    refine own_icmp_le (pt := 154) (pf := 148) C at_145 (by decide) (by decide) rfl (fun _ => ?_) (fun q => absurd q (by decide))
    refine own_aload (pc' := 156) C at_154 rfl rfl rfl ?_
    refine own_iload (pc' := 158) C at_156 rfl rfl ?_
    refine own_iaload (pc' := 159) (v := (own_rk [y33, y48, y63, y78] v6_82)) (i := v6_82.toNatClampNeg) C at_158 A_b1 (own_p3 hv6_82).1 rfl (own_get4 (own_p3 hv6_82)) rfl ?_
    refine own_istore (pc' := 161) (y := (own_rk [y33, y48, y63, y78] v6_82)) (Ls' := #[.val (.int p0), .val (.int p1), .val (.int p2), .val (.int (0 : Int32)), .val (.int v4_15), .val (.ref b1), .val (.int v6_82), .val (.int v7_89), .val (.int v8_96), .val (.int v9_104), .val (.ref b6), .val (.int (own_rk [y33, y48, y63, y78] v6_82)), .unset, .unset, .unset, .unset, .unset, .unset, .unset, .unset]) C at_159 rfl rfl rfl ?_
    refine own_aload (pc' := 163) C at_161 rfl rfl rfl ?_
    refine own_iload (pc' := 165) C at_163 rfl rfl ?_
    refine own_iaload (pc' := 166) (v := (own_rk [y33, y48, y63, y78] v7_89)) (i := v7_89.toNatClampNeg) C at_165 A_b1 (own_p3 hv7_89).1 rfl (own_get4 (own_p3 hv7_89)) rfl ?_
    refine own_istore (pc' := 168) (y := (own_rk [y33, y48, y63, y78] v7_89)) (Ls' := #[.val (.int p0), .val (.int p1), .val (.int p2), .val (.int (0 : Int32)), .val (.int v4_15), .val (.ref b1), .val (.int v6_82), .val (.int v7_89), .val (.int v8_96), .val (.int v9_104), .val (.ref b6), .val (.int (own_rk [y33, y48, y63, y78] v6_82)), .val (.int (own_rk [y33, y48, y63, y78] v7_89)), .unset, .unset, .unset, .unset, .unset, .unset, .unset]) C at_166 rfl rfl rfl ?_
    refine own_aload (pc' := 170) C at_168 rfl rfl rfl ?_
    refine own_iload (pc' := 172) C at_170 rfl rfl ?_
    refine own_iaload (pc' := 173) (v := (own_rk [y33, y48, y63, y78] v8_96)) (i := v8_96.toNatClampNeg) C at_172 A_b1 (own_p3 hv8_96).1 rfl (own_get4 (own_p3 hv8_96)) rfl ?_
    refine own_istore (pc' := 175) (y := (own_rk [y33, y48, y63, y78] v8_96)) (Ls' := #[.val (.int p0), .val (.int p1), .val (.int p2), .val (.int (0 : Int32)), .val (.int v4_15), .val (.ref b1), .val (.int v6_82), .val (.int v7_89), .val (.int v8_96), .val (.int v9_104), .val (.ref b6), .val (.int (own_rk [y33, y48, y63, y78] v6_82)), .val (.int (own_rk [y33, y48, y63, y78] v7_89)), .val (.int (own_rk [y33, y48, y63, y78] v8_96)), .unset, .unset, .unset, .unset, .unset, .unset]) C at_173 rfl rfl rfl ?_
    refine own_aload (pc' := 177) C at_175 rfl rfl rfl ?_
    refine own_iload (pc' := 179) C at_177 rfl rfl ?_
    refine own_iaload (pc' := 180) (v := (own_rk [y33, y48, y63, y78] v9_104)) (i := v9_104.toNatClampNeg) C at_179 A_b1 (own_p3 hv9_104).1 rfl (own_get4 (own_p3 hv9_104)) rfl ?_
    refine own_istore (pc' := 182) (y := (own_rk [y33, y48, y63, y78] v9_104)) (Ls' := #[.val (.int p0), .val (.int p1), .val (.int p2), .val (.int (0 : Int32)), .val (.int v4_15), .val (.ref b1), .val (.int v6_82), .val (.int v7_89), .val (.int v8_96), .val (.int v9_104), .val (.ref b6), .val (.int (own_rk [y33, y48, y63, y78] v6_82)), .val (.int (own_rk [y33, y48, y63, y78] v7_89)), .val (.int (own_rk [y33, y48, y63, y78] v8_96)), .val (.int (own_rk [y33, y48, y63, y78] v9_104)), .unset, .unset, .unset, .unset, .unset]) C at_180 rfl rfl rfl ?_
    refine own_aload (pc' := 184) C at_182 rfl rfl rfl ?_
    refine own_aload (pc' := 186) C at_184 rfl rfl rfl ?_
    refine own_iload (pc' := 188) C at_186 rfl rfl ?_
    refine own_callS (pc' := 191) (wL := 0) (argsL := [(.ref b6), (.ref b1), (.int v4_15)]) (rest := []) C (own_sort0 l Z a0 hw b6 b1 v4_15 y33 y48 y63 y78 h6 n0 Z_ A_b6 A_b1 (own_keys hv4_15)  ) at_188 (hw _ (List.mem_of_getElem? (i := 1) rfl)) (hw _ (List.mem_of_getElem? (i := 2) rfl)) (hw _ (List.mem_of_getElem? (i := 3) rfl)) (hw _ (List.mem_of_getElem? (i := 4) rfl)) (by decide) (by decide) (by decide) rfl (lenOf pd1 rfl) rfl rfl (Nat.le_of_eq rfl) (by decide) (by decide) rfl ?_
    rintro _ h7 ⟨o_7, rfl, sz7, K7, A_o_7⟩
    replace A_b1 := A_b1.keep K7 nin0
    replace A_b6 := A_b6.keep K7 nin0
    replace Z_ := Nat.le_trans Z_ K7.1
    show Wp p l e _ s m _ below meth c n0 _ h7 (((0 + 1) + 1) + 2) (((0 + 4) + 0) + 9) (mkF m 191 #[.val (.int p0), .val (.int p1), .val (.int p2), .val (.int (0 : Int32)), .val (.int v4_15), .val (.ref b1), .val (.int v6_82), .val (.int v7_89), .val (.int v8_96), .val (.int v9_104), .val (.ref b6), .val (.int (own_rk [y33, y48, y63, y78] v6_82)), .val (.int (own_rk [y33, y48, y63, y78] v7_89)), .val (.int (own_rk [y33, y48, y63, y78] v8_96)), .val (.int (own_rk [y33, y48, y63, y78] v9_104)), .unset, .unset, .unset, .unset, .unset] [(.ref o_7)])
    refine own_astore (pc' := 193) (Ls' := #[.val (.int p0), .val (.int p1), .val (.int p2), .val (.int (0 : Int32)), .val (.int v4_15), .val (.ref b1), .val (.int v6_82), .val (.int v7_89), .val (.int v8_96), .val (.int v9_104), .val (.ref b6), .val (.int (own_rk [y33, y48, y63, y78] v6_82)), .val (.int (own_rk [y33, y48, y63, y78] v7_89)), .val (.int (own_rk [y33, y48, y63, y78] v8_96)), .val (.int (own_rk [y33, y48, y63, y78] v9_104)), .val (.ref o_7), .unset, .unset, .unset, .unset]) C at_191 rfl rfl rfl ?_
    refine own_aload (pc' := 195) C at_193 rfl rfl rfl ?_
    refine own_lenI (pc' := 196) (v := (0 : Int32)) C at_195 A_o_7 rfl rfl ?_
    refine own_iloadN (pc' := 197) C at_196 rfl rfl ?_
    refine own_icmp_eq (pt := 202) (pf := 200) C at_197 (by decide) (by decide) rfl (fun _ => ?_) (fun q => absurd (by decide) q)
    refine own_iconst (pc' := 203) (v := (1 : Int32)) C at_202 own_ki_1 rfl ?_
    refine own_iloadN (pc' := 204) C at_203 rfl rfl ?_
    refine own_iload (pc' := 206) C at_204 rfl rfl ?_
    refine own_iload (pc' := 208) C at_206 rfl rfl ?_
    refine own_iconst (pc' := 209) (v := (0 : Int32)) C at_208 own_ki_0 rfl ?_
    refine own_callS (pc' := 212) (wL := 0) (argsL := [(.int (1 : Int32)), (.int (0 : Int32)), (.int (own_rk [y33, y48, y63, y78] v7_89)), (.int (own_rk [y33, y48, y63, y78] v6_82)), (.int (0 : Int32))]) (rest := []) C (own_m2 l Z a0 hw (1 : Int32) (0 : Int32) (own_rk [y33, y48, y63, y78] v7_89) (own_rk [y33, y48, y63, y78] v6_82) (0 : Int32) h7 n0 Z_) at_209 (hw _ (List.mem_of_getElem? (i := 5) rfl)) (hw _ (List.mem_of_getElem? (i := 6) rfl)) (hw _ (List.mem_of_getElem? (i := 7) rfl)) (hw _ (List.mem_of_getElem? (i := 8) rfl)) (by decide) (by decide) (by decide) rfl (lenOf pd2 rfl) rfl rfl (Nat.le_of_eq rfl) (by decide) (by decide) rfl ?_
    rintro _ _ ⟨rfl, rfl⟩
    show Wp p l e _ s m _ below meth c n0 _ h7 (((0 + 1) + 1) + 2) (((0 + 4) + 0) + 9) (mkF m 212 #[.val (.int p0), .val (.int p1), .val (.int p2), .val (.int (0 : Int32)), .val (.int v4_15), .val (.ref b1), .val (.int v6_82), .val (.int v7_89), .val (.int v8_96), .val (.int v9_104), .val (.ref b6), .val (.int (own_rk [y33, y48, y63, y78] v6_82)), .val (.int (own_rk [y33, y48, y63, y78] v7_89)), .val (.int (own_rk [y33, y48, y63, y78] v8_96)), .val (.int (own_rk [y33, y48, y63, y78] v9_104)), .val (.ref o_7), .unset, .unset, .unset, .unset] [(.int (own_f2 (1 : Int32) (0 : Int32) (own_rk [y33, y48, y63, y78] v7_89) (own_rk [y33, y48, y63, y78] v6_82) (0 : Int32)))])
    refine own_iconst (pc' := 213) (v := (2 : Int32)) C at_212 own_ki_2 rfl ?_
    refine own_iloadN (pc' := 214) C at_213 rfl rfl ?_
    refine own_iload (pc' := 216) C at_214 rfl rfl ?_
    refine own_iload (pc' := 218) C at_216 rfl rfl ?_
    refine own_iconst (pc' := 219) (v := (0 : Int32)) C at_218 own_ki_0 rfl ?_
    refine own_callS (pc' := 222) (wL := 1) (argsL := [(.int (2 : Int32)), (.int (0 : Int32)), (.int (own_rk [y33, y48, y63, y78] v8_96)), (.int (own_rk [y33, y48, y63, y78] v6_82)), (.int (0 : Int32))]) (rest := [(.int (own_f2 (1 : Int32) (0 : Int32) (own_rk [y33, y48, y63, y78] v7_89) (own_rk [y33, y48, y63, y78] v6_82) (0 : Int32)))]) C (own_m2 l Z a0 hw (2 : Int32) (0 : Int32) (own_rk [y33, y48, y63, y78] v8_96) (own_rk [y33, y48, y63, y78] v6_82) (0 : Int32) h7 n0 Z_) at_219 (hw _ (List.mem_of_getElem? (i := 5) rfl)) (hw _ (List.mem_of_getElem? (i := 6) rfl)) (hw _ (List.mem_of_getElem? (i := 7) rfl)) (hw _ (List.mem_of_getElem? (i := 8) rfl)) (by decide) (by decide) (by decide) rfl (lenOf pd2 rfl) rfl rfl (Nat.le_of_eq rfl) (by decide) (by decide) rfl ?_
    rintro _ _ ⟨rfl, rfl⟩
    show Wp p l e _ s m _ below meth c n0 _ h7 (((0 + 1) + 1) + 2) (((0 + 4) + 0) + 9) (mkF m 222 #[.val (.int p0), .val (.int p1), .val (.int p2), .val (.int (0 : Int32)), .val (.int v4_15), .val (.ref b1), .val (.int v6_82), .val (.int v7_89), .val (.int v8_96), .val (.int v9_104), .val (.ref b6), .val (.int (own_rk [y33, y48, y63, y78] v6_82)), .val (.int (own_rk [y33, y48, y63, y78] v7_89)), .val (.int (own_rk [y33, y48, y63, y78] v8_96)), .val (.int (own_rk [y33, y48, y63, y78] v9_104)), .val (.ref o_7), .unset, .unset, .unset, .unset] [(.int (own_f2 (2 : Int32) (0 : Int32) (own_rk [y33, y48, y63, y78] v8_96) (own_rk [y33, y48, y63, y78] v6_82) (0 : Int32))), (.int (own_f2 (1 : Int32) (0 : Int32) (own_rk [y33, y48, y63, y78] v7_89) (own_rk [y33, y48, y63, y78] v6_82) (0 : Int32)))])
    refine own_iadd (pc' := 223) C at_222 rfl rfl ?_
    refine own_iconst (pc' := 224) (v := (3 : Int32)) C at_223 own_ki_3 rfl ?_
    refine own_iloadN (pc' := 225) C at_224 rfl rfl ?_
    refine own_iload (pc' := 227) C at_225 rfl rfl ?_
    refine own_iload (pc' := 229) C at_227 rfl rfl ?_
    refine own_iconst (pc' := 230) (v := (0 : Int32)) C at_229 own_ki_0 rfl ?_
    refine own_callS (pc' := 233) (wL := 1) (argsL := [(.int (3 : Int32)), (.int (0 : Int32)), (.int (own_rk [y33, y48, y63, y78] v9_104)), (.int (own_rk [y33, y48, y63, y78] v6_82)), (.int (0 : Int32))]) (rest := [(.int ((own_f2 (1 : Int32) (0 : Int32) (own_rk [y33, y48, y63, y78] v7_89) (own_rk [y33, y48, y63, y78] v6_82) (0 : Int32)) + (own_f2 (2 : Int32) (0 : Int32) (own_rk [y33, y48, y63, y78] v8_96) (own_rk [y33, y48, y63, y78] v6_82) (0 : Int32))))]) C (own_m2 l Z a0 hw (3 : Int32) (0 : Int32) (own_rk [y33, y48, y63, y78] v9_104) (own_rk [y33, y48, y63, y78] v6_82) (0 : Int32) h7 n0 Z_) at_230 (hw _ (List.mem_of_getElem? (i := 5) rfl)) (hw _ (List.mem_of_getElem? (i := 6) rfl)) (hw _ (List.mem_of_getElem? (i := 7) rfl)) (hw _ (List.mem_of_getElem? (i := 8) rfl)) (by decide) (by decide) (by decide) rfl (lenOf pd2 rfl) rfl rfl (Nat.le_of_eq rfl) (by decide) (by decide) rfl ?_
    rintro _ _ ⟨rfl, rfl⟩
    show Wp p l e _ s m _ below meth c n0 _ h7 (((0 + 1) + 1) + 2) (((0 + 4) + 0) + 9) (mkF m 233 #[.val (.int p0), .val (.int p1), .val (.int p2), .val (.int (0 : Int32)), .val (.int v4_15), .val (.ref b1), .val (.int v6_82), .val (.int v7_89), .val (.int v8_96), .val (.int v9_104), .val (.ref b6), .val (.int (own_rk [y33, y48, y63, y78] v6_82)), .val (.int (own_rk [y33, y48, y63, y78] v7_89)), .val (.int (own_rk [y33, y48, y63, y78] v8_96)), .val (.int (own_rk [y33, y48, y63, y78] v9_104)), .val (.ref o_7), .unset, .unset, .unset, .unset] [(.int (own_f2 (3 : Int32) (0 : Int32) (own_rk [y33, y48, y63, y78] v9_104) (own_rk [y33, y48, y63, y78] v6_82) (0 : Int32))), (.int ((own_f2 (1 : Int32) (0 : Int32) (own_rk [y33, y48, y63, y78] v7_89) (own_rk [y33, y48, y63, y78] v6_82) (0 : Int32)) + (own_f2 (2 : Int32) (0 : Int32) (own_rk [y33, y48, y63, y78] v8_96) (own_rk [y33, y48, y63, y78] v6_82) (0 : Int32))))])
    refine own_iadd (pc' := 234) C at_233 rfl rfl ?_
    obtain ⟨v16_234, hv16_234⟩ : ∃ z : Int32, z = (((own_f2 (1 : Int32) (0 : Int32) (own_rk [y33, y48, y63, y78] v7_89) (own_rk [y33, y48, y63, y78] v6_82) (0 : Int32)) + (own_f2 (2 : Int32) (0 : Int32) (own_rk [y33, y48, y63, y78] v8_96) (own_rk [y33, y48, y63, y78] v6_82) (0 : Int32))) + (own_f2 (3 : Int32) (0 : Int32) (own_rk [y33, y48, y63, y78] v9_104) (own_rk [y33, y48, y63, y78] v6_82) (0 : Int32))) := ⟨_, rfl⟩
    refine own_istore (pc' := 236) (y := v16_234) (Ls' := #[.val (.int p0), .val (.int p1), .val (.int p2), .val (.int (0 : Int32)), .val (.int v4_15), .val (.ref b1), .val (.int v6_82), .val (.int v7_89), .val (.int v8_96), .val (.int v9_104), .val (.ref b6), .val (.int (own_rk [y33, y48, y63, y78] v6_82)), .val (.int (own_rk [y33, y48, y63, y78] v7_89)), .val (.int (own_rk [y33, y48, y63, y78] v8_96)), .val (.int (own_rk [y33, y48, y63, y78] v9_104)), .val (.ref o_7), .val (.int v16_234), .unset, .unset, .unset]) C at_234 hv16_234.symm rfl rfl ?_
    refine own_iconst (pc' := 237) (v := (0 : Int32)) C at_236 own_ki_0 rfl ?_
    refine own_iloadN (pc' := 238) C at_237 rfl rfl ?_
    refine own_iload (pc' := 240) C at_238 rfl rfl ?_
    refine own_iload (pc' := 242) C at_240 rfl rfl ?_
    refine own_iconst (pc' := 243) (v := (1 : Int32)) C at_242 own_ki_1 rfl ?_
    refine own_callS (pc' := 246) (wL := 0) (argsL := [(.int (0 : Int32)), (.int (0 : Int32)), (.int (own_rk [y33, y48, y63, y78] v6_82)), (.int (own_rk [y33, y48, y63, y78] v7_89)), (.int (1 : Int32))]) (rest := []) C (own_m2 l Z a0 hw (0 : Int32) (0 : Int32) (own_rk [y33, y48, y63, y78] v6_82) (own_rk [y33, y48, y63, y78] v7_89) (1 : Int32) h7 n0 Z_) at_243 (hw _ (List.mem_of_getElem? (i := 5) rfl)) (hw _ (List.mem_of_getElem? (i := 6) rfl)) (hw _ (List.mem_of_getElem? (i := 7) rfl)) (hw _ (List.mem_of_getElem? (i := 8) rfl)) (by decide) (by decide) (by decide) rfl (lenOf pd2 rfl) rfl rfl (Nat.le_of_eq rfl) (by decide) (by decide) rfl ?_
    rintro _ _ ⟨rfl, rfl⟩
    show Wp p l e _ s m _ below meth c n0 _ h7 (((0 + 1) + 1) + 2) (((0 + 4) + 0) + 9) (mkF m 246 #[.val (.int p0), .val (.int p1), .val (.int p2), .val (.int (0 : Int32)), .val (.int v4_15), .val (.ref b1), .val (.int v6_82), .val (.int v7_89), .val (.int v8_96), .val (.int v9_104), .val (.ref b6), .val (.int (own_rk [y33, y48, y63, y78] v6_82)), .val (.int (own_rk [y33, y48, y63, y78] v7_89)), .val (.int (own_rk [y33, y48, y63, y78] v8_96)), .val (.int (own_rk [y33, y48, y63, y78] v9_104)), .val (.ref o_7), .val (.int v16_234), .unset, .unset, .unset] [(.int (own_f2 (0 : Int32) (0 : Int32) (own_rk [y33, y48, y63, y78] v6_82) (own_rk [y33, y48, y63, y78] v7_89) (1 : Int32)))])
    refine own_iconst (pc' := 247) (v := (2 : Int32)) C at_246 own_ki_2 rfl ?_
    refine own_iloadN (pc' := 248) C at_247 rfl rfl ?_
    refine own_iload (pc' := 250) C at_248 rfl rfl ?_
    refine own_iload (pc' := 252) C at_250 rfl rfl ?_
    refine own_iconst (pc' := 253) (v := (0 : Int32)) C at_252 own_ki_0 rfl ?_
    refine own_callS (pc' := 256) (wL := 1) (argsL := [(.int (2 : Int32)), (.int (0 : Int32)), (.int (own_rk [y33, y48, y63, y78] v8_96)), (.int (own_rk [y33, y48, y63, y78] v7_89)), (.int (0 : Int32))]) (rest := [(.int (own_f2 (0 : Int32) (0 : Int32) (own_rk [y33, y48, y63, y78] v6_82) (own_rk [y33, y48, y63, y78] v7_89) (1 : Int32)))]) C (own_m2 l Z a0 hw (2 : Int32) (0 : Int32) (own_rk [y33, y48, y63, y78] v8_96) (own_rk [y33, y48, y63, y78] v7_89) (0 : Int32) h7 n0 Z_) at_253 (hw _ (List.mem_of_getElem? (i := 5) rfl)) (hw _ (List.mem_of_getElem? (i := 6) rfl)) (hw _ (List.mem_of_getElem? (i := 7) rfl)) (hw _ (List.mem_of_getElem? (i := 8) rfl)) (by decide) (by decide) (by decide) rfl (lenOf pd2 rfl) rfl rfl (Nat.le_of_eq rfl) (by decide) (by decide) rfl ?_
    rintro _ _ ⟨rfl, rfl⟩
    show Wp p l e _ s m _ below meth c n0 _ h7 (((0 + 1) + 1) + 2) (((0 + 4) + 0) + 9) (mkF m 256 #[.val (.int p0), .val (.int p1), .val (.int p2), .val (.int (0 : Int32)), .val (.int v4_15), .val (.ref b1), .val (.int v6_82), .val (.int v7_89), .val (.int v8_96), .val (.int v9_104), .val (.ref b6), .val (.int (own_rk [y33, y48, y63, y78] v6_82)), .val (.int (own_rk [y33, y48, y63, y78] v7_89)), .val (.int (own_rk [y33, y48, y63, y78] v8_96)), .val (.int (own_rk [y33, y48, y63, y78] v9_104)), .val (.ref o_7), .val (.int v16_234), .unset, .unset, .unset] [(.int (own_f2 (2 : Int32) (0 : Int32) (own_rk [y33, y48, y63, y78] v8_96) (own_rk [y33, y48, y63, y78] v7_89) (0 : Int32))), (.int (own_f2 (0 : Int32) (0 : Int32) (own_rk [y33, y48, y63, y78] v6_82) (own_rk [y33, y48, y63, y78] v7_89) (1 : Int32)))])
    refine own_iadd (pc' := 257) C at_256 rfl rfl ?_
    refine own_iconst (pc' := 258) (v := (3 : Int32)) C at_257 own_ki_3 rfl ?_
    refine own_iloadN (pc' := 259) C at_258 rfl rfl ?_
    refine own_iload (pc' := 261) C at_259 rfl rfl ?_
    refine own_iload (pc' := 263) C at_261 rfl rfl ?_
    refine own_iconst (pc' := 264) (v := (0 : Int32)) C at_263 own_ki_0 rfl ?_
    refine own_callS (pc' := 267) (wL := 1) (argsL := [(.int (3 : Int32)), (.int (0 : Int32)), (.int (own_rk [y33, y48, y63, y78] v9_104)), (.int (own_rk [y33, y48, y63, y78] v7_89)), (.int (0 : Int32))]) (rest := [(.int ((own_f2 (0 : Int32) (0 : Int32) (own_rk [y33, y48, y63, y78] v6_82) (own_rk [y33, y48, y63, y78] v7_89) (1 : Int32)) + (own_f2 (2 : Int32) (0 : Int32) (own_rk [y33, y48, y63, y78] v8_96) (own_rk [y33, y48, y63, y78] v7_89) (0 : Int32))))]) C (own_m2 l Z a0 hw (3 : Int32) (0 : Int32) (own_rk [y33, y48, y63, y78] v9_104) (own_rk [y33, y48, y63, y78] v7_89) (0 : Int32) h7 n0 Z_) at_264 (hw _ (List.mem_of_getElem? (i := 5) rfl)) (hw _ (List.mem_of_getElem? (i := 6) rfl)) (hw _ (List.mem_of_getElem? (i := 7) rfl)) (hw _ (List.mem_of_getElem? (i := 8) rfl)) (by decide) (by decide) (by decide) rfl (lenOf pd2 rfl) rfl rfl (Nat.le_of_eq rfl) (by decide) (by decide) rfl ?_
    rintro _ _ ⟨rfl, rfl⟩
    show Wp p l e _ s m _ below meth c n0 _ h7 (((0 + 1) + 1) + 2) (((0 + 4) + 0) + 9) (mkF m 267 #[.val (.int p0), .val (.int p1), .val (.int p2), .val (.int (0 : Int32)), .val (.int v4_15), .val (.ref b1), .val (.int v6_82), .val (.int v7_89), .val (.int v8_96), .val (.int v9_104), .val (.ref b6), .val (.int (own_rk [y33, y48, y63, y78] v6_82)), .val (.int (own_rk [y33, y48, y63, y78] v7_89)), .val (.int (own_rk [y33, y48, y63, y78] v8_96)), .val (.int (own_rk [y33, y48, y63, y78] v9_104)), .val (.ref o_7), .val (.int v16_234), .unset, .unset, .unset] [(.int (own_f2 (3 : Int32) (0 : Int32) (own_rk [y33, y48, y63, y78] v9_104) (own_rk [y33, y48, y63, y78] v7_89) (0 : Int32))), (.int ((own_f2 (0 : Int32) (0 : Int32) (own_rk [y33, y48, y63, y78] v6_82) (own_rk [y33, y48, y63, y78] v7_89) (1 : Int32)) + (own_f2 (2 : Int32) (0 : Int32) (own_rk [y33, y48, y63, y78] v8_96) (own_rk [y33, y48, y63, y78] v7_89) (0 : Int32))))])
    refine own_iadd (pc' := 268) C at_267 rfl rfl ?_
    obtain ⟨v17_268, hv17_268⟩ : ∃ z : Int32, z = (((own_f2 (0 : Int32) (0 : Int32) (own_rk [y33, y48, y63, y78] v6_82) (own_rk [y33, y48, y63, y78] v7_89) (1 : Int32)) + (own_f2 (2 : Int32) (0 : Int32) (own_rk [y33, y48, y63, y78] v8_96) (own_rk [y33, y48, y63, y78] v7_89) (0 : Int32))) + (own_f2 (3 : Int32) (0 : Int32) (own_rk [y33, y48, y63, y78] v9_104) (own_rk [y33, y48, y63, y78] v7_89) (0 : Int32))) := ⟨_, rfl⟩
    refine own_istore (pc' := 270) (y := v17_268) (Ls' := #[.val (.int p0), .val (.int p1), .val (.int p2), .val (.int (0 : Int32)), .val (.int v4_15), .val (.ref b1), .val (.int v6_82), .val (.int v7_89), .val (.int v8_96), .val (.int v9_104), .val (.ref b6), .val (.int (own_rk [y33, y48, y63, y78] v6_82)), .val (.int (own_rk [y33, y48, y63, y78] v7_89)), .val (.int (own_rk [y33, y48, y63, y78] v8_96)), .val (.int (own_rk [y33, y48, y63, y78] v9_104)), .val (.ref o_7), .val (.int v16_234), .val (.int v17_268), .unset, .unset]) C at_268 hv17_268.symm rfl rfl ?_
    refine own_iconst (pc' := 271) (v := (0 : Int32)) C at_270 own_ki_0 rfl ?_
    refine own_iloadN (pc' := 272) C at_271 rfl rfl ?_
    refine own_iload (pc' := 274) C at_272 rfl rfl ?_
    refine own_iload (pc' := 276) C at_274 rfl rfl ?_
    refine own_iconst (pc' := 277) (v := (1 : Int32)) C at_276 own_ki_1 rfl ?_
    refine own_callS (pc' := 280) (wL := 0) (argsL := [(.int (0 : Int32)), (.int (0 : Int32)), (.int (own_rk [y33, y48, y63, y78] v6_82)), (.int (own_rk [y33, y48, y63, y78] v8_96)), (.int (1 : Int32))]) (rest := []) C (own_m2 l Z a0 hw (0 : Int32) (0 : Int32) (own_rk [y33, y48, y63, y78] v6_82) (own_rk [y33, y48, y63, y78] v8_96) (1 : Int32) h7 n0 Z_) at_277 (hw _ (List.mem_of_getElem? (i := 5) rfl)) (hw _ (List.mem_of_getElem? (i := 6) rfl)) (hw _ (List.mem_of_getElem? (i := 7) rfl)) (hw _ (List.mem_of_getElem? (i := 8) rfl)) (by decide) (by decide) (by decide) rfl (lenOf pd2 rfl) rfl rfl (Nat.le_of_eq rfl) (by decide) (by decide) rfl ?_
    rintro _ _ ⟨rfl, rfl⟩
    show Wp p l e _ s m _ below meth c n0 _ h7 (((0 + 1) + 1) + 2) (((0 + 4) + 0) + 9) (mkF m 280 #[.val (.int p0), .val (.int p1), .val (.int p2), .val (.int (0 : Int32)), .val (.int v4_15), .val (.ref b1), .val (.int v6_82), .val (.int v7_89), .val (.int v8_96), .val (.int v9_104), .val (.ref b6), .val (.int (own_rk [y33, y48, y63, y78] v6_82)), .val (.int (own_rk [y33, y48, y63, y78] v7_89)), .val (.int (own_rk [y33, y48, y63, y78] v8_96)), .val (.int (own_rk [y33, y48, y63, y78] v9_104)), .val (.ref o_7), .val (.int v16_234), .val (.int v17_268), .unset, .unset] [(.int (own_f2 (0 : Int32) (0 : Int32) (own_rk [y33, y48, y63, y78] v6_82) (own_rk [y33, y48, y63, y78] v8_96) (1 : Int32)))])
    refine own_iconst (pc' := 281) (v := (1 : Int32)) C at_280 own_ki_1 rfl ?_
    refine own_iloadN (pc' := 282) C at_281 rfl rfl ?_
    refine own_iload (pc' := 284) C at_282 rfl rfl ?_
    refine own_iload (pc' := 286) C at_284 rfl rfl ?_
    refine own_iconst (pc' := 287) (v := (1 : Int32)) C at_286 own_ki_1 rfl ?_
    refine own_callS (pc' := 290) (wL := 1) (argsL := [(.int (1 : Int32)), (.int (0 : Int32)), (.int (own_rk [y33, y48, y63, y78] v7_89)), (.int (own_rk [y33, y48, y63, y78] v8_96)), (.int (1 : Int32))]) (rest := [(.int (own_f2 (0 : Int32) (0 : Int32) (own_rk [y33, y48, y63, y78] v6_82) (own_rk [y33, y48, y63, y78] v8_96) (1 : Int32)))]) C (own_m2 l Z a0 hw (1 : Int32) (0 : Int32) (own_rk [y33, y48, y63, y78] v7_89) (own_rk [y33, y48, y63, y78] v8_96) (1 : Int32) h7 n0 Z_) at_287 (hw _ (List.mem_of_getElem? (i := 5) rfl)) (hw _ (List.mem_of_getElem? (i := 6) rfl)) (hw _ (List.mem_of_getElem? (i := 7) rfl)) (hw _ (List.mem_of_getElem? (i := 8) rfl)) (by decide) (by decide) (by decide) rfl (lenOf pd2 rfl) rfl rfl (Nat.le_of_eq rfl) (by decide) (by decide) rfl ?_
    rintro _ _ ⟨rfl, rfl⟩
    show Wp p l e _ s m _ below meth c n0 _ h7 (((0 + 1) + 1) + 2) (((0 + 4) + 0) + 9) (mkF m 290 #[.val (.int p0), .val (.int p1), .val (.int p2), .val (.int (0 : Int32)), .val (.int v4_15), .val (.ref b1), .val (.int v6_82), .val (.int v7_89), .val (.int v8_96), .val (.int v9_104), .val (.ref b6), .val (.int (own_rk [y33, y48, y63, y78] v6_82)), .val (.int (own_rk [y33, y48, y63, y78] v7_89)), .val (.int (own_rk [y33, y48, y63, y78] v8_96)), .val (.int (own_rk [y33, y48, y63, y78] v9_104)), .val (.ref o_7), .val (.int v16_234), .val (.int v17_268), .unset, .unset] [(.int (own_f2 (1 : Int32) (0 : Int32) (own_rk [y33, y48, y63, y78] v7_89) (own_rk [y33, y48, y63, y78] v8_96) (1 : Int32))), (.int (own_f2 (0 : Int32) (0 : Int32) (own_rk [y33, y48, y63, y78] v6_82) (own_rk [y33, y48, y63, y78] v8_96) (1 : Int32)))])
    refine own_iadd (pc' := 291) C at_290 rfl rfl ?_
    refine own_iconst (pc' := 292) (v := (3 : Int32)) C at_291 own_ki_3 rfl ?_
    refine own_iloadN (pc' := 293) C at_292 rfl rfl ?_
    refine own_iload (pc' := 295) C at_293 rfl rfl ?_
    refine own_iload (pc' := 297) C at_295 rfl rfl ?_
    refine own_iconst (pc' := 298) (v := (0 : Int32)) C at_297 own_ki_0 rfl ?_
    refine own_callS (pc' := 301) (wL := 1) (argsL := [(.int (3 : Int32)), (.int (0 : Int32)), (.int (own_rk [y33, y48, y63, y78] v9_104)), (.int (own_rk [y33, y48, y63, y78] v8_96)), (.int (0 : Int32))]) (rest := [(.int ((own_f2 (0 : Int32) (0 : Int32) (own_rk [y33, y48, y63, y78] v6_82) (own_rk [y33, y48, y63, y78] v8_96) (1 : Int32)) + (own_f2 (1 : Int32) (0 : Int32) (own_rk [y33, y48, y63, y78] v7_89) (own_rk [y33, y48, y63, y78] v8_96) (1 : Int32))))]) C (own_m2 l Z a0 hw (3 : Int32) (0 : Int32) (own_rk [y33, y48, y63, y78] v9_104) (own_rk [y33, y48, y63, y78] v8_96) (0 : Int32) h7 n0 Z_) at_298 (hw _ (List.mem_of_getElem? (i := 5) rfl)) (hw _ (List.mem_of_getElem? (i := 6) rfl)) (hw _ (List.mem_of_getElem? (i := 7) rfl)) (hw _ (List.mem_of_getElem? (i := 8) rfl)) (by decide) (by decide) (by decide) rfl (lenOf pd2 rfl) rfl rfl (Nat.le_of_eq rfl) (by decide) (by decide) rfl ?_
    rintro _ _ ⟨rfl, rfl⟩
    show Wp p l e _ s m _ below meth c n0 _ h7 (((0 + 1) + 1) + 2) (((0 + 4) + 0) + 9) (mkF m 301 #[.val (.int p0), .val (.int p1), .val (.int p2), .val (.int (0 : Int32)), .val (.int v4_15), .val (.ref b1), .val (.int v6_82), .val (.int v7_89), .val (.int v8_96), .val (.int v9_104), .val (.ref b6), .val (.int (own_rk [y33, y48, y63, y78] v6_82)), .val (.int (own_rk [y33, y48, y63, y78] v7_89)), .val (.int (own_rk [y33, y48, y63, y78] v8_96)), .val (.int (own_rk [y33, y48, y63, y78] v9_104)), .val (.ref o_7), .val (.int v16_234), .val (.int v17_268), .unset, .unset] [(.int (own_f2 (3 : Int32) (0 : Int32) (own_rk [y33, y48, y63, y78] v9_104) (own_rk [y33, y48, y63, y78] v8_96) (0 : Int32))), (.int ((own_f2 (0 : Int32) (0 : Int32) (own_rk [y33, y48, y63, y78] v6_82) (own_rk [y33, y48, y63, y78] v8_96) (1 : Int32)) + (own_f2 (1 : Int32) (0 : Int32) (own_rk [y33, y48, y63, y78] v7_89) (own_rk [y33, y48, y63, y78] v8_96) (1 : Int32))))])
    refine own_iadd (pc' := 302) C at_301 rfl rfl ?_
    obtain ⟨v18_302, hv18_302⟩ : ∃ z : Int32, z = (((own_f2 (0 : Int32) (0 : Int32) (own_rk [y33, y48, y63, y78] v6_82) (own_rk [y33, y48, y63, y78] v8_96) (1 : Int32)) + (own_f2 (1 : Int32) (0 : Int32) (own_rk [y33, y48, y63, y78] v7_89) (own_rk [y33, y48, y63, y78] v8_96) (1 : Int32))) + (own_f2 (3 : Int32) (0 : Int32) (own_rk [y33, y48, y63, y78] v9_104) (own_rk [y33, y48, y63, y78] v8_96) (0 : Int32))) := ⟨_, rfl⟩
    refine own_istore (pc' := 304) (y := v18_302) (Ls' := #[.val (.int p0), .val (.int p1), .val (.int p2), .val (.int (0 : Int32)), .val (.int v4_15), .val (.ref b1), .val (.int v6_82), .val (.int v7_89), .val (.int v8_96), .val (.int v9_104), .val (.ref b6), .val (.int (own_rk [y33, y48, y63, y78] v6_82)), .val (.int (own_rk [y33, y48, y63, y78] v7_89)), .val (.int (own_rk [y33, y48, y63, y78] v8_96)), .val (.int (own_rk [y33, y48, y63, y78] v9_104)), .val (.ref o_7), .val (.int v16_234), .val (.int v17_268), .val (.int v18_302), .unset]) C at_302 hv18_302.symm rfl rfl ?_
    refine own_iconst (pc' := 305) (v := (0 : Int32)) C at_304 own_ki_0 rfl ?_
    refine own_iloadN (pc' := 306) C at_305 rfl rfl ?_
    refine own_iload (pc' := 308) C at_306 rfl rfl ?_
    refine own_iload (pc' := 310) C at_308 rfl rfl ?_
    refine own_iconst (pc' := 311) (v := (1 : Int32)) C at_310 own_ki_1 rfl ?_
    refine own_callS (pc' := 314) (wL := 0) (argsL := [(.int (0 : Int32)), (.int (0 : Int32)), (.int (own_rk [y33, y48, y63, y78] v6_82)), (.int (own_rk [y33, y48, y63, y78] v9_104)), (.int (1 : Int32))]) (rest := []) C (own_m2 l Z a0 hw (0 : Int32) (0 : Int32) (own_rk [y33, y48, y63, y78] v6_82) (own_rk [y33, y48, y63, y78] v9_104) (1 : Int32) h7 n0 Z_) at_311 (hw _ (List.mem_of_getElem? (i := 5) rfl)) (hw _ (List.mem_of_getElem? (i := 6) rfl)) (hw _ (List.mem_of_getElem? (i := 7) rfl)) (hw _ (List.mem_of_getElem? (i := 8) rfl)) (by decide) (by decide) (by decide) rfl (lenOf pd2 rfl) rfl rfl (Nat.le_of_eq rfl) (by decide) (by decide) rfl ?_
    rintro _ _ ⟨rfl, rfl⟩
    show Wp p l e _ s m _ below meth c n0 _ h7 (((0 + 1) + 1) + 2) (((0 + 4) + 0) + 9) (mkF m 314 #[.val (.int p0), .val (.int p1), .val (.int p2), .val (.int (0 : Int32)), .val (.int v4_15), .val (.ref b1), .val (.int v6_82), .val (.int v7_89), .val (.int v8_96), .val (.int v9_104), .val (.ref b6), .val (.int (own_rk [y33, y48, y63, y78] v6_82)), .val (.int (own_rk [y33, y48, y63, y78] v7_89)), .val (.int (own_rk [y33, y48, y63, y78] v8_96)), .val (.int (own_rk [y33, y48, y63, y78] v9_104)), .val (.ref o_7), .val (.int v16_234), .val (.int v17_268), .val (.int v18_302), .unset] [(.int (own_f2 (0 : Int32) (0 : Int32) (own_rk [y33, y48, y63, y78] v6_82) (own_rk [y33, y48, y63, y78] v9_104) (1 : Int32)))])
    refine own_iconst (pc' := 315) (v := (1 : Int32)) C at_314 own_ki_1 rfl ?_
    refine own_iloadN (pc' := 316) C at_315 rfl rfl ?_
    refine own_iload (pc' := 318) C at_316 rfl rfl ?_
    refine own_iload (pc' := 320) C at_318 rfl rfl ?_
    refine own_iconst (pc' := 321) (v := (1 : Int32)) C at_320 own_ki_1 rfl ?_
    refine own_callS (pc' := 324) (wL := 1) (argsL := [(.int (1 : Int32)), (.int (0 : Int32)), (.int (own_rk [y33, y48, y63, y78] v7_89)), (.int (own_rk [y33, y48, y63, y78] v9_104)), (.int (1 : Int32))]) (rest := [(.int (own_f2 (0 : Int32) (0 : Int32) (own_rk [y33, y48, y63, y78] v6_82) (own_rk [y33, y48, y63, y78] v9_104) (1 : Int32)))]) C (own_m2 l Z a0 hw (1 : Int32) (0 : Int32) (own_rk [y33, y48, y63, y78] v7_89) (own_rk [y33, y48, y63, y78] v9_104) (1 : Int32) h7 n0 Z_) at_321 (hw _ (List.mem_of_getElem? (i := 5) rfl)) (hw _ (List.mem_of_getElem? (i := 6) rfl)) (hw _ (List.mem_of_getElem? (i := 7) rfl)) (hw _ (List.mem_of_getElem? (i := 8) rfl)) (by decide) (by decide) (by decide) rfl (lenOf pd2 rfl) rfl rfl (Nat.le_of_eq rfl) (by decide) (by decide) rfl ?_
    rintro _ _ ⟨rfl, rfl⟩
    show Wp p l e _ s m _ below meth c n0 _ h7 (((0 + 1) + 1) + 2) (((0 + 4) + 0) + 9) (mkF m 324 #[.val (.int p0), .val (.int p1), .val (.int p2), .val (.int (0 : Int32)), .val (.int v4_15), .val (.ref b1), .val (.int v6_82), .val (.int v7_89), .val (.int v8_96), .val (.int v9_104), .val (.ref b6), .val (.int (own_rk [y33, y48, y63, y78] v6_82)), .val (.int (own_rk [y33, y48, y63, y78] v7_89)), .val (.int (own_rk [y33, y48, y63, y78] v8_96)), .val (.int (own_rk [y33, y48, y63, y78] v9_104)), .val (.ref o_7), .val (.int v16_234), .val (.int v17_268), .val (.int v18_302), .unset] [(.int (own_f2 (1 : Int32) (0 : Int32) (own_rk [y33, y48, y63, y78] v7_89) (own_rk [y33, y48, y63, y78] v9_104) (1 : Int32))), (.int (own_f2 (0 : Int32) (0 : Int32) (own_rk [y33, y48, y63, y78] v6_82) (own_rk [y33, y48, y63, y78] v9_104) (1 : Int32)))])
    refine own_iadd (pc' := 325) C at_324 rfl rfl ?_
    refine own_iconst (pc' := 326) (v := (2 : Int32)) C at_325 own_ki_2 rfl ?_
    refine own_iloadN (pc' := 327) C at_326 rfl rfl ?_
    refine own_iload (pc' := 329) C at_327 rfl rfl ?_
    refine own_iload (pc' := 331) C at_329 rfl rfl ?_
    refine own_iconst (pc' := 332) (v := (1 : Int32)) C at_331 own_ki_1 rfl ?_
    refine own_callS (pc' := 335) (wL := 1) (argsL := [(.int (2 : Int32)), (.int (0 : Int32)), (.int (own_rk [y33, y48, y63, y78] v8_96)), (.int (own_rk [y33, y48, y63, y78] v9_104)), (.int (1 : Int32))]) (rest := [(.int ((own_f2 (0 : Int32) (0 : Int32) (own_rk [y33, y48, y63, y78] v6_82) (own_rk [y33, y48, y63, y78] v9_104) (1 : Int32)) + (own_f2 (1 : Int32) (0 : Int32) (own_rk [y33, y48, y63, y78] v7_89) (own_rk [y33, y48, y63, y78] v9_104) (1 : Int32))))]) C (own_m2 l Z a0 hw (2 : Int32) (0 : Int32) (own_rk [y33, y48, y63, y78] v8_96) (own_rk [y33, y48, y63, y78] v9_104) (1 : Int32) h7 n0 Z_) at_332 (hw _ (List.mem_of_getElem? (i := 5) rfl)) (hw _ (List.mem_of_getElem? (i := 6) rfl)) (hw _ (List.mem_of_getElem? (i := 7) rfl)) (hw _ (List.mem_of_getElem? (i := 8) rfl)) (by decide) (by decide) (by decide) rfl (lenOf pd2 rfl) rfl rfl (Nat.le_of_eq rfl) (by decide) (by decide) rfl ?_
    rintro _ _ ⟨rfl, rfl⟩
    show Wp p l e _ s m _ below meth c n0 _ h7 (((0 + 1) + 1) + 2) (((0 + 4) + 0) + 9) (mkF m 335 #[.val (.int p0), .val (.int p1), .val (.int p2), .val (.int (0 : Int32)), .val (.int v4_15), .val (.ref b1), .val (.int v6_82), .val (.int v7_89), .val (.int v8_96), .val (.int v9_104), .val (.ref b6), .val (.int (own_rk [y33, y48, y63, y78] v6_82)), .val (.int (own_rk [y33, y48, y63, y78] v7_89)), .val (.int (own_rk [y33, y48, y63, y78] v8_96)), .val (.int (own_rk [y33, y48, y63, y78] v9_104)), .val (.ref o_7), .val (.int v16_234), .val (.int v17_268), .val (.int v18_302), .unset] [(.int (own_f2 (2 : Int32) (0 : Int32) (own_rk [y33, y48, y63, y78] v8_96) (own_rk [y33, y48, y63, y78] v9_104) (1 : Int32))), (.int ((own_f2 (0 : Int32) (0 : Int32) (own_rk [y33, y48, y63, y78] v6_82) (own_rk [y33, y48, y63, y78] v9_104) (1 : Int32)) + (own_f2 (1 : Int32) (0 : Int32) (own_rk [y33, y48, y63, y78] v7_89) (own_rk [y33, y48, y63, y78] v9_104) (1 : Int32))))])
    refine own_iadd (pc' := 336) C at_335 rfl rfl ?_
    obtain ⟨v19_336, hv19_336⟩ : ∃ z : Int32, z = (((own_f2 (0 : Int32) (0 : Int32) (own_rk [y33, y48, y63, y78] v6_82) (own_rk [y33, y48, y63, y78] v9_104) (1 : Int32)) + (own_f2 (1 : Int32) (0 : Int32) (own_rk [y33, y48, y63, y78] v7_89) (own_rk [y33, y48, y63, y78] v9_104) (1 : Int32))) + (own_f2 (2 : Int32) (0 : Int32) (own_rk [y33, y48, y63, y78] v8_96) (own_rk [y33, y48, y63, y78] v9_104) (1 : Int32))) := ⟨_, rfl⟩
    refine own_istore (pc' := 338) (y := v19_336) (Ls' := #[.val (.int p0), .val (.int p1), .val (.int p2), .val (.int (0 : Int32)), .val (.int v4_15), .val (.ref b1), .val (.int v6_82), .val (.int v7_89), .val (.int v8_96), .val (.int v9_104), .val (.ref b6), .val (.int (own_rk [y33, y48, y63, y78] v6_82)), .val (.int (own_rk [y33, y48, y63, y78] v7_89)), .val (.int (own_rk [y33, y48, y63, y78] v8_96)), .val (.int (own_rk [y33, y48, y63, y78] v9_104)), .val (.ref o_7), .val (.int v16_234), .val (.int v17_268), .val (.int v18_302), .val (.int v19_336)]) C at_336 hv19_336.symm rfl rfl ?_
    refine own_iconst (pc' := 339) (v := (0 : Int32)) C at_338 own_ki_0 rfl ?_
    refine own_iloadN (pc' := 340) C at_339 rfl rfl ?_
    refine own_aload (pc' := 342) C at_340 rfl rfl rfl ?_
    refine own_iload (pc' := 344) C at_342 rfl rfl ?_
    refine own_iload (pc' := 346) C at_344 rfl rfl ?_
    refine own_callS (pc' := 349) (wL := 0) (argsL := [(.int (0 : Int32)), (.int (0 : Int32)), (.ref o_7), (.int v16_234), (.int v6_82)]) (rest := []) C (own_okk l Z a0 hw (0 : Int32) (0 : Int32) o_7 v16_234 v6_82 [] h7 n0 Z_ A_o_7 (by rw [hv16_234]; exact own_qn _ _ _ (own_c01 _ _ _ _ _) (own_c01 _ _ _ _ _) (own_c01 _ _ _ _ _)) (own_ltn (by rw [hv16_234]; exact own_qn _ _ _ (own_c01 _ _ _ _ _) (own_c01 _ _ _ _ _) (own_c01 _ _ _ _ _)) (by first | (simp; done) | rfl | (simp; rfl)))) at_346 (hw _ (List.mem_of_getElem? (i := 9) rfl)) (hw _ (List.mem_of_getElem? (i := 10) rfl)) (hw _ (List.mem_of_getElem? (i := 7) rfl)) (hw _ (List.mem_of_getElem? (i := 11) rfl)) (by decide) (by decide) (by decide) rfl (lenOf pd3 rfl) rfl rfl (Nat.le_of_eq rfl) (by decide) (by decide) rfl ?_
    rintro _ _ ⟨rfl, rfl⟩
    rw [show (own_ok [] (0 : Int32) (0 : Int32) v16_234 v6_82) = 1 from by rw [own_ok, if_neg (by decide)]]
    show Wp p l e _ s m _ below meth c n0 _ h7 (((0 + 1) + 1) + 2) (((0 + 4) + 0) + 9) (mkF m 349 #[.val (.int p0), .val (.int p1), .val (.int p2), .val (.int (0 : Int32)), .val (.int v4_15), .val (.ref b1), .val (.int v6_82), .val (.int v7_89), .val (.int v8_96), .val (.int v9_104), .val (.ref b6), .val (.int (own_rk [y33, y48, y63, y78] v6_82)), .val (.int (own_rk [y33, y48, y63, y78] v7_89)), .val (.int (own_rk [y33, y48, y63, y78] v8_96)), .val (.int (own_rk [y33, y48, y63, y78] v9_104)), .val (.ref o_7), .val (.int v16_234), .val (.int v17_268), .val (.int v18_302), .val (.int v19_336)] [(.int (1 : Int32))])
    refine own_if_eq (pt := 398) (pf := 352) C at_349 (by decide) (by decide) rfl (fun q => absurd q (by decide)) (fun _ => ?_)
    refine own_iconst (pc' := 353) (v := (1 : Int32)) C at_352 own_ki_1 rfl ?_
    refine own_iloadN (pc' := 354) C at_353 rfl rfl ?_
    refine own_aload (pc' := 356) C at_354 rfl rfl rfl ?_
    refine own_iload (pc' := 358) C at_356 rfl rfl ?_
    refine own_iload (pc' := 360) C at_358 rfl rfl ?_
    refine own_callS (pc' := 363) (wL := 0) (argsL := [(.int (1 : Int32)), (.int (0 : Int32)), (.ref o_7), (.int v17_268), (.int v7_89)]) (rest := []) C (own_okk l Z a0 hw (1 : Int32) (0 : Int32) o_7 v17_268 v7_89 [] h7 n0 Z_ A_o_7 (by rw [hv17_268]; exact own_qn _ _ _ (own_c01 _ _ _ _ _) (own_c01 _ _ _ _ _) (own_c01 _ _ _ _ _)) (own_ltn (by rw [hv17_268]; exact own_qn _ _ _ (own_c01 _ _ _ _ _) (own_c01 _ _ _ _ _) (own_c01 _ _ _ _ _)) (by first | (simp; done) | rfl | (simp; rfl)))) at_360 (hw _ (List.mem_of_getElem? (i := 9) rfl)) (hw _ (List.mem_of_getElem? (i := 10) rfl)) (hw _ (List.mem_of_getElem? (i := 7) rfl)) (hw _ (List.mem_of_getElem? (i := 11) rfl)) (by decide) (by decide) (by decide) rfl (lenOf pd3 rfl) rfl rfl (Nat.le_of_eq rfl) (by decide) (by decide) rfl ?_
    rintro _ _ ⟨rfl, rfl⟩
    rw [show (own_ok [] (1 : Int32) (0 : Int32) v17_268 v7_89) = 1 from by rw [own_ok, if_neg (by decide)]]
    show Wp p l e _ s m _ below meth c n0 _ h7 (((0 + 1) + 1) + 2) (((0 + 4) + 0) + 9) (mkF m 363 #[.val (.int p0), .val (.int p1), .val (.int p2), .val (.int (0 : Int32)), .val (.int v4_15), .val (.ref b1), .val (.int v6_82), .val (.int v7_89), .val (.int v8_96), .val (.int v9_104), .val (.ref b6), .val (.int (own_rk [y33, y48, y63, y78] v6_82)), .val (.int (own_rk [y33, y48, y63, y78] v7_89)), .val (.int (own_rk [y33, y48, y63, y78] v8_96)), .val (.int (own_rk [y33, y48, y63, y78] v9_104)), .val (.ref o_7), .val (.int v16_234), .val (.int v17_268), .val (.int v18_302), .val (.int v19_336)] [(.int (1 : Int32))])
    refine own_if_eq (pt := 398) (pf := 366) C at_363 (by decide) (by decide) rfl (fun q => absurd q (by decide)) (fun _ => ?_)
    refine own_iconst (pc' := 367) (v := (2 : Int32)) C at_366 own_ki_2 rfl ?_
    refine own_iloadN (pc' := 368) C at_367 rfl rfl ?_
    refine own_aload (pc' := 370) C at_368 rfl rfl rfl ?_
    refine own_iload (pc' := 372) C at_370 rfl rfl ?_
    refine own_iload (pc' := 374) C at_372 rfl rfl ?_
    refine own_callS (pc' := 377) (wL := 0) (argsL := [(.int (2 : Int32)), (.int (0 : Int32)), (.ref o_7), (.int v18_302), (.int v8_96)]) (rest := []) C (own_okk l Z a0 hw (2 : Int32) (0 : Int32) o_7 v18_302 v8_96 [] h7 n0 Z_ A_o_7 (by rw [hv18_302]; exact own_qn _ _ _ (own_c01 _ _ _ _ _) (own_c01 _ _ _ _ _) (own_c01 _ _ _ _ _)) (own_ltn (by rw [hv18_302]; exact own_qn _ _ _ (own_c01 _ _ _ _ _) (own_c01 _ _ _ _ _) (own_c01 _ _ _ _ _)) (by first | (simp; done) | rfl | (simp; rfl)))) at_374 (hw _ (List.mem_of_getElem? (i := 9) rfl)) (hw _ (List.mem_of_getElem? (i := 10) rfl)) (hw _ (List.mem_of_getElem? (i := 7) rfl)) (hw _ (List.mem_of_getElem? (i := 11) rfl)) (by decide) (by decide) (by decide) rfl (lenOf pd3 rfl) rfl rfl (Nat.le_of_eq rfl) (by decide) (by decide) rfl ?_
    rintro _ _ ⟨rfl, rfl⟩
    rw [show (own_ok [] (2 : Int32) (0 : Int32) v18_302 v8_96) = 1 from by rw [own_ok, if_neg (by decide)]]
    show Wp p l e _ s m _ below meth c n0 _ h7 (((0 + 1) + 1) + 2) (((0 + 4) + 0) + 9) (mkF m 377 #[.val (.int p0), .val (.int p1), .val (.int p2), .val (.int (0 : Int32)), .val (.int v4_15), .val (.ref b1), .val (.int v6_82), .val (.int v7_89), .val (.int v8_96), .val (.int v9_104), .val (.ref b6), .val (.int (own_rk [y33, y48, y63, y78] v6_82)), .val (.int (own_rk [y33, y48, y63, y78] v7_89)), .val (.int (own_rk [y33, y48, y63, y78] v8_96)), .val (.int (own_rk [y33, y48, y63, y78] v9_104)), .val (.ref o_7), .val (.int v16_234), .val (.int v17_268), .val (.int v18_302), .val (.int v19_336)] [(.int (1 : Int32))])
    refine own_if_eq (pt := 398) (pf := 380) C at_377 (by decide) (by decide) rfl (fun q => absurd q (by decide)) (fun _ => ?_)
    refine own_iconst (pc' := 381) (v := (3 : Int32)) C at_380 own_ki_3 rfl ?_
    refine own_iloadN (pc' := 382) C at_381 rfl rfl ?_
    refine own_aload (pc' := 384) C at_382 rfl rfl rfl ?_
    refine own_iload (pc' := 386) C at_384 rfl rfl ?_
    refine own_iload (pc' := 388) C at_386 rfl rfl ?_
    refine own_callS (pc' := 391) (wL := 0) (argsL := [(.int (3 : Int32)), (.int (0 : Int32)), (.ref o_7), (.int v19_336), (.int v9_104)]) (rest := []) C (own_okk l Z a0 hw (3 : Int32) (0 : Int32) o_7 v19_336 v9_104 [] h7 n0 Z_ A_o_7 (by rw [hv19_336]; exact own_qn _ _ _ (own_c01 _ _ _ _ _) (own_c01 _ _ _ _ _) (own_c01 _ _ _ _ _)) (own_ltn (by rw [hv19_336]; exact own_qn _ _ _ (own_c01 _ _ _ _ _) (own_c01 _ _ _ _ _) (own_c01 _ _ _ _ _)) (by first | (simp; done) | rfl | (simp; rfl)))) at_388 (hw _ (List.mem_of_getElem? (i := 9) rfl)) (hw _ (List.mem_of_getElem? (i := 10) rfl)) (hw _ (List.mem_of_getElem? (i := 7) rfl)) (hw _ (List.mem_of_getElem? (i := 11) rfl)) (by decide) (by decide) (by decide) rfl (lenOf pd3 rfl) rfl rfl (Nat.le_of_eq rfl) (by decide) (by decide) rfl ?_
    rintro _ _ ⟨rfl, rfl⟩
    rw [show (own_ok [] (3 : Int32) (0 : Int32) v19_336 v9_104) = 1 from by rw [own_ok, if_neg (by decide)]]
    show Wp p l e _ s m _ below meth c n0 _ h7 (((0 + 1) + 1) + 2) (((0 + 4) + 0) + 9) (mkF m 391 #[.val (.int p0), .val (.int p1), .val (.int p2), .val (.int (0 : Int32)), .val (.int v4_15), .val (.ref b1), .val (.int v6_82), .val (.int v7_89), .val (.int v8_96), .val (.int v9_104), .val (.ref b6), .val (.int (own_rk [y33, y48, y63, y78] v6_82)), .val (.int (own_rk [y33, y48, y63, y78] v7_89)), .val (.int (own_rk [y33, y48, y63, y78] v8_96)), .val (.int (own_rk [y33, y48, y63, y78] v9_104)), .val (.ref o_7), .val (.int v16_234), .val (.int v17_268), .val (.int v18_302), .val (.int v19_336)] [(.int (1 : Int32))])
    refine own_if_eq (pt := 398) (pf := 394) C at_391 (by decide) (by decide) rfl (fun q => absurd q (by decide)) (fun _ => ?_)
    refine own_iconst (pc' := 395) (v := (1 : Int32)) C at_394 own_ki_1 rfl ?_
    refine own_goto (pc' := 399) C at_395 (by decide) (by decide) ?_
    refine own_zret C at_399 (by decide) (by decide) (Or.inr rfl) ?_
    exact rfl
  · subst q
    refine own_iconst (pc' := 8) (v := (1 : Int32)) C at_7 own_ki_1 rfl ?_
    refine own_iloadN (pc' := 9) C at_8 rfl rfl ?_
    refine own_iconst (pc' := 10) (v := (3 : Int32)) C at_9 own_ki_3 rfl ?_
    refine own_iushr (pc' := 11) (v := (p0.toUInt32 >>> (3 : UInt32)).toInt32) C at_10 (own_siushr_3 _) rfl ?_
    refine own_bipush (pc' := 13) (v := (7 : Int32)) C at_11 own_kb_7 rfl ?_
    refine own_iand (pc' := 14) C at_13 rfl rfl ?_
    refine own_iadd (pc' := 15) C at_14 rfl rfl ?_
    obtain ⟨v4_15, hv4_15⟩ : ∃ z : Int32, z = ((1 : Int32) + ((p0.toUInt32 >>> (3 : UInt32)).toInt32 &&& (7 : Int32))) := ⟨_, rfl⟩
    refine own_istore (pc' := 17) (y := v4_15) (Ls' := #[.val (.int p0), .val (.int p1), .val (.int p2), .val (.int (1 : Int32)), .val (.int v4_15), .unset, .unset, .unset, .unset, .unset, .unset, .unset, .unset, .unset, .unset, .unset, .unset, .unset, .unset, .unset]) C at_15 hv4_15.symm rfl rfl ?_
    refine own_iconst (pc' := 18) (v := (4 : Int32)) C at_17 own_ki_4 rfl ?_
    refine own_newI (pc' := 20) (len := 4) (cap := 4) C at_18 rfl rfl (hw _ (List.mem_of_getElem? (i := 0) rfl)) (by decide) rfl (by decide) (by decide) (by decide) (by decide) rfl ?_
    intro h1 b1 g1 X1 A_b1
    have g_b1 : n0 ≤ b1 := g1 ▸ Z_
    replace Z_ := Nat.le_trans Z_ X1.1
    replace A_b1 : AI Z h1 b1 .int [(0 : Int32), (0 : Int32), (0 : Int32), (0 : Int32)] := A_b1
    refine own_astore (pc' := 22) (Ls' := #[.val (.int p0), .val (.int p1), .val (.int p2), .val (.int (1 : Int32)), .val (.int v4_15), .val (.ref b1), .unset, .unset, .unset, .unset, .unset, .unset, .unset, .unset, .unset, .unset, .unset, .unset, .unset, .unset]) C at_20 rfl rfl rfl ?_
    refine own_aload (pc' := 24) C at_22 rfl rfl rfl ?_
    refine own_iconst (pc' := 25) (v := (0 : Int32)) C at_24 own_ki_0 rfl ?_
    refine own_iloadN (pc' := 26) C at_25 rfl rfl ?_
    refine own_sipush (pc' := 29) (v := (255 : Int32)) C at_26 own_ks_255 rfl ?_
    refine own_iand (pc' := 30) C at_29 rfl rfl ?_
    refine own_iload (pc' := 32) C at_30 rfl rfl ?_
    refine own_irem (pc' := 33) C at_32 (own_kne (own_keys hv4_15)) rfl rfl ?_
    obtain ⟨y33, hy33⟩ : ∃ z : Int32, z = ((p1 &&& (255 : Int32)) % v4_15) := ⟨_, rfl⟩
    refine own_iastore (pc' := 34) (i := 0) (ys := [y33, (0 : Int32), (0 : Int32), (0 : Int32)]) C at_33 A_b1 (by decide) rfl (Nat.le_of_ble_eq_true rfl) (by rw [hy33]; rfl) g_b1 rfl ?_
    intro h2 W2 A2_
    replace A_b1 := A2_
    replace Z_ : n0 ≤ _ := Nat.le_trans Z_ (Nat.le_of_eq W2.size.symm)
    refine own_aload (pc' := 36) C at_34 rfl rfl rfl ?_
    refine own_iconst (pc' := 37) (v := (1 : Int32)) C at_36 own_ki_1 rfl ?_
    refine own_iloadN (pc' := 38) C at_37 rfl rfl ?_
    refine own_bipush (pc' := 40) (v := (8 : Int32)) C at_38 own_kb_8 rfl ?_
    refine own_iushr (pc' := 41) (v := (p1.toUInt32 >>> (8 : UInt32)).toInt32) C at_40 (own_siushr_8 _) rfl ?_
    refine own_sipush (pc' := 44) (v := (255 : Int32)) C at_41 own_ks_255 rfl ?_
    refine own_iand (pc' := 45) C at_44 rfl rfl ?_
    refine own_iload (pc' := 47) C at_45 rfl rfl ?_
    refine own_irem (pc' := 48) C at_47 (own_kne (own_keys hv4_15)) rfl rfl ?_
    obtain ⟨y48, hy48⟩ : ∃ z : Int32, z = (((p1.toUInt32 >>> (8 : UInt32)).toInt32 &&& (255 : Int32)) % v4_15) := ⟨_, rfl⟩
    refine own_iastore (pc' := 49) (i := 1) (ys := [y33, y48, (0 : Int32), (0 : Int32)]) C at_48 A_b1 (by decide) rfl (Nat.le_of_ble_eq_true rfl) (by rw [hy48]; rfl) g_b1 rfl ?_
    intro h3 W3 A3_
    replace A_b1 := A3_
    replace Z_ : n0 ≤ _ := Nat.le_trans Z_ (Nat.le_of_eq W3.size.symm)
    refine own_aload (pc' := 51) C at_49 rfl rfl rfl ?_
    refine own_iconst (pc' := 52) (v := (2 : Int32)) C at_51 own_ki_2 rfl ?_
    refine own_iloadN (pc' := 53) C at_52 rfl rfl ?_
    refine own_bipush (pc' := 55) (v := (16 : Int32)) C at_53 own_kb_16 rfl ?_
    refine own_iushr (pc' := 56) (v := (p1.toUInt32 >>> (16 : UInt32)).toInt32) C at_55 (own_siushr_16 _) rfl ?_
    refine own_sipush (pc' := 59) (v := (255 : Int32)) C at_56 own_ks_255 rfl ?_
    refine own_iand (pc' := 60) C at_59 rfl rfl ?_
    refine own_iload (pc' := 62) C at_60 rfl rfl ?_
    refine own_irem (pc' := 63) C at_62 (own_kne (own_keys hv4_15)) rfl rfl ?_
    obtain ⟨y63, hy63⟩ : ∃ z : Int32, z = (((p1.toUInt32 >>> (16 : UInt32)).toInt32 &&& (255 : Int32)) % v4_15) := ⟨_, rfl⟩
    refine own_iastore (pc' := 64) (i := 2) (ys := [y33, y48, y63, (0 : Int32)]) C at_63 A_b1 (by decide) rfl (Nat.le_of_ble_eq_true rfl) (by rw [hy63]; rfl) g_b1 rfl ?_
    intro h4 W4 A4_
    replace A_b1 := A4_
    replace Z_ : n0 ≤ _ := Nat.le_trans Z_ (Nat.le_of_eq W4.size.symm)
    refine own_aload (pc' := 66) C at_64 rfl rfl rfl ?_
    refine own_iconst (pc' := 67) (v := (3 : Int32)) C at_66 own_ki_3 rfl ?_
    refine own_iloadN (pc' := 68) C at_67 rfl rfl ?_
    refine own_bipush (pc' := 70) (v := (24 : Int32)) C at_68 own_kb_24 rfl ?_
    refine own_iushr (pc' := 71) (v := (p1.toUInt32 >>> (24 : UInt32)).toInt32) C at_70 (own_siushr_24 _) rfl ?_
    refine own_sipush (pc' := 74) (v := (255 : Int32)) C at_71 own_ks_255 rfl ?_
    refine own_iand (pc' := 75) C at_74 rfl rfl ?_
    refine own_iload (pc' := 77) C at_75 rfl rfl ?_
    refine own_irem (pc' := 78) C at_77 (own_kne (own_keys hv4_15)) rfl rfl ?_
    obtain ⟨y78, hy78⟩ : ∃ z : Int32, z = (((p1.toUInt32 >>> (24 : UInt32)).toInt32 &&& (255 : Int32)) % v4_15) := ⟨_, rfl⟩
    refine own_iastore (pc' := 79) (i := 3) (ys := [y33, y48, y63, y78]) C at_78 A_b1 (by decide) rfl (Nat.le_of_ble_eq_true rfl) (by rw [hy78]; rfl) g_b1 rfl ?_
    intro h5 W5 A5_
    replace A_b1 := A5_
    replace Z_ : n0 ≤ _ := Nat.le_trans Z_ (Nat.le_of_eq W5.size.symm)
    refine own_iloadN (pc' := 80) C at_79 rfl rfl ?_
    refine own_iconst (pc' := 81) (v := (3 : Int32)) C at_80 own_ki_3 rfl ?_
    refine own_iand (pc' := 82) C at_81 rfl rfl ?_
    obtain ⟨v6_82, hv6_82⟩ : ∃ z : Int32, z = (p2 &&& (3 : Int32)) := ⟨_, rfl⟩
    refine own_istore (pc' := 84) (y := v6_82) (Ls' := #[.val (.int p0), .val (.int p1), .val (.int p2), .val (.int (1 : Int32)), .val (.int v4_15), .val (.ref b1), .val (.int v6_82), .unset, .unset, .unset, .unset, .unset, .unset, .unset, .unset, .unset, .unset, .unset, .unset, .unset]) C at_82 hv6_82.symm rfl rfl ?_
    refine own_iloadN (pc' := 85) C at_84 rfl rfl ?_
    refine own_iconst (pc' := 86) (v := (2 : Int32)) C at_85 own_ki_2 rfl ?_
    refine own_iushr (pc' := 87) (v := (p2.toUInt32 >>> (2 : UInt32)).toInt32) C at_86 (own_siushr_2 _) rfl ?_
    refine own_iconst (pc' := 88) (v := (3 : Int32)) C at_87 own_ki_3 rfl ?_
    refine own_iand (pc' := 89) C at_88 rfl rfl ?_
    obtain ⟨v7_89, hv7_89⟩ : ∃ z : Int32, z = ((p2.toUInt32 >>> (2 : UInt32)).toInt32 &&& (3 : Int32)) := ⟨_, rfl⟩
    refine own_istore (pc' := 91) (y := v7_89) (Ls' := #[.val (.int p0), .val (.int p1), .val (.int p2), .val (.int (1 : Int32)), .val (.int v4_15), .val (.ref b1), .val (.int v6_82), .val (.int v7_89), .unset, .unset, .unset, .unset, .unset, .unset, .unset, .unset, .unset, .unset, .unset, .unset]) C at_89 hv7_89.symm rfl rfl ?_
    refine own_iloadN (pc' := 92) C at_91 rfl rfl ?_
    refine own_iconst (pc' := 93) (v := (4 : Int32)) C at_92 own_ki_4 rfl ?_
    refine own_iushr (pc' := 94) (v := (p2.toUInt32 >>> (4 : UInt32)).toInt32) C at_93 (own_siushr_4 _) rfl ?_
    refine own_iconst (pc' := 95) (v := (3 : Int32)) C at_94 own_ki_3 rfl ?_
    refine own_iand (pc' := 96) C at_95 rfl rfl ?_
    obtain ⟨v8_96, hv8_96⟩ : ∃ z : Int32, z = ((p2.toUInt32 >>> (4 : UInt32)).toInt32 &&& (3 : Int32)) := ⟨_, rfl⟩
    refine own_istore (pc' := 98) (y := v8_96) (Ls' := #[.val (.int p0), .val (.int p1), .val (.int p2), .val (.int (1 : Int32)), .val (.int v4_15), .val (.ref b1), .val (.int v6_82), .val (.int v7_89), .val (.int v8_96), .unset, .unset, .unset, .unset, .unset, .unset, .unset, .unset, .unset, .unset, .unset]) C at_96 hv8_96.symm rfl rfl ?_
    refine own_iloadN (pc' := 99) C at_98 rfl rfl ?_
    refine own_bipush (pc' := 101) (v := (6 : Int32)) C at_99 own_kb_6 rfl ?_
    refine own_iushr (pc' := 102) (v := (p2.toUInt32 >>> (6 : UInt32)).toInt32) C at_101 (own_siushr_6 _) rfl ?_
    refine own_iconst (pc' := 103) (v := (3 : Int32)) C at_102 own_ki_3 rfl ?_
    refine own_iand (pc' := 104) C at_103 rfl rfl ?_
    obtain ⟨v9_104, hv9_104⟩ : ∃ z : Int32, z = ((p2.toUInt32 >>> (6 : UInt32)).toInt32 &&& (3 : Int32)) := ⟨_, rfl⟩
    refine own_istore (pc' := 106) (y := v9_104) (Ls' := #[.val (.int p0), .val (.int p1), .val (.int p2), .val (.int (1 : Int32)), .val (.int v4_15), .val (.ref b1), .val (.int v6_82), .val (.int v7_89), .val (.int v8_96), .val (.int v9_104), .unset, .unset, .unset, .unset, .unset, .unset, .unset, .unset, .unset, .unset]) C at_104 hv9_104.symm rfl rfl ?_
    refine own_iloadN (pc' := 107) C at_106 rfl rfl ?_
    refine own_newI (pc' := 109) (len := 1) (cap := 1) C at_107 rfl rfl (hw _ (List.mem_of_getElem? (i := 0) rfl)) (by decide) rfl (by decide) (by decide) (by decide) (by decide) rfl ?_
    intro h6 b6 g6 X6 A_b6
    have ne_b1_b6 : b1 ≠ b6 := Nat.ne_of_lt (g6 ▸ A_b1.lt)
    replace A_b1 := A_b1.ext X6
    have g_b6 : n0 ≤ b6 := g6 ▸ Z_
    replace Z_ := Nat.le_trans Z_ X6.1
    replace A_b6 : AI Z h6 b6 .int [(0 : Int32)] := A_b6
    refine own_astore (pc' := 111) (Ls' := #[.val (.int p0), .val (.int p1), .val (.int p2), .val (.int (1 : Int32)), .val (.int v4_15), .val (.ref b1), .val (.int v6_82), .val (.int v7_89), .val (.int v8_96), .val (.int v9_104), .val (.ref b6), .unset, .unset, .unset, .unset, .unset, .unset, .unset, .unset, .unset]) C at_109 rfl rfl rfl ?_
    refine own_iloadN (pc' := 112) C at_111 rfl rfl ?_
    refine own_if_le (pt := 121) (pf := 115) C at_112 (by decide) (by decide) rfl (fun q => absurd (by decide) q) (fun _ => ?_)
    refine own_aload (pc' := 117) C at_115 rfl rfl rfl ?_
    refine own_iconst (pc' := 118) (v := (0 : Int32)) C at_117 own_ki_0 rfl ?_
    refine own_iload (pc' := 120) C at_118 rfl rfl ?_
    refine own_iastore (pc' := 121) (i := 0) (ys := [v6_82]) C at_120 A_b6 (by decide) rfl (Nat.le_of_ble_eq_true rfl) rfl g_b6 rfl ?_
    intro h7 W7 A7_
    replace A_b1 := A_b1.other W7 ne_b1_b6
    replace A_b6 := A7_
    replace Z_ : n0 ≤ _ := Nat.le_trans Z_ (Nat.le_of_eq W7.size.symm)
    refine own_iloadN (pc' := 122) C at_121 rfl rfl ?_
    refine own_iconst (pc' := 123) (v := (1 : Int32)) C at_122 own_ki_1 rfl ?_
    refine own_icmp_le (pt := 132) (pf := 126) C at_123 (by decide) (by decide) rfl (fun _ => ?_) (fun q => absurd q (by decide))
    refine own_iloadN (pc' := 133) C at_132 rfl rfl ?_
    refine own_iconst (pc' := 134) (v := (2 : Int32)) C at_133 own_ki_2 rfl ?_
    refine own_icmp_le (pt := 143) (pf := 137) C at_134 (by decide) (by decide) rfl (fun _ => ?_) (fun q => absurd q (by decide))
    refine own_iloadN (pc' := 144) C at_143 rfl rfl ?_
    refine own_iconst (pc' := 145) (v := (3 : Int32)) C at_144 own_ki_3 rfl ?_
    refine own_icmp_le (pt := 154) (pf := 148) C at_145 (by decide) (by decide) rfl (fun _ => ?_) (fun q => absurd q (by decide))
    refine own_aload (pc' := 156) C at_154 rfl rfl rfl ?_
    refine own_iload (pc' := 158) C at_156 rfl rfl ?_
    refine own_iaload (pc' := 159) (v := (own_rk [y33, y48, y63, y78] v6_82)) (i := v6_82.toNatClampNeg) C at_158 A_b1 (own_p3 hv6_82).1 rfl (own_get4 (own_p3 hv6_82)) rfl ?_
    refine own_istore (pc' := 161) (y := (own_rk [y33, y48, y63, y78] v6_82)) (Ls' := #[.val (.int p0), .val (.int p1), .val (.int p2), .val (.int (1 : Int32)), .val (.int v4_15), .val (.ref b1), .val (.int v6_82), .val (.int v7_89), .val (.int v8_96), .val (.int v9_104), .val (.ref b6), .val (.int (own_rk [y33, y48, y63, y78] v6_82)), .unset, .unset, .unset, .unset, .unset, .unset, .unset, .unset]) C at_159 rfl rfl rfl ?_
    refine own_aload (pc' := 163) C at_161 rfl rfl rfl ?_
    refine own_iload (pc' := 165) C at_163 rfl rfl ?_
    refine own_iaload (pc' := 166) (v := (own_rk [y33, y48, y63, y78] v7_89)) (i := v7_89.toNatClampNeg) C at_165 A_b1 (own_p3 hv7_89).1 rfl (own_get4 (own_p3 hv7_89)) rfl ?_
    refine own_istore (pc' := 168) (y := (own_rk [y33, y48, y63, y78] v7_89)) (Ls' := #[.val (.int p0), .val (.int p1), .val (.int p2), .val (.int (1 : Int32)), .val (.int v4_15), .val (.ref b1), .val (.int v6_82), .val (.int v7_89), .val (.int v8_96), .val (.int v9_104), .val (.ref b6), .val (.int (own_rk [y33, y48, y63, y78] v6_82)), .val (.int (own_rk [y33, y48, y63, y78] v7_89)), .unset, .unset, .unset, .unset, .unset, .unset, .unset]) C at_166 rfl rfl rfl ?_
    refine own_aload (pc' := 170) C at_168 rfl rfl rfl ?_
    refine own_iload (pc' := 172) C at_170 rfl rfl ?_
    refine own_iaload (pc' := 173) (v := (own_rk [y33, y48, y63, y78] v8_96)) (i := v8_96.toNatClampNeg) C at_172 A_b1 (own_p3 hv8_96).1 rfl (own_get4 (own_p3 hv8_96)) rfl ?_
    refine own_istore (pc' := 175) (y := (own_rk [y33, y48, y63, y78] v8_96)) (Ls' := #[.val (.int p0), .val (.int p1), .val (.int p2), .val (.int (1 : Int32)), .val (.int v4_15), .val (.ref b1), .val (.int v6_82), .val (.int v7_89), .val (.int v8_96), .val (.int v9_104), .val (.ref b6), .val (.int (own_rk [y33, y48, y63, y78] v6_82)), .val (.int (own_rk [y33, y48, y63, y78] v7_89)), .val (.int (own_rk [y33, y48, y63, y78] v8_96)), .unset, .unset, .unset, .unset, .unset, .unset]) C at_173 rfl rfl rfl ?_
    refine own_aload (pc' := 177) C at_175 rfl rfl rfl ?_
    refine own_iload (pc' := 179) C at_177 rfl rfl ?_
    refine own_iaload (pc' := 180) (v := (own_rk [y33, y48, y63, y78] v9_104)) (i := v9_104.toNatClampNeg) C at_179 A_b1 (own_p3 hv9_104).1 rfl (own_get4 (own_p3 hv9_104)) rfl ?_
    refine own_istore (pc' := 182) (y := (own_rk [y33, y48, y63, y78] v9_104)) (Ls' := #[.val (.int p0), .val (.int p1), .val (.int p2), .val (.int (1 : Int32)), .val (.int v4_15), .val (.ref b1), .val (.int v6_82), .val (.int v7_89), .val (.int v8_96), .val (.int v9_104), .val (.ref b6), .val (.int (own_rk [y33, y48, y63, y78] v6_82)), .val (.int (own_rk [y33, y48, y63, y78] v7_89)), .val (.int (own_rk [y33, y48, y63, y78] v8_96)), .val (.int (own_rk [y33, y48, y63, y78] v9_104)), .unset, .unset, .unset, .unset, .unset]) C at_180 rfl rfl rfl ?_
    refine own_aload (pc' := 184) C at_182 rfl rfl rfl ?_
    refine own_aload (pc' := 186) C at_184 rfl rfl rfl ?_
    refine own_iload (pc' := 188) C at_186 rfl rfl ?_
    have FIN := (own_fin1 (k0 := (own_rk [y33, y48, y63, y78] v6_82)) (k1 := (own_rk [y33, y48, y63, y78] v7_89)) (k2 := (own_rk [y33, y48, y63, y78] v8_96)) (k3 := (own_rk [y33, y48, y63, y78] v9_104)) (p0 := v6_82) (own_keys hv4_15) (own_rkb (own_p3 hv6_82) (own_yb (own_keys hv4_15) hy33) (own_yb (own_keys hv4_15) hy48) (own_yb (own_keys hv4_15) hy63) (own_yb (own_keys hv4_15) hy78)))
    refine own_callS (pc' := 191) (wL := 0) (argsL := [(.ref b6), (.ref b1), (.int v4_15)]) (rest := []) C (own_sort1 l Z a0 hw b6 b1 v4_15 v6_82 y33 y48 y63 y78 h7 n0 Z_ A_b6 A_b1 (own_keys hv4_15) (own_p3 hv6_82) (own_rkb (own_p3 hv6_82) (own_yb (own_keys hv4_15) hy33) (own_yb (own_keys hv4_15) hy48) (own_yb (own_keys hv4_15) hy63) (own_yb (own_keys hv4_15) hy78)) FIN.1) at_188 (hw _ (List.mem_of_getElem? (i := 1) rfl)) (hw _ (List.mem_of_getElem? (i := 2) rfl)) (hw _ (List.mem_of_getElem? (i := 3) rfl)) (hw _ (List.mem_of_getElem? (i := 4) rfl)) (by decide) (by decide) (by decide) rfl (lenOf pd1 rfl) rfl rfl (Nat.le_of_eq rfl) (by decide) (by decide) rfl ?_
    rintro _ h8 ⟨o_8, rfl, sz8, K8, A_o_8⟩
    replace A_b1 := A_b1.keep K8 nin0
    replace A_b6 := A_b6.keep K8 nin0
    replace Z_ := Nat.le_trans Z_ K8.1
    show Wp p l e _ s m _ below meth c n0 _ h8 (((0 + 1) + 1) + 2) (((0 + 4) + 1) + 10) (mkF m 191 #[.val (.int p0), .val (.int p1), .val (.int p2), .val (.int (1 : Int32)), .val (.int v4_15), .val (.ref b1), .val (.int v6_82), .val (.int v7_89), .val (.int v8_96), .val (.int v9_104), .val (.ref b6), .val (.int (own_rk [y33, y48, y63, y78] v6_82)), .val (.int (own_rk [y33, y48, y63, y78] v7_89)), .val (.int (own_rk [y33, y48, y63, y78] v8_96)), .val (.int (own_rk [y33, y48, y63, y78] v9_104)), .unset, .unset, .unset, .unset, .unset] [(.ref o_8)])
    refine own_astore (pc' := 193) (Ls' := #[.val (.int p0), .val (.int p1), .val (.int p2), .val (.int (1 : Int32)), .val (.int v4_15), .val (.ref b1), .val (.int v6_82), .val (.int v7_89), .val (.int v8_96), .val (.int v9_104), .val (.ref b6), .val (.int (own_rk [y33, y48, y63, y78] v6_82)), .val (.int (own_rk [y33, y48, y63, y78] v7_89)), .val (.int (own_rk [y33, y48, y63, y78] v8_96)), .val (.int (own_rk [y33, y48, y63, y78] v9_104)), .val (.ref o_8), .unset, .unset, .unset, .unset]) C at_191 rfl rfl rfl ?_
    refine own_aload (pc' := 195) C at_193 rfl rfl rfl ?_
    refine own_lenI (pc' := 196) (v := (1 : Int32)) C at_195 A_o_8 (by first | (simp; done) | rfl | (simp; rfl)) rfl ?_
    refine own_iloadN (pc' := 197) C at_196 rfl rfl ?_
    refine own_icmp_eq (pt := 202) (pf := 200) C at_197 (by decide) (by decide) rfl (fun _ => ?_) (fun q => absurd (by decide) q)
    refine own_iconst (pc' := 203) (v := (1 : Int32)) C at_202 own_ki_1 rfl ?_
    refine own_iloadN (pc' := 204) C at_203 rfl rfl ?_
    refine own_iload (pc' := 206) C at_204 rfl rfl ?_
    refine own_iload (pc' := 208) C at_206 rfl rfl ?_
    refine own_iconst (pc' := 209) (v := (0 : Int32)) C at_208 own_ki_0 rfl ?_
    refine own_callS (pc' := 212) (wL := 0) (argsL := [(.int (1 : Int32)), (.int (1 : Int32)), (.int (own_rk [y33, y48, y63, y78] v7_89)), (.int (own_rk [y33, y48, y63, y78] v6_82)), (.int (0 : Int32))]) (rest := []) C (own_m2 l Z a0 hw (1 : Int32) (1 : Int32) (own_rk [y33, y48, y63, y78] v7_89) (own_rk [y33, y48, y63, y78] v6_82) (0 : Int32) h8 n0 Z_) at_209 (hw _ (List.mem_of_getElem? (i := 5) rfl)) (hw _ (List.mem_of_getElem? (i := 6) rfl)) (hw _ (List.mem_of_getElem? (i := 7) rfl)) (hw _ (List.mem_of_getElem? (i := 8) rfl)) (by decide) (by decide) (by decide) rfl (lenOf pd2 rfl) rfl rfl (Nat.le_of_eq rfl) (by decide) (by decide) rfl ?_
    rintro _ _ ⟨rfl, rfl⟩
    show Wp p l e _ s m _ below meth c n0 _ h8 (((0 + 1) + 1) + 2) (((0 + 4) + 1) + 10) (mkF m 212 #[.val (.int p0), .val (.int p1), .val (.int p2), .val (.int (1 : Int32)), .val (.int v4_15), .val (.ref b1), .val (.int v6_82), .val (.int v7_89), .val (.int v8_96), .val (.int v9_104), .val (.ref b6), .val (.int (own_rk [y33, y48, y63, y78] v6_82)), .val (.int (own_rk [y33, y48, y63, y78] v7_89)), .val (.int (own_rk [y33, y48, y63, y78] v8_96)), .val (.int (own_rk [y33, y48, y63, y78] v9_104)), .val (.ref o_8), .unset, .unset, .unset, .unset] [(.int (own_f2 (1 : Int32) (1 : Int32) (own_rk [y33, y48, y63, y78] v7_89) (own_rk [y33, y48, y63, y78] v6_82) (0 : Int32)))])
    refine own_iconst (pc' := 213) (v := (2 : Int32)) C at_212 own_ki_2 rfl ?_
    refine own_iloadN (pc' := 214) C at_213 rfl rfl ?_
    refine own_iload (pc' := 216) C at_214 rfl rfl ?_
    refine own_iload (pc' := 218) C at_216 rfl rfl ?_
    refine own_iconst (pc' := 219) (v := (0 : Int32)) C at_218 own_ki_0 rfl ?_
    refine own_callS (pc' := 222) (wL := 1) (argsL := [(.int (2 : Int32)), (.int (1 : Int32)), (.int (own_rk [y33, y48, y63, y78] v8_96)), (.int (own_rk [y33, y48, y63, y78] v6_82)), (.int (0 : Int32))]) (rest := [(.int (own_f2 (1 : Int32) (1 : Int32) (own_rk [y33, y48, y63, y78] v7_89) (own_rk [y33, y48, y63, y78] v6_82) (0 : Int32)))]) C (own_m2 l Z a0 hw (2 : Int32) (1 : Int32) (own_rk [y33, y48, y63, y78] v8_96) (own_rk [y33, y48, y63, y78] v6_82) (0 : Int32) h8 n0 Z_) at_219 (hw _ (List.mem_of_getElem? (i := 5) rfl)) (hw _ (List.mem_of_getElem? (i := 6) rfl)) (hw _ (List.mem_of_getElem? (i := 7) rfl)) (hw _ (List.mem_of_getElem? (i := 8) rfl)) (by decide) (by decide) (by decide) rfl (lenOf pd2 rfl) rfl rfl (Nat.le_of_eq rfl) (by decide) (by decide) rfl ?_
    rintro _ _ ⟨rfl, rfl⟩
    show Wp p l e _ s m _ below meth c n0 _ h8 (((0 + 1) + 1) + 2) (((0 + 4) + 1) + 10) (mkF m 222 #[.val (.int p0), .val (.int p1), .val (.int p2), .val (.int (1 : Int32)), .val (.int v4_15), .val (.ref b1), .val (.int v6_82), .val (.int v7_89), .val (.int v8_96), .val (.int v9_104), .val (.ref b6), .val (.int (own_rk [y33, y48, y63, y78] v6_82)), .val (.int (own_rk [y33, y48, y63, y78] v7_89)), .val (.int (own_rk [y33, y48, y63, y78] v8_96)), .val (.int (own_rk [y33, y48, y63, y78] v9_104)), .val (.ref o_8), .unset, .unset, .unset, .unset] [(.int (own_f2 (2 : Int32) (1 : Int32) (own_rk [y33, y48, y63, y78] v8_96) (own_rk [y33, y48, y63, y78] v6_82) (0 : Int32))), (.int (own_f2 (1 : Int32) (1 : Int32) (own_rk [y33, y48, y63, y78] v7_89) (own_rk [y33, y48, y63, y78] v6_82) (0 : Int32)))])
    refine own_iadd (pc' := 223) C at_222 rfl rfl ?_
    refine own_iconst (pc' := 224) (v := (3 : Int32)) C at_223 own_ki_3 rfl ?_
    refine own_iloadN (pc' := 225) C at_224 rfl rfl ?_
    refine own_iload (pc' := 227) C at_225 rfl rfl ?_
    refine own_iload (pc' := 229) C at_227 rfl rfl ?_
    refine own_iconst (pc' := 230) (v := (0 : Int32)) C at_229 own_ki_0 rfl ?_
    refine own_callS (pc' := 233) (wL := 1) (argsL := [(.int (3 : Int32)), (.int (1 : Int32)), (.int (own_rk [y33, y48, y63, y78] v9_104)), (.int (own_rk [y33, y48, y63, y78] v6_82)), (.int (0 : Int32))]) (rest := [(.int ((own_f2 (1 : Int32) (1 : Int32) (own_rk [y33, y48, y63, y78] v7_89) (own_rk [y33, y48, y63, y78] v6_82) (0 : Int32)) + (own_f2 (2 : Int32) (1 : Int32) (own_rk [y33, y48, y63, y78] v8_96) (own_rk [y33, y48, y63, y78] v6_82) (0 : Int32))))]) C (own_m2 l Z a0 hw (3 : Int32) (1 : Int32) (own_rk [y33, y48, y63, y78] v9_104) (own_rk [y33, y48, y63, y78] v6_82) (0 : Int32) h8 n0 Z_) at_230 (hw _ (List.mem_of_getElem? (i := 5) rfl)) (hw _ (List.mem_of_getElem? (i := 6) rfl)) (hw _ (List.mem_of_getElem? (i := 7) rfl)) (hw _ (List.mem_of_getElem? (i := 8) rfl)) (by decide) (by decide) (by decide) rfl (lenOf pd2 rfl) rfl rfl (Nat.le_of_eq rfl) (by decide) (by decide) rfl ?_
    rintro _ _ ⟨rfl, rfl⟩
    show Wp p l e _ s m _ below meth c n0 _ h8 (((0 + 1) + 1) + 2) (((0 + 4) + 1) + 10) (mkF m 233 #[.val (.int p0), .val (.int p1), .val (.int p2), .val (.int (1 : Int32)), .val (.int v4_15), .val (.ref b1), .val (.int v6_82), .val (.int v7_89), .val (.int v8_96), .val (.int v9_104), .val (.ref b6), .val (.int (own_rk [y33, y48, y63, y78] v6_82)), .val (.int (own_rk [y33, y48, y63, y78] v7_89)), .val (.int (own_rk [y33, y48, y63, y78] v8_96)), .val (.int (own_rk [y33, y48, y63, y78] v9_104)), .val (.ref o_8), .unset, .unset, .unset, .unset] [(.int (own_f2 (3 : Int32) (1 : Int32) (own_rk [y33, y48, y63, y78] v9_104) (own_rk [y33, y48, y63, y78] v6_82) (0 : Int32))), (.int ((own_f2 (1 : Int32) (1 : Int32) (own_rk [y33, y48, y63, y78] v7_89) (own_rk [y33, y48, y63, y78] v6_82) (0 : Int32)) + (own_f2 (2 : Int32) (1 : Int32) (own_rk [y33, y48, y63, y78] v8_96) (own_rk [y33, y48, y63, y78] v6_82) (0 : Int32))))])
    refine own_iadd (pc' := 234) C at_233 rfl rfl ?_
    obtain ⟨v16_234, hv16_234⟩ : ∃ z : Int32, z = (((own_f2 (1 : Int32) (1 : Int32) (own_rk [y33, y48, y63, y78] v7_89) (own_rk [y33, y48, y63, y78] v6_82) (0 : Int32)) + (own_f2 (2 : Int32) (1 : Int32) (own_rk [y33, y48, y63, y78] v8_96) (own_rk [y33, y48, y63, y78] v6_82) (0 : Int32))) + (own_f2 (3 : Int32) (1 : Int32) (own_rk [y33, y48, y63, y78] v9_104) (own_rk [y33, y48, y63, y78] v6_82) (0 : Int32))) := ⟨_, rfl⟩
    refine own_istore (pc' := 236) (y := v16_234) (Ls' := #[.val (.int p0), .val (.int p1), .val (.int p2), .val (.int (1 : Int32)), .val (.int v4_15), .val (.ref b1), .val (.int v6_82), .val (.int v7_89), .val (.int v8_96), .val (.int v9_104), .val (.ref b6), .val (.int (own_rk [y33, y48, y63, y78] v6_82)), .val (.int (own_rk [y33, y48, y63, y78] v7_89)), .val (.int (own_rk [y33, y48, y63, y78] v8_96)), .val (.int (own_rk [y33, y48, y63, y78] v9_104)), .val (.ref o_8), .val (.int v16_234), .unset, .unset, .unset]) C at_234 hv16_234.symm rfl rfl ?_
    refine own_iconst (pc' := 237) (v := (0 : Int32)) C at_236 own_ki_0 rfl ?_
    refine own_iloadN (pc' := 238) C at_237 rfl rfl ?_
    refine own_iload (pc' := 240) C at_238 rfl rfl ?_
    refine own_iload (pc' := 242) C at_240 rfl rfl ?_
    refine own_iconst (pc' := 243) (v := (1 : Int32)) C at_242 own_ki_1 rfl ?_
    refine own_callS (pc' := 246) (wL := 0) (argsL := [(.int (0 : Int32)), (.int (1 : Int32)), (.int (own_rk [y33, y48, y63, y78] v6_82)), (.int (own_rk [y33, y48, y63, y78] v7_89)), (.int (1 : Int32))]) (rest := []) C (own_m2 l Z a0 hw (0 : Int32) (1 : Int32) (own_rk [y33, y48, y63, y78] v6_82) (own_rk [y33, y48, y63, y78] v7_89) (1 : Int32) h8 n0 Z_) at_243 (hw _ (List.mem_of_getElem? (i := 5) rfl)) (hw _ (List.mem_of_getElem? (i := 6) rfl)) (hw _ (List.mem_of_getElem? (i := 7) rfl)) (hw _ (List.mem_of_getElem? (i := 8) rfl)) (by decide) (by decide) (by decide) rfl (lenOf pd2 rfl) rfl rfl (Nat.le_of_eq rfl) (by decide) (by decide) rfl ?_
    rintro _ _ ⟨rfl, rfl⟩
    show Wp p l e _ s m _ below meth c n0 _ h8 (((0 + 1) + 1) + 2) (((0 + 4) + 1) + 10) (mkF m 246 #[.val (.int p0), .val (.int p1), .val (.int p2), .val (.int (1 : Int32)), .val (.int v4_15), .val (.ref b1), .val (.int v6_82), .val (.int v7_89), .val (.int v8_96), .val (.int v9_104), .val (.ref b6), .val (.int (own_rk [y33, y48, y63, y78] v6_82)), .val (.int (own_rk [y33, y48, y63, y78] v7_89)), .val (.int (own_rk [y33, y48, y63, y78] v8_96)), .val (.int (own_rk [y33, y48, y63, y78] v9_104)), .val (.ref o_8), .val (.int v16_234), .unset, .unset, .unset] [(.int (own_f2 (0 : Int32) (1 : Int32) (own_rk [y33, y48, y63, y78] v6_82) (own_rk [y33, y48, y63, y78] v7_89) (1 : Int32)))])
    refine own_iconst (pc' := 247) (v := (2 : Int32)) C at_246 own_ki_2 rfl ?_
    refine own_iloadN (pc' := 248) C at_247 rfl rfl ?_
    refine own_iload (pc' := 250) C at_248 rfl rfl ?_
    refine own_iload (pc' := 252) C at_250 rfl rfl ?_
    refine own_iconst (pc' := 253) (v := (0 : Int32)) C at_252 own_ki_0 rfl ?_
    refine own_callS (pc' := 256) (wL := 1) (argsL := [(.int (2 : Int32)), (.int (1 : Int32)), (.int (own_rk [y33, y48, y63, y78] v8_96)), (.int (own_rk [y33, y48, y63, y78] v7_89)), (.int (0 : Int32))]) (rest := [(.int (own_f2 (0 : Int32) (1 : Int32) (own_rk [y33, y48, y63, y78] v6_82) (own_rk [y33, y48, y63, y78] v7_89) (1 : Int32)))]) C (own_m2 l Z a0 hw (2 : Int32) (1 : Int32) (own_rk [y33, y48, y63, y78] v8_96) (own_rk [y33, y48, y63, y78] v7_89) (0 : Int32) h8 n0 Z_) at_253 (hw _ (List.mem_of_getElem? (i := 5) rfl)) (hw _ (List.mem_of_getElem? (i := 6) rfl)) (hw _ (List.mem_of_getElem? (i := 7) rfl)) (hw _ (List.mem_of_getElem? (i := 8) rfl)) (by decide) (by decide) (by decide) rfl (lenOf pd2 rfl) rfl rfl (Nat.le_of_eq rfl) (by decide) (by decide) rfl ?_
    rintro _ _ ⟨rfl, rfl⟩
    show Wp p l e _ s m _ below meth c n0 _ h8 (((0 + 1) + 1) + 2) (((0 + 4) + 1) + 10) (mkF m 256 #[.val (.int p0), .val (.int p1), .val (.int p2), .val (.int (1 : Int32)), .val (.int v4_15), .val (.ref b1), .val (.int v6_82), .val (.int v7_89), .val (.int v8_96), .val (.int v9_104), .val (.ref b6), .val (.int (own_rk [y33, y48, y63, y78] v6_82)), .val (.int (own_rk [y33, y48, y63, y78] v7_89)), .val (.int (own_rk [y33, y48, y63, y78] v8_96)), .val (.int (own_rk [y33, y48, y63, y78] v9_104)), .val (.ref o_8), .val (.int v16_234), .unset, .unset, .unset] [(.int (own_f2 (2 : Int32) (1 : Int32) (own_rk [y33, y48, y63, y78] v8_96) (own_rk [y33, y48, y63, y78] v7_89) (0 : Int32))), (.int (own_f2 (0 : Int32) (1 : Int32) (own_rk [y33, y48, y63, y78] v6_82) (own_rk [y33, y48, y63, y78] v7_89) (1 : Int32)))])
    refine own_iadd (pc' := 257) C at_256 rfl rfl ?_
    refine own_iconst (pc' := 258) (v := (3 : Int32)) C at_257 own_ki_3 rfl ?_
    refine own_iloadN (pc' := 259) C at_258 rfl rfl ?_
    refine own_iload (pc' := 261) C at_259 rfl rfl ?_
    refine own_iload (pc' := 263) C at_261 rfl rfl ?_
    refine own_iconst (pc' := 264) (v := (0 : Int32)) C at_263 own_ki_0 rfl ?_
    refine own_callS (pc' := 267) (wL := 1) (argsL := [(.int (3 : Int32)), (.int (1 : Int32)), (.int (own_rk [y33, y48, y63, y78] v9_104)), (.int (own_rk [y33, y48, y63, y78] v7_89)), (.int (0 : Int32))]) (rest := [(.int ((own_f2 (0 : Int32) (1 : Int32) (own_rk [y33, y48, y63, y78] v6_82) (own_rk [y33, y48, y63, y78] v7_89) (1 : Int32)) + (own_f2 (2 : Int32) (1 : Int32) (own_rk [y33, y48, y63, y78] v8_96) (own_rk [y33, y48, y63, y78] v7_89) (0 : Int32))))]) C (own_m2 l Z a0 hw (3 : Int32) (1 : Int32) (own_rk [y33, y48, y63, y78] v9_104) (own_rk [y33, y48, y63, y78] v7_89) (0 : Int32) h8 n0 Z_) at_264 (hw _ (List.mem_of_getElem? (i := 5) rfl)) (hw _ (List.mem_of_getElem? (i := 6) rfl)) (hw _ (List.mem_of_getElem? (i := 7) rfl)) (hw _ (List.mem_of_getElem? (i := 8) rfl)) (by decide) (by decide) (by decide) rfl (lenOf pd2 rfl) rfl rfl (Nat.le_of_eq rfl) (by decide) (by decide) rfl ?_
    rintro _ _ ⟨rfl, rfl⟩
    show Wp p l e _ s m _ below meth c n0 _ h8 (((0 + 1) + 1) + 2) (((0 + 4) + 1) + 10) (mkF m 267 #[.val (.int p0), .val (.int p1), .val (.int p2), .val (.int (1 : Int32)), .val (.int v4_15), .val (.ref b1), .val (.int v6_82), .val (.int v7_89), .val (.int v8_96), .val (.int v9_104), .val (.ref b6), .val (.int (own_rk [y33, y48, y63, y78] v6_82)), .val (.int (own_rk [y33, y48, y63, y78] v7_89)), .val (.int (own_rk [y33, y48, y63, y78] v8_96)), .val (.int (own_rk [y33, y48, y63, y78] v9_104)), .val (.ref o_8), .val (.int v16_234), .unset, .unset, .unset] [(.int (own_f2 (3 : Int32) (1 : Int32) (own_rk [y33, y48, y63, y78] v9_104) (own_rk [y33, y48, y63, y78] v7_89) (0 : Int32))), (.int ((own_f2 (0 : Int32) (1 : Int32) (own_rk [y33, y48, y63, y78] v6_82) (own_rk [y33, y48, y63, y78] v7_89) (1 : Int32)) + (own_f2 (2 : Int32) (1 : Int32) (own_rk [y33, y48, y63, y78] v8_96) (own_rk [y33, y48, y63, y78] v7_89) (0 : Int32))))])
    refine own_iadd (pc' := 268) C at_267 rfl rfl ?_
    obtain ⟨v17_268, hv17_268⟩ : ∃ z : Int32, z = (((own_f2 (0 : Int32) (1 : Int32) (own_rk [y33, y48, y63, y78] v6_82) (own_rk [y33, y48, y63, y78] v7_89) (1 : Int32)) + (own_f2 (2 : Int32) (1 : Int32) (own_rk [y33, y48, y63, y78] v8_96) (own_rk [y33, y48, y63, y78] v7_89) (0 : Int32))) + (own_f2 (3 : Int32) (1 : Int32) (own_rk [y33, y48, y63, y78] v9_104) (own_rk [y33, y48, y63, y78] v7_89) (0 : Int32))) := ⟨_, rfl⟩
    refine own_istore (pc' := 270) (y := v17_268) (Ls' := #[.val (.int p0), .val (.int p1), .val (.int p2), .val (.int (1 : Int32)), .val (.int v4_15), .val (.ref b1), .val (.int v6_82), .val (.int v7_89), .val (.int v8_96), .val (.int v9_104), .val (.ref b6), .val (.int (own_rk [y33, y48, y63, y78] v6_82)), .val (.int (own_rk [y33, y48, y63, y78] v7_89)), .val (.int (own_rk [y33, y48, y63, y78] v8_96)), .val (.int (own_rk [y33, y48, y63, y78] v9_104)), .val (.ref o_8), .val (.int v16_234), .val (.int v17_268), .unset, .unset]) C at_268 hv17_268.symm rfl rfl ?_
    refine own_iconst (pc' := 271) (v := (0 : Int32)) C at_270 own_ki_0 rfl ?_
    refine own_iloadN (pc' := 272) C at_271 rfl rfl ?_
    refine own_iload (pc' := 274) C at_272 rfl rfl ?_
    refine own_iload (pc' := 276) C at_274 rfl rfl ?_
    refine own_iconst (pc' := 277) (v := (1 : Int32)) C at_276 own_ki_1 rfl ?_
    refine own_callS (pc' := 280) (wL := 0) (argsL := [(.int (0 : Int32)), (.int (1 : Int32)), (.int (own_rk [y33, y48, y63, y78] v6_82)), (.int (own_rk [y33, y48, y63, y78] v8_96)), (.int (1 : Int32))]) (rest := []) C (own_m2 l Z a0 hw (0 : Int32) (1 : Int32) (own_rk [y33, y48, y63, y78] v6_82) (own_rk [y33, y48, y63, y78] v8_96) (1 : Int32) h8 n0 Z_) at_277 (hw _ (List.mem_of_getElem? (i := 5) rfl)) (hw _ (List.mem_of_getElem? (i := 6) rfl)) (hw _ (List.mem_of_getElem? (i := 7) rfl)) (hw _ (List.mem_of_getElem? (i := 8) rfl)) (by decide) (by decide) (by decide) rfl (lenOf pd2 rfl) rfl rfl (Nat.le_of_eq rfl) (by decide) (by decide) rfl ?_
    rintro _ _ ⟨rfl, rfl⟩
    show Wp p l e _ s m _ below meth c n0 _ h8 (((0 + 1) + 1) + 2) (((0 + 4) + 1) + 10) (mkF m 280 #[.val (.int p0), .val (.int p1), .val (.int p2), .val (.int (1 : Int32)), .val (.int v4_15), .val (.ref b1), .val (.int v6_82), .val (.int v7_89), .val (.int v8_96), .val (.int v9_104), .val (.ref b6), .val (.int (own_rk [y33, y48, y63, y78] v6_82)), .val (.int (own_rk [y33, y48, y63, y78] v7_89)), .val (.int (own_rk [y33, y48, y63, y78] v8_96)), .val (.int (own_rk [y33, y48, y63, y78] v9_104)), .val (.ref o_8), .val (.int v16_234), .val (.int v17_268), .unset, .unset] [(.int (own_f2 (0 : Int32) (1 : Int32) (own_rk [y33, y48, y63, y78] v6_82) (own_rk [y33, y48, y63, y78] v8_96) (1 : Int32)))])
    refine own_iconst (pc' := 281) (v := (1 : Int32)) C at_280 own_ki_1 rfl ?_
    refine own_iloadN (pc' := 282) C at_281 rfl rfl ?_
    refine own_iload (pc' := 284) C at_282 rfl rfl ?_
    refine own_iload (pc' := 286) C at_284 rfl rfl ?_
    refine own_iconst (pc' := 287) (v := (1 : Int32)) C at_286 own_ki_1 rfl ?_
    refine own_callS (pc' := 290) (wL := 1) (argsL := [(.int (1 : Int32)), (.int (1 : Int32)), (.int (own_rk [y33, y48, y63, y78] v7_89)), (.int (own_rk [y33, y48, y63, y78] v8_96)), (.int (1 : Int32))]) (rest := [(.int (own_f2 (0 : Int32) (1 : Int32) (own_rk [y33, y48, y63, y78] v6_82) (own_rk [y33, y48, y63, y78] v8_96) (1 : Int32)))]) C (own_m2 l Z a0 hw (1 : Int32) (1 : Int32) (own_rk [y33, y48, y63, y78] v7_89) (own_rk [y33, y48, y63, y78] v8_96) (1 : Int32) h8 n0 Z_) at_287 (hw _ (List.mem_of_getElem? (i := 5) rfl)) (hw _ (List.mem_of_getElem? (i := 6) rfl)) (hw _ (List.mem_of_getElem? (i := 7) rfl)) (hw _ (List.mem_of_getElem? (i := 8) rfl)) (by decide) (by decide) (by decide) rfl (lenOf pd2 rfl) rfl rfl (Nat.le_of_eq rfl) (by decide) (by decide) rfl ?_
    rintro _ _ ⟨rfl, rfl⟩
    show Wp p l e _ s m _ below meth c n0 _ h8 (((0 + 1) + 1) + 2) (((0 + 4) + 1) + 10) (mkF m 290 #[.val (.int p0), .val (.int p1), .val (.int p2), .val (.int (1 : Int32)), .val (.int v4_15), .val (.ref b1), .val (.int v6_82), .val (.int v7_89), .val (.int v8_96), .val (.int v9_104), .val (.ref b6), .val (.int (own_rk [y33, y48, y63, y78] v6_82)), .val (.int (own_rk [y33, y48, y63, y78] v7_89)), .val (.int (own_rk [y33, y48, y63, y78] v8_96)), .val (.int (own_rk [y33, y48, y63, y78] v9_104)), .val (.ref o_8), .val (.int v16_234), .val (.int v17_268), .unset, .unset] [(.int (own_f2 (1 : Int32) (1 : Int32) (own_rk [y33, y48, y63, y78] v7_89) (own_rk [y33, y48, y63, y78] v8_96) (1 : Int32))), (.int (own_f2 (0 : Int32) (1 : Int32) (own_rk [y33, y48, y63, y78] v6_82) (own_rk [y33, y48, y63, y78] v8_96) (1 : Int32)))])
    refine own_iadd (pc' := 291) C at_290 rfl rfl ?_
    refine own_iconst (pc' := 292) (v := (3 : Int32)) C at_291 own_ki_3 rfl ?_
    refine own_iloadN (pc' := 293) C at_292 rfl rfl ?_
    refine own_iload (pc' := 295) C at_293 rfl rfl ?_
    refine own_iload (pc' := 297) C at_295 rfl rfl ?_
    refine own_iconst (pc' := 298) (v := (0 : Int32)) C at_297 own_ki_0 rfl ?_
    refine own_callS (pc' := 301) (wL := 1) (argsL := [(.int (3 : Int32)), (.int (1 : Int32)), (.int (own_rk [y33, y48, y63, y78] v9_104)), (.int (own_rk [y33, y48, y63, y78] v8_96)), (.int (0 : Int32))]) (rest := [(.int ((own_f2 (0 : Int32) (1 : Int32) (own_rk [y33, y48, y63, y78] v6_82) (own_rk [y33, y48, y63, y78] v8_96) (1 : Int32)) + (own_f2 (1 : Int32) (1 : Int32) (own_rk [y33, y48, y63, y78] v7_89) (own_rk [y33, y48, y63, y78] v8_96) (1 : Int32))))]) C (own_m2 l Z a0 hw (3 : Int32) (1 : Int32) (own_rk [y33, y48, y63, y78] v9_104) (own_rk [y33, y48, y63, y78] v8_96) (0 : Int32) h8 n0 Z_) at_298 (hw _ (List.mem_of_getElem? (i := 5) rfl)) (hw _ (List.mem_of_getElem? (i := 6) rfl)) (hw _ (List.mem_of_getElem? (i := 7) rfl)) (hw _ (List.mem_of_getElem? (i := 8) rfl)) (by decide) (by decide) (by decide) rfl (lenOf pd2 rfl) rfl rfl (Nat.le_of_eq rfl) (by decide) (by decide) rfl ?_
    rintro _ _ ⟨rfl, rfl⟩
    show Wp p l e _ s m _ below meth c n0 _ h8 (((0 + 1) + 1) + 2) (((0 + 4) + 1) + 10) (mkF m 301 #[.val (.int p0), .val (.int p1), .val (.int p2), .val (.int (1 : Int32)), .val (.int v4_15), .val (.ref b1), .val (.int v6_82), .val (.int v7_89), .val (.int v8_96), .val (.int v9_104), .val (.ref b6), .val (.int (own_rk [y33, y48, y63, y78] v6_82)), .val (.int (own_rk [y33, y48, y63, y78] v7_89)), .val (.int (own_rk [y33, y48, y63, y78] v8_96)), .val (.int (own_rk [y33, y48, y63, y78] v9_104)), .val (.ref o_8), .val (.int v16_234), .val (.int v17_268), .unset, .unset] [(.int (own_f2 (3 : Int32) (1 : Int32) (own_rk [y33, y48, y63, y78] v9_104) (own_rk [y33, y48, y63, y78] v8_96) (0 : Int32))), (.int ((own_f2 (0 : Int32) (1 : Int32) (own_rk [y33, y48, y63, y78] v6_82) (own_rk [y33, y48, y63, y78] v8_96) (1 : Int32)) + (own_f2 (1 : Int32) (1 : Int32) (own_rk [y33, y48, y63, y78] v7_89) (own_rk [y33, y48, y63, y78] v8_96) (1 : Int32))))])
    refine own_iadd (pc' := 302) C at_301 rfl rfl ?_
    obtain ⟨v18_302, hv18_302⟩ : ∃ z : Int32, z = (((own_f2 (0 : Int32) (1 : Int32) (own_rk [y33, y48, y63, y78] v6_82) (own_rk [y33, y48, y63, y78] v8_96) (1 : Int32)) + (own_f2 (1 : Int32) (1 : Int32) (own_rk [y33, y48, y63, y78] v7_89) (own_rk [y33, y48, y63, y78] v8_96) (1 : Int32))) + (own_f2 (3 : Int32) (1 : Int32) (own_rk [y33, y48, y63, y78] v9_104) (own_rk [y33, y48, y63, y78] v8_96) (0 : Int32))) := ⟨_, rfl⟩
    refine own_istore (pc' := 304) (y := v18_302) (Ls' := #[.val (.int p0), .val (.int p1), .val (.int p2), .val (.int (1 : Int32)), .val (.int v4_15), .val (.ref b1), .val (.int v6_82), .val (.int v7_89), .val (.int v8_96), .val (.int v9_104), .val (.ref b6), .val (.int (own_rk [y33, y48, y63, y78] v6_82)), .val (.int (own_rk [y33, y48, y63, y78] v7_89)), .val (.int (own_rk [y33, y48, y63, y78] v8_96)), .val (.int (own_rk [y33, y48, y63, y78] v9_104)), .val (.ref o_8), .val (.int v16_234), .val (.int v17_268), .val (.int v18_302), .unset]) C at_302 hv18_302.symm rfl rfl ?_
    refine own_iconst (pc' := 305) (v := (0 : Int32)) C at_304 own_ki_0 rfl ?_
    refine own_iloadN (pc' := 306) C at_305 rfl rfl ?_
    refine own_iload (pc' := 308) C at_306 rfl rfl ?_
    refine own_iload (pc' := 310) C at_308 rfl rfl ?_
    refine own_iconst (pc' := 311) (v := (1 : Int32)) C at_310 own_ki_1 rfl ?_
    refine own_callS (pc' := 314) (wL := 0) (argsL := [(.int (0 : Int32)), (.int (1 : Int32)), (.int (own_rk [y33, y48, y63, y78] v6_82)), (.int (own_rk [y33, y48, y63, y78] v9_104)), (.int (1 : Int32))]) (rest := []) C (own_m2 l Z a0 hw (0 : Int32) (1 : Int32) (own_rk [y33, y48, y63, y78] v6_82) (own_rk [y33, y48, y63, y78] v9_104) (1 : Int32) h8 n0 Z_) at_311 (hw _ (List.mem_of_getElem? (i := 5) rfl)) (hw _ (List.mem_of_getElem? (i := 6) rfl)) (hw _ (List.mem_of_getElem? (i := 7) rfl)) (hw _ (List.mem_of_getElem? (i := 8) rfl)) (by decide) (by decide) (by decide) rfl (lenOf pd2 rfl) rfl rfl (Nat.le_of_eq rfl) (by decide) (by decide) rfl ?_
    rintro _ _ ⟨rfl, rfl⟩
    show Wp p l e _ s m _ below meth c n0 _ h8 (((0 + 1) + 1) + 2) (((0 + 4) + 1) + 10) (mkF m 314 #[.val (.int p0), .val (.int p1), .val (.int p2), .val (.int (1 : Int32)), .val (.int v4_15), .val (.ref b1), .val (.int v6_82), .val (.int v7_89), .val (.int v8_96), .val (.int v9_104), .val (.ref b6), .val (.int (own_rk [y33, y48, y63, y78] v6_82)), .val (.int (own_rk [y33, y48, y63, y78] v7_89)), .val (.int (own_rk [y33, y48, y63, y78] v8_96)), .val (.int (own_rk [y33, y48, y63, y78] v9_104)), .val (.ref o_8), .val (.int v16_234), .val (.int v17_268), .val (.int v18_302), .unset] [(.int (own_f2 (0 : Int32) (1 : Int32) (own_rk [y33, y48, y63, y78] v6_82) (own_rk [y33, y48, y63, y78] v9_104) (1 : Int32)))])
    refine own_iconst (pc' := 315) (v := (1 : Int32)) C at_314 own_ki_1 rfl ?_
    refine own_iloadN (pc' := 316) C at_315 rfl rfl ?_
    refine own_iload (pc' := 318) C at_316 rfl rfl ?_
    refine own_iload (pc' := 320) C at_318 rfl rfl ?_
    refine own_iconst (pc' := 321) (v := (1 : Int32)) C at_320 own_ki_1 rfl ?_
    refine own_callS (pc' := 324) (wL := 1) (argsL := [(.int (1 : Int32)), (.int (1 : Int32)), (.int (own_rk [y33, y48, y63, y78] v7_89)), (.int (own_rk [y33, y48, y63, y78] v9_104)), (.int (1 : Int32))]) (rest := [(.int (own_f2 (0 : Int32) (1 : Int32) (own_rk [y33, y48, y63, y78] v6_82) (own_rk [y33, y48, y63, y78] v9_104) (1 : Int32)))]) C (own_m2 l Z a0 hw (1 : Int32) (1 : Int32) (own_rk [y33, y48, y63, y78] v7_89) (own_rk [y33, y48, y63, y78] v9_104) (1 : Int32) h8 n0 Z_) at_321 (hw _ (List.mem_of_getElem? (i := 5) rfl)) (hw _ (List.mem_of_getElem? (i := 6) rfl)) (hw _ (List.mem_of_getElem? (i := 7) rfl)) (hw _ (List.mem_of_getElem? (i := 8) rfl)) (by decide) (by decide) (by decide) rfl (lenOf pd2 rfl) rfl rfl (Nat.le_of_eq rfl) (by decide) (by decide) rfl ?_
    rintro _ _ ⟨rfl, rfl⟩
    show Wp p l e _ s m _ below meth c n0 _ h8 (((0 + 1) + 1) + 2) (((0 + 4) + 1) + 10) (mkF m 324 #[.val (.int p0), .val (.int p1), .val (.int p2), .val (.int (1 : Int32)), .val (.int v4_15), .val (.ref b1), .val (.int v6_82), .val (.int v7_89), .val (.int v8_96), .val (.int v9_104), .val (.ref b6), .val (.int (own_rk [y33, y48, y63, y78] v6_82)), .val (.int (own_rk [y33, y48, y63, y78] v7_89)), .val (.int (own_rk [y33, y48, y63, y78] v8_96)), .val (.int (own_rk [y33, y48, y63, y78] v9_104)), .val (.ref o_8), .val (.int v16_234), .val (.int v17_268), .val (.int v18_302), .unset] [(.int (own_f2 (1 : Int32) (1 : Int32) (own_rk [y33, y48, y63, y78] v7_89) (own_rk [y33, y48, y63, y78] v9_104) (1 : Int32))), (.int (own_f2 (0 : Int32) (1 : Int32) (own_rk [y33, y48, y63, y78] v6_82) (own_rk [y33, y48, y63, y78] v9_104) (1 : Int32)))])
    refine own_iadd (pc' := 325) C at_324 rfl rfl ?_
    refine own_iconst (pc' := 326) (v := (2 : Int32)) C at_325 own_ki_2 rfl ?_
    refine own_iloadN (pc' := 327) C at_326 rfl rfl ?_
    refine own_iload (pc' := 329) C at_327 rfl rfl ?_
    refine own_iload (pc' := 331) C at_329 rfl rfl ?_
    refine own_iconst (pc' := 332) (v := (1 : Int32)) C at_331 own_ki_1 rfl ?_
    refine own_callS (pc' := 335) (wL := 1) (argsL := [(.int (2 : Int32)), (.int (1 : Int32)), (.int (own_rk [y33, y48, y63, y78] v8_96)), (.int (own_rk [y33, y48, y63, y78] v9_104)), (.int (1 : Int32))]) (rest := [(.int ((own_f2 (0 : Int32) (1 : Int32) (own_rk [y33, y48, y63, y78] v6_82) (own_rk [y33, y48, y63, y78] v9_104) (1 : Int32)) + (own_f2 (1 : Int32) (1 : Int32) (own_rk [y33, y48, y63, y78] v7_89) (own_rk [y33, y48, y63, y78] v9_104) (1 : Int32))))]) C (own_m2 l Z a0 hw (2 : Int32) (1 : Int32) (own_rk [y33, y48, y63, y78] v8_96) (own_rk [y33, y48, y63, y78] v9_104) (1 : Int32) h8 n0 Z_) at_332 (hw _ (List.mem_of_getElem? (i := 5) rfl)) (hw _ (List.mem_of_getElem? (i := 6) rfl)) (hw _ (List.mem_of_getElem? (i := 7) rfl)) (hw _ (List.mem_of_getElem? (i := 8) rfl)) (by decide) (by decide) (by decide) rfl (lenOf pd2 rfl) rfl rfl (Nat.le_of_eq rfl) (by decide) (by decide) rfl ?_
    rintro _ _ ⟨rfl, rfl⟩
    show Wp p l e _ s m _ below meth c n0 _ h8 (((0 + 1) + 1) + 2) (((0 + 4) + 1) + 10) (mkF m 335 #[.val (.int p0), .val (.int p1), .val (.int p2), .val (.int (1 : Int32)), .val (.int v4_15), .val (.ref b1), .val (.int v6_82), .val (.int v7_89), .val (.int v8_96), .val (.int v9_104), .val (.ref b6), .val (.int (own_rk [y33, y48, y63, y78] v6_82)), .val (.int (own_rk [y33, y48, y63, y78] v7_89)), .val (.int (own_rk [y33, y48, y63, y78] v8_96)), .val (.int (own_rk [y33, y48, y63, y78] v9_104)), .val (.ref o_8), .val (.int v16_234), .val (.int v17_268), .val (.int v18_302), .unset] [(.int (own_f2 (2 : Int32) (1 : Int32) (own_rk [y33, y48, y63, y78] v8_96) (own_rk [y33, y48, y63, y78] v9_104) (1 : Int32))), (.int ((own_f2 (0 : Int32) (1 : Int32) (own_rk [y33, y48, y63, y78] v6_82) (own_rk [y33, y48, y63, y78] v9_104) (1 : Int32)) + (own_f2 (1 : Int32) (1 : Int32) (own_rk [y33, y48, y63, y78] v7_89) (own_rk [y33, y48, y63, y78] v9_104) (1 : Int32))))])
    refine own_iadd (pc' := 336) C at_335 rfl rfl ?_
    obtain ⟨v19_336, hv19_336⟩ : ∃ z : Int32, z = (((own_f2 (0 : Int32) (1 : Int32) (own_rk [y33, y48, y63, y78] v6_82) (own_rk [y33, y48, y63, y78] v9_104) (1 : Int32)) + (own_f2 (1 : Int32) (1 : Int32) (own_rk [y33, y48, y63, y78] v7_89) (own_rk [y33, y48, y63, y78] v9_104) (1 : Int32))) + (own_f2 (2 : Int32) (1 : Int32) (own_rk [y33, y48, y63, y78] v8_96) (own_rk [y33, y48, y63, y78] v9_104) (1 : Int32))) := ⟨_, rfl⟩
    refine own_istore (pc' := 338) (y := v19_336) (Ls' := #[.val (.int p0), .val (.int p1), .val (.int p2), .val (.int (1 : Int32)), .val (.int v4_15), .val (.ref b1), .val (.int v6_82), .val (.int v7_89), .val (.int v8_96), .val (.int v9_104), .val (.ref b6), .val (.int (own_rk [y33, y48, y63, y78] v6_82)), .val (.int (own_rk [y33, y48, y63, y78] v7_89)), .val (.int (own_rk [y33, y48, y63, y78] v8_96)), .val (.int (own_rk [y33, y48, y63, y78] v9_104)), .val (.ref o_8), .val (.int v16_234), .val (.int v17_268), .val (.int v18_302), .val (.int v19_336)]) C at_336 hv19_336.symm rfl rfl ?_
    refine own_iconst (pc' := 339) (v := (0 : Int32)) C at_338 own_ki_0 rfl ?_
    refine own_iloadN (pc' := 340) C at_339 rfl rfl ?_
    refine own_aload (pc' := 342) C at_340 rfl rfl rfl ?_
    refine own_iload (pc' := 344) C at_342 rfl rfl ?_
    refine own_iload (pc' := 346) C at_344 rfl rfl ?_
    refine own_callS (pc' := 349) (wL := 0) (argsL := [(.int (0 : Int32)), (.int (1 : Int32)), (.ref o_8), (.int v16_234), (.int v6_82)]) (rest := []) C (own_okk l Z a0 hw (0 : Int32) (1 : Int32) o_8 v16_234 v6_82 ([(0 : Int32)].set ((own_pre (own_inc (fun _ => 0) ((own_rk [y33, y48, y63, y78] v6_82).toNatClampNeg + 1))) (own_rk [y33, y48, y63, y78] v6_82).toNatClampNeg).toNatClampNeg v6_82) h8 n0 Z_ A_o_8 (by rw [hv16_234]; exact own_qn _ _ _ (own_c01 _ _ _ _ _) (own_c01 _ _ _ _ _) (own_c01 _ _ _ _ _)) (own_ltn (by rw [hv16_234]; exact own_qn _ _ _ (own_c01 _ _ _ _ _) (own_c01 _ _ _ _ _) (own_c01 _ _ _ _ _)) (by first | (simp; done) | rfl | (simp; rfl)))) at_346 (hw _ (List.mem_of_getElem? (i := 9) rfl)) (hw _ (List.mem_of_getElem? (i := 10) rfl)) (hw _ (List.mem_of_getElem? (i := 7) rfl)) (hw _ (List.mem_of_getElem? (i := 11) rfl)) (by decide) (by decide) (by decide) rfl (lenOf pd3 rfl) rfl rfl (Nat.le_of_eq rfl) (by decide) (by decide) rfl ?_
    rintro _ _ ⟨rfl, rfl⟩
    rw [show (own_ok ([(0 : Int32)].set ((own_pre (own_inc (fun _ => 0) ((own_rk [y33, y48, y63, y78] v6_82).toNatClampNeg + 1))) (own_rk [y33, y48, y63, y78] v6_82).toNatClampNeg).toNatClampNeg v6_82) (0 : Int32) (1 : Int32) v16_234 v6_82) = 1 from by rw [hv16_234]; exact FIN.2]
    show Wp p l e _ s m _ below meth c n0 _ h8 (((0 + 1) + 1) + 2) (((0 + 4) + 1) + 10) (mkF m 349 #[.val (.int p0), .val (.int p1), .val (.int p2), .val (.int (1 : Int32)), .val (.int v4_15), .val (.ref b1), .val (.int v6_82), .val (.int v7_89), .val (.int v8_96), .val (.int v9_104), .val (.ref b6), .val (.int (own_rk [y33, y48, y63, y78] v6_82)), .val (.int (own_rk [y33, y48, y63, y78] v7_89)), .val (.int (own_rk [y33, y48, y63, y78] v8_96)), .val (.int (own_rk [y33, y48, y63, y78] v9_104)), .val (.ref o_8), .val (.int v16_234), .val (.int v17_268), .val (.int v18_302), .val (.int v19_336)] [(.int (1 : Int32))])
    refine own_if_eq (pt := 398) (pf := 352) C at_349 (by decide) (by decide) rfl (fun q => absurd q (by decide)) (fun _ => ?_)
    refine own_iconst (pc' := 353) (v := (1 : Int32)) C at_352 own_ki_1 rfl ?_
    refine own_iloadN (pc' := 354) C at_353 rfl rfl ?_
    refine own_aload (pc' := 356) C at_354 rfl rfl rfl ?_
    refine own_iload (pc' := 358) C at_356 rfl rfl ?_
    refine own_iload (pc' := 360) C at_358 rfl rfl ?_
    refine own_callS (pc' := 363) (wL := 0) (argsL := [(.int (1 : Int32)), (.int (1 : Int32)), (.ref o_8), (.int v17_268), (.int v7_89)]) (rest := []) C (own_okk l Z a0 hw (1 : Int32) (1 : Int32) o_8 v17_268 v7_89 ([(0 : Int32)].set ((own_pre (own_inc (fun _ => 0) ((own_rk [y33, y48, y63, y78] v6_82).toNatClampNeg + 1))) (own_rk [y33, y48, y63, y78] v6_82).toNatClampNeg).toNatClampNeg v6_82) h8 n0 Z_ A_o_8 (by rw [hv17_268]; exact own_qn _ _ _ (own_c01 _ _ _ _ _) (own_c01 _ _ _ _ _) (own_c01 _ _ _ _ _)) (own_ltn (by rw [hv17_268]; exact own_qn _ _ _ (own_c01 _ _ _ _ _) (own_c01 _ _ _ _ _) (own_c01 _ _ _ _ _)) (by first | (simp; done) | rfl | (simp; rfl)))) at_360 (hw _ (List.mem_of_getElem? (i := 9) rfl)) (hw _ (List.mem_of_getElem? (i := 10) rfl)) (hw _ (List.mem_of_getElem? (i := 7) rfl)) (hw _ (List.mem_of_getElem? (i := 11) rfl)) (by decide) (by decide) (by decide) rfl (lenOf pd3 rfl) rfl rfl (Nat.le_of_eq rfl) (by decide) (by decide) rfl ?_
    rintro _ _ ⟨rfl, rfl⟩
    rw [show (own_ok ([(0 : Int32)].set ((own_pre (own_inc (fun _ => 0) ((own_rk [y33, y48, y63, y78] v6_82).toNatClampNeg + 1))) (own_rk [y33, y48, y63, y78] v6_82).toNatClampNeg).toNatClampNeg v6_82) (1 : Int32) (1 : Int32) v17_268 v7_89) = 1 from by rw [own_ok, if_neg (by decide)]]
    show Wp p l e _ s m _ below meth c n0 _ h8 (((0 + 1) + 1) + 2) (((0 + 4) + 1) + 10) (mkF m 363 #[.val (.int p0), .val (.int p1), .val (.int p2), .val (.int (1 : Int32)), .val (.int v4_15), .val (.ref b1), .val (.int v6_82), .val (.int v7_89), .val (.int v8_96), .val (.int v9_104), .val (.ref b6), .val (.int (own_rk [y33, y48, y63, y78] v6_82)), .val (.int (own_rk [y33, y48, y63, y78] v7_89)), .val (.int (own_rk [y33, y48, y63, y78] v8_96)), .val (.int (own_rk [y33, y48, y63, y78] v9_104)), .val (.ref o_8), .val (.int v16_234), .val (.int v17_268), .val (.int v18_302), .val (.int v19_336)] [(.int (1 : Int32))])
    refine own_if_eq (pt := 398) (pf := 366) C at_363 (by decide) (by decide) rfl (fun q => absurd q (by decide)) (fun _ => ?_)
    refine own_iconst (pc' := 367) (v := (2 : Int32)) C at_366 own_ki_2 rfl ?_
    refine own_iloadN (pc' := 368) C at_367 rfl rfl ?_
    refine own_aload (pc' := 370) C at_368 rfl rfl rfl ?_
    refine own_iload (pc' := 372) C at_370 rfl rfl ?_
    refine own_iload (pc' := 374) C at_372 rfl rfl ?_
    refine own_callS (pc' := 377) (wL := 0) (argsL := [(.int (2 : Int32)), (.int (1 : Int32)), (.ref o_8), (.int v18_302), (.int v8_96)]) (rest := []) C (own_okk l Z a0 hw (2 : Int32) (1 : Int32) o_8 v18_302 v8_96 ([(0 : Int32)].set ((own_pre (own_inc (fun _ => 0) ((own_rk [y33, y48, y63, y78] v6_82).toNatClampNeg + 1))) (own_rk [y33, y48, y63, y78] v6_82).toNatClampNeg).toNatClampNeg v6_82) h8 n0 Z_ A_o_8 (by rw [hv18_302]; exact own_qn _ _ _ (own_c01 _ _ _ _ _) (own_c01 _ _ _ _ _) (own_c01 _ _ _ _ _)) (own_ltn (by rw [hv18_302]; exact own_qn _ _ _ (own_c01 _ _ _ _ _) (own_c01 _ _ _ _ _) (own_c01 _ _ _ _ _)) (by first | (simp; done) | rfl | (simp; rfl)))) at_374 (hw _ (List.mem_of_getElem? (i := 9) rfl)) (hw _ (List.mem_of_getElem? (i := 10) rfl)) (hw _ (List.mem_of_getElem? (i := 7) rfl)) (hw _ (List.mem_of_getElem? (i := 11) rfl)) (by decide) (by decide) (by decide) rfl (lenOf pd3 rfl) rfl rfl (Nat.le_of_eq rfl) (by decide) (by decide) rfl ?_
    rintro _ _ ⟨rfl, rfl⟩
    rw [show (own_ok ([(0 : Int32)].set ((own_pre (own_inc (fun _ => 0) ((own_rk [y33, y48, y63, y78] v6_82).toNatClampNeg + 1))) (own_rk [y33, y48, y63, y78] v6_82).toNatClampNeg).toNatClampNeg v6_82) (2 : Int32) (1 : Int32) v18_302 v8_96) = 1 from by rw [own_ok, if_neg (by decide)]]
    show Wp p l e _ s m _ below meth c n0 _ h8 (((0 + 1) + 1) + 2) (((0 + 4) + 1) + 10) (mkF m 377 #[.val (.int p0), .val (.int p1), .val (.int p2), .val (.int (1 : Int32)), .val (.int v4_15), .val (.ref b1), .val (.int v6_82), .val (.int v7_89), .val (.int v8_96), .val (.int v9_104), .val (.ref b6), .val (.int (own_rk [y33, y48, y63, y78] v6_82)), .val (.int (own_rk [y33, y48, y63, y78] v7_89)), .val (.int (own_rk [y33, y48, y63, y78] v8_96)), .val (.int (own_rk [y33, y48, y63, y78] v9_104)), .val (.ref o_8), .val (.int v16_234), .val (.int v17_268), .val (.int v18_302), .val (.int v19_336)] [(.int (1 : Int32))])
    refine own_if_eq (pt := 398) (pf := 380) C at_377 (by decide) (by decide) rfl (fun q => absurd q (by decide)) (fun _ => ?_)
    refine own_iconst (pc' := 381) (v := (3 : Int32)) C at_380 own_ki_3 rfl ?_
    refine own_iloadN (pc' := 382) C at_381 rfl rfl ?_
    refine own_aload (pc' := 384) C at_382 rfl rfl rfl ?_
    refine own_iload (pc' := 386) C at_384 rfl rfl ?_
    refine own_iload (pc' := 388) C at_386 rfl rfl ?_
    refine own_callS (pc' := 391) (wL := 0) (argsL := [(.int (3 : Int32)), (.int (1 : Int32)), (.ref o_8), (.int v19_336), (.int v9_104)]) (rest := []) C (own_okk l Z a0 hw (3 : Int32) (1 : Int32) o_8 v19_336 v9_104 ([(0 : Int32)].set ((own_pre (own_inc (fun _ => 0) ((own_rk [y33, y48, y63, y78] v6_82).toNatClampNeg + 1))) (own_rk [y33, y48, y63, y78] v6_82).toNatClampNeg).toNatClampNeg v6_82) h8 n0 Z_ A_o_8 (by rw [hv19_336]; exact own_qn _ _ _ (own_c01 _ _ _ _ _) (own_c01 _ _ _ _ _) (own_c01 _ _ _ _ _)) (own_ltn (by rw [hv19_336]; exact own_qn _ _ _ (own_c01 _ _ _ _ _) (own_c01 _ _ _ _ _) (own_c01 _ _ _ _ _)) (by first | (simp; done) | rfl | (simp; rfl)))) at_388 (hw _ (List.mem_of_getElem? (i := 9) rfl)) (hw _ (List.mem_of_getElem? (i := 10) rfl)) (hw _ (List.mem_of_getElem? (i := 7) rfl)) (hw _ (List.mem_of_getElem? (i := 11) rfl)) (by decide) (by decide) (by decide) rfl (lenOf pd3 rfl) rfl rfl (Nat.le_of_eq rfl) (by decide) (by decide) rfl ?_
    rintro _ _ ⟨rfl, rfl⟩
    rw [show (own_ok ([(0 : Int32)].set ((own_pre (own_inc (fun _ => 0) ((own_rk [y33, y48, y63, y78] v6_82).toNatClampNeg + 1))) (own_rk [y33, y48, y63, y78] v6_82).toNatClampNeg).toNatClampNeg v6_82) (3 : Int32) (1 : Int32) v19_336 v9_104) = 1 from by rw [own_ok, if_neg (by decide)]]
    show Wp p l e _ s m _ below meth c n0 _ h8 (((0 + 1) + 1) + 2) (((0 + 4) + 1) + 10) (mkF m 391 #[.val (.int p0), .val (.int p1), .val (.int p2), .val (.int (1 : Int32)), .val (.int v4_15), .val (.ref b1), .val (.int v6_82), .val (.int v7_89), .val (.int v8_96), .val (.int v9_104), .val (.ref b6), .val (.int (own_rk [y33, y48, y63, y78] v6_82)), .val (.int (own_rk [y33, y48, y63, y78] v7_89)), .val (.int (own_rk [y33, y48, y63, y78] v8_96)), .val (.int (own_rk [y33, y48, y63, y78] v9_104)), .val (.ref o_8), .val (.int v16_234), .val (.int v17_268), .val (.int v18_302), .val (.int v19_336)] [(.int (1 : Int32))])
    refine own_if_eq (pt := 398) (pf := 394) C at_391 (by decide) (by decide) rfl (fun q => absurd q (by decide)) (fun _ => ?_)
    refine own_iconst (pc' := 395) (v := (1 : Int32)) C at_394 own_ki_1 rfl ?_
    refine own_goto (pc' := 399) C at_395 (by decide) (by decide) ?_
    refine own_zret C at_399 (by decide) (by decide) (Or.inr rfl) ?_
    exact rfl
  · subst q
    refine own_iconst (pc' := 8) (v := (1 : Int32)) C at_7 own_ki_1 rfl ?_
    refine own_iloadN (pc' := 9) C at_8 rfl rfl ?_
    refine own_iconst (pc' := 10) (v := (3 : Int32)) C at_9 own_ki_3 rfl ?_
    refine own_iushr (pc' := 11) (v := (p0.toUInt32 >>> (3 : UInt32)).toInt32) C at_10 (own_siushr_3 _) rfl ?_
    refine own_bipush (pc' := 13) (v := (7 : Int32)) C at_11 own_kb_7 rfl ?_
    refine own_iand (pc' := 14) C at_13 rfl rfl ?_
    refine own_iadd (pc' := 15) C at_14 rfl rfl ?_
    obtain ⟨v4_15, hv4_15⟩ : ∃ z : Int32, z = ((1 : Int32) + ((p0.toUInt32 >>> (3 : UInt32)).toInt32 &&& (7 : Int32))) := ⟨_, rfl⟩
    refine own_istore (pc' := 17) (y := v4_15) (Ls' := #[.val (.int p0), .val (.int p1), .val (.int p2), .val (.int (2 : Int32)), .val (.int v4_15), .unset, .unset, .unset, .unset, .unset, .unset, .unset, .unset, .unset, .unset, .unset, .unset, .unset, .unset, .unset]) C at_15 hv4_15.symm rfl rfl ?_
    refine own_iconst (pc' := 18) (v := (4 : Int32)) C at_17 own_ki_4 rfl ?_
    refine own_newI (pc' := 20) (len := 4) (cap := 4) C at_18 rfl rfl (hw _ (List.mem_of_getElem? (i := 0) rfl)) (by decide) rfl (by decide) (by decide) (by decide) (by decide) rfl ?_
    intro h1 b1 g1 X1 A_b1
    have g_b1 : n0 ≤ b1 := g1 ▸ Z_
    replace Z_ := Nat.le_trans Z_ X1.1
    replace A_b1 : AI Z h1 b1 .int [(0 : Int32), (0 : Int32), (0 : Int32), (0 : Int32)] := A_b1
    refine own_astore (pc' := 22) (Ls' := #[.val (.int p0), .val (.int p1), .val (.int p2), .val (.int (2 : Int32)), .val (.int v4_15), .val (.ref b1), .unset, .unset, .unset, .unset, .unset, .unset, .unset, .unset, .unset, .unset, .unset, .unset, .unset, .unset]) C at_20 rfl rfl rfl ?_
    refine own_aload (pc' := 24) C at_22 rfl rfl rfl ?_
    refine own_iconst (pc' := 25) (v := (0 : Int32)) C at_24 own_ki_0 rfl ?_
    refine own_iloadN (pc' := 26) C at_25 rfl rfl ?_
    refine own_sipush (pc' := 29) (v := (255 : Int32)) C at_26 own_ks_255 rfl ?_
    refine own_iand (pc' := 30) C at_29 rfl rfl ?_
    refine own_iload (pc' := 32) C at_30 rfl rfl ?_
    refine own_irem (pc' := 33) C at_32 (own_kne (own_keys hv4_15)) rfl rfl ?_
    obtain ⟨y33, hy33⟩ : ∃ z : Int32, z = ((p1 &&& (255 : Int32)) % v4_15) := ⟨_, rfl⟩
    refine own_iastore (pc' := 34) (i := 0) (ys := [y33, (0 : Int32), (0 : Int32), (0 : Int32)]) C at_33 A_b1 (by decide) rfl (Nat.le_of_ble_eq_true rfl) (by rw [hy33]; rfl) g_b1 rfl ?_
    intro h2 W2 A2_
    replace A_b1 := A2_
    replace Z_ : n0 ≤ _ := Nat.le_trans Z_ (Nat.le_of_eq W2.size.symm)
    refine own_aload (pc' := 36) C at_34 rfl rfl rfl ?_
    refine own_iconst (pc' := 37) (v := (1 : Int32)) C at_36 own_ki_1 rfl ?_
    refine own_iloadN (pc' := 38) C at_37 rfl rfl ?_
    refine own_bipush (pc' := 40) (v := (8 : Int32)) C at_38 own_kb_8 rfl ?_
    refine own_iushr (pc' := 41) (v := (p1.toUInt32 >>> (8 : UInt32)).toInt32) C at_40 (own_siushr_8 _) rfl ?_
    refine own_sipush (pc' := 44) (v := (255 : Int32)) C at_41 own_ks_255 rfl ?_
    refine own_iand (pc' := 45) C at_44 rfl rfl ?_
    refine own_iload (pc' := 47) C at_45 rfl rfl ?_
    refine own_irem (pc' := 48) C at_47 (own_kne (own_keys hv4_15)) rfl rfl ?_
    obtain ⟨y48, hy48⟩ : ∃ z : Int32, z = (((p1.toUInt32 >>> (8 : UInt32)).toInt32 &&& (255 : Int32)) % v4_15) := ⟨_, rfl⟩
    refine own_iastore (pc' := 49) (i := 1) (ys := [y33, y48, (0 : Int32), (0 : Int32)]) C at_48 A_b1 (by decide) rfl (Nat.le_of_ble_eq_true rfl) (by rw [hy48]; rfl) g_b1 rfl ?_
    intro h3 W3 A3_
    replace A_b1 := A3_
    replace Z_ : n0 ≤ _ := Nat.le_trans Z_ (Nat.le_of_eq W3.size.symm)
    refine own_aload (pc' := 51) C at_49 rfl rfl rfl ?_
    refine own_iconst (pc' := 52) (v := (2 : Int32)) C at_51 own_ki_2 rfl ?_
    refine own_iloadN (pc' := 53) C at_52 rfl rfl ?_
    refine own_bipush (pc' := 55) (v := (16 : Int32)) C at_53 own_kb_16 rfl ?_
    refine own_iushr (pc' := 56) (v := (p1.toUInt32 >>> (16 : UInt32)).toInt32) C at_55 (own_siushr_16 _) rfl ?_
    refine own_sipush (pc' := 59) (v := (255 : Int32)) C at_56 own_ks_255 rfl ?_
    refine own_iand (pc' := 60) C at_59 rfl rfl ?_
    refine own_iload (pc' := 62) C at_60 rfl rfl ?_
    refine own_irem (pc' := 63) C at_62 (own_kne (own_keys hv4_15)) rfl rfl ?_
    obtain ⟨y63, hy63⟩ : ∃ z : Int32, z = (((p1.toUInt32 >>> (16 : UInt32)).toInt32 &&& (255 : Int32)) % v4_15) := ⟨_, rfl⟩
    refine own_iastore (pc' := 64) (i := 2) (ys := [y33, y48, y63, (0 : Int32)]) C at_63 A_b1 (by decide) rfl (Nat.le_of_ble_eq_true rfl) (by rw [hy63]; rfl) g_b1 rfl ?_
    intro h4 W4 A4_
    replace A_b1 := A4_
    replace Z_ : n0 ≤ _ := Nat.le_trans Z_ (Nat.le_of_eq W4.size.symm)
    refine own_aload (pc' := 66) C at_64 rfl rfl rfl ?_
    refine own_iconst (pc' := 67) (v := (3 : Int32)) C at_66 own_ki_3 rfl ?_
    refine own_iloadN (pc' := 68) C at_67 rfl rfl ?_
    refine own_bipush (pc' := 70) (v := (24 : Int32)) C at_68 own_kb_24 rfl ?_
    refine own_iushr (pc' := 71) (v := (p1.toUInt32 >>> (24 : UInt32)).toInt32) C at_70 (own_siushr_24 _) rfl ?_
    refine own_sipush (pc' := 74) (v := (255 : Int32)) C at_71 own_ks_255 rfl ?_
    refine own_iand (pc' := 75) C at_74 rfl rfl ?_
    refine own_iload (pc' := 77) C at_75 rfl rfl ?_
    refine own_irem (pc' := 78) C at_77 (own_kne (own_keys hv4_15)) rfl rfl ?_
    obtain ⟨y78, hy78⟩ : ∃ z : Int32, z = (((p1.toUInt32 >>> (24 : UInt32)).toInt32 &&& (255 : Int32)) % v4_15) := ⟨_, rfl⟩
    refine own_iastore (pc' := 79) (i := 3) (ys := [y33, y48, y63, y78]) C at_78 A_b1 (by decide) rfl (Nat.le_of_ble_eq_true rfl) (by rw [hy78]; rfl) g_b1 rfl ?_
    intro h5 W5 A5_
    replace A_b1 := A5_
    replace Z_ : n0 ≤ _ := Nat.le_trans Z_ (Nat.le_of_eq W5.size.symm)
    refine own_iloadN (pc' := 80) C at_79 rfl rfl ?_
    refine own_iconst (pc' := 81) (v := (3 : Int32)) C at_80 own_ki_3 rfl ?_
    refine own_iand (pc' := 82) C at_81 rfl rfl ?_
    obtain ⟨v6_82, hv6_82⟩ : ∃ z : Int32, z = (p2 &&& (3 : Int32)) := ⟨_, rfl⟩
    refine own_istore (pc' := 84) (y := v6_82) (Ls' := #[.val (.int p0), .val (.int p1), .val (.int p2), .val (.int (2 : Int32)), .val (.int v4_15), .val (.ref b1), .val (.int v6_82), .unset, .unset, .unset, .unset, .unset, .unset, .unset, .unset, .unset, .unset, .unset, .unset, .unset]) C at_82 hv6_82.symm rfl rfl ?_
    refine own_iloadN (pc' := 85) C at_84 rfl rfl ?_
    refine own_iconst (pc' := 86) (v := (2 : Int32)) C at_85 own_ki_2 rfl ?_
    refine own_iushr (pc' := 87) (v := (p2.toUInt32 >>> (2 : UInt32)).toInt32) C at_86 (own_siushr_2 _) rfl ?_
    refine own_iconst (pc' := 88) (v := (3 : Int32)) C at_87 own_ki_3 rfl ?_
    refine own_iand (pc' := 89) C at_88 rfl rfl ?_
    obtain ⟨v7_89, hv7_89⟩ : ∃ z : Int32, z = ((p2.toUInt32 >>> (2 : UInt32)).toInt32 &&& (3 : Int32)) := ⟨_, rfl⟩
    refine own_istore (pc' := 91) (y := v7_89) (Ls' := #[.val (.int p0), .val (.int p1), .val (.int p2), .val (.int (2 : Int32)), .val (.int v4_15), .val (.ref b1), .val (.int v6_82), .val (.int v7_89), .unset, .unset, .unset, .unset, .unset, .unset, .unset, .unset, .unset, .unset, .unset, .unset]) C at_89 hv7_89.symm rfl rfl ?_
    refine own_iloadN (pc' := 92) C at_91 rfl rfl ?_
    refine own_iconst (pc' := 93) (v := (4 : Int32)) C at_92 own_ki_4 rfl ?_
    refine own_iushr (pc' := 94) (v := (p2.toUInt32 >>> (4 : UInt32)).toInt32) C at_93 (own_siushr_4 _) rfl ?_
    refine own_iconst (pc' := 95) (v := (3 : Int32)) C at_94 own_ki_3 rfl ?_
    refine own_iand (pc' := 96) C at_95 rfl rfl ?_
    obtain ⟨v8_96, hv8_96⟩ : ∃ z : Int32, z = ((p2.toUInt32 >>> (4 : UInt32)).toInt32 &&& (3 : Int32)) := ⟨_, rfl⟩
    refine own_istore (pc' := 98) (y := v8_96) (Ls' := #[.val (.int p0), .val (.int p1), .val (.int p2), .val (.int (2 : Int32)), .val (.int v4_15), .val (.ref b1), .val (.int v6_82), .val (.int v7_89), .val (.int v8_96), .unset, .unset, .unset, .unset, .unset, .unset, .unset, .unset, .unset, .unset, .unset]) C at_96 hv8_96.symm rfl rfl ?_
    refine own_iloadN (pc' := 99) C at_98 rfl rfl ?_
    refine own_bipush (pc' := 101) (v := (6 : Int32)) C at_99 own_kb_6 rfl ?_
    refine own_iushr (pc' := 102) (v := (p2.toUInt32 >>> (6 : UInt32)).toInt32) C at_101 (own_siushr_6 _) rfl ?_
    refine own_iconst (pc' := 103) (v := (3 : Int32)) C at_102 own_ki_3 rfl ?_
    refine own_iand (pc' := 104) C at_103 rfl rfl ?_
    obtain ⟨v9_104, hv9_104⟩ : ∃ z : Int32, z = ((p2.toUInt32 >>> (6 : UInt32)).toInt32 &&& (3 : Int32)) := ⟨_, rfl⟩
    refine own_istore (pc' := 106) (y := v9_104) (Ls' := #[.val (.int p0), .val (.int p1), .val (.int p2), .val (.int (2 : Int32)), .val (.int v4_15), .val (.ref b1), .val (.int v6_82), .val (.int v7_89), .val (.int v8_96), .val (.int v9_104), .unset, .unset, .unset, .unset, .unset, .unset, .unset, .unset, .unset, .unset]) C at_104 hv9_104.symm rfl rfl ?_
    refine own_iloadN (pc' := 107) C at_106 rfl rfl ?_
    refine own_newI (pc' := 109) (len := 2) (cap := 2) C at_107 rfl rfl (hw _ (List.mem_of_getElem? (i := 0) rfl)) (by decide) rfl (by decide) (by decide) (by decide) (by decide) rfl ?_
    intro h6 b6 g6 X6 A_b6
    have ne_b1_b6 : b1 ≠ b6 := Nat.ne_of_lt (g6 ▸ A_b1.lt)
    replace A_b1 := A_b1.ext X6
    have g_b6 : n0 ≤ b6 := g6 ▸ Z_
    replace Z_ := Nat.le_trans Z_ X6.1
    replace A_b6 : AI Z h6 b6 .int [(0 : Int32), (0 : Int32)] := A_b6
    refine own_astore (pc' := 111) (Ls' := #[.val (.int p0), .val (.int p1), .val (.int p2), .val (.int (2 : Int32)), .val (.int v4_15), .val (.ref b1), .val (.int v6_82), .val (.int v7_89), .val (.int v8_96), .val (.int v9_104), .val (.ref b6), .unset, .unset, .unset, .unset, .unset, .unset, .unset, .unset, .unset]) C at_109 rfl rfl rfl ?_
    refine own_iloadN (pc' := 112) C at_111 rfl rfl ?_
    refine own_if_le (pt := 121) (pf := 115) C at_112 (by decide) (by decide) rfl (fun q => absurd (by decide) q) (fun _ => ?_)
    refine own_aload (pc' := 117) C at_115 rfl rfl rfl ?_
    refine own_iconst (pc' := 118) (v := (0 : Int32)) C at_117 own_ki_0 rfl ?_
    refine own_iload (pc' := 120) C at_118 rfl rfl ?_
    refine own_iastore (pc' := 121) (i := 0) (ys := [v6_82, (0 : Int32)]) C at_120 A_b6 (by decide) rfl (Nat.le_of_ble_eq_true rfl) rfl g_b6 rfl ?_
    intro h7 W7 A7_
    replace A_b1 := A_b1.other W7 ne_b1_b6
    replace A_b6 := A7_
    replace Z_ : n0 ≤ _ := Nat.le_trans Z_ (Nat.le_of_eq W7.size.symm)
    refine own_iloadN (pc' := 122) C at_121 rfl rfl ?_
    refine own_iconst (pc' := 123) (v := (1 : Int32)) C at_122 own_ki_1 rfl ?_
    refine own_icmp_le (pt := 132) (pf := 126) C at_123 (by decide) (by decide) rfl (fun q => absurd (by decide) q) (fun _ => ?_)
    refine own_aload (pc' := 128) C at_126 rfl rfl rfl ?_
    refine own_iconst (pc' := 129) (v := (1 : Int32)) C at_128 own_ki_1 rfl ?_
    refine own_iload (pc' := 131) C at_129 rfl rfl ?_
    refine own_iastore (pc' := 132) (i := 1) (ys := [v6_82, v7_89]) C at_131 A_b6 (by decide) rfl (Nat.le_of_ble_eq_true rfl) rfl g_b6 rfl ?_
    intro h8 W8 A8_
    replace A_b1 := A_b1.other W8 ne_b1_b6
    replace A_b6 := A8_
    replace Z_ : n0 ≤ _ := Nat.le_trans Z_ (Nat.le_of_eq W8.size.symm)
    refine own_iloadN (pc' := 133) C at_132 rfl rfl ?_
    refine own_iconst (pc' := 134) (v := (2 : Int32)) C at_133 own_ki_2 rfl ?_
    refine own_icmp_le (pt := 143) (pf := 137) C at_134 (by decide) (by decide) rfl (fun _ => ?_) (fun q => absurd q (by decide))
    refine own_iloadN (pc' := 144) C at_143 rfl rfl ?_
    refine own_iconst (pc' := 145) (v := (3 : Int32)) C at_144 own_ki_3 rfl ?_
    refine own_icmp_le (pt := 154) (pf := 148) C at_145 (by decide) (by decide) rfl (fun _ => ?_) (fun q => absurd q (by decide))
    refine own_aload (pc' := 156) C at_154 rfl rfl rfl ?_
    refine own_iload (pc' := 158) C at_156 rfl rfl ?_
    refine own_iaload (pc' := 159) (v := (own_rk [y33, y48, y63, y78] v6_82)) (i := v6_82.toNatClampNeg) C at_158 A_b1 (own_p3 hv6_82).1 rfl (own_get4 (own_p3 hv6_82)) rfl ?_
    refine own_istore (pc' := 161) (y := (own_rk [y33, y48, y63, y78] v6_82)) (Ls' := #[.val (.int p0), .val (.int p1), .val (.int p2), .val (.int (2 : Int32)), .val (.int v4_15), .val (.ref b1), .val (.int v6_82), .val (.int v7_89), .val (.int v8_96), .val (.int v9_104), .val (.ref b6), .val (.int (own_rk [y33, y48, y63, y78] v6_82)), .unset, .unset, .unset, .unset, .unset, .unset, .unset, .unset]) C at_159 rfl rfl rfl ?_
    refine own_aload (pc' := 163) C at_161 rfl rfl rfl ?_
    refine own_iload (pc' := 165) C at_163 rfl rfl ?_
    refine own_iaload (pc' := 166) (v := (own_rk [y33, y48, y63, y78] v7_89)) (i := v7_89.toNatClampNeg) C at_165 A_b1 (own_p3 hv7_89).1 rfl (own_get4 (own_p3 hv7_89)) rfl ?_
    refine own_istore (pc' := 168) (y := (own_rk [y33, y48, y63, y78] v7_89)) (Ls' := #[.val (.int p0), .val (.int p1), .val (.int p2), .val (.int (2 : Int32)), .val (.int v4_15), .val (.ref b1), .val (.int v6_82), .val (.int v7_89), .val (.int v8_96), .val (.int v9_104), .val (.ref b6), .val (.int (own_rk [y33, y48, y63, y78] v6_82)), .val (.int (own_rk [y33, y48, y63, y78] v7_89)), .unset, .unset, .unset, .unset, .unset, .unset, .unset]) C at_166 rfl rfl rfl ?_
    refine own_aload (pc' := 170) C at_168 rfl rfl rfl ?_
    refine own_iload (pc' := 172) C at_170 rfl rfl ?_
    refine own_iaload (pc' := 173) (v := (own_rk [y33, y48, y63, y78] v8_96)) (i := v8_96.toNatClampNeg) C at_172 A_b1 (own_p3 hv8_96).1 rfl (own_get4 (own_p3 hv8_96)) rfl ?_
    refine own_istore (pc' := 175) (y := (own_rk [y33, y48, y63, y78] v8_96)) (Ls' := #[.val (.int p0), .val (.int p1), .val (.int p2), .val (.int (2 : Int32)), .val (.int v4_15), .val (.ref b1), .val (.int v6_82), .val (.int v7_89), .val (.int v8_96), .val (.int v9_104), .val (.ref b6), .val (.int (own_rk [y33, y48, y63, y78] v6_82)), .val (.int (own_rk [y33, y48, y63, y78] v7_89)), .val (.int (own_rk [y33, y48, y63, y78] v8_96)), .unset, .unset, .unset, .unset, .unset, .unset]) C at_173 rfl rfl rfl ?_
    refine own_aload (pc' := 177) C at_175 rfl rfl rfl ?_
    refine own_iload (pc' := 179) C at_177 rfl rfl ?_
    refine own_iaload (pc' := 180) (v := (own_rk [y33, y48, y63, y78] v9_104)) (i := v9_104.toNatClampNeg) C at_179 A_b1 (own_p3 hv9_104).1 rfl (own_get4 (own_p3 hv9_104)) rfl ?_
    refine own_istore (pc' := 182) (y := (own_rk [y33, y48, y63, y78] v9_104)) (Ls' := #[.val (.int p0), .val (.int p1), .val (.int p2), .val (.int (2 : Int32)), .val (.int v4_15), .val (.ref b1), .val (.int v6_82), .val (.int v7_89), .val (.int v8_96), .val (.int v9_104), .val (.ref b6), .val (.int (own_rk [y33, y48, y63, y78] v6_82)), .val (.int (own_rk [y33, y48, y63, y78] v7_89)), .val (.int (own_rk [y33, y48, y63, y78] v8_96)), .val (.int (own_rk [y33, y48, y63, y78] v9_104)), .unset, .unset, .unset, .unset, .unset]) C at_180 rfl rfl rfl ?_
    refine own_aload (pc' := 184) C at_182 rfl rfl rfl ?_
    refine own_aload (pc' := 186) C at_184 rfl rfl rfl ?_
    refine own_iload (pc' := 188) C at_186 rfl rfl ?_
    have FIN := (own_fin2 (k0 := (own_rk [y33, y48, y63, y78] v6_82)) (k1 := (own_rk [y33, y48, y63, y78] v7_89)) (k2 := (own_rk [y33, y48, y63, y78] v8_96)) (k3 := (own_rk [y33, y48, y63, y78] v9_104)) (p0 := v6_82) (p1 := v7_89) (own_keys hv4_15) (own_rkb (own_p3 hv6_82) (own_yb (own_keys hv4_15) hy33) (own_yb (own_keys hv4_15) hy48) (own_yb (own_keys hv4_15) hy63) (own_yb (own_keys hv4_15) hy78)) (own_rkb (own_p3 hv7_89) (own_yb (own_keys hv4_15) hy33) (own_yb (own_keys hv4_15) hy48) (own_yb (own_keys hv4_15) hy63) (own_yb (own_keys hv4_15) hy78)))
    refine own_callS (pc' := 191) (wL := 0) (argsL := [(.ref b6), (.ref b1), (.int v4_15)]) (rest := []) C (own_sort2 l Z a0 hw b6 b1 v4_15 v6_82 v7_89 y33 y48 y63 y78 h8 n0 Z_ A_b6 A_b1 (own_keys hv4_15) (own_p3 hv6_82) (own_rkb (own_p3 hv6_82) (own_yb (own_keys hv4_15) hy33) (own_yb (own_keys hv4_15) hy48) (own_yb (own_keys hv4_15) hy63) (own_yb (own_keys hv4_15) hy78)) (own_p3 hv7_89) (own_rkb (own_p3 hv7_89) (own_yb (own_keys hv4_15) hy33) (own_yb (own_keys hv4_15) hy48) (own_yb (own_keys hv4_15) hy63) (own_yb (own_keys hv4_15) hy78)) FIN.1 FIN.2.1) at_188 (hw _ (List.mem_of_getElem? (i := 1) rfl)) (hw _ (List.mem_of_getElem? (i := 2) rfl)) (hw _ (List.mem_of_getElem? (i := 3) rfl)) (hw _ (List.mem_of_getElem? (i := 4) rfl)) (by decide) (by decide) (by decide) rfl (lenOf pd1 rfl) rfl rfl (Nat.le_of_eq rfl) (by decide) (by decide) rfl ?_
    rintro _ h9 ⟨o_9, rfl, sz9, K9, A_o_9⟩
    replace A_b1 := A_b1.keep K9 nin0
    replace A_b6 := A_b6.keep K9 nin0
    replace Z_ := Nat.le_trans Z_ K9.1
    show Wp p l e _ s m _ below meth c n0 _ h9 (((0 + 1) + 1) + 2) (((0 + 4) + 2) + 11) (mkF m 191 #[.val (.int p0), .val (.int p1), .val (.int p2), .val (.int (2 : Int32)), .val (.int v4_15), .val (.ref b1), .val (.int v6_82), .val (.int v7_89), .val (.int v8_96), .val (.int v9_104), .val (.ref b6), .val (.int (own_rk [y33, y48, y63, y78] v6_82)), .val (.int (own_rk [y33, y48, y63, y78] v7_89)), .val (.int (own_rk [y33, y48, y63, y78] v8_96)), .val (.int (own_rk [y33, y48, y63, y78] v9_104)), .unset, .unset, .unset, .unset, .unset] [(.ref o_9)])
    refine own_astore (pc' := 193) (Ls' := #[.val (.int p0), .val (.int p1), .val (.int p2), .val (.int (2 : Int32)), .val (.int v4_15), .val (.ref b1), .val (.int v6_82), .val (.int v7_89), .val (.int v8_96), .val (.int v9_104), .val (.ref b6), .val (.int (own_rk [y33, y48, y63, y78] v6_82)), .val (.int (own_rk [y33, y48, y63, y78] v7_89)), .val (.int (own_rk [y33, y48, y63, y78] v8_96)), .val (.int (own_rk [y33, y48, y63, y78] v9_104)), .val (.ref o_9), .unset, .unset, .unset, .unset]) C at_191 rfl rfl rfl ?_
    refine own_aload (pc' := 195) C at_193 rfl rfl rfl ?_
    refine own_lenI (pc' := 196) (v := (2 : Int32)) C at_195 A_o_9 (by first | (simp; done) | rfl | (simp; rfl)) rfl ?_
    refine own_iloadN (pc' := 197) C at_196 rfl rfl ?_
    refine own_icmp_eq (pt := 202) (pf := 200) C at_197 (by decide) (by decide) rfl (fun _ => ?_) (fun q => absurd (by decide) q)
    refine own_iconst (pc' := 203) (v := (1 : Int32)) C at_202 own_ki_1 rfl ?_
    refine own_iloadN (pc' := 204) C at_203 rfl rfl ?_
    refine own_iload (pc' := 206) C at_204 rfl rfl ?_
    refine own_iload (pc' := 208) C at_206 rfl rfl ?_
    refine own_iconst (pc' := 209) (v := (0 : Int32)) C at_208 own_ki_0 rfl ?_
    refine own_callS (pc' := 212) (wL := 0) (argsL := [(.int (1 : Int32)), (.int (2 : Int32)), (.int (own_rk [y33, y48, y63, y78] v7_89)), (.int (own_rk [y33, y48, y63, y78] v6_82)), (.int (0 : Int32))]) (rest := []) C (own_m2 l Z a0 hw (1 : Int32) (2 : Int32) (own_rk [y33, y48, y63, y78] v7_89) (own_rk [y33, y48, y63, y78] v6_82) (0 : Int32) h9 n0 Z_) at_209 (hw _ (List.mem_of_getElem? (i := 5) rfl)) (hw _ (List.mem_of_getElem? (i := 6) rfl)) (hw _ (List.mem_of_getElem? (i := 7) rfl)) (hw _ (List.mem_of_getElem? (i := 8) rfl)) (by decide) (by decide) (by decide) rfl (lenOf pd2 rfl) rfl rfl (Nat.le_of_eq rfl) (by decide) (by decide) rfl ?_
    rintro _ _ ⟨rfl, rfl⟩
    show Wp p l e _ s m _ below meth c n0 _ h9 (((0 + 1) + 1) + 2) (((0 + 4) + 2) + 11) (mkF m 212 #[.val (.int p0), .val (.int p1), .val (.int p2), .val (.int (2 : Int32)), .val (.int v4_15), .val (.ref b1), .val (.int v6_82), .val (.int v7_89), .val (.int v8_96), .val (.int v9_104), .val (.ref b6), .val (.int (own_rk [y33, y48, y63, y78] v6_82)), .val (.int (own_rk [y33, y48, y63, y78] v7_89)), .val (.int (own_rk [y33, y48, y63, y78] v8_96)), .val (.int (own_rk [y33, y48, y63, y78] v9_104)), .val (.ref o_9), .unset, .unset, .unset, .unset] [(.int (own_f2 (1 : Int32) (2 : Int32) (own_rk [y33, y48, y63, y78] v7_89) (own_rk [y33, y48, y63, y78] v6_82) (0 : Int32)))])
    refine own_iconst (pc' := 213) (v := (2 : Int32)) C at_212 own_ki_2 rfl ?_
    refine own_iloadN (pc' := 214) C at_213 rfl rfl ?_
    refine own_iload (pc' := 216) C at_214 rfl rfl ?_
    refine own_iload (pc' := 218) C at_216 rfl rfl ?_
    refine own_iconst (pc' := 219) (v := (0 : Int32)) C at_218 own_ki_0 rfl ?_
    refine own_callS (pc' := 222) (wL := 1) (argsL := [(.int (2 : Int32)), (.int (2 : Int32)), (.int (own_rk [y33, y48, y63, y78] v8_96)), (.int (own_rk [y33, y48, y63, y78] v6_82)), (.int (0 : Int32))]) (rest := [(.int (own_f2 (1 : Int32) (2 : Int32) (own_rk [y33, y48, y63, y78] v7_89) (own_rk [y33, y48, y63, y78] v6_82) (0 : Int32)))]) C (own_m2 l Z a0 hw (2 : Int32) (2 : Int32) (own_rk [y33, y48, y63, y78] v8_96) (own_rk [y33, y48, y63, y78] v6_82) (0 : Int32) h9 n0 Z_) at_219 (hw _ (List.mem_of_getElem? (i := 5) rfl)) (hw _ (List.mem_of_getElem? (i := 6) rfl)) (hw _ (List.mem_of_getElem? (i := 7) rfl)) (hw _ (List.mem_of_getElem? (i := 8) rfl)) (by decide) (by decide) (by decide) rfl (lenOf pd2 rfl) rfl rfl (Nat.le_of_eq rfl) (by decide) (by decide) rfl ?_
    rintro _ _ ⟨rfl, rfl⟩
    show Wp p l e _ s m _ below meth c n0 _ h9 (((0 + 1) + 1) + 2) (((0 + 4) + 2) + 11) (mkF m 222 #[.val (.int p0), .val (.int p1), .val (.int p2), .val (.int (2 : Int32)), .val (.int v4_15), .val (.ref b1), .val (.int v6_82), .val (.int v7_89), .val (.int v8_96), .val (.int v9_104), .val (.ref b6), .val (.int (own_rk [y33, y48, y63, y78] v6_82)), .val (.int (own_rk [y33, y48, y63, y78] v7_89)), .val (.int (own_rk [y33, y48, y63, y78] v8_96)), .val (.int (own_rk [y33, y48, y63, y78] v9_104)), .val (.ref o_9), .unset, .unset, .unset, .unset] [(.int (own_f2 (2 : Int32) (2 : Int32) (own_rk [y33, y48, y63, y78] v8_96) (own_rk [y33, y48, y63, y78] v6_82) (0 : Int32))), (.int (own_f2 (1 : Int32) (2 : Int32) (own_rk [y33, y48, y63, y78] v7_89) (own_rk [y33, y48, y63, y78] v6_82) (0 : Int32)))])
    refine own_iadd (pc' := 223) C at_222 rfl rfl ?_
    refine own_iconst (pc' := 224) (v := (3 : Int32)) C at_223 own_ki_3 rfl ?_
    refine own_iloadN (pc' := 225) C at_224 rfl rfl ?_
    refine own_iload (pc' := 227) C at_225 rfl rfl ?_
    refine own_iload (pc' := 229) C at_227 rfl rfl ?_
    refine own_iconst (pc' := 230) (v := (0 : Int32)) C at_229 own_ki_0 rfl ?_
    refine own_callS (pc' := 233) (wL := 1) (argsL := [(.int (3 : Int32)), (.int (2 : Int32)), (.int (own_rk [y33, y48, y63, y78] v9_104)), (.int (own_rk [y33, y48, y63, y78] v6_82)), (.int (0 : Int32))]) (rest := [(.int ((own_f2 (1 : Int32) (2 : Int32) (own_rk [y33, y48, y63, y78] v7_89) (own_rk [y33, y48, y63, y78] v6_82) (0 : Int32)) + (own_f2 (2 : Int32) (2 : Int32) (own_rk [y33, y48, y63, y78] v8_96) (own_rk [y33, y48, y63, y78] v6_82) (0 : Int32))))]) C (own_m2 l Z a0 hw (3 : Int32) (2 : Int32) (own_rk [y33, y48, y63, y78] v9_104) (own_rk [y33, y48, y63, y78] v6_82) (0 : Int32) h9 n0 Z_) at_230 (hw _ (List.mem_of_getElem? (i := 5) rfl)) (hw _ (List.mem_of_getElem? (i := 6) rfl)) (hw _ (List.mem_of_getElem? (i := 7) rfl)) (hw _ (List.mem_of_getElem? (i := 8) rfl)) (by decide) (by decide) (by decide) rfl (lenOf pd2 rfl) rfl rfl (Nat.le_of_eq rfl) (by decide) (by decide) rfl ?_
    rintro _ _ ⟨rfl, rfl⟩
    show Wp p l e _ s m _ below meth c n0 _ h9 (((0 + 1) + 1) + 2) (((0 + 4) + 2) + 11) (mkF m 233 #[.val (.int p0), .val (.int p1), .val (.int p2), .val (.int (2 : Int32)), .val (.int v4_15), .val (.ref b1), .val (.int v6_82), .val (.int v7_89), .val (.int v8_96), .val (.int v9_104), .val (.ref b6), .val (.int (own_rk [y33, y48, y63, y78] v6_82)), .val (.int (own_rk [y33, y48, y63, y78] v7_89)), .val (.int (own_rk [y33, y48, y63, y78] v8_96)), .val (.int (own_rk [y33, y48, y63, y78] v9_104)), .val (.ref o_9), .unset, .unset, .unset, .unset] [(.int (own_f2 (3 : Int32) (2 : Int32) (own_rk [y33, y48, y63, y78] v9_104) (own_rk [y33, y48, y63, y78] v6_82) (0 : Int32))), (.int ((own_f2 (1 : Int32) (2 : Int32) (own_rk [y33, y48, y63, y78] v7_89) (own_rk [y33, y48, y63, y78] v6_82) (0 : Int32)) + (own_f2 (2 : Int32) (2 : Int32) (own_rk [y33, y48, y63, y78] v8_96) (own_rk [y33, y48, y63, y78] v6_82) (0 : Int32))))])
    refine own_iadd (pc' := 234) C at_233 rfl rfl ?_
    obtain ⟨v16_234, hv16_234⟩ : ∃ z : Int32, z = (((own_f2 (1 : Int32) (2 : Int32) (own_rk [y33, y48, y63, y78] v7_89) (own_rk [y33, y48, y63, y78] v6_82) (0 : Int32)) + (own_f2 (2 : Int32) (2 : Int32) (own_rk [y33, y48, y63, y78] v8_96) (own_rk [y33, y48, y63, y78] v6_82) (0 : Int32))) + (own_f2 (3 : Int32) (2 : Int32) (own_rk [y33, y48, y63, y78] v9_104) (own_rk [y33, y48, y63, y78] v6_82) (0 : Int32))) := ⟨_, rfl⟩
    refine own_istore (pc' := 236) (y := v16_234) (Ls' := #[.val (.int p0), .val (.int p1), .val (.int p2), .val (.int (2 : Int32)), .val (.int v4_15), .val (.ref b1), .val (.int v6_82), .val (.int v7_89), .val (.int v8_96), .val (.int v9_104), .val (.ref b6), .val (.int (own_rk [y33, y48, y63, y78] v6_82)), .val (.int (own_rk [y33, y48, y63, y78] v7_89)), .val (.int (own_rk [y33, y48, y63, y78] v8_96)), .val (.int (own_rk [y33, y48, y63, y78] v9_104)), .val (.ref o_9), .val (.int v16_234), .unset, .unset, .unset]) C at_234 hv16_234.symm rfl rfl ?_
    refine own_iconst (pc' := 237) (v := (0 : Int32)) C at_236 own_ki_0 rfl ?_
    refine own_iloadN (pc' := 238) C at_237 rfl rfl ?_
    refine own_iload (pc' := 240) C at_238 rfl rfl ?_
    refine own_iload (pc' := 242) C at_240 rfl rfl ?_
    refine own_iconst (pc' := 243) (v := (1 : Int32)) C at_242 own_ki_1 rfl ?_
    refine own_callS (pc' := 246) (wL := 0) (argsL := [(.int (0 : Int32)), (.int (2 : Int32)), (.int (own_rk [y33, y48, y63, y78] v6_82)), (.int (own_rk [y33, y48, y63, y78] v7_89)), (.int (1 : Int32))]) (rest := []) C (own_m2 l Z a0 hw (0 : Int32) (2 : Int32) (own_rk [y33, y48, y63, y78] v6_82) (own_rk [y33, y48, y63, y78] v7_89) (1 : Int32) h9 n0 Z_) at_243 (hw _ (List.mem_of_getElem? (i := 5) rfl)) (hw _ (List.mem_of_getElem? (i := 6) rfl)) (hw _ (List.mem_of_getElem? (i := 7) rfl)) (hw _ (List.mem_of_getElem? (i := 8) rfl)) (by decide) (by decide) (by decide) rfl (lenOf pd2 rfl) rfl rfl (Nat.le_of_eq rfl) (by decide) (by decide) rfl ?_
    rintro _ _ ⟨rfl, rfl⟩
    show Wp p l e _ s m _ below meth c n0 _ h9 (((0 + 1) + 1) + 2) (((0 + 4) + 2) + 11) (mkF m 246 #[.val (.int p0), .val (.int p1), .val (.int p2), .val (.int (2 : Int32)), .val (.int v4_15), .val (.ref b1), .val (.int v6_82), .val (.int v7_89), .val (.int v8_96), .val (.int v9_104), .val (.ref b6), .val (.int (own_rk [y33, y48, y63, y78] v6_82)), .val (.int (own_rk [y33, y48, y63, y78] v7_89)), .val (.int (own_rk [y33, y48, y63, y78] v8_96)), .val (.int (own_rk [y33, y48, y63, y78] v9_104)), .val (.ref o_9), .val (.int v16_234), .unset, .unset, .unset] [(.int (own_f2 (0 : Int32) (2 : Int32) (own_rk [y33, y48, y63, y78] v6_82) (own_rk [y33, y48, y63, y78] v7_89) (1 : Int32)))])
    refine own_iconst (pc' := 247) (v := (2 : Int32)) C at_246 own_ki_2 rfl ?_
    refine own_iloadN (pc' := 248) C at_247 rfl rfl ?_
    refine own_iload (pc' := 250) C at_248 rfl rfl ?_
    refine own_iload (pc' := 252) C at_250 rfl rfl ?_
    refine own_iconst (pc' := 253) (v := (0 : Int32)) C at_252 own_ki_0 rfl ?_
    refine own_callS (pc' := 256) (wL := 1) (argsL := [(.int (2 : Int32)), (.int (2 : Int32)), (.int (own_rk [y33, y48, y63, y78] v8_96)), (.int (own_rk [y33, y48, y63, y78] v7_89)), (.int (0 : Int32))]) (rest := [(.int (own_f2 (0 : Int32) (2 : Int32) (own_rk [y33, y48, y63, y78] v6_82) (own_rk [y33, y48, y63, y78] v7_89) (1 : Int32)))]) C (own_m2 l Z a0 hw (2 : Int32) (2 : Int32) (own_rk [y33, y48, y63, y78] v8_96) (own_rk [y33, y48, y63, y78] v7_89) (0 : Int32) h9 n0 Z_) at_253 (hw _ (List.mem_of_getElem? (i := 5) rfl)) (hw _ (List.mem_of_getElem? (i := 6) rfl)) (hw _ (List.mem_of_getElem? (i := 7) rfl)) (hw _ (List.mem_of_getElem? (i := 8) rfl)) (by decide) (by decide) (by decide) rfl (lenOf pd2 rfl) rfl rfl (Nat.le_of_eq rfl) (by decide) (by decide) rfl ?_
    rintro _ _ ⟨rfl, rfl⟩
    show Wp p l e _ s m _ below meth c n0 _ h9 (((0 + 1) + 1) + 2) (((0 + 4) + 2) + 11) (mkF m 256 #[.val (.int p0), .val (.int p1), .val (.int p2), .val (.int (2 : Int32)), .val (.int v4_15), .val (.ref b1), .val (.int v6_82), .val (.int v7_89), .val (.int v8_96), .val (.int v9_104), .val (.ref b6), .val (.int (own_rk [y33, y48, y63, y78] v6_82)), .val (.int (own_rk [y33, y48, y63, y78] v7_89)), .val (.int (own_rk [y33, y48, y63, y78] v8_96)), .val (.int (own_rk [y33, y48, y63, y78] v9_104)), .val (.ref o_9), .val (.int v16_234), .unset, .unset, .unset] [(.int (own_f2 (2 : Int32) (2 : Int32) (own_rk [y33, y48, y63, y78] v8_96) (own_rk [y33, y48, y63, y78] v7_89) (0 : Int32))), (.int (own_f2 (0 : Int32) (2 : Int32) (own_rk [y33, y48, y63, y78] v6_82) (own_rk [y33, y48, y63, y78] v7_89) (1 : Int32)))])
    refine own_iadd (pc' := 257) C at_256 rfl rfl ?_
    refine own_iconst (pc' := 258) (v := (3 : Int32)) C at_257 own_ki_3 rfl ?_
    refine own_iloadN (pc' := 259) C at_258 rfl rfl ?_
    refine own_iload (pc' := 261) C at_259 rfl rfl ?_
    refine own_iload (pc' := 263) C at_261 rfl rfl ?_
    refine own_iconst (pc' := 264) (v := (0 : Int32)) C at_263 own_ki_0 rfl ?_
    refine own_callS (pc' := 267) (wL := 1) (argsL := [(.int (3 : Int32)), (.int (2 : Int32)), (.int (own_rk [y33, y48, y63, y78] v9_104)), (.int (own_rk [y33, y48, y63, y78] v7_89)), (.int (0 : Int32))]) (rest := [(.int ((own_f2 (0 : Int32) (2 : Int32) (own_rk [y33, y48, y63, y78] v6_82) (own_rk [y33, y48, y63, y78] v7_89) (1 : Int32)) + (own_f2 (2 : Int32) (2 : Int32) (own_rk [y33, y48, y63, y78] v8_96) (own_rk [y33, y48, y63, y78] v7_89) (0 : Int32))))]) C (own_m2 l Z a0 hw (3 : Int32) (2 : Int32) (own_rk [y33, y48, y63, y78] v9_104) (own_rk [y33, y48, y63, y78] v7_89) (0 : Int32) h9 n0 Z_) at_264 (hw _ (List.mem_of_getElem? (i := 5) rfl)) (hw _ (List.mem_of_getElem? (i := 6) rfl)) (hw _ (List.mem_of_getElem? (i := 7) rfl)) (hw _ (List.mem_of_getElem? (i := 8) rfl)) (by decide) (by decide) (by decide) rfl (lenOf pd2 rfl) rfl rfl (Nat.le_of_eq rfl) (by decide) (by decide) rfl ?_
    rintro _ _ ⟨rfl, rfl⟩
    show Wp p l e _ s m _ below meth c n0 _ h9 (((0 + 1) + 1) + 2) (((0 + 4) + 2) + 11) (mkF m 267 #[.val (.int p0), .val (.int p1), .val (.int p2), .val (.int (2 : Int32)), .val (.int v4_15), .val (.ref b1), .val (.int v6_82), .val (.int v7_89), .val (.int v8_96), .val (.int v9_104), .val (.ref b6), .val (.int (own_rk [y33, y48, y63, y78] v6_82)), .val (.int (own_rk [y33, y48, y63, y78] v7_89)), .val (.int (own_rk [y33, y48, y63, y78] v8_96)), .val (.int (own_rk [y33, y48, y63, y78] v9_104)), .val (.ref o_9), .val (.int v16_234), .unset, .unset, .unset] [(.int (own_f2 (3 : Int32) (2 : Int32) (own_rk [y33, y48, y63, y78] v9_104) (own_rk [y33, y48, y63, y78] v7_89) (0 : Int32))), (.int ((own_f2 (0 : Int32) (2 : Int32) (own_rk [y33, y48, y63, y78] v6_82) (own_rk [y33, y48, y63, y78] v7_89) (1 : Int32)) + (own_f2 (2 : Int32) (2 : Int32) (own_rk [y33, y48, y63, y78] v8_96) (own_rk [y33, y48, y63, y78] v7_89) (0 : Int32))))])
    refine own_iadd (pc' := 268) C at_267 rfl rfl ?_
    obtain ⟨v17_268, hv17_268⟩ : ∃ z : Int32, z = (((own_f2 (0 : Int32) (2 : Int32) (own_rk [y33, y48, y63, y78] v6_82) (own_rk [y33, y48, y63, y78] v7_89) (1 : Int32)) + (own_f2 (2 : Int32) (2 : Int32) (own_rk [y33, y48, y63, y78] v8_96) (own_rk [y33, y48, y63, y78] v7_89) (0 : Int32))) + (own_f2 (3 : Int32) (2 : Int32) (own_rk [y33, y48, y63, y78] v9_104) (own_rk [y33, y48, y63, y78] v7_89) (0 : Int32))) := ⟨_, rfl⟩
    refine own_istore (pc' := 270) (y := v17_268) (Ls' := #[.val (.int p0), .val (.int p1), .val (.int p2), .val (.int (2 : Int32)), .val (.int v4_15), .val (.ref b1), .val (.int v6_82), .val (.int v7_89), .val (.int v8_96), .val (.int v9_104), .val (.ref b6), .val (.int (own_rk [y33, y48, y63, y78] v6_82)), .val (.int (own_rk [y33, y48, y63, y78] v7_89)), .val (.int (own_rk [y33, y48, y63, y78] v8_96)), .val (.int (own_rk [y33, y48, y63, y78] v9_104)), .val (.ref o_9), .val (.int v16_234), .val (.int v17_268), .unset, .unset]) C at_268 hv17_268.symm rfl rfl ?_
    refine own_iconst (pc' := 271) (v := (0 : Int32)) C at_270 own_ki_0 rfl ?_
    refine own_iloadN (pc' := 272) C at_271 rfl rfl ?_
    refine own_iload (pc' := 274) C at_272 rfl rfl ?_
    refine own_iload (pc' := 276) C at_274 rfl rfl ?_
    refine own_iconst (pc' := 277) (v := (1 : Int32)) C at_276 own_ki_1 rfl ?_
    refine own_callS (pc' := 280) (wL := 0) (argsL := [(.int (0 : Int32)), (.int (2 : Int32)), (.int (own_rk [y33, y48, y63, y78] v6_82)), (.int (own_rk [y33, y48, y63, y78] v8_96)), (.int (1 : Int32))]) (rest := []) C (own_m2 l Z a0 hw (0 : Int32) (2 : Int32) (own_rk [y33, y48, y63, y78] v6_82) (own_rk [y33, y48, y63, y78] v8_96) (1 : Int32) h9 n0 Z_) at_277 (hw _ (List.mem_of_getElem? (i := 5) rfl)) (hw _ (List.mem_of_getElem? (i := 6) rfl)) (hw _ (List.mem_of_getElem? (i := 7) rfl)) (hw _ (List.mem_of_getElem? (i := 8) rfl)) (by decide) (by decide) (by decide) rfl (lenOf pd2 rfl) rfl rfl (Nat.le_of_eq rfl) (by decide) (by decide) rfl ?_
    rintro _ _ ⟨rfl, rfl⟩
    show Wp p l e _ s m _ below meth c n0 _ h9 (((0 + 1) + 1) + 2) (((0 + 4) + 2) + 11) (mkF m 280 #[.val (.int p0), .val (.int p1), .val (.int p2), .val (.int (2 : Int32)), .val (.int v4_15), .val (.ref b1), .val (.int v6_82), .val (.int v7_89), .val (.int v8_96), .val (.int v9_104), .val (.ref b6), .val (.int (own_rk [y33, y48, y63, y78] v6_82)), .val (.int (own_rk [y33, y48, y63, y78] v7_89)), .val (.int (own_rk [y33, y48, y63, y78] v8_96)), .val (.int (own_rk [y33, y48, y63, y78] v9_104)), .val (.ref o_9), .val (.int v16_234), .val (.int v17_268), .unset, .unset] [(.int (own_f2 (0 : Int32) (2 : Int32) (own_rk [y33, y48, y63, y78] v6_82) (own_rk [y33, y48, y63, y78] v8_96) (1 : Int32)))])
    refine own_iconst (pc' := 281) (v := (1 : Int32)) C at_280 own_ki_1 rfl ?_
    refine own_iloadN (pc' := 282) C at_281 rfl rfl ?_
    refine own_iload (pc' := 284) C at_282 rfl rfl ?_
    refine own_iload (pc' := 286) C at_284 rfl rfl ?_
    refine own_iconst (pc' := 287) (v := (1 : Int32)) C at_286 own_ki_1 rfl ?_
    refine own_callS (pc' := 290) (wL := 1) (argsL := [(.int (1 : Int32)), (.int (2 : Int32)), (.int (own_rk [y33, y48, y63, y78] v7_89)), (.int (own_rk [y33, y48, y63, y78] v8_96)), (.int (1 : Int32))]) (rest := [(.int (own_f2 (0 : Int32) (2 : Int32) (own_rk [y33, y48, y63, y78] v6_82) (own_rk [y33, y48, y63, y78] v8_96) (1 : Int32)))]) C (own_m2 l Z a0 hw (1 : Int32) (2 : Int32) (own_rk [y33, y48, y63, y78] v7_89) (own_rk [y33, y48, y63, y78] v8_96) (1 : Int32) h9 n0 Z_) at_287 (hw _ (List.mem_of_getElem? (i := 5) rfl)) (hw _ (List.mem_of_getElem? (i := 6) rfl)) (hw _ (List.mem_of_getElem? (i := 7) rfl)) (hw _ (List.mem_of_getElem? (i := 8) rfl)) (by decide) (by decide) (by decide) rfl (lenOf pd2 rfl) rfl rfl (Nat.le_of_eq rfl) (by decide) (by decide) rfl ?_
    rintro _ _ ⟨rfl, rfl⟩
    show Wp p l e _ s m _ below meth c n0 _ h9 (((0 + 1) + 1) + 2) (((0 + 4) + 2) + 11) (mkF m 290 #[.val (.int p0), .val (.int p1), .val (.int p2), .val (.int (2 : Int32)), .val (.int v4_15), .val (.ref b1), .val (.int v6_82), .val (.int v7_89), .val (.int v8_96), .val (.int v9_104), .val (.ref b6), .val (.int (own_rk [y33, y48, y63, y78] v6_82)), .val (.int (own_rk [y33, y48, y63, y78] v7_89)), .val (.int (own_rk [y33, y48, y63, y78] v8_96)), .val (.int (own_rk [y33, y48, y63, y78] v9_104)), .val (.ref o_9), .val (.int v16_234), .val (.int v17_268), .unset, .unset] [(.int (own_f2 (1 : Int32) (2 : Int32) (own_rk [y33, y48, y63, y78] v7_89) (own_rk [y33, y48, y63, y78] v8_96) (1 : Int32))), (.int (own_f2 (0 : Int32) (2 : Int32) (own_rk [y33, y48, y63, y78] v6_82) (own_rk [y33, y48, y63, y78] v8_96) (1 : Int32)))])
    refine own_iadd (pc' := 291) C at_290 rfl rfl ?_
    refine own_iconst (pc' := 292) (v := (3 : Int32)) C at_291 own_ki_3 rfl ?_
    refine own_iloadN (pc' := 293) C at_292 rfl rfl ?_
    refine own_iload (pc' := 295) C at_293 rfl rfl ?_
    refine own_iload (pc' := 297) C at_295 rfl rfl ?_
    refine own_iconst (pc' := 298) (v := (0 : Int32)) C at_297 own_ki_0 rfl ?_
    refine own_callS (pc' := 301) (wL := 1) (argsL := [(.int (3 : Int32)), (.int (2 : Int32)), (.int (own_rk [y33, y48, y63, y78] v9_104)), (.int (own_rk [y33, y48, y63, y78] v8_96)), (.int (0 : Int32))]) (rest := [(.int ((own_f2 (0 : Int32) (2 : Int32) (own_rk [y33, y48, y63, y78] v6_82) (own_rk [y33, y48, y63, y78] v8_96) (1 : Int32)) + (own_f2 (1 : Int32) (2 : Int32) (own_rk [y33, y48, y63, y78] v7_89) (own_rk [y33, y48, y63, y78] v8_96) (1 : Int32))))]) C (own_m2 l Z a0 hw (3 : Int32) (2 : Int32) (own_rk [y33, y48, y63, y78] v9_104) (own_rk [y33, y48, y63, y78] v8_96) (0 : Int32) h9 n0 Z_) at_298 (hw _ (List.mem_of_getElem? (i := 5) rfl)) (hw _ (List.mem_of_getElem? (i := 6) rfl)) (hw _ (List.mem_of_getElem? (i := 7) rfl)) (hw _ (List.mem_of_getElem? (i := 8) rfl)) (by decide) (by decide) (by decide) rfl (lenOf pd2 rfl) rfl rfl (Nat.le_of_eq rfl) (by decide) (by decide) rfl ?_
    rintro _ _ ⟨rfl, rfl⟩
    show Wp p l e _ s m _ below meth c n0 _ h9 (((0 + 1) + 1) + 2) (((0 + 4) + 2) + 11) (mkF m 301 #[.val (.int p0), .val (.int p1), .val (.int p2), .val (.int (2 : Int32)), .val (.int v4_15), .val (.ref b1), .val (.int v6_82), .val (.int v7_89), .val (.int v8_96), .val (.int v9_104), .val (.ref b6), .val (.int (own_rk [y33, y48, y63, y78] v6_82)), .val (.int (own_rk [y33, y48, y63, y78] v7_89)), .val (.int (own_rk [y33, y48, y63, y78] v8_96)), .val (.int (own_rk [y33, y48, y63, y78] v9_104)), .val (.ref o_9), .val (.int v16_234), .val (.int v17_268), .unset, .unset] [(.int (own_f2 (3 : Int32) (2 : Int32) (own_rk [y33, y48, y63, y78] v9_104) (own_rk [y33, y48, y63, y78] v8_96) (0 : Int32))), (.int ((own_f2 (0 : Int32) (2 : Int32) (own_rk [y33, y48, y63, y78] v6_82) (own_rk [y33, y48, y63, y78] v8_96) (1 : Int32)) + (own_f2 (1 : Int32) (2 : Int32) (own_rk [y33, y48, y63, y78] v7_89) (own_rk [y33, y48, y63, y78] v8_96) (1 : Int32))))])
    refine own_iadd (pc' := 302) C at_301 rfl rfl ?_
    obtain ⟨v18_302, hv18_302⟩ : ∃ z : Int32, z = (((own_f2 (0 : Int32) (2 : Int32) (own_rk [y33, y48, y63, y78] v6_82) (own_rk [y33, y48, y63, y78] v8_96) (1 : Int32)) + (own_f2 (1 : Int32) (2 : Int32) (own_rk [y33, y48, y63, y78] v7_89) (own_rk [y33, y48, y63, y78] v8_96) (1 : Int32))) + (own_f2 (3 : Int32) (2 : Int32) (own_rk [y33, y48, y63, y78] v9_104) (own_rk [y33, y48, y63, y78] v8_96) (0 : Int32))) := ⟨_, rfl⟩
    refine own_istore (pc' := 304) (y := v18_302) (Ls' := #[.val (.int p0), .val (.int p1), .val (.int p2), .val (.int (2 : Int32)), .val (.int v4_15), .val (.ref b1), .val (.int v6_82), .val (.int v7_89), .val (.int v8_96), .val (.int v9_104), .val (.ref b6), .val (.int (own_rk [y33, y48, y63, y78] v6_82)), .val (.int (own_rk [y33, y48, y63, y78] v7_89)), .val (.int (own_rk [y33, y48, y63, y78] v8_96)), .val (.int (own_rk [y33, y48, y63, y78] v9_104)), .val (.ref o_9), .val (.int v16_234), .val (.int v17_268), .val (.int v18_302), .unset]) C at_302 hv18_302.symm rfl rfl ?_
    refine own_iconst (pc' := 305) (v := (0 : Int32)) C at_304 own_ki_0 rfl ?_
    refine own_iloadN (pc' := 306) C at_305 rfl rfl ?_
    refine own_iload (pc' := 308) C at_306 rfl rfl ?_
    refine own_iload (pc' := 310) C at_308 rfl rfl ?_
    refine own_iconst (pc' := 311) (v := (1 : Int32)) C at_310 own_ki_1 rfl ?_
    refine own_callS (pc' := 314) (wL := 0) (argsL := [(.int (0 : Int32)), (.int (2 : Int32)), (.int (own_rk [y33, y48, y63, y78] v6_82)), (.int (own_rk [y33, y48, y63, y78] v9_104)), (.int (1 : Int32))]) (rest := []) C (own_m2 l Z a0 hw (0 : Int32) (2 : Int32) (own_rk [y33, y48, y63, y78] v6_82) (own_rk [y33, y48, y63, y78] v9_104) (1 : Int32) h9 n0 Z_) at_311 (hw _ (List.mem_of_getElem? (i := 5) rfl)) (hw _ (List.mem_of_getElem? (i := 6) rfl)) (hw _ (List.mem_of_getElem? (i := 7) rfl)) (hw _ (List.mem_of_getElem? (i := 8) rfl)) (by decide) (by decide) (by decide) rfl (lenOf pd2 rfl) rfl rfl (Nat.le_of_eq rfl) (by decide) (by decide) rfl ?_
    rintro _ _ ⟨rfl, rfl⟩
    show Wp p l e _ s m _ below meth c n0 _ h9 (((0 + 1) + 1) + 2) (((0 + 4) + 2) + 11) (mkF m 314 #[.val (.int p0), .val (.int p1), .val (.int p2), .val (.int (2 : Int32)), .val (.int v4_15), .val (.ref b1), .val (.int v6_82), .val (.int v7_89), .val (.int v8_96), .val (.int v9_104), .val (.ref b6), .val (.int (own_rk [y33, y48, y63, y78] v6_82)), .val (.int (own_rk [y33, y48, y63, y78] v7_89)), .val (.int (own_rk [y33, y48, y63, y78] v8_96)), .val (.int (own_rk [y33, y48, y63, y78] v9_104)), .val (.ref o_9), .val (.int v16_234), .val (.int v17_268), .val (.int v18_302), .unset] [(.int (own_f2 (0 : Int32) (2 : Int32) (own_rk [y33, y48, y63, y78] v6_82) (own_rk [y33, y48, y63, y78] v9_104) (1 : Int32)))])
    refine own_iconst (pc' := 315) (v := (1 : Int32)) C at_314 own_ki_1 rfl ?_
    refine own_iloadN (pc' := 316) C at_315 rfl rfl ?_
    refine own_iload (pc' := 318) C at_316 rfl rfl ?_
    refine own_iload (pc' := 320) C at_318 rfl rfl ?_
    refine own_iconst (pc' := 321) (v := (1 : Int32)) C at_320 own_ki_1 rfl ?_
    refine own_callS (pc' := 324) (wL := 1) (argsL := [(.int (1 : Int32)), (.int (2 : Int32)), (.int (own_rk [y33, y48, y63, y78] v7_89)), (.int (own_rk [y33, y48, y63, y78] v9_104)), (.int (1 : Int32))]) (rest := [(.int (own_f2 (0 : Int32) (2 : Int32) (own_rk [y33, y48, y63, y78] v6_82) (own_rk [y33, y48, y63, y78] v9_104) (1 : Int32)))]) C (own_m2 l Z a0 hw (1 : Int32) (2 : Int32) (own_rk [y33, y48, y63, y78] v7_89) (own_rk [y33, y48, y63, y78] v9_104) (1 : Int32) h9 n0 Z_) at_321 (hw _ (List.mem_of_getElem? (i := 5) rfl)) (hw _ (List.mem_of_getElem? (i := 6) rfl)) (hw _ (List.mem_of_getElem? (i := 7) rfl)) (hw _ (List.mem_of_getElem? (i := 8) rfl)) (by decide) (by decide) (by decide) rfl (lenOf pd2 rfl) rfl rfl (Nat.le_of_eq rfl) (by decide) (by decide) rfl ?_
    rintro _ _ ⟨rfl, rfl⟩
    show Wp p l e _ s m _ below meth c n0 _ h9 (((0 + 1) + 1) + 2) (((0 + 4) + 2) + 11) (mkF m 324 #[.val (.int p0), .val (.int p1), .val (.int p2), .val (.int (2 : Int32)), .val (.int v4_15), .val (.ref b1), .val (.int v6_82), .val (.int v7_89), .val (.int v8_96), .val (.int v9_104), .val (.ref b6), .val (.int (own_rk [y33, y48, y63, y78] v6_82)), .val (.int (own_rk [y33, y48, y63, y78] v7_89)), .val (.int (own_rk [y33, y48, y63, y78] v8_96)), .val (.int (own_rk [y33, y48, y63, y78] v9_104)), .val (.ref o_9), .val (.int v16_234), .val (.int v17_268), .val (.int v18_302), .unset] [(.int (own_f2 (1 : Int32) (2 : Int32) (own_rk [y33, y48, y63, y78] v7_89) (own_rk [y33, y48, y63, y78] v9_104) (1 : Int32))), (.int (own_f2 (0 : Int32) (2 : Int32) (own_rk [y33, y48, y63, y78] v6_82) (own_rk [y33, y48, y63, y78] v9_104) (1 : Int32)))])
    refine own_iadd (pc' := 325) C at_324 rfl rfl ?_
    refine own_iconst (pc' := 326) (v := (2 : Int32)) C at_325 own_ki_2 rfl ?_
    refine own_iloadN (pc' := 327) C at_326 rfl rfl ?_
    refine own_iload (pc' := 329) C at_327 rfl rfl ?_
    refine own_iload (pc' := 331) C at_329 rfl rfl ?_
    refine own_iconst (pc' := 332) (v := (1 : Int32)) C at_331 own_ki_1 rfl ?_
    refine own_callS (pc' := 335) (wL := 1) (argsL := [(.int (2 : Int32)), (.int (2 : Int32)), (.int (own_rk [y33, y48, y63, y78] v8_96)), (.int (own_rk [y33, y48, y63, y78] v9_104)), (.int (1 : Int32))]) (rest := [(.int ((own_f2 (0 : Int32) (2 : Int32) (own_rk [y33, y48, y63, y78] v6_82) (own_rk [y33, y48, y63, y78] v9_104) (1 : Int32)) + (own_f2 (1 : Int32) (2 : Int32) (own_rk [y33, y48, y63, y78] v7_89) (own_rk [y33, y48, y63, y78] v9_104) (1 : Int32))))]) C (own_m2 l Z a0 hw (2 : Int32) (2 : Int32) (own_rk [y33, y48, y63, y78] v8_96) (own_rk [y33, y48, y63, y78] v9_104) (1 : Int32) h9 n0 Z_) at_332 (hw _ (List.mem_of_getElem? (i := 5) rfl)) (hw _ (List.mem_of_getElem? (i := 6) rfl)) (hw _ (List.mem_of_getElem? (i := 7) rfl)) (hw _ (List.mem_of_getElem? (i := 8) rfl)) (by decide) (by decide) (by decide) rfl (lenOf pd2 rfl) rfl rfl (Nat.le_of_eq rfl) (by decide) (by decide) rfl ?_
    rintro _ _ ⟨rfl, rfl⟩
    show Wp p l e _ s m _ below meth c n0 _ h9 (((0 + 1) + 1) + 2) (((0 + 4) + 2) + 11) (mkF m 335 #[.val (.int p0), .val (.int p1), .val (.int p2), .val (.int (2 : Int32)), .val (.int v4_15), .val (.ref b1), .val (.int v6_82), .val (.int v7_89), .val (.int v8_96), .val (.int v9_104), .val (.ref b6), .val (.int (own_rk [y33, y48, y63, y78] v6_82)), .val (.int (own_rk [y33, y48, y63, y78] v7_89)), .val (.int (own_rk [y33, y48, y63, y78] v8_96)), .val (.int (own_rk [y33, y48, y63, y78] v9_104)), .val (.ref o_9), .val (.int v16_234), .val (.int v17_268), .val (.int v18_302), .unset] [(.int (own_f2 (2 : Int32) (2 : Int32) (own_rk [y33, y48, y63, y78] v8_96) (own_rk [y33, y48, y63, y78] v9_104) (1 : Int32))), (.int ((own_f2 (0 : Int32) (2 : Int32) (own_rk [y33, y48, y63, y78] v6_82) (own_rk [y33, y48, y63, y78] v9_104) (1 : Int32)) + (own_f2 (1 : Int32) (2 : Int32) (own_rk [y33, y48, y63, y78] v7_89) (own_rk [y33, y48, y63, y78] v9_104) (1 : Int32))))])
    refine own_iadd (pc' := 336) C at_335 rfl rfl ?_
    obtain ⟨v19_336, hv19_336⟩ : ∃ z : Int32, z = (((own_f2 (0 : Int32) (2 : Int32) (own_rk [y33, y48, y63, y78] v6_82) (own_rk [y33, y48, y63, y78] v9_104) (1 : Int32)) + (own_f2 (1 : Int32) (2 : Int32) (own_rk [y33, y48, y63, y78] v7_89) (own_rk [y33, y48, y63, y78] v9_104) (1 : Int32))) + (own_f2 (2 : Int32) (2 : Int32) (own_rk [y33, y48, y63, y78] v8_96) (own_rk [y33, y48, y63, y78] v9_104) (1 : Int32))) := ⟨_, rfl⟩
    refine own_istore (pc' := 338) (y := v19_336) (Ls' := #[.val (.int p0), .val (.int p1), .val (.int p2), .val (.int (2 : Int32)), .val (.int v4_15), .val (.ref b1), .val (.int v6_82), .val (.int v7_89), .val (.int v8_96), .val (.int v9_104), .val (.ref b6), .val (.int (own_rk [y33, y48, y63, y78] v6_82)), .val (.int (own_rk [y33, y48, y63, y78] v7_89)), .val (.int (own_rk [y33, y48, y63, y78] v8_96)), .val (.int (own_rk [y33, y48, y63, y78] v9_104)), .val (.ref o_9), .val (.int v16_234), .val (.int v17_268), .val (.int v18_302), .val (.int v19_336)]) C at_336 hv19_336.symm rfl rfl ?_
    refine own_iconst (pc' := 339) (v := (0 : Int32)) C at_338 own_ki_0 rfl ?_
    refine own_iloadN (pc' := 340) C at_339 rfl rfl ?_
    refine own_aload (pc' := 342) C at_340 rfl rfl rfl ?_
    refine own_iload (pc' := 344) C at_342 rfl rfl ?_
    refine own_iload (pc' := 346) C at_344 rfl rfl ?_
    refine own_callS (pc' := 349) (wL := 0) (argsL := [(.int (0 : Int32)), (.int (2 : Int32)), (.ref o_9), (.int v16_234), (.int v6_82)]) (rest := []) C (own_okk l Z a0 hw (0 : Int32) (2 : Int32) o_9 v16_234 v6_82 (([(0 : Int32), (0 : Int32)].set ((own_pre (own_inc (own_inc (fun _ => 0) ((own_rk [y33, y48, y63, y78] v6_82).toNatClampNeg + 1)) ((own_rk [y33, y48, y63, y78] v7_89).toNatClampNeg + 1))) (own_rk [y33, y48, y63, y78] v6_82).toNatClampNeg).toNatClampNeg v6_82).set ((own_inc (own_pre (own_inc (own_inc (fun _ => 0) ((own_rk [y33, y48, y63, y78] v6_82).toNatClampNeg + 1)) ((own_rk [y33, y48, y63, y78] v7_89).toNatClampNeg + 1))) (own_rk [y33, y48, y63, y78] v6_82).toNatClampNeg) (own_rk [y33, y48, y63, y78] v7_89).toNatClampNeg).toNatClampNeg v7_89) h9 n0 Z_ A_o_9 (by rw [hv16_234]; exact own_qn _ _ _ (own_c01 _ _ _ _ _) (own_c01 _ _ _ _ _) (own_c01 _ _ _ _ _)) (own_ltn (by rw [hv16_234]; exact own_qn _ _ _ (own_c01 _ _ _ _ _) (own_c01 _ _ _ _ _) (own_c01 _ _ _ _ _)) (by first | (simp; done) | rfl | (simp; rfl)))) at_346 (hw _ (List.mem_of_getElem? (i := 9) rfl)) (hw _ (List.mem_of_getElem? (i := 10) rfl)) (hw _ (List.mem_of_getElem? (i := 7) rfl)) (hw _ (List.mem_of_getElem? (i := 11) rfl)) (by decide) (by decide) (by decide) rfl (lenOf pd3 rfl) rfl rfl (Nat.le_of_eq rfl) (by decide) (by decide) rfl ?_
    rintro _ _ ⟨rfl, rfl⟩
    rw [show (own_ok (([(0 : Int32), (0 : Int32)].set ((own_pre (own_inc (own_inc (fun _ => 0) ((own_rk [y33, y48, y63, y78] v6_82).toNatClampNeg + 1)) ((own_rk [y33, y48, y63, y78] v7_89).toNatClampNeg + 1))) (own_rk [y33, y48, y63, y78] v6_82).toNatClampNeg).toNatClampNeg v6_82).set ((own_inc (own_pre (own_inc (own_inc (fun _ => 0) ((own_rk [y33, y48, y63, y78] v6_82).toNatClampNeg + 1)) ((own_rk [y33, y48, y63, y78] v7_89).toNatClampNeg + 1))) (own_rk [y33, y48, y63, y78] v6_82).toNatClampNeg) (own_rk [y33, y48, y63, y78] v7_89).toNatClampNeg).toNatClampNeg v7_89) (0 : Int32) (2 : Int32) v16_234 v6_82) = 1 from by rw [hv16_234]; exact FIN.2.2.1]
    show Wp p l e _ s m _ below meth c n0 _ h9 (((0 + 1) + 1) + 2) (((0 + 4) + 2) + 11) (mkF m 349 #[.val (.int p0), .val (.int p1), .val (.int p2), .val (.int (2 : Int32)), .val (.int v4_15), .val (.ref b1), .val (.int v6_82), .val (.int v7_89), .val (.int v8_96), .val (.int v9_104), .val (.ref b6), .val (.int (own_rk [y33, y48, y63, y78] v6_82)), .val (.int (own_rk [y33, y48, y63, y78] v7_89)), .val (.int (own_rk [y33, y48, y63, y78] v8_96)), .val (.int (own_rk [y33, y48, y63, y78] v9_104)), .val (.ref o_9), .val (.int v16_234), .val (.int v17_268), .val (.int v18_302), .val (.int v19_336)] [(.int (1 : Int32))])
    refine own_if_eq (pt := 398) (pf := 352) C at_349 (by decide) (by decide) rfl (fun q => absurd q (by decide)) (fun _ => ?_)
    refine own_iconst (pc' := 353) (v := (1 : Int32)) C at_352 own_ki_1 rfl ?_
    refine own_iloadN (pc' := 354) C at_353 rfl rfl ?_
    refine own_aload (pc' := 356) C at_354 rfl rfl rfl ?_
    refine own_iload (pc' := 358) C at_356 rfl rfl ?_
    refine own_iload (pc' := 360) C at_358 rfl rfl ?_
    refine own_callS (pc' := 363) (wL := 0) (argsL := [(.int (1 : Int32)), (.int (2 : Int32)), (.ref o_9), (.int v17_268), (.int v7_89)]) (rest := []) C (own_okk l Z a0 hw (1 : Int32) (2 : Int32) o_9 v17_268 v7_89 (([(0 : Int32), (0 : Int32)].set ((own_pre (own_inc (own_inc (fun _ => 0) ((own_rk [y33, y48, y63, y78] v6_82).toNatClampNeg + 1)) ((own_rk [y33, y48, y63, y78] v7_89).toNatClampNeg + 1))) (own_rk [y33, y48, y63, y78] v6_82).toNatClampNeg).toNatClampNeg v6_82).set ((own_inc (own_pre (own_inc (own_inc (fun _ => 0) ((own_rk [y33, y48, y63, y78] v6_82).toNatClampNeg + 1)) ((own_rk [y33, y48, y63, y78] v7_89).toNatClampNeg + 1))) (own_rk [y33, y48, y63, y78] v6_82).toNatClampNeg) (own_rk [y33, y48, y63, y78] v7_89).toNatClampNeg).toNatClampNeg v7_89) h9 n0 Z_ A_o_9 (by rw [hv17_268]; exact own_qn _ _ _ (own_c01 _ _ _ _ _) (own_c01 _ _ _ _ _) (own_c01 _ _ _ _ _)) (own_ltn (by rw [hv17_268]; exact own_qn _ _ _ (own_c01 _ _ _ _ _) (own_c01 _ _ _ _ _) (own_c01 _ _ _ _ _)) (by first | (simp; done) | rfl | (simp; rfl)))) at_360 (hw _ (List.mem_of_getElem? (i := 9) rfl)) (hw _ (List.mem_of_getElem? (i := 10) rfl)) (hw _ (List.mem_of_getElem? (i := 7) rfl)) (hw _ (List.mem_of_getElem? (i := 11) rfl)) (by decide) (by decide) (by decide) rfl (lenOf pd3 rfl) rfl rfl (Nat.le_of_eq rfl) (by decide) (by decide) rfl ?_
    rintro _ _ ⟨rfl, rfl⟩
    rw [show (own_ok (([(0 : Int32), (0 : Int32)].set ((own_pre (own_inc (own_inc (fun _ => 0) ((own_rk [y33, y48, y63, y78] v6_82).toNatClampNeg + 1)) ((own_rk [y33, y48, y63, y78] v7_89).toNatClampNeg + 1))) (own_rk [y33, y48, y63, y78] v6_82).toNatClampNeg).toNatClampNeg v6_82).set ((own_inc (own_pre (own_inc (own_inc (fun _ => 0) ((own_rk [y33, y48, y63, y78] v6_82).toNatClampNeg + 1)) ((own_rk [y33, y48, y63, y78] v7_89).toNatClampNeg + 1))) (own_rk [y33, y48, y63, y78] v6_82).toNatClampNeg) (own_rk [y33, y48, y63, y78] v7_89).toNatClampNeg).toNatClampNeg v7_89) (1 : Int32) (2 : Int32) v17_268 v7_89) = 1 from by rw [hv17_268]; exact FIN.2.2.2]
    show Wp p l e _ s m _ below meth c n0 _ h9 (((0 + 1) + 1) + 2) (((0 + 4) + 2) + 11) (mkF m 363 #[.val (.int p0), .val (.int p1), .val (.int p2), .val (.int (2 : Int32)), .val (.int v4_15), .val (.ref b1), .val (.int v6_82), .val (.int v7_89), .val (.int v8_96), .val (.int v9_104), .val (.ref b6), .val (.int (own_rk [y33, y48, y63, y78] v6_82)), .val (.int (own_rk [y33, y48, y63, y78] v7_89)), .val (.int (own_rk [y33, y48, y63, y78] v8_96)), .val (.int (own_rk [y33, y48, y63, y78] v9_104)), .val (.ref o_9), .val (.int v16_234), .val (.int v17_268), .val (.int v18_302), .val (.int v19_336)] [(.int (1 : Int32))])
    refine own_if_eq (pt := 398) (pf := 366) C at_363 (by decide) (by decide) rfl (fun q => absurd q (by decide)) (fun _ => ?_)
    refine own_iconst (pc' := 367) (v := (2 : Int32)) C at_366 own_ki_2 rfl ?_
    refine own_iloadN (pc' := 368) C at_367 rfl rfl ?_
    refine own_aload (pc' := 370) C at_368 rfl rfl rfl ?_
    refine own_iload (pc' := 372) C at_370 rfl rfl ?_
    refine own_iload (pc' := 374) C at_372 rfl rfl ?_
    refine own_callS (pc' := 377) (wL := 0) (argsL := [(.int (2 : Int32)), (.int (2 : Int32)), (.ref o_9), (.int v18_302), (.int v8_96)]) (rest := []) C (own_okk l Z a0 hw (2 : Int32) (2 : Int32) o_9 v18_302 v8_96 (([(0 : Int32), (0 : Int32)].set ((own_pre (own_inc (own_inc (fun _ => 0) ((own_rk [y33, y48, y63, y78] v6_82).toNatClampNeg + 1)) ((own_rk [y33, y48, y63, y78] v7_89).toNatClampNeg + 1))) (own_rk [y33, y48, y63, y78] v6_82).toNatClampNeg).toNatClampNeg v6_82).set ((own_inc (own_pre (own_inc (own_inc (fun _ => 0) ((own_rk [y33, y48, y63, y78] v6_82).toNatClampNeg + 1)) ((own_rk [y33, y48, y63, y78] v7_89).toNatClampNeg + 1))) (own_rk [y33, y48, y63, y78] v6_82).toNatClampNeg) (own_rk [y33, y48, y63, y78] v7_89).toNatClampNeg).toNatClampNeg v7_89) h9 n0 Z_ A_o_9 (by rw [hv18_302]; exact own_qn _ _ _ (own_c01 _ _ _ _ _) (own_c01 _ _ _ _ _) (own_c01 _ _ _ _ _)) (own_ltn (by rw [hv18_302]; exact own_qn _ _ _ (own_c01 _ _ _ _ _) (own_c01 _ _ _ _ _) (own_c01 _ _ _ _ _)) (by first | (simp; done) | rfl | (simp; rfl)))) at_374 (hw _ (List.mem_of_getElem? (i := 9) rfl)) (hw _ (List.mem_of_getElem? (i := 10) rfl)) (hw _ (List.mem_of_getElem? (i := 7) rfl)) (hw _ (List.mem_of_getElem? (i := 11) rfl)) (by decide) (by decide) (by decide) rfl (lenOf pd3 rfl) rfl rfl (Nat.le_of_eq rfl) (by decide) (by decide) rfl ?_
    rintro _ _ ⟨rfl, rfl⟩
    rw [show (own_ok (([(0 : Int32), (0 : Int32)].set ((own_pre (own_inc (own_inc (fun _ => 0) ((own_rk [y33, y48, y63, y78] v6_82).toNatClampNeg + 1)) ((own_rk [y33, y48, y63, y78] v7_89).toNatClampNeg + 1))) (own_rk [y33, y48, y63, y78] v6_82).toNatClampNeg).toNatClampNeg v6_82).set ((own_inc (own_pre (own_inc (own_inc (fun _ => 0) ((own_rk [y33, y48, y63, y78] v6_82).toNatClampNeg + 1)) ((own_rk [y33, y48, y63, y78] v7_89).toNatClampNeg + 1))) (own_rk [y33, y48, y63, y78] v6_82).toNatClampNeg) (own_rk [y33, y48, y63, y78] v7_89).toNatClampNeg).toNatClampNeg v7_89) (2 : Int32) (2 : Int32) v18_302 v8_96) = 1 from by rw [own_ok, if_neg (by decide)]]
    show Wp p l e _ s m _ below meth c n0 _ h9 (((0 + 1) + 1) + 2) (((0 + 4) + 2) + 11) (mkF m 377 #[.val (.int p0), .val (.int p1), .val (.int p2), .val (.int (2 : Int32)), .val (.int v4_15), .val (.ref b1), .val (.int v6_82), .val (.int v7_89), .val (.int v8_96), .val (.int v9_104), .val (.ref b6), .val (.int (own_rk [y33, y48, y63, y78] v6_82)), .val (.int (own_rk [y33, y48, y63, y78] v7_89)), .val (.int (own_rk [y33, y48, y63, y78] v8_96)), .val (.int (own_rk [y33, y48, y63, y78] v9_104)), .val (.ref o_9), .val (.int v16_234), .val (.int v17_268), .val (.int v18_302), .val (.int v19_336)] [(.int (1 : Int32))])
    refine own_if_eq (pt := 398) (pf := 380) C at_377 (by decide) (by decide) rfl (fun q => absurd q (by decide)) (fun _ => ?_)
    refine own_iconst (pc' := 381) (v := (3 : Int32)) C at_380 own_ki_3 rfl ?_
    refine own_iloadN (pc' := 382) C at_381 rfl rfl ?_
    refine own_aload (pc' := 384) C at_382 rfl rfl rfl ?_
    refine own_iload (pc' := 386) C at_384 rfl rfl ?_
    refine own_iload (pc' := 388) C at_386 rfl rfl ?_
    refine own_callS (pc' := 391) (wL := 0) (argsL := [(.int (3 : Int32)), (.int (2 : Int32)), (.ref o_9), (.int v19_336), (.int v9_104)]) (rest := []) C (own_okk l Z a0 hw (3 : Int32) (2 : Int32) o_9 v19_336 v9_104 (([(0 : Int32), (0 : Int32)].set ((own_pre (own_inc (own_inc (fun _ => 0) ((own_rk [y33, y48, y63, y78] v6_82).toNatClampNeg + 1)) ((own_rk [y33, y48, y63, y78] v7_89).toNatClampNeg + 1))) (own_rk [y33, y48, y63, y78] v6_82).toNatClampNeg).toNatClampNeg v6_82).set ((own_inc (own_pre (own_inc (own_inc (fun _ => 0) ((own_rk [y33, y48, y63, y78] v6_82).toNatClampNeg + 1)) ((own_rk [y33, y48, y63, y78] v7_89).toNatClampNeg + 1))) (own_rk [y33, y48, y63, y78] v6_82).toNatClampNeg) (own_rk [y33, y48, y63, y78] v7_89).toNatClampNeg).toNatClampNeg v7_89) h9 n0 Z_ A_o_9 (by rw [hv19_336]; exact own_qn _ _ _ (own_c01 _ _ _ _ _) (own_c01 _ _ _ _ _) (own_c01 _ _ _ _ _)) (own_ltn (by rw [hv19_336]; exact own_qn _ _ _ (own_c01 _ _ _ _ _) (own_c01 _ _ _ _ _) (own_c01 _ _ _ _ _)) (by first | (simp; done) | rfl | (simp; rfl)))) at_388 (hw _ (List.mem_of_getElem? (i := 9) rfl)) (hw _ (List.mem_of_getElem? (i := 10) rfl)) (hw _ (List.mem_of_getElem? (i := 7) rfl)) (hw _ (List.mem_of_getElem? (i := 11) rfl)) (by decide) (by decide) (by decide) rfl (lenOf pd3 rfl) rfl rfl (Nat.le_of_eq rfl) (by decide) (by decide) rfl ?_
    rintro _ _ ⟨rfl, rfl⟩
    rw [show (own_ok (([(0 : Int32), (0 : Int32)].set ((own_pre (own_inc (own_inc (fun _ => 0) ((own_rk [y33, y48, y63, y78] v6_82).toNatClampNeg + 1)) ((own_rk [y33, y48, y63, y78] v7_89).toNatClampNeg + 1))) (own_rk [y33, y48, y63, y78] v6_82).toNatClampNeg).toNatClampNeg v6_82).set ((own_inc (own_pre (own_inc (own_inc (fun _ => 0) ((own_rk [y33, y48, y63, y78] v6_82).toNatClampNeg + 1)) ((own_rk [y33, y48, y63, y78] v7_89).toNatClampNeg + 1))) (own_rk [y33, y48, y63, y78] v6_82).toNatClampNeg) (own_rk [y33, y48, y63, y78] v7_89).toNatClampNeg).toNatClampNeg v7_89) (3 : Int32) (2 : Int32) v19_336 v9_104) = 1 from by rw [own_ok, if_neg (by decide)]]
    show Wp p l e _ s m _ below meth c n0 _ h9 (((0 + 1) + 1) + 2) (((0 + 4) + 2) + 11) (mkF m 391 #[.val (.int p0), .val (.int p1), .val (.int p2), .val (.int (2 : Int32)), .val (.int v4_15), .val (.ref b1), .val (.int v6_82), .val (.int v7_89), .val (.int v8_96), .val (.int v9_104), .val (.ref b6), .val (.int (own_rk [y33, y48, y63, y78] v6_82)), .val (.int (own_rk [y33, y48, y63, y78] v7_89)), .val (.int (own_rk [y33, y48, y63, y78] v8_96)), .val (.int (own_rk [y33, y48, y63, y78] v9_104)), .val (.ref o_9), .val (.int v16_234), .val (.int v17_268), .val (.int v18_302), .val (.int v19_336)] [(.int (1 : Int32))])
    refine own_if_eq (pt := 398) (pf := 394) C at_391 (by decide) (by decide) rfl (fun q => absurd q (by decide)) (fun _ => ?_)
    refine own_iconst (pc' := 395) (v := (1 : Int32)) C at_394 own_ki_1 rfl ?_
    refine own_goto (pc' := 399) C at_395 (by decide) (by decide) ?_
    refine own_zret C at_399 (by decide) (by decide) (Or.inr rfl) ?_
    exact rfl
  · subst q
    refine own_iconst (pc' := 8) (v := (1 : Int32)) C at_7 own_ki_1 rfl ?_
    refine own_iloadN (pc' := 9) C at_8 rfl rfl ?_
    refine own_iconst (pc' := 10) (v := (3 : Int32)) C at_9 own_ki_3 rfl ?_
    refine own_iushr (pc' := 11) (v := (p0.toUInt32 >>> (3 : UInt32)).toInt32) C at_10 (own_siushr_3 _) rfl ?_
    refine own_bipush (pc' := 13) (v := (7 : Int32)) C at_11 own_kb_7 rfl ?_
    refine own_iand (pc' := 14) C at_13 rfl rfl ?_
    refine own_iadd (pc' := 15) C at_14 rfl rfl ?_
    obtain ⟨v4_15, hv4_15⟩ : ∃ z : Int32, z = ((1 : Int32) + ((p0.toUInt32 >>> (3 : UInt32)).toInt32 &&& (7 : Int32))) := ⟨_, rfl⟩
    refine own_istore (pc' := 17) (y := v4_15) (Ls' := #[.val (.int p0), .val (.int p1), .val (.int p2), .val (.int (3 : Int32)), .val (.int v4_15), .unset, .unset, .unset, .unset, .unset, .unset, .unset, .unset, .unset, .unset, .unset, .unset, .unset, .unset, .unset]) C at_15 hv4_15.symm rfl rfl ?_
    refine own_iconst (pc' := 18) (v := (4 : Int32)) C at_17 own_ki_4 rfl ?_
    refine own_newI (pc' := 20) (len := 4) (cap := 4) C at_18 rfl rfl (hw _ (List.mem_of_getElem? (i := 0) rfl)) (by decide) rfl (by decide) (by decide) (by decide) (by decide) rfl ?_
    intro h1 b1 g1 X1 A_b1
    have g_b1 : n0 ≤ b1 := g1 ▸ Z_
    replace Z_ := Nat.le_trans Z_ X1.1
    replace A_b1 : AI Z h1 b1 .int [(0 : Int32), (0 : Int32), (0 : Int32), (0 : Int32)] := A_b1
    refine own_astore (pc' := 22) (Ls' := #[.val (.int p0), .val (.int p1), .val (.int p2), .val (.int (3 : Int32)), .val (.int v4_15), .val (.ref b1), .unset, .unset, .unset, .unset, .unset, .unset, .unset, .unset, .unset, .unset, .unset, .unset, .unset, .unset]) C at_20 rfl rfl rfl ?_
    refine own_aload (pc' := 24) C at_22 rfl rfl rfl ?_
    refine own_iconst (pc' := 25) (v := (0 : Int32)) C at_24 own_ki_0 rfl ?_
    refine own_iloadN (pc' := 26) C at_25 rfl rfl ?_
    refine own_sipush (pc' := 29) (v := (255 : Int32)) C at_26 own_ks_255 rfl ?_
    refine own_iand (pc' := 30) C at_29 rfl rfl ?_
    refine own_iload (pc' := 32) C at_30 rfl rfl ?_
    refine own_irem (pc' := 33) C at_32 (own_kne (own_keys hv4_15)) rfl rfl ?_
    obtain ⟨y33, hy33⟩ : ∃ z : Int32, z = ((p1 &&& (255 : Int32)) % v4_15) := ⟨_, rfl⟩
    refine own_iastore (pc' := 34) (i := 0) (ys := [y33, (0 : Int32), (0 : Int32), (0 : Int32)]) C at_33 A_b1 (by decide) rfl (Nat.le_of_ble_eq_true rfl) (by rw [hy33]; rfl) g_b1 rfl ?_
    intro h2 W2 A2_
    replace A_b1 := A2_
    replace Z_ : n0 ≤ _ := Nat.le_trans Z_ (Nat.le_of_eq W2.size.symm)
    refine own_aload (pc' := 36) C at_34 rfl rfl rfl ?_
    refine own_iconst (pc' := 37) (v := (1 : Int32)) C at_36 own_ki_1 rfl ?_
    refine own_iloadN (pc' := 38) C at_37 rfl rfl ?_
    refine own_bipush (pc' := 40) (v := (8 : Int32)) C at_38 own_kb_8 rfl ?_
    refine own_iushr (pc' := 41) (v := (p1.toUInt32 >>> (8 : UInt32)).toInt32) C at_40 (own_siushr_8 _) rfl ?_
    refine own_sipush (pc' := 44) (v := (255 : Int32)) C at_41 own_ks_255 rfl ?_
    refine own_iand (pc' := 45) C at_44 rfl rfl ?_
    refine own_iload (pc' := 47) C at_45 rfl rfl ?_
    refine own_irem (pc' := 48) C at_47 (own_kne (own_keys hv4_15)) rfl rfl ?_
    obtain ⟨y48, hy48⟩ : ∃ z : Int32, z = (((p1.toUInt32 >>> (8 : UInt32)).toInt32 &&& (255 : Int32)) % v4_15) := ⟨_, rfl⟩
    refine own_iastore (pc' := 49) (i := 1) (ys := [y33, y48, (0 : Int32), (0 : Int32)]) C at_48 A_b1 (by decide) rfl (Nat.le_of_ble_eq_true rfl) (by rw [hy48]; rfl) g_b1 rfl ?_
    intro h3 W3 A3_
    replace A_b1 := A3_
    replace Z_ : n0 ≤ _ := Nat.le_trans Z_ (Nat.le_of_eq W3.size.symm)
    refine own_aload (pc' := 51) C at_49 rfl rfl rfl ?_
    refine own_iconst (pc' := 52) (v := (2 : Int32)) C at_51 own_ki_2 rfl ?_
    refine own_iloadN (pc' := 53) C at_52 rfl rfl ?_
    refine own_bipush (pc' := 55) (v := (16 : Int32)) C at_53 own_kb_16 rfl ?_
    refine own_iushr (pc' := 56) (v := (p1.toUInt32 >>> (16 : UInt32)).toInt32) C at_55 (own_siushr_16 _) rfl ?_
    refine own_sipush (pc' := 59) (v := (255 : Int32)) C at_56 own_ks_255 rfl ?_
    refine own_iand (pc' := 60) C at_59 rfl rfl ?_
    refine own_iload (pc' := 62) C at_60 rfl rfl ?_
    refine own_irem (pc' := 63) C at_62 (own_kne (own_keys hv4_15)) rfl rfl ?_
    obtain ⟨y63, hy63⟩ : ∃ z : Int32, z = (((p1.toUInt32 >>> (16 : UInt32)).toInt32 &&& (255 : Int32)) % v4_15) := ⟨_, rfl⟩
    refine own_iastore (pc' := 64) (i := 2) (ys := [y33, y48, y63, (0 : Int32)]) C at_63 A_b1 (by decide) rfl (Nat.le_of_ble_eq_true rfl) (by rw [hy63]; rfl) g_b1 rfl ?_
    intro h4 W4 A4_
    replace A_b1 := A4_
    replace Z_ : n0 ≤ _ := Nat.le_trans Z_ (Nat.le_of_eq W4.size.symm)
    refine own_aload (pc' := 66) C at_64 rfl rfl rfl ?_
    refine own_iconst (pc' := 67) (v := (3 : Int32)) C at_66 own_ki_3 rfl ?_
    refine own_iloadN (pc' := 68) C at_67 rfl rfl ?_
    refine own_bipush (pc' := 70) (v := (24 : Int32)) C at_68 own_kb_24 rfl ?_
    refine own_iushr (pc' := 71) (v := (p1.toUInt32 >>> (24 : UInt32)).toInt32) C at_70 (own_siushr_24 _) rfl ?_
    refine own_sipush (pc' := 74) (v := (255 : Int32)) C at_71 own_ks_255 rfl ?_
    refine own_iand (pc' := 75) C at_74 rfl rfl ?_
    refine own_iload (pc' := 77) C at_75 rfl rfl ?_
    refine own_irem (pc' := 78) C at_77 (own_kne (own_keys hv4_15)) rfl rfl ?_
    obtain ⟨y78, hy78⟩ : ∃ z : Int32, z = (((p1.toUInt32 >>> (24 : UInt32)).toInt32 &&& (255 : Int32)) % v4_15) := ⟨_, rfl⟩
    refine own_iastore (pc' := 79) (i := 3) (ys := [y33, y48, y63, y78]) C at_78 A_b1 (by decide) rfl (Nat.le_of_ble_eq_true rfl) (by rw [hy78]; rfl) g_b1 rfl ?_
    intro h5 W5 A5_
    replace A_b1 := A5_
    replace Z_ : n0 ≤ _ := Nat.le_trans Z_ (Nat.le_of_eq W5.size.symm)
    refine own_iloadN (pc' := 80) C at_79 rfl rfl ?_
    refine own_iconst (pc' := 81) (v := (3 : Int32)) C at_80 own_ki_3 rfl ?_
    refine own_iand (pc' := 82) C at_81 rfl rfl ?_
    obtain ⟨v6_82, hv6_82⟩ : ∃ z : Int32, z = (p2 &&& (3 : Int32)) := ⟨_, rfl⟩
    refine own_istore (pc' := 84) (y := v6_82) (Ls' := #[.val (.int p0), .val (.int p1), .val (.int p2), .val (.int (3 : Int32)), .val (.int v4_15), .val (.ref b1), .val (.int v6_82), .unset, .unset, .unset, .unset, .unset, .unset, .unset, .unset, .unset, .unset, .unset, .unset, .unset]) C at_82 hv6_82.symm rfl rfl ?_
    refine own_iloadN (pc' := 85) C at_84 rfl rfl ?_
    refine own_iconst (pc' := 86) (v := (2 : Int32)) C at_85 own_ki_2 rfl ?_
    refine own_iushr (pc' := 87) (v := (p2.toUInt32 >>> (2 : UInt32)).toInt32) C at_86 (own_siushr_2 _) rfl ?_
    refine own_iconst (pc' := 88) (v := (3 : Int32)) C at_87 own_ki_3 rfl ?_
    refine own_iand (pc' := 89) C at_88 rfl rfl ?_
    obtain ⟨v7_89, hv7_89⟩ : ∃ z : Int32, z = ((p2.toUInt32 >>> (2 : UInt32)).toInt32 &&& (3 : Int32)) := ⟨_, rfl⟩
    refine own_istore (pc' := 91) (y := v7_89) (Ls' := #[.val (.int p0), .val (.int p1), .val (.int p2), .val (.int (3 : Int32)), .val (.int v4_15), .val (.ref b1), .val (.int v6_82), .val (.int v7_89), .unset, .unset, .unset, .unset, .unset, .unset, .unset, .unset, .unset, .unset, .unset, .unset]) C at_89 hv7_89.symm rfl rfl ?_
    refine own_iloadN (pc' := 92) C at_91 rfl rfl ?_
    refine own_iconst (pc' := 93) (v := (4 : Int32)) C at_92 own_ki_4 rfl ?_
    refine own_iushr (pc' := 94) (v := (p2.toUInt32 >>> (4 : UInt32)).toInt32) C at_93 (own_siushr_4 _) rfl ?_
    refine own_iconst (pc' := 95) (v := (3 : Int32)) C at_94 own_ki_3 rfl ?_
    refine own_iand (pc' := 96) C at_95 rfl rfl ?_
    obtain ⟨v8_96, hv8_96⟩ : ∃ z : Int32, z = ((p2.toUInt32 >>> (4 : UInt32)).toInt32 &&& (3 : Int32)) := ⟨_, rfl⟩
    refine own_istore (pc' := 98) (y := v8_96) (Ls' := #[.val (.int p0), .val (.int p1), .val (.int p2), .val (.int (3 : Int32)), .val (.int v4_15), .val (.ref b1), .val (.int v6_82), .val (.int v7_89), .val (.int v8_96), .unset, .unset, .unset, .unset, .unset, .unset, .unset, .unset, .unset, .unset, .unset]) C at_96 hv8_96.symm rfl rfl ?_
    refine own_iloadN (pc' := 99) C at_98 rfl rfl ?_
    refine own_bipush (pc' := 101) (v := (6 : Int32)) C at_99 own_kb_6 rfl ?_
    refine own_iushr (pc' := 102) (v := (p2.toUInt32 >>> (6 : UInt32)).toInt32) C at_101 (own_siushr_6 _) rfl ?_
    refine own_iconst (pc' := 103) (v := (3 : Int32)) C at_102 own_ki_3 rfl ?_
    refine own_iand (pc' := 104) C at_103 rfl rfl ?_
    obtain ⟨v9_104, hv9_104⟩ : ∃ z : Int32, z = ((p2.toUInt32 >>> (6 : UInt32)).toInt32 &&& (3 : Int32)) := ⟨_, rfl⟩
    refine own_istore (pc' := 106) (y := v9_104) (Ls' := #[.val (.int p0), .val (.int p1), .val (.int p2), .val (.int (3 : Int32)), .val (.int v4_15), .val (.ref b1), .val (.int v6_82), .val (.int v7_89), .val (.int v8_96), .val (.int v9_104), .unset, .unset, .unset, .unset, .unset, .unset, .unset, .unset, .unset, .unset]) C at_104 hv9_104.symm rfl rfl ?_
    refine own_iloadN (pc' := 107) C at_106 rfl rfl ?_
    refine own_newI (pc' := 109) (len := 3) (cap := 3) C at_107 rfl rfl (hw _ (List.mem_of_getElem? (i := 0) rfl)) (by decide) rfl (by decide) (by decide) (by decide) (by decide) rfl ?_
    intro h6 b6 g6 X6 A_b6
    have ne_b1_b6 : b1 ≠ b6 := Nat.ne_of_lt (g6 ▸ A_b1.lt)
    replace A_b1 := A_b1.ext X6
    have g_b6 : n0 ≤ b6 := g6 ▸ Z_
    replace Z_ := Nat.le_trans Z_ X6.1
    replace A_b6 : AI Z h6 b6 .int [(0 : Int32), (0 : Int32), (0 : Int32)] := A_b6
    refine own_astore (pc' := 111) (Ls' := #[.val (.int p0), .val (.int p1), .val (.int p2), .val (.int (3 : Int32)), .val (.int v4_15), .val (.ref b1), .val (.int v6_82), .val (.int v7_89), .val (.int v8_96), .val (.int v9_104), .val (.ref b6), .unset, .unset, .unset, .unset, .unset, .unset, .unset, .unset, .unset]) C at_109 rfl rfl rfl ?_
    refine own_iloadN (pc' := 112) C at_111 rfl rfl ?_
    refine own_if_le (pt := 121) (pf := 115) C at_112 (by decide) (by decide) rfl (fun q => absurd (by decide) q) (fun _ => ?_)
    refine own_aload (pc' := 117) C at_115 rfl rfl rfl ?_
    refine own_iconst (pc' := 118) (v := (0 : Int32)) C at_117 own_ki_0 rfl ?_
    refine own_iload (pc' := 120) C at_118 rfl rfl ?_
    refine own_iastore (pc' := 121) (i := 0) (ys := [v6_82, (0 : Int32), (0 : Int32)]) C at_120 A_b6 (by decide) rfl (Nat.le_of_ble_eq_true rfl) rfl g_b6 rfl ?_
    intro h7 W7 A7_
    replace A_b1 := A_b1.other W7 ne_b1_b6
    replace A_b6 := A7_
    replace Z_ : n0 ≤ _ := Nat.le_trans Z_ (Nat.le_of_eq W7.size.symm)
    refine own_iloadN (pc' := 122) C at_121 rfl rfl ?_
    refine own_iconst (pc' := 123) (v := (1 : Int32)) C at_122 own_ki_1 rfl ?_
    refine own_icmp_le (pt := 132) (pf := 126) C at_123 (by decide) (by decide) rfl (fun q => absurd (by decide) q) (fun _ => ?_)
    refine own_aload (pc' := 128) C at_126 rfl rfl rfl ?_
    refine own_iconst (pc' := 129) (v := (1 : Int32)) C at_128 own_ki_1 rfl ?_
    refine own_iload (pc' := 131) C at_129 rfl rfl ?_
    refine own_iastore (pc' := 132) (i := 1) (ys := [v6_82, v7_89, (0 : Int32)]) C at_131 A_b6 (by decide) rfl (Nat.le_of_ble_eq_true rfl) rfl g_b6 rfl ?_
    intro h8 W8 A8_
    replace A_b1 := A_b1.other W8 ne_b1_b6
    replace A_b6 := A8_
    replace Z_ : n0 ≤ _ := Nat.le_trans Z_ (Nat.le_of_eq W8.size.symm)
    refine own_iloadN (pc' := 133) C at_132 rfl rfl ?_
    refine own_iconst (pc' := 134) (v := (2 : Int32)) C at_133 own_ki_2 rfl ?_
    refine own_icmp_le (pt := 143) (pf := 137) C at_134 (by decide) (by decide) rfl (fun q => absurd (by decide) q) (fun _ => ?_)
    refine own_aload (pc' := 139) C at_137 rfl rfl rfl ?_
    refine own_iconst (pc' := 140) (v := (2 : Int32)) C at_139 own_ki_2 rfl ?_
    refine own_iload (pc' := 142) C at_140 rfl rfl ?_
    refine own_iastore (pc' := 143) (i := 2) (ys := [v6_82, v7_89, v8_96]) C at_142 A_b6 (by decide) rfl (Nat.le_of_ble_eq_true rfl) rfl g_b6 rfl ?_
    intro h9 W9 A9_
    replace A_b1 := A_b1.other W9 ne_b1_b6
    replace A_b6 := A9_
    replace Z_ : n0 ≤ _ := Nat.le_trans Z_ (Nat.le_of_eq W9.size.symm)
    refine own_iloadN (pc' := 144) C at_143 rfl rfl ?_
    refine own_iconst (pc' := 145) (v := (3 : Int32)) C at_144 own_ki_3 rfl ?_
    refine own_icmp_le (pt := 154) (pf := 148) C at_145 (by decide) (by decide) rfl (fun _ => ?_) (fun q => absurd q (by decide))
    refine own_aload (pc' := 156) C at_154 rfl rfl rfl ?_
    refine own_iload (pc' := 158) C at_156 rfl rfl ?_
    refine own_iaload (pc' := 159) (v := (own_rk [y33, y48, y63, y78] v6_82)) (i := v6_82.toNatClampNeg) C at_158 A_b1 (own_p3 hv6_82).1 rfl (own_get4 (own_p3 hv6_82)) rfl ?_
    refine own_istore (pc' := 161) (y := (own_rk [y33, y48, y63, y78] v6_82)) (Ls' := #[.val (.int p0), .val (.int p1), .val (.int p2), .val (.int (3 : Int32)), .val (.int v4_15), .val (.ref b1), .val (.int v6_82), .val (.int v7_89), .val (.int v8_96), .val (.int v9_104), .val (.ref b6), .val (.int (own_rk [y33, y48, y63, y78] v6_82)), .unset, .unset, .unset, .unset, .unset, .unset, .unset, .unset]) C at_159 rfl rfl rfl ?_
    refine own_aload (pc' := 163) C at_161 rfl rfl rfl ?_
    refine own_iload (pc' := 165) C at_163 rfl rfl ?_
    refine own_iaload (pc' := 166) (v := (own_rk [y33, y48, y63, y78] v7_89)) (i := v7_89.toNatClampNeg) C at_165 A_b1 (own_p3 hv7_89).1 rfl (own_get4 (own_p3 hv7_89)) rfl ?_
    refine own_istore (pc' := 168) (y := (own_rk [y33, y48, y63, y78] v7_89)) (Ls' := #[.val (.int p0), .val (.int p1), .val (.int p2), .val (.int (3 : Int32)), .val (.int v4_15), .val (.ref b1), .val (.int v6_82), .val (.int v7_89), .val (.int v8_96), .val (.int v9_104), .val (.ref b6), .val (.int (own_rk [y33, y48, y63, y78] v6_82)), .val (.int (own_rk [y33, y48, y63, y78] v7_89)), .unset, .unset, .unset, .unset, .unset, .unset, .unset]) C at_166 rfl rfl rfl ?_
    refine own_aload (pc' := 170) C at_168 rfl rfl rfl ?_
    refine own_iload (pc' := 172) C at_170 rfl rfl ?_
    refine own_iaload (pc' := 173) (v := (own_rk [y33, y48, y63, y78] v8_96)) (i := v8_96.toNatClampNeg) C at_172 A_b1 (own_p3 hv8_96).1 rfl (own_get4 (own_p3 hv8_96)) rfl ?_
    refine own_istore (pc' := 175) (y := (own_rk [y33, y48, y63, y78] v8_96)) (Ls' := #[.val (.int p0), .val (.int p1), .val (.int p2), .val (.int (3 : Int32)), .val (.int v4_15), .val (.ref b1), .val (.int v6_82), .val (.int v7_89), .val (.int v8_96), .val (.int v9_104), .val (.ref b6), .val (.int (own_rk [y33, y48, y63, y78] v6_82)), .val (.int (own_rk [y33, y48, y63, y78] v7_89)), .val (.int (own_rk [y33, y48, y63, y78] v8_96)), .unset, .unset, .unset, .unset, .unset, .unset]) C at_173 rfl rfl rfl ?_
    refine own_aload (pc' := 177) C at_175 rfl rfl rfl ?_
    refine own_iload (pc' := 179) C at_177 rfl rfl ?_
    refine own_iaload (pc' := 180) (v := (own_rk [y33, y48, y63, y78] v9_104)) (i := v9_104.toNatClampNeg) C at_179 A_b1 (own_p3 hv9_104).1 rfl (own_get4 (own_p3 hv9_104)) rfl ?_
    refine own_istore (pc' := 182) (y := (own_rk [y33, y48, y63, y78] v9_104)) (Ls' := #[.val (.int p0), .val (.int p1), .val (.int p2), .val (.int (3 : Int32)), .val (.int v4_15), .val (.ref b1), .val (.int v6_82), .val (.int v7_89), .val (.int v8_96), .val (.int v9_104), .val (.ref b6), .val (.int (own_rk [y33, y48, y63, y78] v6_82)), .val (.int (own_rk [y33, y48, y63, y78] v7_89)), .val (.int (own_rk [y33, y48, y63, y78] v8_96)), .val (.int (own_rk [y33, y48, y63, y78] v9_104)), .unset, .unset, .unset, .unset, .unset]) C at_180 rfl rfl rfl ?_
    refine own_aload (pc' := 184) C at_182 rfl rfl rfl ?_
    refine own_aload (pc' := 186) C at_184 rfl rfl rfl ?_
    refine own_iload (pc' := 188) C at_186 rfl rfl ?_
    have FIN := (own_fin3 (k0 := (own_rk [y33, y48, y63, y78] v6_82)) (k1 := (own_rk [y33, y48, y63, y78] v7_89)) (k2 := (own_rk [y33, y48, y63, y78] v8_96)) (k3 := (own_rk [y33, y48, y63, y78] v9_104)) (p0 := v6_82) (p1 := v7_89) (p2 := v8_96) (own_keys hv4_15) (own_rkb (own_p3 hv6_82) (own_yb (own_keys hv4_15) hy33) (own_yb (own_keys hv4_15) hy48) (own_yb (own_keys hv4_15) hy63) (own_yb (own_keys hv4_15) hy78)) (own_rkb (own_p3 hv7_89) (own_yb (own_keys hv4_15) hy33) (own_yb (own_keys hv4_15) hy48) (own_yb (own_keys hv4_15) hy63) (own_yb (own_keys hv4_15) hy78)) (own_rkb (own_p3 hv8_96) (own_yb (own_keys hv4_15) hy33) (own_yb (own_keys hv4_15) hy48) (own_yb (own_keys hv4_15) hy63) (own_yb (own_keys hv4_15) hy78)))
    refine own_callS (pc' := 191) (wL := 0) (argsL := [(.ref b6), (.ref b1), (.int v4_15)]) (rest := []) C (own_sort3 l Z a0 hw b6 b1 v4_15 v6_82 v7_89 v8_96 y33 y48 y63 y78 h9 n0 Z_ A_b6 A_b1 (own_keys hv4_15) (own_p3 hv6_82) (own_rkb (own_p3 hv6_82) (own_yb (own_keys hv4_15) hy33) (own_yb (own_keys hv4_15) hy48) (own_yb (own_keys hv4_15) hy63) (own_yb (own_keys hv4_15) hy78)) (own_p3 hv7_89) (own_rkb (own_p3 hv7_89) (own_yb (own_keys hv4_15) hy33) (own_yb (own_keys hv4_15) hy48) (own_yb (own_keys hv4_15) hy63) (own_yb (own_keys hv4_15) hy78)) (own_p3 hv8_96) (own_rkb (own_p3 hv8_96) (own_yb (own_keys hv4_15) hy33) (own_yb (own_keys hv4_15) hy48) (own_yb (own_keys hv4_15) hy63) (own_yb (own_keys hv4_15) hy78)) FIN.1 FIN.2.1 FIN.2.2.1) at_188 (hw _ (List.mem_of_getElem? (i := 1) rfl)) (hw _ (List.mem_of_getElem? (i := 2) rfl)) (hw _ (List.mem_of_getElem? (i := 3) rfl)) (hw _ (List.mem_of_getElem? (i := 4) rfl)) (by decide) (by decide) (by decide) rfl (lenOf pd1 rfl) rfl rfl (Nat.le_of_eq rfl) (by decide) (by decide) rfl ?_
    rintro _ h10 ⟨o_10, rfl, sz10, K10, A_o_10⟩
    replace A_b1 := A_b1.keep K10 nin0
    replace A_b6 := A_b6.keep K10 nin0
    replace Z_ := Nat.le_trans Z_ K10.1
    show Wp p l e _ s m _ below meth c n0 _ h10 (((0 + 1) + 1) + 2) (((0 + 4) + 3) + 12) (mkF m 191 #[.val (.int p0), .val (.int p1), .val (.int p2), .val (.int (3 : Int32)), .val (.int v4_15), .val (.ref b1), .val (.int v6_82), .val (.int v7_89), .val (.int v8_96), .val (.int v9_104), .val (.ref b6), .val (.int (own_rk [y33, y48, y63, y78] v6_82)), .val (.int (own_rk [y33, y48, y63, y78] v7_89)), .val (.int (own_rk [y33, y48, y63, y78] v8_96)), .val (.int (own_rk [y33, y48, y63, y78] v9_104)), .unset, .unset, .unset, .unset, .unset] [(.ref o_10)])
    refine own_astore (pc' := 193) (Ls' := #[.val (.int p0), .val (.int p1), .val (.int p2), .val (.int (3 : Int32)), .val (.int v4_15), .val (.ref b1), .val (.int v6_82), .val (.int v7_89), .val (.int v8_96), .val (.int v9_104), .val (.ref b6), .val (.int (own_rk [y33, y48, y63, y78] v6_82)), .val (.int (own_rk [y33, y48, y63, y78] v7_89)), .val (.int (own_rk [y33, y48, y63, y78] v8_96)), .val (.int (own_rk [y33, y48, y63, y78] v9_104)), .val (.ref o_10), .unset, .unset, .unset, .unset]) C at_191 rfl rfl rfl ?_
    refine own_aload (pc' := 195) C at_193 rfl rfl rfl ?_
    refine own_lenI (pc' := 196) (v := (3 : Int32)) C at_195 A_o_10 (by first | (simp; done) | rfl | (simp; rfl)) rfl ?_
    refine own_iloadN (pc' := 197) C at_196 rfl rfl ?_
    refine own_icmp_eq (pt := 202) (pf := 200) C at_197 (by decide) (by decide) rfl (fun _ => ?_) (fun q => absurd (by decide) q)
    refine own_iconst (pc' := 203) (v := (1 : Int32)) C at_202 own_ki_1 rfl ?_
    refine own_iloadN (pc' := 204) C at_203 rfl rfl ?_
    refine own_iload (pc' := 206) C at_204 rfl rfl ?_
    refine own_iload (pc' := 208) C at_206 rfl rfl ?_
    refine own_iconst (pc' := 209) (v := (0 : Int32)) C at_208 own_ki_0 rfl ?_
    refine own_callS (pc' := 212) (wL := 0) (argsL := [(.int (1 : Int32)), (.int (3 : Int32)), (.int (own_rk [y33, y48, y63, y78] v7_89)), (.int (own_rk [y33, y48, y63, y78] v6_82)), (.int (0 : Int32))]) (rest := []) C (own_m2 l Z a0 hw (1 : Int32) (3 : Int32) (own_rk [y33, y48, y63, y78] v7_89) (own_rk [y33, y48, y63, y78] v6_82) (0 : Int32) h10 n0 Z_) at_209 (hw _ (List.mem_of_getElem? (i := 5) rfl)) (hw _ (List.mem_of_getElem? (i := 6) rfl)) (hw _ (List.mem_of_getElem? (i := 7) rfl)) (hw _ (List.mem_of_getElem? (i := 8) rfl)) (by decide) (by decide) (by decide) rfl (lenOf pd2 rfl) rfl rfl (Nat.le_of_eq rfl) (by decide) (by decide) rfl ?_
    rintro _ _ ⟨rfl, rfl⟩
    show Wp p l e _ s m _ below meth c n0 _ h10 (((0 + 1) + 1) + 2) (((0 + 4) + 3) + 12) (mkF m 212 #[.val (.int p0), .val (.int p1), .val (.int p2), .val (.int (3 : Int32)), .val (.int v4_15), .val (.ref b1), .val (.int v6_82), .val (.int v7_89), .val (.int v8_96), .val (.int v9_104), .val (.ref b6), .val (.int (own_rk [y33, y48, y63, y78] v6_82)), .val (.int (own_rk [y33, y48, y63, y78] v7_89)), .val (.int (own_rk [y33, y48, y63, y78] v8_96)), .val (.int (own_rk [y33, y48, y63, y78] v9_104)), .val (.ref o_10), .unset, .unset, .unset, .unset] [(.int (own_f2 (1 : Int32) (3 : Int32) (own_rk [y33, y48, y63, y78] v7_89) (own_rk [y33, y48, y63, y78] v6_82) (0 : Int32)))])
    refine own_iconst (pc' := 213) (v := (2 : Int32)) C at_212 own_ki_2 rfl ?_
    refine own_iloadN (pc' := 214) C at_213 rfl rfl ?_
    refine own_iload (pc' := 216) C at_214 rfl rfl ?_
    refine own_iload (pc' := 218) C at_216 rfl rfl ?_
    refine own_iconst (pc' := 219) (v := (0 : Int32)) C at_218 own_ki_0 rfl ?_
    refine own_callS (pc' := 222) (wL := 1) (argsL := [(.int (2 : Int32)), (.int (3 : Int32)), (.int (own_rk [y33, y48, y63, y78] v8_96)), (.int (own_rk [y33, y48, y63, y78] v6_82)), (.int (0 : Int32))]) (rest := [(.int (own_f2 (1 : Int32) (3 : Int32) (own_rk [y33, y48, y63, y78] v7_89) (own_rk [y33, y48, y63, y78] v6_82) (0 : Int32)))]) C (own_m2 l Z a0 hw (2 : Int32) (3 : Int32) (own_rk [y33, y48, y63, y78] v8_96) (own_rk [y33, y48, y63, y78] v6_82) (0 : Int32) h10 n0 Z_) at_219 (hw _ (List.mem_of_getElem? (i := 5) rfl)) (hw _ (List.mem_of_getElem? (i := 6) rfl)) (hw _ (List.mem_of_getElem? (i := 7) rfl)) (hw _ (List.mem_of_getElem? (i := 8) rfl)) (by decide) (by decide) (by decide) rfl (lenOf pd2 rfl) rfl rfl (Nat.le_of_eq rfl) (by decide) (by decide) rfl ?_
    rintro _ _ ⟨rfl, rfl⟩
    show Wp p l e _ s m _ below meth c n0 _ h10 (((0 + 1) + 1) + 2) (((0 + 4) + 3) + 12) (mkF m 222 #[.val (.int p0), .val (.int p1), .val (.int p2), .val (.int (3 : Int32)), .val (.int v4_15), .val (.ref b1), .val (.int v6_82), .val (.int v7_89), .val (.int v8_96), .val (.int v9_104), .val (.ref b6), .val (.int (own_rk [y33, y48, y63, y78] v6_82)), .val (.int (own_rk [y33, y48, y63, y78] v7_89)), .val (.int (own_rk [y33, y48, y63, y78] v8_96)), .val (.int (own_rk [y33, y48, y63, y78] v9_104)), .val (.ref o_10), .unset, .unset, .unset, .unset] [(.int (own_f2 (2 : Int32) (3 : Int32) (own_rk [y33, y48, y63, y78] v8_96) (own_rk [y33, y48, y63, y78] v6_82) (0 : Int32))), (.int (own_f2 (1 : Int32) (3 : Int32) (own_rk [y33, y48, y63, y78] v7_89) (own_rk [y33, y48, y63, y78] v6_82) (0 : Int32)))])
    refine own_iadd (pc' := 223) C at_222 rfl rfl ?_
    refine own_iconst (pc' := 224) (v := (3 : Int32)) C at_223 own_ki_3 rfl ?_
    refine own_iloadN (pc' := 225) C at_224 rfl rfl ?_
    refine own_iload (pc' := 227) C at_225 rfl rfl ?_
    refine own_iload (pc' := 229) C at_227 rfl rfl ?_
    refine own_iconst (pc' := 230) (v := (0 : Int32)) C at_229 own_ki_0 rfl ?_
    refine own_callS (pc' := 233) (wL := 1) (argsL := [(.int (3 : Int32)), (.int (3 : Int32)), (.int (own_rk [y33, y48, y63, y78] v9_104)), (.int (own_rk [y33, y48, y63, y78] v6_82)), (.int (0 : Int32))]) (rest := [(.int ((own_f2 (1 : Int32) (3 : Int32) (own_rk [y33, y48, y63, y78] v7_89) (own_rk [y33, y48, y63, y78] v6_82) (0 : Int32)) + (own_f2 (2 : Int32) (3 : Int32) (own_rk [y33, y48, y63, y78] v8_96) (own_rk [y33, y48, y63, y78] v6_82) (0 : Int32))))]) C (own_m2 l Z a0 hw (3 : Int32) (3 : Int32) (own_rk [y33, y48, y63, y78] v9_104) (own_rk [y33, y48, y63, y78] v6_82) (0 : Int32) h10 n0 Z_) at_230 (hw _ (List.mem_of_getElem? (i := 5) rfl)) (hw _ (List.mem_of_getElem? (i := 6) rfl)) (hw _ (List.mem_of_getElem? (i := 7) rfl)) (hw _ (List.mem_of_getElem? (i := 8) rfl)) (by decide) (by decide) (by decide) rfl (lenOf pd2 rfl) rfl rfl (Nat.le_of_eq rfl) (by decide) (by decide) rfl ?_
    rintro _ _ ⟨rfl, rfl⟩
    show Wp p l e _ s m _ below meth c n0 _ h10 (((0 + 1) + 1) + 2) (((0 + 4) + 3) + 12) (mkF m 233 #[.val (.int p0), .val (.int p1), .val (.int p2), .val (.int (3 : Int32)), .val (.int v4_15), .val (.ref b1), .val (.int v6_82), .val (.int v7_89), .val (.int v8_96), .val (.int v9_104), .val (.ref b6), .val (.int (own_rk [y33, y48, y63, y78] v6_82)), .val (.int (own_rk [y33, y48, y63, y78] v7_89)), .val (.int (own_rk [y33, y48, y63, y78] v8_96)), .val (.int (own_rk [y33, y48, y63, y78] v9_104)), .val (.ref o_10), .unset, .unset, .unset, .unset] [(.int (own_f2 (3 : Int32) (3 : Int32) (own_rk [y33, y48, y63, y78] v9_104) (own_rk [y33, y48, y63, y78] v6_82) (0 : Int32))), (.int ((own_f2 (1 : Int32) (3 : Int32) (own_rk [y33, y48, y63, y78] v7_89) (own_rk [y33, y48, y63, y78] v6_82) (0 : Int32)) + (own_f2 (2 : Int32) (3 : Int32) (own_rk [y33, y48, y63, y78] v8_96) (own_rk [y33, y48, y63, y78] v6_82) (0 : Int32))))])
    refine own_iadd (pc' := 234) C at_233 rfl rfl ?_
    obtain ⟨v16_234, hv16_234⟩ : ∃ z : Int32, z = (((own_f2 (1 : Int32) (3 : Int32) (own_rk [y33, y48, y63, y78] v7_89) (own_rk [y33, y48, y63, y78] v6_82) (0 : Int32)) + (own_f2 (2 : Int32) (3 : Int32) (own_rk [y33, y48, y63, y78] v8_96) (own_rk [y33, y48, y63, y78] v6_82) (0 : Int32))) + (own_f2 (3 : Int32) (3 : Int32) (own_rk [y33, y48, y63, y78] v9_104) (own_rk [y33, y48, y63, y78] v6_82) (0 : Int32))) := ⟨_, rfl⟩
    refine own_istore (pc' := 236) (y := v16_234) (Ls' := #[.val (.int p0), .val (.int p1), .val (.int p2), .val (.int (3 : Int32)), .val (.int v4_15), .val (.ref b1), .val (.int v6_82), .val (.int v7_89), .val (.int v8_96), .val (.int v9_104), .val (.ref b6), .val (.int (own_rk [y33, y48, y63, y78] v6_82)), .val (.int (own_rk [y33, y48, y63, y78] v7_89)), .val (.int (own_rk [y33, y48, y63, y78] v8_96)), .val (.int (own_rk [y33, y48, y63, y78] v9_104)), .val (.ref o_10), .val (.int v16_234), .unset, .unset, .unset]) C at_234 hv16_234.symm rfl rfl ?_
    refine own_iconst (pc' := 237) (v := (0 : Int32)) C at_236 own_ki_0 rfl ?_
    refine own_iloadN (pc' := 238) C at_237 rfl rfl ?_
    refine own_iload (pc' := 240) C at_238 rfl rfl ?_
    refine own_iload (pc' := 242) C at_240 rfl rfl ?_
    refine own_iconst (pc' := 243) (v := (1 : Int32)) C at_242 own_ki_1 rfl ?_
    refine own_callS (pc' := 246) (wL := 0) (argsL := [(.int (0 : Int32)), (.int (3 : Int32)), (.int (own_rk [y33, y48, y63, y78] v6_82)), (.int (own_rk [y33, y48, y63, y78] v7_89)), (.int (1 : Int32))]) (rest := []) C (own_m2 l Z a0 hw (0 : Int32) (3 : Int32) (own_rk [y33, y48, y63, y78] v6_82) (own_rk [y33, y48, y63, y78] v7_89) (1 : Int32) h10 n0 Z_) at_243 (hw _ (List.mem_of_getElem? (i := 5) rfl)) (hw _ (List.mem_of_getElem? (i := 6) rfl)) (hw _ (List.mem_of_getElem? (i := 7) rfl)) (hw _ (List.mem_of_getElem? (i := 8) rfl)) (by decide) (by decide) (by decide) rfl (lenOf pd2 rfl) rfl rfl (Nat.le_of_eq rfl) (by decide) (by decide) rfl ?_
    rintro _ _ ⟨rfl, rfl⟩
    show Wp p l e _ s m _ below meth c n0 _ h10 (((0 + 1) + 1) + 2) (((0 + 4) + 3) + 12) (mkF m 246 #[.val (.int p0), .val (.int p1), .val (.int p2), .val (.int (3 : Int32)), .val (.int v4_15), .val (.ref b1), .val (.int v6_82), .val (.int v7_89), .val (.int v8_96), .val (.int v9_104), .val (.ref b6), .val (.int (own_rk [y33, y48, y63, y78] v6_82)), .val (.int (own_rk [y33, y48, y63, y78] v7_89)), .val (.int (own_rk [y33, y48, y63, y78] v8_96)), .val (.int (own_rk [y33, y48, y63, y78] v9_104)), .val (.ref o_10), .val (.int v16_234), .unset, .unset, .unset] [(.int (own_f2 (0 : Int32) (3 : Int32) (own_rk [y33, y48, y63, y78] v6_82) (own_rk [y33, y48, y63, y78] v7_89) (1 : Int32)))])
    refine own_iconst (pc' := 247) (v := (2 : Int32)) C at_246 own_ki_2 rfl ?_
    refine own_iloadN (pc' := 248) C at_247 rfl rfl ?_
    refine own_iload (pc' := 250) C at_248 rfl rfl ?_
    refine own_iload (pc' := 252) C at_250 rfl rfl ?_
    refine own_iconst (pc' := 253) (v := (0 : Int32)) C at_252 own_ki_0 rfl ?_
    refine own_callS (pc' := 256) (wL := 1) (argsL := [(.int (2 : Int32)), (.int (3 : Int32)), (.int (own_rk [y33, y48, y63, y78] v8_96)), (.int (own_rk [y33, y48, y63, y78] v7_89)), (.int (0 : Int32))]) (rest := [(.int (own_f2 (0 : Int32) (3 : Int32) (own_rk [y33, y48, y63, y78] v6_82) (own_rk [y33, y48, y63, y78] v7_89) (1 : Int32)))]) C (own_m2 l Z a0 hw (2 : Int32) (3 : Int32) (own_rk [y33, y48, y63, y78] v8_96) (own_rk [y33, y48, y63, y78] v7_89) (0 : Int32) h10 n0 Z_) at_253 (hw _ (List.mem_of_getElem? (i := 5) rfl)) (hw _ (List.mem_of_getElem? (i := 6) rfl)) (hw _ (List.mem_of_getElem? (i := 7) rfl)) (hw _ (List.mem_of_getElem? (i := 8) rfl)) (by decide) (by decide) (by decide) rfl (lenOf pd2 rfl) rfl rfl (Nat.le_of_eq rfl) (by decide) (by decide) rfl ?_
    rintro _ _ ⟨rfl, rfl⟩
    show Wp p l e _ s m _ below meth c n0 _ h10 (((0 + 1) + 1) + 2) (((0 + 4) + 3) + 12) (mkF m 256 #[.val (.int p0), .val (.int p1), .val (.int p2), .val (.int (3 : Int32)), .val (.int v4_15), .val (.ref b1), .val (.int v6_82), .val (.int v7_89), .val (.int v8_96), .val (.int v9_104), .val (.ref b6), .val (.int (own_rk [y33, y48, y63, y78] v6_82)), .val (.int (own_rk [y33, y48, y63, y78] v7_89)), .val (.int (own_rk [y33, y48, y63, y78] v8_96)), .val (.int (own_rk [y33, y48, y63, y78] v9_104)), .val (.ref o_10), .val (.int v16_234), .unset, .unset, .unset] [(.int (own_f2 (2 : Int32) (3 : Int32) (own_rk [y33, y48, y63, y78] v8_96) (own_rk [y33, y48, y63, y78] v7_89) (0 : Int32))), (.int (own_f2 (0 : Int32) (3 : Int32) (own_rk [y33, y48, y63, y78] v6_82) (own_rk [y33, y48, y63, y78] v7_89) (1 : Int32)))])
    refine own_iadd (pc' := 257) C at_256 rfl rfl ?_
    refine own_iconst (pc' := 258) (v := (3 : Int32)) C at_257 own_ki_3 rfl ?_
    refine own_iloadN (pc' := 259) C at_258 rfl rfl ?_
    refine own_iload (pc' := 261) C at_259 rfl rfl ?_
    refine own_iload (pc' := 263) C at_261 rfl rfl ?_
    refine own_iconst (pc' := 264) (v := (0 : Int32)) C at_263 own_ki_0 rfl ?_
    refine own_callS (pc' := 267) (wL := 1) (argsL := [(.int (3 : Int32)), (.int (3 : Int32)), (.int (own_rk [y33, y48, y63, y78] v9_104)), (.int (own_rk [y33, y48, y63, y78] v7_89)), (.int (0 : Int32))]) (rest := [(.int ((own_f2 (0 : Int32) (3 : Int32) (own_rk [y33, y48, y63, y78] v6_82) (own_rk [y33, y48, y63, y78] v7_89) (1 : Int32)) + (own_f2 (2 : Int32) (3 : Int32) (own_rk [y33, y48, y63, y78] v8_96) (own_rk [y33, y48, y63, y78] v7_89) (0 : Int32))))]) C (own_m2 l Z a0 hw (3 : Int32) (3 : Int32) (own_rk [y33, y48, y63, y78] v9_104) (own_rk [y33, y48, y63, y78] v7_89) (0 : Int32) h10 n0 Z_) at_264 (hw _ (List.mem_of_getElem? (i := 5) rfl)) (hw _ (List.mem_of_getElem? (i := 6) rfl)) (hw _ (List.mem_of_getElem? (i := 7) rfl)) (hw _ (List.mem_of_getElem? (i := 8) rfl)) (by decide) (by decide) (by decide) rfl (lenOf pd2 rfl) rfl rfl (Nat.le_of_eq rfl) (by decide) (by decide) rfl ?_
    rintro _ _ ⟨rfl, rfl⟩
    show Wp p l e _ s m _ below meth c n0 _ h10 (((0 + 1) + 1) + 2) (((0 + 4) + 3) + 12) (mkF m 267 #[.val (.int p0), .val (.int p1), .val (.int p2), .val (.int (3 : Int32)), .val (.int v4_15), .val (.ref b1), .val (.int v6_82), .val (.int v7_89), .val (.int v8_96), .val (.int v9_104), .val (.ref b6), .val (.int (own_rk [y33, y48, y63, y78] v6_82)), .val (.int (own_rk [y33, y48, y63, y78] v7_89)), .val (.int (own_rk [y33, y48, y63, y78] v8_96)), .val (.int (own_rk [y33, y48, y63, y78] v9_104)), .val (.ref o_10), .val (.int v16_234), .unset, .unset, .unset] [(.int (own_f2 (3 : Int32) (3 : Int32) (own_rk [y33, y48, y63, y78] v9_104) (own_rk [y33, y48, y63, y78] v7_89) (0 : Int32))), (.int ((own_f2 (0 : Int32) (3 : Int32) (own_rk [y33, y48, y63, y78] v6_82) (own_rk [y33, y48, y63, y78] v7_89) (1 : Int32)) + (own_f2 (2 : Int32) (3 : Int32) (own_rk [y33, y48, y63, y78] v8_96) (own_rk [y33, y48, y63, y78] v7_89) (0 : Int32))))])
    refine own_iadd (pc' := 268) C at_267 rfl rfl ?_
    obtain ⟨v17_268, hv17_268⟩ : ∃ z : Int32, z = (((own_f2 (0 : Int32) (3 : Int32) (own_rk [y33, y48, y63, y78] v6_82) (own_rk [y33, y48, y63, y78] v7_89) (1 : Int32)) + (own_f2 (2 : Int32) (3 : Int32) (own_rk [y33, y48, y63, y78] v8_96) (own_rk [y33, y48, y63, y78] v7_89) (0 : Int32))) + (own_f2 (3 : Int32) (3 : Int32) (own_rk [y33, y48, y63, y78] v9_104) (own_rk [y33, y48, y63, y78] v7_89) (0 : Int32))) := ⟨_, rfl⟩
    refine own_istore (pc' := 270) (y := v17_268) (Ls' := #[.val (.int p0), .val (.int p1), .val (.int p2), .val (.int (3 : Int32)), .val (.int v4_15), .val (.ref b1), .val (.int v6_82), .val (.int v7_89), .val (.int v8_96), .val (.int v9_104), .val (.ref b6), .val (.int (own_rk [y33, y48, y63, y78] v6_82)), .val (.int (own_rk [y33, y48, y63, y78] v7_89)), .val (.int (own_rk [y33, y48, y63, y78] v8_96)), .val (.int (own_rk [y33, y48, y63, y78] v9_104)), .val (.ref o_10), .val (.int v16_234), .val (.int v17_268), .unset, .unset]) C at_268 hv17_268.symm rfl rfl ?_
    refine own_iconst (pc' := 271) (v := (0 : Int32)) C at_270 own_ki_0 rfl ?_
    refine own_iloadN (pc' := 272) C at_271 rfl rfl ?_
    refine own_iload (pc' := 274) C at_272 rfl rfl ?_
    refine own_iload (pc' := 276) C at_274 rfl rfl ?_
    refine own_iconst (pc' := 277) (v := (1 : Int32)) C at_276 own_ki_1 rfl ?_
    refine own_callS (pc' := 280) (wL := 0) (argsL := [(.int (0 : Int32)), (.int (3 : Int32)), (.int (own_rk [y33, y48, y63, y78] v6_82)), (.int (own_rk [y33, y48, y63, y78] v8_96)), (.int (1 : Int32))]) (rest := []) C (own_m2 l Z a0 hw (0 : Int32) (3 : Int32) (own_rk [y33, y48, y63, y78] v6_82) (own_rk [y33, y48, y63, y78] v8_96) (1 : Int32) h10 n0 Z_) at_277 (hw _ (List.mem_of_getElem? (i := 5) rfl)) (hw _ (List.mem_of_getElem? (i := 6) rfl)) (hw _ (List.mem_of_getElem? (i := 7) rfl)) (hw _ (List.mem_of_getElem? (i := 8) rfl)) (by decide) (by decide) (by decide) rfl (lenOf pd2 rfl) rfl rfl (Nat.le_of_eq rfl) (by decide) (by decide) rfl ?_
    rintro _ _ ⟨rfl, rfl⟩
    show Wp p l e _ s m _ below meth c n0 _ h10 (((0 + 1) + 1) + 2) (((0 + 4) + 3) + 12) (mkF m 280 #[.val (.int p0), .val (.int p1), .val (.int p2), .val (.int (3 : Int32)), .val (.int v4_15), .val (.ref b1), .val (.int v6_82), .val (.int v7_89), .val (.int v8_96), .val (.int v9_104), .val (.ref b6), .val (.int (own_rk [y33, y48, y63, y78] v6_82)), .val (.int (own_rk [y33, y48, y63, y78] v7_89)), .val (.int (own_rk [y33, y48, y63, y78] v8_96)), .val (.int (own_rk [y33, y48, y63, y78] v9_104)), .val (.ref o_10), .val (.int v16_234), .val (.int v17_268), .unset, .unset] [(.int (own_f2 (0 : Int32) (3 : Int32) (own_rk [y33, y48, y63, y78] v6_82) (own_rk [y33, y48, y63, y78] v8_96) (1 : Int32)))])
    refine own_iconst (pc' := 281) (v := (1 : Int32)) C at_280 own_ki_1 rfl ?_
    refine own_iloadN (pc' := 282) C at_281 rfl rfl ?_
    refine own_iload (pc' := 284) C at_282 rfl rfl ?_
    refine own_iload (pc' := 286) C at_284 rfl rfl ?_
    refine own_iconst (pc' := 287) (v := (1 : Int32)) C at_286 own_ki_1 rfl ?_
    refine own_callS (pc' := 290) (wL := 1) (argsL := [(.int (1 : Int32)), (.int (3 : Int32)), (.int (own_rk [y33, y48, y63, y78] v7_89)), (.int (own_rk [y33, y48, y63, y78] v8_96)), (.int (1 : Int32))]) (rest := [(.int (own_f2 (0 : Int32) (3 : Int32) (own_rk [y33, y48, y63, y78] v6_82) (own_rk [y33, y48, y63, y78] v8_96) (1 : Int32)))]) C (own_m2 l Z a0 hw (1 : Int32) (3 : Int32) (own_rk [y33, y48, y63, y78] v7_89) (own_rk [y33, y48, y63, y78] v8_96) (1 : Int32) h10 n0 Z_) at_287 (hw _ (List.mem_of_getElem? (i := 5) rfl)) (hw _ (List.mem_of_getElem? (i := 6) rfl)) (hw _ (List.mem_of_getElem? (i := 7) rfl)) (hw _ (List.mem_of_getElem? (i := 8) rfl)) (by decide) (by decide) (by decide) rfl (lenOf pd2 rfl) rfl rfl (Nat.le_of_eq rfl) (by decide) (by decide) rfl ?_
    rintro _ _ ⟨rfl, rfl⟩
    show Wp p l e _ s m _ below meth c n0 _ h10 (((0 + 1) + 1) + 2) (((0 + 4) + 3) + 12) (mkF m 290 #[.val (.int p0), .val (.int p1), .val (.int p2), .val (.int (3 : Int32)), .val (.int v4_15), .val (.ref b1), .val (.int v6_82), .val (.int v7_89), .val (.int v8_96), .val (.int v9_104), .val (.ref b6), .val (.int (own_rk [y33, y48, y63, y78] v6_82)), .val (.int (own_rk [y33, y48, y63, y78] v7_89)), .val (.int (own_rk [y33, y48, y63, y78] v8_96)), .val (.int (own_rk [y33, y48, y63, y78] v9_104)), .val (.ref o_10), .val (.int v16_234), .val (.int v17_268), .unset, .unset] [(.int (own_f2 (1 : Int32) (3 : Int32) (own_rk [y33, y48, y63, y78] v7_89) (own_rk [y33, y48, y63, y78] v8_96) (1 : Int32))), (.int (own_f2 (0 : Int32) (3 : Int32) (own_rk [y33, y48, y63, y78] v6_82) (own_rk [y33, y48, y63, y78] v8_96) (1 : Int32)))])
    refine own_iadd (pc' := 291) C at_290 rfl rfl ?_
    refine own_iconst (pc' := 292) (v := (3 : Int32)) C at_291 own_ki_3 rfl ?_
    refine own_iloadN (pc' := 293) C at_292 rfl rfl ?_
    refine own_iload (pc' := 295) C at_293 rfl rfl ?_
    refine own_iload (pc' := 297) C at_295 rfl rfl ?_
    refine own_iconst (pc' := 298) (v := (0 : Int32)) C at_297 own_ki_0 rfl ?_
    refine own_callS (pc' := 301) (wL := 1) (argsL := [(.int (3 : Int32)), (.int (3 : Int32)), (.int (own_rk [y33, y48, y63, y78] v9_104)), (.int (own_rk [y33, y48, y63, y78] v8_96)), (.int (0 : Int32))]) (rest := [(.int ((own_f2 (0 : Int32) (3 : Int32) (own_rk [y33, y48, y63, y78] v6_82) (own_rk [y33, y48, y63, y78] v8_96) (1 : Int32)) + (own_f2 (1 : Int32) (3 : Int32) (own_rk [y33, y48, y63, y78] v7_89) (own_rk [y33, y48, y63, y78] v8_96) (1 : Int32))))]) C (own_m2 l Z a0 hw (3 : Int32) (3 : Int32) (own_rk [y33, y48, y63, y78] v9_104) (own_rk [y33, y48, y63, y78] v8_96) (0 : Int32) h10 n0 Z_) at_298 (hw _ (List.mem_of_getElem? (i := 5) rfl)) (hw _ (List.mem_of_getElem? (i := 6) rfl)) (hw _ (List.mem_of_getElem? (i := 7) rfl)) (hw _ (List.mem_of_getElem? (i := 8) rfl)) (by decide) (by decide) (by decide) rfl (lenOf pd2 rfl) rfl rfl (Nat.le_of_eq rfl) (by decide) (by decide) rfl ?_
    rintro _ _ ⟨rfl, rfl⟩
    show Wp p l e _ s m _ below meth c n0 _ h10 (((0 + 1) + 1) + 2) (((0 + 4) + 3) + 12) (mkF m 301 #[.val (.int p0), .val (.int p1), .val (.int p2), .val (.int (3 : Int32)), .val (.int v4_15), .val (.ref b1), .val (.int v6_82), .val (.int v7_89), .val (.int v8_96), .val (.int v9_104), .val (.ref b6), .val (.int (own_rk [y33, y48, y63, y78] v6_82)), .val (.int (own_rk [y33, y48, y63, y78] v7_89)), .val (.int (own_rk [y33, y48, y63, y78] v8_96)), .val (.int (own_rk [y33, y48, y63, y78] v9_104)), .val (.ref o_10), .val (.int v16_234), .val (.int v17_268), .unset, .unset] [(.int (own_f2 (3 : Int32) (3 : Int32) (own_rk [y33, y48, y63, y78] v9_104) (own_rk [y33, y48, y63, y78] v8_96) (0 : Int32))), (.int ((own_f2 (0 : Int32) (3 : Int32) (own_rk [y33, y48, y63, y78] v6_82) (own_rk [y33, y48, y63, y78] v8_96) (1 : Int32)) + (own_f2 (1 : Int32) (3 : Int32) (own_rk [y33, y48, y63, y78] v7_89) (own_rk [y33, y48, y63, y78] v8_96) (1 : Int32))))])
    refine own_iadd (pc' := 302) C at_301 rfl rfl ?_
    obtain ⟨v18_302, hv18_302⟩ : ∃ z : Int32, z = (((own_f2 (0 : Int32) (3 : Int32) (own_rk [y33, y48, y63, y78] v6_82) (own_rk [y33, y48, y63, y78] v8_96) (1 : Int32)) + (own_f2 (1 : Int32) (3 : Int32) (own_rk [y33, y48, y63, y78] v7_89) (own_rk [y33, y48, y63, y78] v8_96) (1 : Int32))) + (own_f2 (3 : Int32) (3 : Int32) (own_rk [y33, y48, y63, y78] v9_104) (own_rk [y33, y48, y63, y78] v8_96) (0 : Int32))) := ⟨_, rfl⟩
    refine own_istore (pc' := 304) (y := v18_302) (Ls' := #[.val (.int p0), .val (.int p1), .val (.int p2), .val (.int (3 : Int32)), .val (.int v4_15), .val (.ref b1), .val (.int v6_82), .val (.int v7_89), .val (.int v8_96), .val (.int v9_104), .val (.ref b6), .val (.int (own_rk [y33, y48, y63, y78] v6_82)), .val (.int (own_rk [y33, y48, y63, y78] v7_89)), .val (.int (own_rk [y33, y48, y63, y78] v8_96)), .val (.int (own_rk [y33, y48, y63, y78] v9_104)), .val (.ref o_10), .val (.int v16_234), .val (.int v17_268), .val (.int v18_302), .unset]) C at_302 hv18_302.symm rfl rfl ?_
    refine own_iconst (pc' := 305) (v := (0 : Int32)) C at_304 own_ki_0 rfl ?_
    refine own_iloadN (pc' := 306) C at_305 rfl rfl ?_
    refine own_iload (pc' := 308) C at_306 rfl rfl ?_
    refine own_iload (pc' := 310) C at_308 rfl rfl ?_
    refine own_iconst (pc' := 311) (v := (1 : Int32)) C at_310 own_ki_1 rfl ?_
    refine own_callS (pc' := 314) (wL := 0) (argsL := [(.int (0 : Int32)), (.int (3 : Int32)), (.int (own_rk [y33, y48, y63, y78] v6_82)), (.int (own_rk [y33, y48, y63, y78] v9_104)), (.int (1 : Int32))]) (rest := []) C (own_m2 l Z a0 hw (0 : Int32) (3 : Int32) (own_rk [y33, y48, y63, y78] v6_82) (own_rk [y33, y48, y63, y78] v9_104) (1 : Int32) h10 n0 Z_) at_311 (hw _ (List.mem_of_getElem? (i := 5) rfl)) (hw _ (List.mem_of_getElem? (i := 6) rfl)) (hw _ (List.mem_of_getElem? (i := 7) rfl)) (hw _ (List.mem_of_getElem? (i := 8) rfl)) (by decide) (by decide) (by decide) rfl (lenOf pd2 rfl) rfl rfl (Nat.le_of_eq rfl) (by decide) (by decide) rfl ?_
    rintro _ _ ⟨rfl, rfl⟩
    show Wp p l e _ s m _ below meth c n0 _ h10 (((0 + 1) + 1) + 2) (((0 + 4) + 3) + 12) (mkF m 314 #[.val (.int p0), .val (.int p1), .val (.int p2), .val (.int (3 : Int32)), .val (.int v4_15), .val (.ref b1), .val (.int v6_82), .val (.int v7_89), .val (.int v8_96), .val (.int v9_104), .val (.ref b6), .val (.int (own_rk [y33, y48, y63, y78] v6_82)), .val (.int (own_rk [y33, y48, y63, y78] v7_89)), .val (.int (own_rk [y33, y48, y63, y78] v8_96)), .val (.int (own_rk [y33, y48, y63, y78] v9_104)), .val (.ref o_10), .val (.int v16_234), .val (.int v17_268), .val (.int v18_302), .unset] [(.int (own_f2 (0 : Int32) (3 : Int32) (own_rk [y33, y48, y63, y78] v6_82) (own_rk [y33, y48, y63, y78] v9_104) (1 : Int32)))])
    refine own_iconst (pc' := 315) (v := (1 : Int32)) C at_314 own_ki_1 rfl ?_
    refine own_iloadN (pc' := 316) C at_315 rfl rfl ?_
    refine own_iload (pc' := 318) C at_316 rfl rfl ?_
    refine own_iload (pc' := 320) C at_318 rfl rfl ?_
    refine own_iconst (pc' := 321) (v := (1 : Int32)) C at_320 own_ki_1 rfl ?_
    refine own_callS (pc' := 324) (wL := 1) (argsL := [(.int (1 : Int32)), (.int (3 : Int32)), (.int (own_rk [y33, y48, y63, y78] v7_89)), (.int (own_rk [y33, y48, y63, y78] v9_104)), (.int (1 : Int32))]) (rest := [(.int (own_f2 (0 : Int32) (3 : Int32) (own_rk [y33, y48, y63, y78] v6_82) (own_rk [y33, y48, y63, y78] v9_104) (1 : Int32)))]) C (own_m2 l Z a0 hw (1 : Int32) (3 : Int32) (own_rk [y33, y48, y63, y78] v7_89) (own_rk [y33, y48, y63, y78] v9_104) (1 : Int32) h10 n0 Z_) at_321 (hw _ (List.mem_of_getElem? (i := 5) rfl)) (hw _ (List.mem_of_getElem? (i := 6) rfl)) (hw _ (List.mem_of_getElem? (i := 7) rfl)) (hw _ (List.mem_of_getElem? (i := 8) rfl)) (by decide) (by decide) (by decide) rfl (lenOf pd2 rfl) rfl rfl (Nat.le_of_eq rfl) (by decide) (by decide) rfl ?_
    rintro _ _ ⟨rfl, rfl⟩
    show Wp p l e _ s m _ below meth c n0 _ h10 (((0 + 1) + 1) + 2) (((0 + 4) + 3) + 12) (mkF m 324 #[.val (.int p0), .val (.int p1), .val (.int p2), .val (.int (3 : Int32)), .val (.int v4_15), .val (.ref b1), .val (.int v6_82), .val (.int v7_89), .val (.int v8_96), .val (.int v9_104), .val (.ref b6), .val (.int (own_rk [y33, y48, y63, y78] v6_82)), .val (.int (own_rk [y33, y48, y63, y78] v7_89)), .val (.int (own_rk [y33, y48, y63, y78] v8_96)), .val (.int (own_rk [y33, y48, y63, y78] v9_104)), .val (.ref o_10), .val (.int v16_234), .val (.int v17_268), .val (.int v18_302), .unset] [(.int (own_f2 (1 : Int32) (3 : Int32) (own_rk [y33, y48, y63, y78] v7_89) (own_rk [y33, y48, y63, y78] v9_104) (1 : Int32))), (.int (own_f2 (0 : Int32) (3 : Int32) (own_rk [y33, y48, y63, y78] v6_82) (own_rk [y33, y48, y63, y78] v9_104) (1 : Int32)))])
    refine own_iadd (pc' := 325) C at_324 rfl rfl ?_
    refine own_iconst (pc' := 326) (v := (2 : Int32)) C at_325 own_ki_2 rfl ?_
    refine own_iloadN (pc' := 327) C at_326 rfl rfl ?_
    refine own_iload (pc' := 329) C at_327 rfl rfl ?_
    refine own_iload (pc' := 331) C at_329 rfl rfl ?_
    refine own_iconst (pc' := 332) (v := (1 : Int32)) C at_331 own_ki_1 rfl ?_
    refine own_callS (pc' := 335) (wL := 1) (argsL := [(.int (2 : Int32)), (.int (3 : Int32)), (.int (own_rk [y33, y48, y63, y78] v8_96)), (.int (own_rk [y33, y48, y63, y78] v9_104)), (.int (1 : Int32))]) (rest := [(.int ((own_f2 (0 : Int32) (3 : Int32) (own_rk [y33, y48, y63, y78] v6_82) (own_rk [y33, y48, y63, y78] v9_104) (1 : Int32)) + (own_f2 (1 : Int32) (3 : Int32) (own_rk [y33, y48, y63, y78] v7_89) (own_rk [y33, y48, y63, y78] v9_104) (1 : Int32))))]) C (own_m2 l Z a0 hw (2 : Int32) (3 : Int32) (own_rk [y33, y48, y63, y78] v8_96) (own_rk [y33, y48, y63, y78] v9_104) (1 : Int32) h10 n0 Z_) at_332 (hw _ (List.mem_of_getElem? (i := 5) rfl)) (hw _ (List.mem_of_getElem? (i := 6) rfl)) (hw _ (List.mem_of_getElem? (i := 7) rfl)) (hw _ (List.mem_of_getElem? (i := 8) rfl)) (by decide) (by decide) (by decide) rfl (lenOf pd2 rfl) rfl rfl (Nat.le_of_eq rfl) (by decide) (by decide) rfl ?_
    rintro _ _ ⟨rfl, rfl⟩
    show Wp p l e _ s m _ below meth c n0 _ h10 (((0 + 1) + 1) + 2) (((0 + 4) + 3) + 12) (mkF m 335 #[.val (.int p0), .val (.int p1), .val (.int p2), .val (.int (3 : Int32)), .val (.int v4_15), .val (.ref b1), .val (.int v6_82), .val (.int v7_89), .val (.int v8_96), .val (.int v9_104), .val (.ref b6), .val (.int (own_rk [y33, y48, y63, y78] v6_82)), .val (.int (own_rk [y33, y48, y63, y78] v7_89)), .val (.int (own_rk [y33, y48, y63, y78] v8_96)), .val (.int (own_rk [y33, y48, y63, y78] v9_104)), .val (.ref o_10), .val (.int v16_234), .val (.int v17_268), .val (.int v18_302), .unset] [(.int (own_f2 (2 : Int32) (3 : Int32) (own_rk [y33, y48, y63, y78] v8_96) (own_rk [y33, y48, y63, y78] v9_104) (1 : Int32))), (.int ((own_f2 (0 : Int32) (3 : Int32) (own_rk [y33, y48, y63, y78] v6_82) (own_rk [y33, y48, y63, y78] v9_104) (1 : Int32)) + (own_f2 (1 : Int32) (3 : Int32) (own_rk [y33, y48, y63, y78] v7_89) (own_rk [y33, y48, y63, y78] v9_104) (1 : Int32))))])
    refine own_iadd (pc' := 336) C at_335 rfl rfl ?_
    obtain ⟨v19_336, hv19_336⟩ : ∃ z : Int32, z = (((own_f2 (0 : Int32) (3 : Int32) (own_rk [y33, y48, y63, y78] v6_82) (own_rk [y33, y48, y63, y78] v9_104) (1 : Int32)) + (own_f2 (1 : Int32) (3 : Int32) (own_rk [y33, y48, y63, y78] v7_89) (own_rk [y33, y48, y63, y78] v9_104) (1 : Int32))) + (own_f2 (2 : Int32) (3 : Int32) (own_rk [y33, y48, y63, y78] v8_96) (own_rk [y33, y48, y63, y78] v9_104) (1 : Int32))) := ⟨_, rfl⟩
    refine own_istore (pc' := 338) (y := v19_336) (Ls' := #[.val (.int p0), .val (.int p1), .val (.int p2), .val (.int (3 : Int32)), .val (.int v4_15), .val (.ref b1), .val (.int v6_82), .val (.int v7_89), .val (.int v8_96), .val (.int v9_104), .val (.ref b6), .val (.int (own_rk [y33, y48, y63, y78] v6_82)), .val (.int (own_rk [y33, y48, y63, y78] v7_89)), .val (.int (own_rk [y33, y48, y63, y78] v8_96)), .val (.int (own_rk [y33, y48, y63, y78] v9_104)), .val (.ref o_10), .val (.int v16_234), .val (.int v17_268), .val (.int v18_302), .val (.int v19_336)]) C at_336 hv19_336.symm rfl rfl ?_
    refine own_iconst (pc' := 339) (v := (0 : Int32)) C at_338 own_ki_0 rfl ?_
    refine own_iloadN (pc' := 340) C at_339 rfl rfl ?_
    refine own_aload (pc' := 342) C at_340 rfl rfl rfl ?_
    refine own_iload (pc' := 344) C at_342 rfl rfl ?_
    refine own_iload (pc' := 346) C at_344 rfl rfl ?_
    refine own_callS (pc' := 349) (wL := 0) (argsL := [(.int (0 : Int32)), (.int (3 : Int32)), (.ref o_10), (.int v16_234), (.int v6_82)]) (rest := []) C (own_okk l Z a0 hw (0 : Int32) (3 : Int32) o_10 v16_234 v6_82 ((([(0 : Int32), (0 : Int32), (0 : Int32)].set ((own_pre (own_inc (own_inc (own_inc (fun _ => 0) ((own_rk [y33, y48, y63, y78] v6_82).toNatClampNeg + 1)) ((own_rk [y33, y48, y63, y78] v7_89).toNatClampNeg + 1)) ((own_rk [y33, y48, y63, y78] v8_96).toNatClampNeg + 1))) (own_rk [y33, y48, y63, y78] v6_82).toNatClampNeg).toNatClampNeg v6_82).set ((own_inc (own_pre (own_inc (own_inc (own_inc (fun _ => 0) ((own_rk [y33, y48, y63, y78] v6_82).toNatClampNeg + 1)) ((own_rk [y33, y48, y63, y78] v7_89).toNatClampNeg + 1)) ((own_rk [y33, y48, y63, y78] v8_96).toNatClampNeg + 1))) (own_rk [y33, y48, y63, y78] v6_82).toNatClampNeg) (own_rk [y33, y48, y63, y78] v7_89).toNatClampNeg).toNatClampNeg v7_89).set ((own_inc (own_inc (own_pre (own_inc (own_inc (own_inc (fun _ => 0) ((own_rk [y33, y48, y63, y78] v6_82).toNatClampNeg + 1)) ((own_rk [y33, y48, y63, y78] v7_89).toNatClampNeg + 1)) ((own_rk [y33, y48, y63, y78] v8_96).toNatClampNeg + 1))) (own_rk [y33, y48, y63, y78] v6_82).toNatClampNeg) (own_rk [y33, y48, y63, y78] v7_89).toNatClampNeg) (own_rk [y33, y48, y63, y78] v8_96).toNatClampNeg).toNatClampNeg v8_96) h10 n0 Z_ A_o_10 (by rw [hv16_234]; exact own_qn _ _ _ (own_c01 _ _ _ _ _) (own_c01 _ _ _ _ _) (own_c01 _ _ _ _ _)) (own_ltn (by rw [hv16_234]; exact own_qn _ _ _ (own_c01 _ _ _ _ _) (own_c01 _ _ _ _ _) (own_c01 _ _ _ _ _)) (by first | (simp; done) | rfl | (simp; rfl)))) at_346 (hw _ (List.mem_of_getElem? (i := 9) rfl)) (hw _ (List.mem_of_getElem? (i := 10) rfl)) (hw _ (List.mem_of_getElem? (i := 7) rfl)) (hw _ (List.mem_of_getElem? (i := 11) rfl)) (by decide) (by decide) (by decide) rfl (lenOf pd3 rfl) rfl rfl (Nat.le_of_eq rfl) (by decide) (by decide) rfl ?_
    rintro _ _ ⟨rfl, rfl⟩
    rw [show (own_ok ((([(0 : Int32), (0 : Int32), (0 : Int32)].set ((own_pre (own_inc (own_inc (own_inc (fun _ => 0) ((own_rk [y33, y48, y63, y78] v6_82).toNatClampNeg + 1)) ((own_rk [y33, y48, y63, y78] v7_89).toNatClampNeg + 1)) ((own_rk [y33, y48, y63, y78] v8_96).toNatClampNeg + 1))) (own_rk [y33, y48, y63, y78] v6_82).toNatClampNeg).toNatClampNeg v6_82).set ((own_inc (own_pre (own_inc (own_inc (own_inc (fun _ => 0) ((own_rk [y33, y48, y63, y78] v6_82).toNatClampNeg + 1)) ((own_rk [y33, y48, y63, y78] v7_89).toNatClampNeg + 1)) ((own_rk [y33, y48, y63, y78] v8_96).toNatClampNeg + 1))) (own_rk [y33, y48, y63, y78] v6_82).toNatClampNeg) (own_rk [y33, y48, y63, y78] v7_89).toNatClampNeg).toNatClampNeg v7_89).set ((own_inc (own_inc (own_pre (own_inc (own_inc (own_inc (fun _ => 0) ((own_rk [y33, y48, y63, y78] v6_82).toNatClampNeg + 1)) ((own_rk [y33, y48, y63, y78] v7_89).toNatClampNeg + 1)) ((own_rk [y33, y48, y63, y78] v8_96).toNatClampNeg + 1))) (own_rk [y33, y48, y63, y78] v6_82).toNatClampNeg) (own_rk [y33, y48, y63, y78] v7_89).toNatClampNeg) (own_rk [y33, y48, y63, y78] v8_96).toNatClampNeg).toNatClampNeg v8_96) (0 : Int32) (3 : Int32) v16_234 v6_82) = 1 from by rw [hv16_234]; exact FIN.2.2.2.1]
    show Wp p l e _ s m _ below meth c n0 _ h10 (((0 + 1) + 1) + 2) (((0 + 4) + 3) + 12) (mkF m 349 #[.val (.int p0), .val (.int p1), .val (.int p2), .val (.int (3 : Int32)), .val (.int v4_15), .val (.ref b1), .val (.int v6_82), .val (.int v7_89), .val (.int v8_96), .val (.int v9_104), .val (.ref b6), .val (.int (own_rk [y33, y48, y63, y78] v6_82)), .val (.int (own_rk [y33, y48, y63, y78] v7_89)), .val (.int (own_rk [y33, y48, y63, y78] v8_96)), .val (.int (own_rk [y33, y48, y63, y78] v9_104)), .val (.ref o_10), .val (.int v16_234), .val (.int v17_268), .val (.int v18_302), .val (.int v19_336)] [(.int (1 : Int32))])
    refine own_if_eq (pt := 398) (pf := 352) C at_349 (by decide) (by decide) rfl (fun q => absurd q (by decide)) (fun _ => ?_)
    refine own_iconst (pc' := 353) (v := (1 : Int32)) C at_352 own_ki_1 rfl ?_
    refine own_iloadN (pc' := 354) C at_353 rfl rfl ?_
    refine own_aload (pc' := 356) C at_354 rfl rfl rfl ?_
    refine own_iload (pc' := 358) C at_356 rfl rfl ?_
    refine own_iload (pc' := 360) C at_358 rfl rfl ?_
    refine own_callS (pc' := 363) (wL := 0) (argsL := [(.int (1 : Int32)), (.int (3 : Int32)), (.ref o_10), (.int v17_268), (.int v7_89)]) (rest := []) C (own_okk l Z a0 hw (1 : Int32) (3 : Int32) o_10 v17_268 v7_89 ((([(0 : Int32), (0 : Int32), (0 : Int32)].set ((own_pre (own_inc (own_inc (own_inc (fun _ => 0) ((own_rk [y33, y48, y63, y78] v6_82).toNatClampNeg + 1)) ((own_rk [y33, y48, y63, y78] v7_89).toNatClampNeg + 1)) ((own_rk [y33, y48, y63, y78] v8_96).toNatClampNeg + 1))) (own_rk [y33, y48, y63, y78] v6_82).toNatClampNeg).toNatClampNeg v6_82).set ((own_inc (own_pre (own_inc (own_inc (own_inc (fun _ => 0) ((own_rk [y33, y48, y63, y78] v6_82).toNatClampNeg + 1)) ((own_rk [y33, y48, y63, y78] v7_89).toNatClampNeg + 1)) ((own_rk [y33, y48, y63, y78] v8_96).toNatClampNeg + 1))) (own_rk [y33, y48, y63, y78] v6_82).toNatClampNeg) (own_rk [y33, y48, y63, y78] v7_89).toNatClampNeg).toNatClampNeg v7_89).set ((own_inc (own_inc (own_pre (own_inc (own_inc (own_inc (fun _ => 0) ((own_rk [y33, y48, y63, y78] v6_82).toNatClampNeg + 1)) ((own_rk [y33, y48, y63, y78] v7_89).toNatClampNeg + 1)) ((own_rk [y33, y48, y63, y78] v8_96).toNatClampNeg + 1))) (own_rk [y33, y48, y63, y78] v6_82).toNatClampNeg) (own_rk [y33, y48, y63, y78] v7_89).toNatClampNeg) (own_rk [y33, y48, y63, y78] v8_96).toNatClampNeg).toNatClampNeg v8_96) h10 n0 Z_ A_o_10 (by rw [hv17_268]; exact own_qn _ _ _ (own_c01 _ _ _ _ _) (own_c01 _ _ _ _ _) (own_c01 _ _ _ _ _)) (own_ltn (by rw [hv17_268]; exact own_qn _ _ _ (own_c01 _ _ _ _ _) (own_c01 _ _ _ _ _) (own_c01 _ _ _ _ _)) (by first | (simp; done) | rfl | (simp; rfl)))) at_360 (hw _ (List.mem_of_getElem? (i := 9) rfl)) (hw _ (List.mem_of_getElem? (i := 10) rfl)) (hw _ (List.mem_of_getElem? (i := 7) rfl)) (hw _ (List.mem_of_getElem? (i := 11) rfl)) (by decide) (by decide) (by decide) rfl (lenOf pd3 rfl) rfl rfl (Nat.le_of_eq rfl) (by decide) (by decide) rfl ?_
    rintro _ _ ⟨rfl, rfl⟩
    rw [show (own_ok ((([(0 : Int32), (0 : Int32), (0 : Int32)].set ((own_pre (own_inc (own_inc (own_inc (fun _ => 0) ((own_rk [y33, y48, y63, y78] v6_82).toNatClampNeg + 1)) ((own_rk [y33, y48, y63, y78] v7_89).toNatClampNeg + 1)) ((own_rk [y33, y48, y63, y78] v8_96).toNatClampNeg + 1))) (own_rk [y33, y48, y63, y78] v6_82).toNatClampNeg).toNatClampNeg v6_82).set ((own_inc (own_pre (own_inc (own_inc (own_inc (fun _ => 0) ((own_rk [y33, y48, y63, y78] v6_82).toNatClampNeg + 1)) ((own_rk [y33, y48, y63, y78] v7_89).toNatClampNeg + 1)) ((own_rk [y33, y48, y63, y78] v8_96).toNatClampNeg + 1))) (own_rk [y33, y48, y63, y78] v6_82).toNatClampNeg) (own_rk [y33, y48, y63, y78] v7_89).toNatClampNeg).toNatClampNeg v7_89).set ((own_inc (own_inc (own_pre (own_inc (own_inc (own_inc (fun _ => 0) ((own_rk [y33, y48, y63, y78] v6_82).toNatClampNeg + 1)) ((own_rk [y33, y48, y63, y78] v7_89).toNatClampNeg + 1)) ((own_rk [y33, y48, y63, y78] v8_96).toNatClampNeg + 1))) (own_rk [y33, y48, y63, y78] v6_82).toNatClampNeg) (own_rk [y33, y48, y63, y78] v7_89).toNatClampNeg) (own_rk [y33, y48, y63, y78] v8_96).toNatClampNeg).toNatClampNeg v8_96) (1 : Int32) (3 : Int32) v17_268 v7_89) = 1 from by rw [hv17_268]; exact FIN.2.2.2.2.1]
    show Wp p l e _ s m _ below meth c n0 _ h10 (((0 + 1) + 1) + 2) (((0 + 4) + 3) + 12) (mkF m 363 #[.val (.int p0), .val (.int p1), .val (.int p2), .val (.int (3 : Int32)), .val (.int v4_15), .val (.ref b1), .val (.int v6_82), .val (.int v7_89), .val (.int v8_96), .val (.int v9_104), .val (.ref b6), .val (.int (own_rk [y33, y48, y63, y78] v6_82)), .val (.int (own_rk [y33, y48, y63, y78] v7_89)), .val (.int (own_rk [y33, y48, y63, y78] v8_96)), .val (.int (own_rk [y33, y48, y63, y78] v9_104)), .val (.ref o_10), .val (.int v16_234), .val (.int v17_268), .val (.int v18_302), .val (.int v19_336)] [(.int (1 : Int32))])
    refine own_if_eq (pt := 398) (pf := 366) C at_363 (by decide) (by decide) rfl (fun q => absurd q (by decide)) (fun _ => ?_)
    refine own_iconst (pc' := 367) (v := (2 : Int32)) C at_366 own_ki_2 rfl ?_
    refine own_iloadN (pc' := 368) C at_367 rfl rfl ?_
    refine own_aload (pc' := 370) C at_368 rfl rfl rfl ?_
    refine own_iload (pc' := 372) C at_370 rfl rfl ?_
    refine own_iload (pc' := 374) C at_372 rfl rfl ?_
    refine own_callS (pc' := 377) (wL := 0) (argsL := [(.int (2 : Int32)), (.int (3 : Int32)), (.ref o_10), (.int v18_302), (.int v8_96)]) (rest := []) C (own_okk l Z a0 hw (2 : Int32) (3 : Int32) o_10 v18_302 v8_96 ((([(0 : Int32), (0 : Int32), (0 : Int32)].set ((own_pre (own_inc (own_inc (own_inc (fun _ => 0) ((own_rk [y33, y48, y63, y78] v6_82).toNatClampNeg + 1)) ((own_rk [y33, y48, y63, y78] v7_89).toNatClampNeg + 1)) ((own_rk [y33, y48, y63, y78] v8_96).toNatClampNeg + 1))) (own_rk [y33, y48, y63, y78] v6_82).toNatClampNeg).toNatClampNeg v6_82).set ((own_inc (own_pre (own_inc (own_inc (own_inc (fun _ => 0) ((own_rk [y33, y48, y63, y78] v6_82).toNatClampNeg + 1)) ((own_rk [y33, y48, y63, y78] v7_89).toNatClampNeg + 1)) ((own_rk [y33, y48, y63, y78] v8_96).toNatClampNeg + 1))) (own_rk [y33, y48, y63, y78] v6_82).toNatClampNeg) (own_rk [y33, y48, y63, y78] v7_89).toNatClampNeg).toNatClampNeg v7_89).set ((own_inc (own_inc (own_pre (own_inc (own_inc (own_inc (fun _ => 0) ((own_rk [y33, y48, y63, y78] v6_82).toNatClampNeg + 1)) ((own_rk [y33, y48, y63, y78] v7_89).toNatClampNeg + 1)) ((own_rk [y33, y48, y63, y78] v8_96).toNatClampNeg + 1))) (own_rk [y33, y48, y63, y78] v6_82).toNatClampNeg) (own_rk [y33, y48, y63, y78] v7_89).toNatClampNeg) (own_rk [y33, y48, y63, y78] v8_96).toNatClampNeg).toNatClampNeg v8_96) h10 n0 Z_ A_o_10 (by rw [hv18_302]; exact own_qn _ _ _ (own_c01 _ _ _ _ _) (own_c01 _ _ _ _ _) (own_c01 _ _ _ _ _)) (own_ltn (by rw [hv18_302]; exact own_qn _ _ _ (own_c01 _ _ _ _ _) (own_c01 _ _ _ _ _) (own_c01 _ _ _ _ _)) (by first | (simp; done) | rfl | (simp; rfl)))) at_374 (hw _ (List.mem_of_getElem? (i := 9) rfl)) (hw _ (List.mem_of_getElem? (i := 10) rfl)) (hw _ (List.mem_of_getElem? (i := 7) rfl)) (hw _ (List.mem_of_getElem? (i := 11) rfl)) (by decide) (by decide) (by decide) rfl (lenOf pd3 rfl) rfl rfl (Nat.le_of_eq rfl) (by decide) (by decide) rfl ?_
    rintro _ _ ⟨rfl, rfl⟩
    rw [show (own_ok ((([(0 : Int32), (0 : Int32), (0 : Int32)].set ((own_pre (own_inc (own_inc (own_inc (fun _ => 0) ((own_rk [y33, y48, y63, y78] v6_82).toNatClampNeg + 1)) ((own_rk [y33, y48, y63, y78] v7_89).toNatClampNeg + 1)) ((own_rk [y33, y48, y63, y78] v8_96).toNatClampNeg + 1))) (own_rk [y33, y48, y63, y78] v6_82).toNatClampNeg).toNatClampNeg v6_82).set ((own_inc (own_pre (own_inc (own_inc (own_inc (fun _ => 0) ((own_rk [y33, y48, y63, y78] v6_82).toNatClampNeg + 1)) ((own_rk [y33, y48, y63, y78] v7_89).toNatClampNeg + 1)) ((own_rk [y33, y48, y63, y78] v8_96).toNatClampNeg + 1))) (own_rk [y33, y48, y63, y78] v6_82).toNatClampNeg) (own_rk [y33, y48, y63, y78] v7_89).toNatClampNeg).toNatClampNeg v7_89).set ((own_inc (own_inc (own_pre (own_inc (own_inc (own_inc (fun _ => 0) ((own_rk [y33, y48, y63, y78] v6_82).toNatClampNeg + 1)) ((own_rk [y33, y48, y63, y78] v7_89).toNatClampNeg + 1)) ((own_rk [y33, y48, y63, y78] v8_96).toNatClampNeg + 1))) (own_rk [y33, y48, y63, y78] v6_82).toNatClampNeg) (own_rk [y33, y48, y63, y78] v7_89).toNatClampNeg) (own_rk [y33, y48, y63, y78] v8_96).toNatClampNeg).toNatClampNeg v8_96) (2 : Int32) (3 : Int32) v18_302 v8_96) = 1 from by rw [hv18_302]; exact FIN.2.2.2.2.2]
    show Wp p l e _ s m _ below meth c n0 _ h10 (((0 + 1) + 1) + 2) (((0 + 4) + 3) + 12) (mkF m 377 #[.val (.int p0), .val (.int p1), .val (.int p2), .val (.int (3 : Int32)), .val (.int v4_15), .val (.ref b1), .val (.int v6_82), .val (.int v7_89), .val (.int v8_96), .val (.int v9_104), .val (.ref b6), .val (.int (own_rk [y33, y48, y63, y78] v6_82)), .val (.int (own_rk [y33, y48, y63, y78] v7_89)), .val (.int (own_rk [y33, y48, y63, y78] v8_96)), .val (.int (own_rk [y33, y48, y63, y78] v9_104)), .val (.ref o_10), .val (.int v16_234), .val (.int v17_268), .val (.int v18_302), .val (.int v19_336)] [(.int (1 : Int32))])
    refine own_if_eq (pt := 398) (pf := 380) C at_377 (by decide) (by decide) rfl (fun q => absurd q (by decide)) (fun _ => ?_)
    refine own_iconst (pc' := 381) (v := (3 : Int32)) C at_380 own_ki_3 rfl ?_
    refine own_iloadN (pc' := 382) C at_381 rfl rfl ?_
    refine own_aload (pc' := 384) C at_382 rfl rfl rfl ?_
    refine own_iload (pc' := 386) C at_384 rfl rfl ?_
    refine own_iload (pc' := 388) C at_386 rfl rfl ?_
    refine own_callS (pc' := 391) (wL := 0) (argsL := [(.int (3 : Int32)), (.int (3 : Int32)), (.ref o_10), (.int v19_336), (.int v9_104)]) (rest := []) C (own_okk l Z a0 hw (3 : Int32) (3 : Int32) o_10 v19_336 v9_104 ((([(0 : Int32), (0 : Int32), (0 : Int32)].set ((own_pre (own_inc (own_inc (own_inc (fun _ => 0) ((own_rk [y33, y48, y63, y78] v6_82).toNatClampNeg + 1)) ((own_rk [y33, y48, y63, y78] v7_89).toNatClampNeg + 1)) ((own_rk [y33, y48, y63, y78] v8_96).toNatClampNeg + 1))) (own_rk [y33, y48, y63, y78] v6_82).toNatClampNeg).toNatClampNeg v6_82).set ((own_inc (own_pre (own_inc (own_inc (own_inc (fun _ => 0) ((own_rk [y33, y48, y63, y78] v6_82).toNatClampNeg + 1)) ((own_rk [y33, y48, y63, y78] v7_89).toNatClampNeg + 1)) ((own_rk [y33, y48, y63, y78] v8_96).toNatClampNeg + 1))) (own_rk [y33, y48, y63, y78] v6_82).toNatClampNeg) (own_rk [y33, y48, y63, y78] v7_89).toNatClampNeg).toNatClampNeg v7_89).set ((own_inc (own_inc (own_pre (own_inc (own_inc (own_inc (fun _ => 0) ((own_rk [y33, y48, y63, y78] v6_82).toNatClampNeg + 1)) ((own_rk [y33, y48, y63, y78] v7_89).toNatClampNeg + 1)) ((own_rk [y33, y48, y63, y78] v8_96).toNatClampNeg + 1))) (own_rk [y33, y48, y63, y78] v6_82).toNatClampNeg) (own_rk [y33, y48, y63, y78] v7_89).toNatClampNeg) (own_rk [y33, y48, y63, y78] v8_96).toNatClampNeg).toNatClampNeg v8_96) h10 n0 Z_ A_o_10 (by rw [hv19_336]; exact own_qn _ _ _ (own_c01 _ _ _ _ _) (own_c01 _ _ _ _ _) (own_c01 _ _ _ _ _)) (own_ltn (by rw [hv19_336]; exact own_qn _ _ _ (own_c01 _ _ _ _ _) (own_c01 _ _ _ _ _) (own_c01 _ _ _ _ _)) (by first | (simp; done) | rfl | (simp; rfl)))) at_388 (hw _ (List.mem_of_getElem? (i := 9) rfl)) (hw _ (List.mem_of_getElem? (i := 10) rfl)) (hw _ (List.mem_of_getElem? (i := 7) rfl)) (hw _ (List.mem_of_getElem? (i := 11) rfl)) (by decide) (by decide) (by decide) rfl (lenOf pd3 rfl) rfl rfl (Nat.le_of_eq rfl) (by decide) (by decide) rfl ?_
    rintro _ _ ⟨rfl, rfl⟩
    rw [show (own_ok ((([(0 : Int32), (0 : Int32), (0 : Int32)].set ((own_pre (own_inc (own_inc (own_inc (fun _ => 0) ((own_rk [y33, y48, y63, y78] v6_82).toNatClampNeg + 1)) ((own_rk [y33, y48, y63, y78] v7_89).toNatClampNeg + 1)) ((own_rk [y33, y48, y63, y78] v8_96).toNatClampNeg + 1))) (own_rk [y33, y48, y63, y78] v6_82).toNatClampNeg).toNatClampNeg v6_82).set ((own_inc (own_pre (own_inc (own_inc (own_inc (fun _ => 0) ((own_rk [y33, y48, y63, y78] v6_82).toNatClampNeg + 1)) ((own_rk [y33, y48, y63, y78] v7_89).toNatClampNeg + 1)) ((own_rk [y33, y48, y63, y78] v8_96).toNatClampNeg + 1))) (own_rk [y33, y48, y63, y78] v6_82).toNatClampNeg) (own_rk [y33, y48, y63, y78] v7_89).toNatClampNeg).toNatClampNeg v7_89).set ((own_inc (own_inc (own_pre (own_inc (own_inc (own_inc (fun _ => 0) ((own_rk [y33, y48, y63, y78] v6_82).toNatClampNeg + 1)) ((own_rk [y33, y48, y63, y78] v7_89).toNatClampNeg + 1)) ((own_rk [y33, y48, y63, y78] v8_96).toNatClampNeg + 1))) (own_rk [y33, y48, y63, y78] v6_82).toNatClampNeg) (own_rk [y33, y48, y63, y78] v7_89).toNatClampNeg) (own_rk [y33, y48, y63, y78] v8_96).toNatClampNeg).toNatClampNeg v8_96) (3 : Int32) (3 : Int32) v19_336 v9_104) = 1 from by rw [own_ok, if_neg (by decide)]]
    show Wp p l e _ s m _ below meth c n0 _ h10 (((0 + 1) + 1) + 2) (((0 + 4) + 3) + 12) (mkF m 391 #[.val (.int p0), .val (.int p1), .val (.int p2), .val (.int (3 : Int32)), .val (.int v4_15), .val (.ref b1), .val (.int v6_82), .val (.int v7_89), .val (.int v8_96), .val (.int v9_104), .val (.ref b6), .val (.int (own_rk [y33, y48, y63, y78] v6_82)), .val (.int (own_rk [y33, y48, y63, y78] v7_89)), .val (.int (own_rk [y33, y48, y63, y78] v8_96)), .val (.int (own_rk [y33, y48, y63, y78] v9_104)), .val (.ref o_10), .val (.int v16_234), .val (.int v17_268), .val (.int v18_302), .val (.int v19_336)] [(.int (1 : Int32))])
    refine own_if_eq (pt := 398) (pf := 394) C at_391 (by decide) (by decide) rfl (fun q => absurd q (by decide)) (fun _ => ?_)
    refine own_iconst (pc' := 395) (v := (1 : Int32)) C at_394 own_ki_1 rfl ?_
    refine own_goto (pc' := 399) C at_395 (by decide) (by decide) ?_
    refine own_zret C at_399 (by decide) (by decide) (Or.inr rfl) ?_
    exact rfl
  · subst q
    refine own_iconst (pc' := 8) (v := (1 : Int32)) C at_7 own_ki_1 rfl ?_
    refine own_iloadN (pc' := 9) C at_8 rfl rfl ?_
    refine own_iconst (pc' := 10) (v := (3 : Int32)) C at_9 own_ki_3 rfl ?_
    refine own_iushr (pc' := 11) (v := (p0.toUInt32 >>> (3 : UInt32)).toInt32) C at_10 (own_siushr_3 _) rfl ?_
    refine own_bipush (pc' := 13) (v := (7 : Int32)) C at_11 own_kb_7 rfl ?_
    refine own_iand (pc' := 14) C at_13 rfl rfl ?_
    refine own_iadd (pc' := 15) C at_14 rfl rfl ?_
    obtain ⟨v4_15, hv4_15⟩ : ∃ z : Int32, z = ((1 : Int32) + ((p0.toUInt32 >>> (3 : UInt32)).toInt32 &&& (7 : Int32))) := ⟨_, rfl⟩
    refine own_istore (pc' := 17) (y := v4_15) (Ls' := #[.val (.int p0), .val (.int p1), .val (.int p2), .val (.int (4 : Int32)), .val (.int v4_15), .unset, .unset, .unset, .unset, .unset, .unset, .unset, .unset, .unset, .unset, .unset, .unset, .unset, .unset, .unset]) C at_15 hv4_15.symm rfl rfl ?_
    refine own_iconst (pc' := 18) (v := (4 : Int32)) C at_17 own_ki_4 rfl ?_
    refine own_newI (pc' := 20) (len := 4) (cap := 4) C at_18 rfl rfl (hw _ (List.mem_of_getElem? (i := 0) rfl)) (by decide) rfl (by decide) (by decide) (by decide) (by decide) rfl ?_
    intro h1 b1 g1 X1 A_b1
    have g_b1 : n0 ≤ b1 := g1 ▸ Z_
    replace Z_ := Nat.le_trans Z_ X1.1
    replace A_b1 : AI Z h1 b1 .int [(0 : Int32), (0 : Int32), (0 : Int32), (0 : Int32)] := A_b1
    refine own_astore (pc' := 22) (Ls' := #[.val (.int p0), .val (.int p1), .val (.int p2), .val (.int (4 : Int32)), .val (.int v4_15), .val (.ref b1), .unset, .unset, .unset, .unset, .unset, .unset, .unset, .unset, .unset, .unset, .unset, .unset, .unset, .unset]) C at_20 rfl rfl rfl ?_
    refine own_aload (pc' := 24) C at_22 rfl rfl rfl ?_
    refine own_iconst (pc' := 25) (v := (0 : Int32)) C at_24 own_ki_0 rfl ?_
    refine own_iloadN (pc' := 26) C at_25 rfl rfl ?_
    refine own_sipush (pc' := 29) (v := (255 : Int32)) C at_26 own_ks_255 rfl ?_
    refine own_iand (pc' := 30) C at_29 rfl rfl ?_
    refine own_iload (pc' := 32) C at_30 rfl rfl ?_
    refine own_irem (pc' := 33) C at_32 (own_kne (own_keys hv4_15)) rfl rfl ?_
    obtain ⟨y33, hy33⟩ : ∃ z : Int32, z = ((p1 &&& (255 : Int32)) % v4_15) := ⟨_, rfl⟩
    refine own_iastore (pc' := 34) (i := 0) (ys := [y33, (0 : Int32), (0 : Int32), (0 : Int32)]) C at_33 A_b1 (by decide) rfl (Nat.le_of_ble_eq_true rfl) (by rw [hy33]; rfl) g_b1 rfl ?_
    intro h2 W2 A2_
    replace A_b1 := A2_
    replace Z_ : n0 ≤ _ := Nat.le_trans Z_ (Nat.le_of_eq W2.size.symm)
    refine own_aload (pc' := 36) C at_34 rfl rfl rfl ?_
    refine own_iconst (pc' := 37) (v := (1 : Int32)) C at_36 own_ki_1 rfl ?_
    refine own_iloadN (pc' := 38) C at_37 rfl rfl ?_
    refine own_bipush (pc' := 40) (v := (8 : Int32)) C at_38 own_kb_8 rfl ?_
    refine own_iushr (pc' := 41) (v := (p1.toUInt32 >>> (8 : UInt32)).toInt32) C at_40 (own_siushr_8 _) rfl ?_
    refine own_sipush (pc' := 44) (v := (255 : Int32)) C at_41 own_ks_255 rfl ?_
    refine own_iand (pc' := 45) C at_44 rfl rfl ?_
    refine own_iload (pc' := 47) C at_45 rfl rfl ?_
    refine own_irem (pc' := 48) C at_47 (own_kne (own_keys hv4_15)) rfl rfl ?_
    obtain ⟨y48, hy48⟩ : ∃ z : Int32, z = (((p1.toUInt32 >>> (8 : UInt32)).toInt32 &&& (255 : Int32)) % v4_15) := ⟨_, rfl⟩
    refine own_iastore (pc' := 49) (i := 1) (ys := [y33, y48, (0 : Int32), (0 : Int32)]) C at_48 A_b1 (by decide) rfl (Nat.le_of_ble_eq_true rfl) (by rw [hy48]; rfl) g_b1 rfl ?_
    intro h3 W3 A3_
    replace A_b1 := A3_
    replace Z_ : n0 ≤ _ := Nat.le_trans Z_ (Nat.le_of_eq W3.size.symm)
    refine own_aload (pc' := 51) C at_49 rfl rfl rfl ?_
    refine own_iconst (pc' := 52) (v := (2 : Int32)) C at_51 own_ki_2 rfl ?_
    refine own_iloadN (pc' := 53) C at_52 rfl rfl ?_
    refine own_bipush (pc' := 55) (v := (16 : Int32)) C at_53 own_kb_16 rfl ?_
    refine own_iushr (pc' := 56) (v := (p1.toUInt32 >>> (16 : UInt32)).toInt32) C at_55 (own_siushr_16 _) rfl ?_
    refine own_sipush (pc' := 59) (v := (255 : Int32)) C at_56 own_ks_255 rfl ?_
    refine own_iand (pc' := 60) C at_59 rfl rfl ?_
    refine own_iload (pc' := 62) C at_60 rfl rfl ?_
    refine own_irem (pc' := 63) C at_62 (own_kne (own_keys hv4_15)) rfl rfl ?_
    obtain ⟨y63, hy63⟩ : ∃ z : Int32, z = (((p1.toUInt32 >>> (16 : UInt32)).toInt32 &&& (255 : Int32)) % v4_15) := ⟨_, rfl⟩
    refine own_iastore (pc' := 64) (i := 2) (ys := [y33, y48, y63, (0 : Int32)]) C at_63 A_b1 (by decide) rfl (Nat.le_of_ble_eq_true rfl) (by rw [hy63]; rfl) g_b1 rfl ?_
    intro h4 W4 A4_
    replace A_b1 := A4_
    replace Z_ : n0 ≤ _ := Nat.le_trans Z_ (Nat.le_of_eq W4.size.symm)
    refine own_aload (pc' := 66) C at_64 rfl rfl rfl ?_
    refine own_iconst (pc' := 67) (v := (3 : Int32)) C at_66 own_ki_3 rfl ?_
    refine own_iloadN (pc' := 68) C at_67 rfl rfl ?_
    refine own_bipush (pc' := 70) (v := (24 : Int32)) C at_68 own_kb_24 rfl ?_
    refine own_iushr (pc' := 71) (v := (p1.toUInt32 >>> (24 : UInt32)).toInt32) C at_70 (own_siushr_24 _) rfl ?_
    refine own_sipush (pc' := 74) (v := (255 : Int32)) C at_71 own_ks_255 rfl ?_
    refine own_iand (pc' := 75) C at_74 rfl rfl ?_
    refine own_iload (pc' := 77) C at_75 rfl rfl ?_
    refine own_irem (pc' := 78) C at_77 (own_kne (own_keys hv4_15)) rfl rfl ?_
    obtain ⟨y78, hy78⟩ : ∃ z : Int32, z = (((p1.toUInt32 >>> (24 : UInt32)).toInt32 &&& (255 : Int32)) % v4_15) := ⟨_, rfl⟩
    refine own_iastore (pc' := 79) (i := 3) (ys := [y33, y48, y63, y78]) C at_78 A_b1 (by decide) rfl (Nat.le_of_ble_eq_true rfl) (by rw [hy78]; rfl) g_b1 rfl ?_
    intro h5 W5 A5_
    replace A_b1 := A5_
    replace Z_ : n0 ≤ _ := Nat.le_trans Z_ (Nat.le_of_eq W5.size.symm)
    refine own_iloadN (pc' := 80) C at_79 rfl rfl ?_
    refine own_iconst (pc' := 81) (v := (3 : Int32)) C at_80 own_ki_3 rfl ?_
    refine own_iand (pc' := 82) C at_81 rfl rfl ?_
    obtain ⟨v6_82, hv6_82⟩ : ∃ z : Int32, z = (p2 &&& (3 : Int32)) := ⟨_, rfl⟩
    refine own_istore (pc' := 84) (y := v6_82) (Ls' := #[.val (.int p0), .val (.int p1), .val (.int p2), .val (.int (4 : Int32)), .val (.int v4_15), .val (.ref b1), .val (.int v6_82), .unset, .unset, .unset, .unset, .unset, .unset, .unset, .unset, .unset, .unset, .unset, .unset, .unset]) C at_82 hv6_82.symm rfl rfl ?_
    refine own_iloadN (pc' := 85) C at_84 rfl rfl ?_
    refine own_iconst (pc' := 86) (v := (2 : Int32)) C at_85 own_ki_2 rfl ?_
    refine own_iushr (pc' := 87) (v := (p2.toUInt32 >>> (2 : UInt32)).toInt32) C at_86 (own_siushr_2 _) rfl ?_
    refine own_iconst (pc' := 88) (v := (3 : Int32)) C at_87 own_ki_3 rfl ?_
    refine own_iand (pc' := 89) C at_88 rfl rfl ?_
    obtain ⟨v7_89, hv7_89⟩ : ∃ z : Int32, z = ((p2.toUInt32 >>> (2 : UInt32)).toInt32 &&& (3 : Int32)) := ⟨_, rfl⟩
    refine own_istore (pc' := 91) (y := v7_89) (Ls' := #[.val (.int p0), .val (.int p1), .val (.int p2), .val (.int (4 : Int32)), .val (.int v4_15), .val (.ref b1), .val (.int v6_82), .val (.int v7_89), .unset, .unset, .unset, .unset, .unset, .unset, .unset, .unset, .unset, .unset, .unset, .unset]) C at_89 hv7_89.symm rfl rfl ?_
    refine own_iloadN (pc' := 92) C at_91 rfl rfl ?_
    refine own_iconst (pc' := 93) (v := (4 : Int32)) C at_92 own_ki_4 rfl ?_
    refine own_iushr (pc' := 94) (v := (p2.toUInt32 >>> (4 : UInt32)).toInt32) C at_93 (own_siushr_4 _) rfl ?_
    refine own_iconst (pc' := 95) (v := (3 : Int32)) C at_94 own_ki_3 rfl ?_
    refine own_iand (pc' := 96) C at_95 rfl rfl ?_
    obtain ⟨v8_96, hv8_96⟩ : ∃ z : Int32, z = ((p2.toUInt32 >>> (4 : UInt32)).toInt32 &&& (3 : Int32)) := ⟨_, rfl⟩
    refine own_istore (pc' := 98) (y := v8_96) (Ls' := #[.val (.int p0), .val (.int p1), .val (.int p2), .val (.int (4 : Int32)), .val (.int v4_15), .val (.ref b1), .val (.int v6_82), .val (.int v7_89), .val (.int v8_96), .unset, .unset, .unset, .unset, .unset, .unset, .unset, .unset, .unset, .unset, .unset]) C at_96 hv8_96.symm rfl rfl ?_
    refine own_iloadN (pc' := 99) C at_98 rfl rfl ?_
    refine own_bipush (pc' := 101) (v := (6 : Int32)) C at_99 own_kb_6 rfl ?_
    refine own_iushr (pc' := 102) (v := (p2.toUInt32 >>> (6 : UInt32)).toInt32) C at_101 (own_siushr_6 _) rfl ?_
    refine own_iconst (pc' := 103) (v := (3 : Int32)) C at_102 own_ki_3 rfl ?_
    refine own_iand (pc' := 104) C at_103 rfl rfl ?_
    obtain ⟨v9_104, hv9_104⟩ : ∃ z : Int32, z = ((p2.toUInt32 >>> (6 : UInt32)).toInt32 &&& (3 : Int32)) := ⟨_, rfl⟩
    refine own_istore (pc' := 106) (y := v9_104) (Ls' := #[.val (.int p0), .val (.int p1), .val (.int p2), .val (.int (4 : Int32)), .val (.int v4_15), .val (.ref b1), .val (.int v6_82), .val (.int v7_89), .val (.int v8_96), .val (.int v9_104), .unset, .unset, .unset, .unset, .unset, .unset, .unset, .unset, .unset, .unset]) C at_104 hv9_104.symm rfl rfl ?_
    refine own_iloadN (pc' := 107) C at_106 rfl rfl ?_
    refine own_newI (pc' := 109) (len := 4) (cap := 4) C at_107 rfl rfl (hw _ (List.mem_of_getElem? (i := 0) rfl)) (by decide) rfl (by decide) (by decide) (by decide) (by decide) rfl ?_
    intro h6 b6 g6 X6 A_b6
    have ne_b1_b6 : b1 ≠ b6 := Nat.ne_of_lt (g6 ▸ A_b1.lt)
    replace A_b1 := A_b1.ext X6
    have g_b6 : n0 ≤ b6 := g6 ▸ Z_
    replace Z_ := Nat.le_trans Z_ X6.1
    replace A_b6 : AI Z h6 b6 .int [(0 : Int32), (0 : Int32), (0 : Int32), (0 : Int32)] := A_b6
    refine own_astore (pc' := 111) (Ls' := #[.val (.int p0), .val (.int p1), .val (.int p2), .val (.int (4 : Int32)), .val (.int v4_15), .val (.ref b1), .val (.int v6_82), .val (.int v7_89), .val (.int v8_96), .val (.int v9_104), .val (.ref b6), .unset, .unset, .unset, .unset, .unset, .unset, .unset, .unset, .unset]) C at_109 rfl rfl rfl ?_
    refine own_iloadN (pc' := 112) C at_111 rfl rfl ?_
    refine own_if_le (pt := 121) (pf := 115) C at_112 (by decide) (by decide) rfl (fun q => absurd (by decide) q) (fun _ => ?_)
    refine own_aload (pc' := 117) C at_115 rfl rfl rfl ?_
    refine own_iconst (pc' := 118) (v := (0 : Int32)) C at_117 own_ki_0 rfl ?_
    refine own_iload (pc' := 120) C at_118 rfl rfl ?_
    refine own_iastore (pc' := 121) (i := 0) (ys := [v6_82, (0 : Int32), (0 : Int32), (0 : Int32)]) C at_120 A_b6 (by decide) rfl (Nat.le_of_ble_eq_true rfl) rfl g_b6 rfl ?_
    intro h7 W7 A7_
    replace A_b1 := A_b1.other W7 ne_b1_b6
    replace A_b6 := A7_
    replace Z_ : n0 ≤ _ := Nat.le_trans Z_ (Nat.le_of_eq W7.size.symm)
    refine own_iloadN (pc' := 122) C at_121 rfl rfl ?_
    refine own_iconst (pc' := 123) (v := (1 : Int32)) C at_122 own_ki_1 rfl ?_
    refine own_icmp_le (pt := 132) (pf := 126) C at_123 (by decide) (by decide) rfl (fun q => absurd (by decide) q) (fun _ => ?_)
    refine own_aload (pc' := 128) C at_126 rfl rfl rfl ?_
    refine own_iconst (pc' := 129) (v := (1 : Int32)) C at_128 own_ki_1 rfl ?_
    refine own_iload (pc' := 131) C at_129 rfl rfl ?_
    refine own_iastore (pc' := 132) (i := 1) (ys := [v6_82, v7_89, (0 : Int32), (0 : Int32)]) C at_131 A_b6 (by decide) rfl (Nat.le_of_ble_eq_true rfl) rfl g_b6 rfl ?_
    intro h8 W8 A8_
    replace A_b1 := A_b1.other W8 ne_b1_b6
    replace A_b6 := A8_
    replace Z_ : n0 ≤ _ := Nat.le_trans Z_ (Nat.le_of_eq W8.size.symm)
    refine own_iloadN (pc' := 133) C at_132 rfl rfl ?_
    refine own_iconst (pc' := 134) (v := (2 : Int32)) C at_133 own_ki_2 rfl ?_
    refine own_icmp_le (pt := 143) (pf := 137) C at_134 (by decide) (by decide) rfl (fun q => absurd (by decide) q) (fun _ => ?_)
    refine own_aload (pc' := 139) C at_137 rfl rfl rfl ?_
    refine own_iconst (pc' := 140) (v := (2 : Int32)) C at_139 own_ki_2 rfl ?_
    refine own_iload (pc' := 142) C at_140 rfl rfl ?_
    refine own_iastore (pc' := 143) (i := 2) (ys := [v6_82, v7_89, v8_96, (0 : Int32)]) C at_142 A_b6 (by decide) rfl (Nat.le_of_ble_eq_true rfl) rfl g_b6 rfl ?_
    intro h9 W9 A9_
    replace A_b1 := A_b1.other W9 ne_b1_b6
    replace A_b6 := A9_
    replace Z_ : n0 ≤ _ := Nat.le_trans Z_ (Nat.le_of_eq W9.size.symm)
    refine own_iloadN (pc' := 144) C at_143 rfl rfl ?_
    refine own_iconst (pc' := 145) (v := (3 : Int32)) C at_144 own_ki_3 rfl ?_
    refine own_icmp_le (pt := 154) (pf := 148) C at_145 (by decide) (by decide) rfl (fun q => absurd (by decide) q) (fun _ => ?_)
    refine own_aload (pc' := 150) C at_148 rfl rfl rfl ?_
    refine own_iconst (pc' := 151) (v := (3 : Int32)) C at_150 own_ki_3 rfl ?_
    refine own_iload (pc' := 153) C at_151 rfl rfl ?_
    refine own_iastore (pc' := 154) (i := 3) (ys := [v6_82, v7_89, v8_96, v9_104]) C at_153 A_b6 (by decide) rfl (Nat.le_of_ble_eq_true rfl) rfl g_b6 rfl ?_
    intro h10 W10 A10_
    replace A_b1 := A_b1.other W10 ne_b1_b6
    replace A_b6 := A10_
    replace Z_ : n0 ≤ _ := Nat.le_trans Z_ (Nat.le_of_eq W10.size.symm)
    refine own_aload (pc' := 156) C at_154 rfl rfl rfl ?_
    refine own_iload (pc' := 158) C at_156 rfl rfl ?_
    refine own_iaload (pc' := 159) (v := (own_rk [y33, y48, y63, y78] v6_82)) (i := v6_82.toNatClampNeg) C at_158 A_b1 (own_p3 hv6_82).1 rfl (own_get4 (own_p3 hv6_82)) rfl ?_
    refine own_istore (pc' := 161) (y := (own_rk [y33, y48, y63, y78] v6_82)) (Ls' := #[.val (.int p0), .val (.int p1), .val (.int p2), .val (.int (4 : Int32)), .val (.int v4_15), .val (.ref b1), .val (.int v6_82), .val (.int v7_89), .val (.int v8_96), .val (.int v9_104), .val (.ref b6), .val (.int (own_rk [y33, y48, y63, y78] v6_82)), .unset, .unset, .unset, .unset, .unset, .unset, .unset, .unset]) C at_159 rfl rfl rfl ?_
    refine own_aload (pc' := 163) C at_161 rfl rfl rfl ?_
    refine own_iload (pc' := 165) C at_163 rfl rfl ?_
    refine own_iaload (pc' := 166) (v := (own_rk [y33, y48, y63, y78] v7_89)) (i := v7_89.toNatClampNeg) C at_165 A_b1 (own_p3 hv7_89).1 rfl (own_get4 (own_p3 hv7_89)) rfl ?_
    refine own_istore (pc' := 168) (y := (own_rk [y33, y48, y63, y78] v7_89)) (Ls' := #[.val (.int p0), .val (.int p1), .val (.int p2), .val (.int (4 : Int32)), .val (.int v4_15), .val (.ref b1), .val (.int v6_82), .val (.int v7_89), .val (.int v8_96), .val (.int v9_104), .val (.ref b6), .val (.int (own_rk [y33, y48, y63, y78] v6_82)), .val (.int (own_rk [y33, y48, y63, y78] v7_89)), .unset, .unset, .unset, .unset, .unset, .unset, .unset]) C at_166 rfl rfl rfl ?_
    refine own_aload (pc' := 170) C at_168 rfl rfl rfl ?_
    refine own_iload (pc' := 172) C at_170 rfl rfl ?_
    refine own_iaload (pc' := 173) (v := (own_rk [y33, y48, y63, y78] v8_96)) (i := v8_96.toNatClampNeg) C at_172 A_b1 (own_p3 hv8_96).1 rfl (own_get4 (own_p3 hv8_96)) rfl ?_
    refine own_istore (pc' := 175) (y := (own_rk [y33, y48, y63, y78] v8_96)) (Ls' := #[.val (.int p0), .val (.int p1), .val (.int p2), .val (.int (4 : Int32)), .val (.int v4_15), .val (.ref b1), .val (.int v6_82), .val (.int v7_89), .val (.int v8_96), .val (.int v9_104), .val (.ref b6), .val (.int (own_rk [y33, y48, y63, y78] v6_82)), .val (.int (own_rk [y33, y48, y63, y78] v7_89)), .val (.int (own_rk [y33, y48, y63, y78] v8_96)), .unset, .unset, .unset, .unset, .unset, .unset]) C at_173 rfl rfl rfl ?_
    refine own_aload (pc' := 177) C at_175 rfl rfl rfl ?_
    refine own_iload (pc' := 179) C at_177 rfl rfl ?_
    refine own_iaload (pc' := 180) (v := (own_rk [y33, y48, y63, y78] v9_104)) (i := v9_104.toNatClampNeg) C at_179 A_b1 (own_p3 hv9_104).1 rfl (own_get4 (own_p3 hv9_104)) rfl ?_
    refine own_istore (pc' := 182) (y := (own_rk [y33, y48, y63, y78] v9_104)) (Ls' := #[.val (.int p0), .val (.int p1), .val (.int p2), .val (.int (4 : Int32)), .val (.int v4_15), .val (.ref b1), .val (.int v6_82), .val (.int v7_89), .val (.int v8_96), .val (.int v9_104), .val (.ref b6), .val (.int (own_rk [y33, y48, y63, y78] v6_82)), .val (.int (own_rk [y33, y48, y63, y78] v7_89)), .val (.int (own_rk [y33, y48, y63, y78] v8_96)), .val (.int (own_rk [y33, y48, y63, y78] v9_104)), .unset, .unset, .unset, .unset, .unset]) C at_180 rfl rfl rfl ?_
    refine own_aload (pc' := 184) C at_182 rfl rfl rfl ?_
    refine own_aload (pc' := 186) C at_184 rfl rfl rfl ?_
    refine own_iload (pc' := 188) C at_186 rfl rfl ?_
    have FIN := (own_fin4 (k0 := (own_rk [y33, y48, y63, y78] v6_82)) (k1 := (own_rk [y33, y48, y63, y78] v7_89)) (k2 := (own_rk [y33, y48, y63, y78] v8_96)) (k3 := (own_rk [y33, y48, y63, y78] v9_104)) (p0 := v6_82) (p1 := v7_89) (p2 := v8_96) (p3 := v9_104) (own_keys hv4_15) (own_rkb (own_p3 hv6_82) (own_yb (own_keys hv4_15) hy33) (own_yb (own_keys hv4_15) hy48) (own_yb (own_keys hv4_15) hy63) (own_yb (own_keys hv4_15) hy78)) (own_rkb (own_p3 hv7_89) (own_yb (own_keys hv4_15) hy33) (own_yb (own_keys hv4_15) hy48) (own_yb (own_keys hv4_15) hy63) (own_yb (own_keys hv4_15) hy78)) (own_rkb (own_p3 hv8_96) (own_yb (own_keys hv4_15) hy33) (own_yb (own_keys hv4_15) hy48) (own_yb (own_keys hv4_15) hy63) (own_yb (own_keys hv4_15) hy78)) (own_rkb (own_p3 hv9_104) (own_yb (own_keys hv4_15) hy33) (own_yb (own_keys hv4_15) hy48) (own_yb (own_keys hv4_15) hy63) (own_yb (own_keys hv4_15) hy78)))
    refine own_callS (pc' := 191) (wL := 0) (argsL := [(.ref b6), (.ref b1), (.int v4_15)]) (rest := []) C (own_sort4 l Z a0 hw b6 b1 v4_15 v6_82 v7_89 v8_96 v9_104 y33 y48 y63 y78 h10 n0 Z_ A_b6 A_b1 (own_keys hv4_15) (own_p3 hv6_82) (own_rkb (own_p3 hv6_82) (own_yb (own_keys hv4_15) hy33) (own_yb (own_keys hv4_15) hy48) (own_yb (own_keys hv4_15) hy63) (own_yb (own_keys hv4_15) hy78)) (own_p3 hv7_89) (own_rkb (own_p3 hv7_89) (own_yb (own_keys hv4_15) hy33) (own_yb (own_keys hv4_15) hy48) (own_yb (own_keys hv4_15) hy63) (own_yb (own_keys hv4_15) hy78)) (own_p3 hv8_96) (own_rkb (own_p3 hv8_96) (own_yb (own_keys hv4_15) hy33) (own_yb (own_keys hv4_15) hy48) (own_yb (own_keys hv4_15) hy63) (own_yb (own_keys hv4_15) hy78)) (own_p3 hv9_104) (own_rkb (own_p3 hv9_104) (own_yb (own_keys hv4_15) hy33) (own_yb (own_keys hv4_15) hy48) (own_yb (own_keys hv4_15) hy63) (own_yb (own_keys hv4_15) hy78)) FIN.1 FIN.2.1 FIN.2.2.1 FIN.2.2.2.1) at_188 (hw _ (List.mem_of_getElem? (i := 1) rfl)) (hw _ (List.mem_of_getElem? (i := 2) rfl)) (hw _ (List.mem_of_getElem? (i := 3) rfl)) (hw _ (List.mem_of_getElem? (i := 4) rfl)) (by decide) (by decide) (by decide) rfl (lenOf pd1 rfl) rfl rfl (Nat.le_of_eq rfl) (by decide) (by decide) rfl ?_
    rintro _ h11 ⟨o_11, rfl, sz11, K11, A_o_11⟩
    replace A_b1 := A_b1.keep K11 nin0
    replace A_b6 := A_b6.keep K11 nin0
    replace Z_ := Nat.le_trans Z_ K11.1
    show Wp p l e _ s m _ below meth c n0 _ h11 (((0 + 1) + 1) + 2) (((0 + 4) + 4) + 13) (mkF m 191 #[.val (.int p0), .val (.int p1), .val (.int p2), .val (.int (4 : Int32)), .val (.int v4_15), .val (.ref b1), .val (.int v6_82), .val (.int v7_89), .val (.int v8_96), .val (.int v9_104), .val (.ref b6), .val (.int (own_rk [y33, y48, y63, y78] v6_82)), .val (.int (own_rk [y33, y48, y63, y78] v7_89)), .val (.int (own_rk [y33, y48, y63, y78] v8_96)), .val (.int (own_rk [y33, y48, y63, y78] v9_104)), .unset, .unset, .unset, .unset, .unset] [(.ref o_11)])
    refine own_astore (pc' := 193) (Ls' := #[.val (.int p0), .val (.int p1), .val (.int p2), .val (.int (4 : Int32)), .val (.int v4_15), .val (.ref b1), .val (.int v6_82), .val (.int v7_89), .val (.int v8_96), .val (.int v9_104), .val (.ref b6), .val (.int (own_rk [y33, y48, y63, y78] v6_82)), .val (.int (own_rk [y33, y48, y63, y78] v7_89)), .val (.int (own_rk [y33, y48, y63, y78] v8_96)), .val (.int (own_rk [y33, y48, y63, y78] v9_104)), .val (.ref o_11), .unset, .unset, .unset, .unset]) C at_191 rfl rfl rfl ?_
    refine own_aload (pc' := 195) C at_193 rfl rfl rfl ?_
    refine own_lenI (pc' := 196) (v := (4 : Int32)) C at_195 A_o_11 (by first | (simp; done) | rfl | (simp; rfl)) rfl ?_
    refine own_iloadN (pc' := 197) C at_196 rfl rfl ?_
    refine own_icmp_eq (pt := 202) (pf := 200) C at_197 (by decide) (by decide) rfl (fun _ => ?_) (fun q => absurd (by decide) q)
    refine own_iconst (pc' := 203) (v := (1 : Int32)) C at_202 own_ki_1 rfl ?_
    refine own_iloadN (pc' := 204) C at_203 rfl rfl ?_
    refine own_iload (pc' := 206) C at_204 rfl rfl ?_
    refine own_iload (pc' := 208) C at_206 rfl rfl ?_
    refine own_iconst (pc' := 209) (v := (0 : Int32)) C at_208 own_ki_0 rfl ?_
    refine own_callS (pc' := 212) (wL := 0) (argsL := [(.int (1 : Int32)), (.int (4 : Int32)), (.int (own_rk [y33, y48, y63, y78] v7_89)), (.int (own_rk [y33, y48, y63, y78] v6_82)), (.int (0 : Int32))]) (rest := []) C (own_m2 l Z a0 hw (1 : Int32) (4 : Int32) (own_rk [y33, y48, y63, y78] v7_89) (own_rk [y33, y48, y63, y78] v6_82) (0 : Int32) h11 n0 Z_) at_209 (hw _ (List.mem_of_getElem? (i := 5) rfl)) (hw _ (List.mem_of_getElem? (i := 6) rfl)) (hw _ (List.mem_of_getElem? (i := 7) rfl)) (hw _ (List.mem_of_getElem? (i := 8) rfl)) (by decide) (by decide) (by decide) rfl (lenOf pd2 rfl) rfl rfl (Nat.le_of_eq rfl) (by decide) (by decide) rfl ?_
    rintro _ _ ⟨rfl, rfl⟩
    show Wp p l e _ s m _ below meth c n0 _ h11 (((0 + 1) + 1) + 2) (((0 + 4) + 4) + 13) (mkF m 212 #[.val (.int p0), .val (.int p1), .val (.int p2), .val (.int (4 : Int32)), .val (.int v4_15), .val (.ref b1), .val (.int v6_82), .val (.int v7_89), .val (.int v8_96), .val (.int v9_104), .val (.ref b6), .val (.int (own_rk [y33, y48, y63, y78] v6_82)), .val (.int (own_rk [y33, y48, y63, y78] v7_89)), .val (.int (own_rk [y33, y48, y63, y78] v8_96)), .val (.int (own_rk [y33, y48, y63, y78] v9_104)), .val (.ref o_11), .unset, .unset, .unset, .unset] [(.int (own_f2 (1 : Int32) (4 : Int32) (own_rk [y33, y48, y63, y78] v7_89) (own_rk [y33, y48, y63, y78] v6_82) (0 : Int32)))])
    refine own_iconst (pc' := 213) (v := (2 : Int32)) C at_212 own_ki_2 rfl ?_
    refine own_iloadN (pc' := 214) C at_213 rfl rfl ?_
    refine own_iload (pc' := 216) C at_214 rfl rfl ?_
    refine own_iload (pc' := 218) C at_216 rfl rfl ?_
    refine own_iconst (pc' := 219) (v := (0 : Int32)) C at_218 own_ki_0 rfl ?_
    refine own_callS (pc' := 222) (wL := 1) (argsL := [(.int (2 : Int32)), (.int (4 : Int32)), (.int (own_rk [y33, y48, y63, y78] v8_96)), (.int (own_rk [y33, y48, y63, y78] v6_82)), (.int (0 : Int32))]) (rest := [(.int (own_f2 (1 : Int32) (4 : Int32) (own_rk [y33, y48, y63, y78] v7_89) (own_rk [y33, y48, y63, y78] v6_82) (0 : Int32)))]) C (own_m2 l Z a0 hw (2 : Int32) (4 : Int32) (own_rk [y33, y48, y63, y78] v8_96) (own_rk [y33, y48, y63, y78] v6_82) (0 : Int32) h11 n0 Z_) at_219 (hw _ (List.mem_of_getElem? (i := 5) rfl)) (hw _ (List.mem_of_getElem? (i := 6) rfl)) (hw _ (List.mem_of_getElem? (i := 7) rfl)) (hw _ (List.mem_of_getElem? (i := 8) rfl)) (by decide) (by decide) (by decide) rfl (lenOf pd2 rfl) rfl rfl (Nat.le_of_eq rfl) (by decide) (by decide) rfl ?_
    rintro _ _ ⟨rfl, rfl⟩
    show Wp p l e _ s m _ below meth c n0 _ h11 (((0 + 1) + 1) + 2) (((0 + 4) + 4) + 13) (mkF m 222 #[.val (.int p0), .val (.int p1), .val (.int p2), .val (.int (4 : Int32)), .val (.int v4_15), .val (.ref b1), .val (.int v6_82), .val (.int v7_89), .val (.int v8_96), .val (.int v9_104), .val (.ref b6), .val (.int (own_rk [y33, y48, y63, y78] v6_82)), .val (.int (own_rk [y33, y48, y63, y78] v7_89)), .val (.int (own_rk [y33, y48, y63, y78] v8_96)), .val (.int (own_rk [y33, y48, y63, y78] v9_104)), .val (.ref o_11), .unset, .unset, .unset, .unset] [(.int (own_f2 (2 : Int32) (4 : Int32) (own_rk [y33, y48, y63, y78] v8_96) (own_rk [y33, y48, y63, y78] v6_82) (0 : Int32))), (.int (own_f2 (1 : Int32) (4 : Int32) (own_rk [y33, y48, y63, y78] v7_89) (own_rk [y33, y48, y63, y78] v6_82) (0 : Int32)))])
    refine own_iadd (pc' := 223) C at_222 rfl rfl ?_
    refine own_iconst (pc' := 224) (v := (3 : Int32)) C at_223 own_ki_3 rfl ?_
    refine own_iloadN (pc' := 225) C at_224 rfl rfl ?_
    refine own_iload (pc' := 227) C at_225 rfl rfl ?_
    refine own_iload (pc' := 229) C at_227 rfl rfl ?_
    refine own_iconst (pc' := 230) (v := (0 : Int32)) C at_229 own_ki_0 rfl ?_
    refine own_callS (pc' := 233) (wL := 1) (argsL := [(.int (3 : Int32)), (.int (4 : Int32)), (.int (own_rk [y33, y48, y63, y78] v9_104)), (.int (own_rk [y33, y48, y63, y78] v6_82)), (.int (0 : Int32))]) (rest := [(.int ((own_f2 (1 : Int32) (4 : Int32) (own_rk [y33, y48, y63, y78] v7_89) (own_rk [y33, y48, y63, y78] v6_82) (0 : Int32)) + (own_f2 (2 : Int32) (4 : Int32) (own_rk [y33, y48, y63, y78] v8_96) (own_rk [y33, y48, y63, y78] v6_82) (0 : Int32))))]) C (own_m2 l Z a0 hw (3 : Int32) (4 : Int32) (own_rk [y33, y48, y63, y78] v9_104) (own_rk [y33, y48, y63, y78] v6_82) (0 : Int32) h11 n0 Z_) at_230 (hw _ (List.mem_of_getElem? (i := 5) rfl)) (hw _ (List.mem_of_getElem? (i := 6) rfl)) (hw _ (List.mem_of_getElem? (i := 7) rfl)) (hw _ (List.mem_of_getElem? (i := 8) rfl)) (by decide) (by decide) (by decide) rfl (lenOf pd2 rfl) rfl rfl (Nat.le_of_eq rfl) (by decide) (by decide) rfl ?_
    rintro _ _ ⟨rfl, rfl⟩
    show Wp p l e _ s m _ below meth c n0 _ h11 (((0 + 1) + 1) + 2) (((0 + 4) + 4) + 13) (mkF m 233 #[.val (.int p0), .val (.int p1), .val (.int p2), .val (.int (4 : Int32)), .val (.int v4_15), .val (.ref b1), .val (.int v6_82), .val (.int v7_89), .val (.int v8_96), .val (.int v9_104), .val (.ref b6), .val (.int (own_rk [y33, y48, y63, y78] v6_82)), .val (.int (own_rk [y33, y48, y63, y78] v7_89)), .val (.int (own_rk [y33, y48, y63, y78] v8_96)), .val (.int (own_rk [y33, y48, y63, y78] v9_104)), .val (.ref o_11), .unset, .unset, .unset, .unset] [(.int (own_f2 (3 : Int32) (4 : Int32) (own_rk [y33, y48, y63, y78] v9_104) (own_rk [y33, y48, y63, y78] v6_82) (0 : Int32))), (.int ((own_f2 (1 : Int32) (4 : Int32) (own_rk [y33, y48, y63, y78] v7_89) (own_rk [y33, y48, y63, y78] v6_82) (0 : Int32)) + (own_f2 (2 : Int32) (4 : Int32) (own_rk [y33, y48, y63, y78] v8_96) (own_rk [y33, y48, y63, y78] v6_82) (0 : Int32))))])
    refine own_iadd (pc' := 234) C at_233 rfl rfl ?_
    obtain ⟨v16_234, hv16_234⟩ : ∃ z : Int32, z = (((own_f2 (1 : Int32) (4 : Int32) (own_rk [y33, y48, y63, y78] v7_89) (own_rk [y33, y48, y63, y78] v6_82) (0 : Int32)) + (own_f2 (2 : Int32) (4 : Int32) (own_rk [y33, y48, y63, y78] v8_96) (own_rk [y33, y48, y63, y78] v6_82) (0 : Int32))) + (own_f2 (3 : Int32) (4 : Int32) (own_rk [y33, y48, y63, y78] v9_104) (own_rk [y33, y48, y63, y78] v6_82) (0 : Int32))) := ⟨_, rfl⟩
    refine own_istore (pc' := 236) (y := v16_234) (Ls' := #[.val (.int p0), .val (.int p1), .val (.int p2), .val (.int (4 : Int32)), .val (.int v4_15), .val (.ref b1), .val (.int v6_82), .val (.int v7_89), .val (.int v8_96), .val (.int v9_104), .val (.ref b6), .val (.int (own_rk [y33, y48, y63, y78] v6_82)), .val (.int (own_rk [y33, y48, y63, y78] v7_89)), .val (.int (own_rk [y33, y48, y63, y78] v8_96)), .val (.int (own_rk [y33, y48, y63, y78] v9_104)), .val (.ref o_11), .val (.int v16_234), .unset, .unset, .unset]) C at_234 hv16_234.symm rfl rfl ?_
    refine own_iconst (pc' := 237) (v := (0 : Int32)) C at_236 own_ki_0 rfl ?_
    refine own_iloadN (pc' := 238) C at_237 rfl rfl ?_
    refine own_iload (pc' := 240) C at_238 rfl rfl ?_
    refine own_iload (pc' := 242) C at_240 rfl rfl ?_
    refine own_iconst (pc' := 243) (v := (1 : Int32)) C at_242 own_ki_1 rfl ?_
    refine own_callS (pc' := 246) (wL := 0) (argsL := [(.int (0 : Int32)), (.int (4 : Int32)), (.int (own_rk [y33, y48, y63, y78] v6_82)), (.int (own_rk [y33, y48, y63, y78] v7_89)), (.int (1 : Int32))]) (rest := []) C (own_m2 l Z a0 hw (0 : Int32) (4 : Int32) (own_rk [y33, y48, y63, y78] v6_82) (own_rk [y33, y48, y63, y78] v7_89) (1 : Int32) h11 n0 Z_) at_243 (hw _ (List.mem_of_getElem? (i := 5) rfl)) (hw _ (List.mem_of_getElem? (i := 6) rfl)) (hw _ (List.mem_of_getElem? (i := 7) rfl)) (hw _ (List.mem_of_getElem? (i := 8) rfl)) (by decide) (by decide) (by decide) rfl (lenOf pd2 rfl) rfl rfl (Nat.le_of_eq rfl) (by decide) (by decide) rfl ?_
    rintro _ _ ⟨rfl, rfl⟩
    show Wp p l e _ s m _ below meth c n0 _ h11 (((0 + 1) + 1) + 2) (((0 + 4) + 4) + 13) (mkF m 246 #[.val (.int p0), .val (.int p1), .val (.int p2), .val (.int (4 : Int32)), .val (.int v4_15), .val (.ref b1), .val (.int v6_82), .val (.int v7_89), .val (.int v8_96), .val (.int v9_104), .val (.ref b6), .val (.int (own_rk [y33, y48, y63, y78] v6_82)), .val (.int (own_rk [y33, y48, y63, y78] v7_89)), .val (.int (own_rk [y33, y48, y63, y78] v8_96)), .val (.int (own_rk [y33, y48, y63, y78] v9_104)), .val (.ref o_11), .val (.int v16_234), .unset, .unset, .unset] [(.int (own_f2 (0 : Int32) (4 : Int32) (own_rk [y33, y48, y63, y78] v6_82) (own_rk [y33, y48, y63, y78] v7_89) (1 : Int32)))])
    refine own_iconst (pc' := 247) (v := (2 : Int32)) C at_246 own_ki_2 rfl ?_
    refine own_iloadN (pc' := 248) C at_247 rfl rfl ?_
    refine own_iload (pc' := 250) C at_248 rfl rfl ?_
    refine own_iload (pc' := 252) C at_250 rfl rfl ?_
    refine own_iconst (pc' := 253) (v := (0 : Int32)) C at_252 own_ki_0 rfl ?_
    refine own_callS (pc' := 256) (wL := 1) (argsL := [(.int (2 : Int32)), (.int (4 : Int32)), (.int (own_rk [y33, y48, y63, y78] v8_96)), (.int (own_rk [y33, y48, y63, y78] v7_89)), (.int (0 : Int32))]) (rest := [(.int (own_f2 (0 : Int32) (4 : Int32) (own_rk [y33, y48, y63, y78] v6_82) (own_rk [y33, y48, y63, y78] v7_89) (1 : Int32)))]) C (own_m2 l Z a0 hw (2 : Int32) (4 : Int32) (own_rk [y33, y48, y63, y78] v8_96) (own_rk [y33, y48, y63, y78] v7_89) (0 : Int32) h11 n0 Z_) at_253 (hw _ (List.mem_of_getElem? (i := 5) rfl)) (hw _ (List.mem_of_getElem? (i := 6) rfl)) (hw _ (List.mem_of_getElem? (i := 7) rfl)) (hw _ (List.mem_of_getElem? (i := 8) rfl)) (by decide) (by decide) (by decide) rfl (lenOf pd2 rfl) rfl rfl (Nat.le_of_eq rfl) (by decide) (by decide) rfl ?_
    rintro _ _ ⟨rfl, rfl⟩
    show Wp p l e _ s m _ below meth c n0 _ h11 (((0 + 1) + 1) + 2) (((0 + 4) + 4) + 13) (mkF m 256 #[.val (.int p0), .val (.int p1), .val (.int p2), .val (.int (4 : Int32)), .val (.int v4_15), .val (.ref b1), .val (.int v6_82), .val (.int v7_89), .val (.int v8_96), .val (.int v9_104), .val (.ref b6), .val (.int (own_rk [y33, y48, y63, y78] v6_82)), .val (.int (own_rk [y33, y48, y63, y78] v7_89)), .val (.int (own_rk [y33, y48, y63, y78] v8_96)), .val (.int (own_rk [y33, y48, y63, y78] v9_104)), .val (.ref o_11), .val (.int v16_234), .unset, .unset, .unset] [(.int (own_f2 (2 : Int32) (4 : Int32) (own_rk [y33, y48, y63, y78] v8_96) (own_rk [y33, y48, y63, y78] v7_89) (0 : Int32))), (.int (own_f2 (0 : Int32) (4 : Int32) (own_rk [y33, y48, y63, y78] v6_82) (own_rk [y33, y48, y63, y78] v7_89) (1 : Int32)))])
    refine own_iadd (pc' := 257) C at_256 rfl rfl ?_
    refine own_iconst (pc' := 258) (v := (3 : Int32)) C at_257 own_ki_3 rfl ?_
    refine own_iloadN (pc' := 259) C at_258 rfl rfl ?_
    refine own_iload (pc' := 261) C at_259 rfl rfl ?_
    refine own_iload (pc' := 263) C at_261 rfl rfl ?_
    refine own_iconst (pc' := 264) (v := (0 : Int32)) C at_263 own_ki_0 rfl ?_
    refine own_callS (pc' := 267) (wL := 1) (argsL := [(.int (3 : Int32)), (.int (4 : Int32)), (.int (own_rk [y33, y48, y63, y78] v9_104)), (.int (own_rk [y33, y48, y63, y78] v7_89)), (.int (0 : Int32))]) (rest := [(.int ((own_f2 (0 : Int32) (4 : Int32) (own_rk [y33, y48, y63, y78] v6_82) (own_rk [y33, y48, y63, y78] v7_89) (1 : Int32)) + (own_f2 (2 : Int32) (4 : Int32) (own_rk [y33, y48, y63, y78] v8_96) (own_rk [y33, y48, y63, y78] v7_89) (0 : Int32))))]) C (own_m2 l Z a0 hw (3 : Int32) (4 : Int32) (own_rk [y33, y48, y63, y78] v9_104) (own_rk [y33, y48, y63, y78] v7_89) (0 : Int32) h11 n0 Z_) at_264 (hw _ (List.mem_of_getElem? (i := 5) rfl)) (hw _ (List.mem_of_getElem? (i := 6) rfl)) (hw _ (List.mem_of_getElem? (i := 7) rfl)) (hw _ (List.mem_of_getElem? (i := 8) rfl)) (by decide) (by decide) (by decide) rfl (lenOf pd2 rfl) rfl rfl (Nat.le_of_eq rfl) (by decide) (by decide) rfl ?_
    rintro _ _ ⟨rfl, rfl⟩
    show Wp p l e _ s m _ below meth c n0 _ h11 (((0 + 1) + 1) + 2) (((0 + 4) + 4) + 13) (mkF m 267 #[.val (.int p0), .val (.int p1), .val (.int p2), .val (.int (4 : Int32)), .val (.int v4_15), .val (.ref b1), .val (.int v6_82), .val (.int v7_89), .val (.int v8_96), .val (.int v9_104), .val (.ref b6), .val (.int (own_rk [y33, y48, y63, y78] v6_82)), .val (.int (own_rk [y33, y48, y63, y78] v7_89)), .val (.int (own_rk [y33, y48, y63, y78] v8_96)), .val (.int (own_rk [y33, y48, y63, y78] v9_104)), .val (.ref o_11), .val (.int v16_234), .unset, .unset, .unset] [(.int (own_f2 (3 : Int32) (4 : Int32) (own_rk [y33, y48, y63, y78] v9_104) (own_rk [y33, y48, y63, y78] v7_89) (0 : Int32))), (.int ((own_f2 (0 : Int32) (4 : Int32) (own_rk [y33, y48, y63, y78] v6_82) (own_rk [y33, y48, y63, y78] v7_89) (1 : Int32)) + (own_f2 (2 : Int32) (4 : Int32) (own_rk [y33, y48, y63, y78] v8_96) (own_rk [y33, y48, y63, y78] v7_89) (0 : Int32))))])
    refine own_iadd (pc' := 268) C at_267 rfl rfl ?_
    obtain ⟨v17_268, hv17_268⟩ : ∃ z : Int32, z = (((own_f2 (0 : Int32) (4 : Int32) (own_rk [y33, y48, y63, y78] v6_82) (own_rk [y33, y48, y63, y78] v7_89) (1 : Int32)) + (own_f2 (2 : Int32) (4 : Int32) (own_rk [y33, y48, y63, y78] v8_96) (own_rk [y33, y48, y63, y78] v7_89) (0 : Int32))) + (own_f2 (3 : Int32) (4 : Int32) (own_rk [y33, y48, y63, y78] v9_104) (own_rk [y33, y48, y63, y78] v7_89) (0 : Int32))) := ⟨_, rfl⟩
    refine own_istore (pc' := 270) (y := v17_268) (Ls' := #[.val (.int p0), .val (.int p1), .val (.int p2), .val (.int (4 : Int32)), .val (.int v4_15), .val (.ref b1), .val (.int v6_82), .val (.int v7_89), .val (.int v8_96), .val (.int v9_104), .val (.ref b6), .val (.int (own_rk [y33, y48, y63, y78] v6_82)), .val (.int (own_rk [y33, y48, y63, y78] v7_89)), .val (.int (own_rk [y33, y48, y63, y78] v8_96)), .val (.int (own_rk [y33, y48, y63, y78] v9_104)), .val (.ref o_11), .val (.int v16_234), .val (.int v17_268), .unset, .unset]) C at_268 hv17_268.symm rfl rfl ?_
    refine own_iconst (pc' := 271) (v := (0 : Int32)) C at_270 own_ki_0 rfl ?_
    refine own_iloadN (pc' := 272) C at_271 rfl rfl ?_
    refine own_iload (pc' := 274) C at_272 rfl rfl ?_
    refine own_iload (pc' := 276) C at_274 rfl rfl ?_
    refine own_iconst (pc' := 277) (v := (1 : Int32)) C at_276 own_ki_1 rfl ?_
    refine own_callS (pc' := 280) (wL := 0) (argsL := [(.int (0 : Int32)), (.int (4 : Int32)), (.int (own_rk [y33, y48, y63, y78] v6_82)), (.int (own_rk [y33, y48, y63, y78] v8_96)), (.int (1 : Int32))]) (rest := []) C (own_m2 l Z a0 hw (0 : Int32) (4 : Int32) (own_rk [y33, y48, y63, y78] v6_82) (own_rk [y33, y48, y63, y78] v8_96) (1 : Int32) h11 n0 Z_) at_277 (hw _ (List.mem_of_getElem? (i := 5) rfl)) (hw _ (List.mem_of_getElem? (i := 6) rfl)) (hw _ (List.mem_of_getElem? (i := 7) rfl)) (hw _ (List.mem_of_getElem? (i := 8) rfl)) (by decide) (by decide) (by decide) rfl (lenOf pd2 rfl) rfl rfl (Nat.le_of_eq rfl) (by decide) (by decide) rfl ?_
    rintro _ _ ⟨rfl, rfl⟩
    show Wp p l e _ s m _ below meth c n0 _ h11 (((0 + 1) + 1) + 2) (((0 + 4) + 4) + 13) (mkF m 280 #[.val (.int p0), .val (.int p1), .val (.int p2), .val (.int (4 : Int32)), .val (.int v4_15), .val (.ref b1), .val (.int v6_82), .val (.int v7_89), .val (.int v8_96), .val (.int v9_104), .val (.ref b6), .val (.int (own_rk [y33, y48, y63, y78] v6_82)), .val (.int (own_rk [y33, y48, y63, y78] v7_89)), .val (.int (own_rk [y33, y48, y63, y78] v8_96)), .val (.int (own_rk [y33, y48, y63, y78] v9_104)), .val (.ref o_11), .val (.int v16_234), .val (.int v17_268), .unset, .unset] [(.int (own_f2 (0 : Int32) (4 : Int32) (own_rk [y33, y48, y63, y78] v6_82) (own_rk [y33, y48, y63, y78] v8_96) (1 : Int32)))])
    refine own_iconst (pc' := 281) (v := (1 : Int32)) C at_280 own_ki_1 rfl ?_
    refine own_iloadN (pc' := 282) C at_281 rfl rfl ?_
    refine own_iload (pc' := 284) C at_282 rfl rfl ?_
    refine own_iload (pc' := 286) C at_284 rfl rfl ?_
    refine own_iconst (pc' := 287) (v := (1 : Int32)) C at_286 own_ki_1 rfl ?_
    refine own_callS (pc' := 290) (wL := 1) (argsL := [(.int (1 : Int32)), (.int (4 : Int32)), (.int (own_rk [y33, y48, y63, y78] v7_89)), (.int (own_rk [y33, y48, y63, y78] v8_96)), (.int (1 : Int32))]) (rest := [(.int (own_f2 (0 : Int32) (4 : Int32) (own_rk [y33, y48, y63, y78] v6_82) (own_rk [y33, y48, y63, y78] v8_96) (1 : Int32)))]) C (own_m2 l Z a0 hw (1 : Int32) (4 : Int32) (own_rk [y33, y48, y63, y78] v7_89) (own_rk [y33, y48, y63, y78] v8_96) (1 : Int32) h11 n0 Z_) at_287 (hw _ (List.mem_of_getElem? (i := 5) rfl)) (hw _ (List.mem_of_getElem? (i := 6) rfl)) (hw _ (List.mem_of_getElem? (i := 7) rfl)) (hw _ (List.mem_of_getElem? (i := 8) rfl)) (by decide) (by decide) (by decide) rfl (lenOf pd2 rfl) rfl rfl (Nat.le_of_eq rfl) (by decide) (by decide) rfl ?_
    rintro _ _ ⟨rfl, rfl⟩
    show Wp p l e _ s m _ below meth c n0 _ h11 (((0 + 1) + 1) + 2) (((0 + 4) + 4) + 13) (mkF m 290 #[.val (.int p0), .val (.int p1), .val (.int p2), .val (.int (4 : Int32)), .val (.int v4_15), .val (.ref b1), .val (.int v6_82), .val (.int v7_89), .val (.int v8_96), .val (.int v9_104), .val (.ref b6), .val (.int (own_rk [y33, y48, y63, y78] v6_82)), .val (.int (own_rk [y33, y48, y63, y78] v7_89)), .val (.int (own_rk [y33, y48, y63, y78] v8_96)), .val (.int (own_rk [y33, y48, y63, y78] v9_104)), .val (.ref o_11), .val (.int v16_234), .val (.int v17_268), .unset, .unset] [(.int (own_f2 (1 : Int32) (4 : Int32) (own_rk [y33, y48, y63, y78] v7_89) (own_rk [y33, y48, y63, y78] v8_96) (1 : Int32))), (.int (own_f2 (0 : Int32) (4 : Int32) (own_rk [y33, y48, y63, y78] v6_82) (own_rk [y33, y48, y63, y78] v8_96) (1 : Int32)))])
    refine own_iadd (pc' := 291) C at_290 rfl rfl ?_
    refine own_iconst (pc' := 292) (v := (3 : Int32)) C at_291 own_ki_3 rfl ?_
    refine own_iloadN (pc' := 293) C at_292 rfl rfl ?_
    refine own_iload (pc' := 295) C at_293 rfl rfl ?_
    refine own_iload (pc' := 297) C at_295 rfl rfl ?_
    refine own_iconst (pc' := 298) (v := (0 : Int32)) C at_297 own_ki_0 rfl ?_
    refine own_callS (pc' := 301) (wL := 1) (argsL := [(.int (3 : Int32)), (.int (4 : Int32)), (.int (own_rk [y33, y48, y63, y78] v9_104)), (.int (own_rk [y33, y48, y63, y78] v8_96)), (.int (0 : Int32))]) (rest := [(.int ((own_f2 (0 : Int32) (4 : Int32) (own_rk [y33, y48, y63, y78] v6_82) (own_rk [y33, y48, y63, y78] v8_96) (1 : Int32)) + (own_f2 (1 : Int32) (4 : Int32) (own_rk [y33, y48, y63, y78] v7_89) (own_rk [y33, y48, y63, y78] v8_96) (1 : Int32))))]) C (own_m2 l Z a0 hw (3 : Int32) (4 : Int32) (own_rk [y33, y48, y63, y78] v9_104) (own_rk [y33, y48, y63, y78] v8_96) (0 : Int32) h11 n0 Z_) at_298 (hw _ (List.mem_of_getElem? (i := 5) rfl)) (hw _ (List.mem_of_getElem? (i := 6) rfl)) (hw _ (List.mem_of_getElem? (i := 7) rfl)) (hw _ (List.mem_of_getElem? (i := 8) rfl)) (by decide) (by decide) (by decide) rfl (lenOf pd2 rfl) rfl rfl (Nat.le_of_eq rfl) (by decide) (by decide) rfl ?_
    rintro _ _ ⟨rfl, rfl⟩
    show Wp p l e _ s m _ below meth c n0 _ h11 (((0 + 1) + 1) + 2) (((0 + 4) + 4) + 13) (mkF m 301 #[.val (.int p0), .val (.int p1), .val (.int p2), .val (.int (4 : Int32)), .val (.int v4_15), .val (.ref b1), .val (.int v6_82), .val (.int v7_89), .val (.int v8_96), .val (.int v9_104), .val (.ref b6), .val (.int (own_rk [y33, y48, y63, y78] v6_82)), .val (.int (own_rk [y33, y48, y63, y78] v7_89)), .val (.int (own_rk [y33, y48, y63, y78] v8_96)), .val (.int (own_rk [y33, y48, y63, y78] v9_104)), .val (.ref o_11), .val (.int v16_234), .val (.int v17_268), .unset, .unset] [(.int (own_f2 (3 : Int32) (4 : Int32) (own_rk [y33, y48, y63, y78] v9_104) (own_rk [y33, y48, y63, y78] v8_96) (0 : Int32))), (.int ((own_f2 (0 : Int32) (4 : Int32) (own_rk [y33, y48, y63, y78] v6_82) (own_rk [y33, y48, y63, y78] v8_96) (1 : Int32)) + (own_f2 (1 : Int32) (4 : Int32) (own_rk [y33, y48, y63, y78] v7_89) (own_rk [y33, y48, y63, y78] v8_96) (1 : Int32))))])
    refine own_iadd (pc' := 302) C at_301 rfl rfl ?_
    obtain ⟨v18_302, hv18_302⟩ : ∃ z : Int32, z = (((own_f2 (0 : Int32) (4 : Int32) (own_rk [y33, y48, y63, y78] v6_82) (own_rk [y33, y48, y63, y78] v8_96) (1 : Int32)) + (own_f2 (1 : Int32) (4 : Int32) (own_rk [y33, y48, y63, y78] v7_89) (own_rk [y33, y48, y63, y78] v8_96) (1 : Int32))) + (own_f2 (3 : Int32) (4 : Int32) (own_rk [y33, y48, y63, y78] v9_104) (own_rk [y33, y48, y63, y78] v8_96) (0 : Int32))) := ⟨_, rfl⟩
    refine own_istore (pc' := 304) (y := v18_302) (Ls' := #[.val (.int p0), .val (.int p1), .val (.int p2), .val (.int (4 : Int32)), .val (.int v4_15), .val (.ref b1), .val (.int v6_82), .val (.int v7_89), .val (.int v8_96), .val (.int v9_104), .val (.ref b6), .val (.int (own_rk [y33, y48, y63, y78] v6_82)), .val (.int (own_rk [y33, y48, y63, y78] v7_89)), .val (.int (own_rk [y33, y48, y63, y78] v8_96)), .val (.int (own_rk [y33, y48, y63, y78] v9_104)), .val (.ref o_11), .val (.int v16_234), .val (.int v17_268), .val (.int v18_302), .unset]) C at_302 hv18_302.symm rfl rfl ?_
    refine own_iconst (pc' := 305) (v := (0 : Int32)) C at_304 own_ki_0 rfl ?_
    refine own_iloadN (pc' := 306) C at_305 rfl rfl ?_
    refine own_iload (pc' := 308) C at_306 rfl rfl ?_
    refine own_iload (pc' := 310) C at_308 rfl rfl ?_
    refine own_iconst (pc' := 311) (v := (1 : Int32)) C at_310 own_ki_1 rfl ?_
    refine own_callS (pc' := 314) (wL := 0) (argsL := [(.int (0 : Int32)), (.int (4 : Int32)), (.int (own_rk [y33, y48, y63, y78] v6_82)), (.int (own_rk [y33, y48, y63, y78] v9_104)), (.int (1 : Int32))]) (rest := []) C (own_m2 l Z a0 hw (0 : Int32) (4 : Int32) (own_rk [y33, y48, y63, y78] v6_82) (own_rk [y33, y48, y63, y78] v9_104) (1 : Int32) h11 n0 Z_) at_311 (hw _ (List.mem_of_getElem? (i := 5) rfl)) (hw _ (List.mem_of_getElem? (i := 6) rfl)) (hw _ (List.mem_of_getElem? (i := 7) rfl)) (hw _ (List.mem_of_getElem? (i := 8) rfl)) (by decide) (by decide) (by decide) rfl (lenOf pd2 rfl) rfl rfl (Nat.le_of_eq rfl) (by decide) (by decide) rfl ?_
    rintro _ _ ⟨rfl, rfl⟩
    show Wp p l e _ s m _ below meth c n0 _ h11 (((0 + 1) + 1) + 2) (((0 + 4) + 4) + 13) (mkF m 314 #[.val (.int p0), .val (.int p1), .val (.int p2), .val (.int (4 : Int32)), .val (.int v4_15), .val (.ref b1), .val (.int v6_82), .val (.int v7_89), .val (.int v8_96), .val (.int v9_104), .val (.ref b6), .val (.int (own_rk [y33, y48, y63, y78] v6_82)), .val (.int (own_rk [y33, y48, y63, y78] v7_89)), .val (.int (own_rk [y33, y48, y63, y78] v8_96)), .val (.int (own_rk [y33, y48, y63, y78] v9_104)), .val (.ref o_11), .val (.int v16_234), .val (.int v17_268), .val (.int v18_302), .unset] [(.int (own_f2 (0 : Int32) (4 : Int32) (own_rk [y33, y48, y63, y78] v6_82) (own_rk [y33, y48, y63, y78] v9_104) (1 : Int32)))])
    refine own_iconst (pc' := 315) (v := (1 : Int32)) C at_314 own_ki_1 rfl ?_
    refine own_iloadN (pc' := 316) C at_315 rfl rfl ?_
    refine own_iload (pc' := 318) C at_316 rfl rfl ?_
    refine own_iload (pc' := 320) C at_318 rfl rfl ?_
    refine own_iconst (pc' := 321) (v := (1 : Int32)) C at_320 own_ki_1 rfl ?_
    refine own_callS (pc' := 324) (wL := 1) (argsL := [(.int (1 : Int32)), (.int (4 : Int32)), (.int (own_rk [y33, y48, y63, y78] v7_89)), (.int (own_rk [y33, y48, y63, y78] v9_104)), (.int (1 : Int32))]) (rest := [(.int (own_f2 (0 : Int32) (4 : Int32) (own_rk [y33, y48, y63, y78] v6_82) (own_rk [y33, y48, y63, y78] v9_104) (1 : Int32)))]) C (own_m2 l Z a0 hw (1 : Int32) (4 : Int32) (own_rk [y33, y48, y63, y78] v7_89) (own_rk [y33, y48, y63, y78] v9_104) (1 : Int32) h11 n0 Z_) at_321 (hw _ (List.mem_of_getElem? (i := 5) rfl)) (hw _ (List.mem_of_getElem? (i := 6) rfl)) (hw _ (List.mem_of_getElem? (i := 7) rfl)) (hw _ (List.mem_of_getElem? (i := 8) rfl)) (by decide) (by decide) (by decide) rfl (lenOf pd2 rfl) rfl rfl (Nat.le_of_eq rfl) (by decide) (by decide) rfl ?_
    rintro _ _ ⟨rfl, rfl⟩
    show Wp p l e _ s m _ below meth c n0 _ h11 (((0 + 1) + 1) + 2) (((0 + 4) + 4) + 13) (mkF m 324 #[.val (.int p0), .val (.int p1), .val (.int p2), .val (.int (4 : Int32)), .val (.int v4_15), .val (.ref b1), .val (.int v6_82), .val (.int v7_89), .val (.int v8_96), .val (.int v9_104), .val (.ref b6), .val (.int (own_rk [y33, y48, y63, y78] v6_82)), .val (.int (own_rk [y33, y48, y63, y78] v7_89)), .val (.int (own_rk [y33, y48, y63, y78] v8_96)), .val (.int (own_rk [y33, y48, y63, y78] v9_104)), .val (.ref o_11), .val (.int v16_234), .val (.int v17_268), .val (.int v18_302), .unset] [(.int (own_f2 (1 : Int32) (4 : Int32) (own_rk [y33, y48, y63, y78] v7_89) (own_rk [y33, y48, y63, y78] v9_104) (1 : Int32))), (.int (own_f2 (0 : Int32) (4 : Int32) (own_rk [y33, y48, y63, y78] v6_82) (own_rk [y33, y48, y63, y78] v9_104) (1 : Int32)))])
    refine own_iadd (pc' := 325) C at_324 rfl rfl ?_
    refine own_iconst (pc' := 326) (v := (2 : Int32)) C at_325 own_ki_2 rfl ?_
    refine own_iloadN (pc' := 327) C at_326 rfl rfl ?_
    refine own_iload (pc' := 329) C at_327 rfl rfl ?_
    refine own_iload (pc' := 331) C at_329 rfl rfl ?_
    refine own_iconst (pc' := 332) (v := (1 : Int32)) C at_331 own_ki_1 rfl ?_
    refine own_callS (pc' := 335) (wL := 1) (argsL := [(.int (2 : Int32)), (.int (4 : Int32)), (.int (own_rk [y33, y48, y63, y78] v8_96)), (.int (own_rk [y33, y48, y63, y78] v9_104)), (.int (1 : Int32))]) (rest := [(.int ((own_f2 (0 : Int32) (4 : Int32) (own_rk [y33, y48, y63, y78] v6_82) (own_rk [y33, y48, y63, y78] v9_104) (1 : Int32)) + (own_f2 (1 : Int32) (4 : Int32) (own_rk [y33, y48, y63, y78] v7_89) (own_rk [y33, y48, y63, y78] v9_104) (1 : Int32))))]) C (own_m2 l Z a0 hw (2 : Int32) (4 : Int32) (own_rk [y33, y48, y63, y78] v8_96) (own_rk [y33, y48, y63, y78] v9_104) (1 : Int32) h11 n0 Z_) at_332 (hw _ (List.mem_of_getElem? (i := 5) rfl)) (hw _ (List.mem_of_getElem? (i := 6) rfl)) (hw _ (List.mem_of_getElem? (i := 7) rfl)) (hw _ (List.mem_of_getElem? (i := 8) rfl)) (by decide) (by decide) (by decide) rfl (lenOf pd2 rfl) rfl rfl (Nat.le_of_eq rfl) (by decide) (by decide) rfl ?_
    rintro _ _ ⟨rfl, rfl⟩
    show Wp p l e _ s m _ below meth c n0 _ h11 (((0 + 1) + 1) + 2) (((0 + 4) + 4) + 13) (mkF m 335 #[.val (.int p0), .val (.int p1), .val (.int p2), .val (.int (4 : Int32)), .val (.int v4_15), .val (.ref b1), .val (.int v6_82), .val (.int v7_89), .val (.int v8_96), .val (.int v9_104), .val (.ref b6), .val (.int (own_rk [y33, y48, y63, y78] v6_82)), .val (.int (own_rk [y33, y48, y63, y78] v7_89)), .val (.int (own_rk [y33, y48, y63, y78] v8_96)), .val (.int (own_rk [y33, y48, y63, y78] v9_104)), .val (.ref o_11), .val (.int v16_234), .val (.int v17_268), .val (.int v18_302), .unset] [(.int (own_f2 (2 : Int32) (4 : Int32) (own_rk [y33, y48, y63, y78] v8_96) (own_rk [y33, y48, y63, y78] v9_104) (1 : Int32))), (.int ((own_f2 (0 : Int32) (4 : Int32) (own_rk [y33, y48, y63, y78] v6_82) (own_rk [y33, y48, y63, y78] v9_104) (1 : Int32)) + (own_f2 (1 : Int32) (4 : Int32) (own_rk [y33, y48, y63, y78] v7_89) (own_rk [y33, y48, y63, y78] v9_104) (1 : Int32))))])
    refine own_iadd (pc' := 336) C at_335 rfl rfl ?_
    obtain ⟨v19_336, hv19_336⟩ : ∃ z : Int32, z = (((own_f2 (0 : Int32) (4 : Int32) (own_rk [y33, y48, y63, y78] v6_82) (own_rk [y33, y48, y63, y78] v9_104) (1 : Int32)) + (own_f2 (1 : Int32) (4 : Int32) (own_rk [y33, y48, y63, y78] v7_89) (own_rk [y33, y48, y63, y78] v9_104) (1 : Int32))) + (own_f2 (2 : Int32) (4 : Int32) (own_rk [y33, y48, y63, y78] v8_96) (own_rk [y33, y48, y63, y78] v9_104) (1 : Int32))) := ⟨_, rfl⟩
    refine own_istore (pc' := 338) (y := v19_336) (Ls' := #[.val (.int p0), .val (.int p1), .val (.int p2), .val (.int (4 : Int32)), .val (.int v4_15), .val (.ref b1), .val (.int v6_82), .val (.int v7_89), .val (.int v8_96), .val (.int v9_104), .val (.ref b6), .val (.int (own_rk [y33, y48, y63, y78] v6_82)), .val (.int (own_rk [y33, y48, y63, y78] v7_89)), .val (.int (own_rk [y33, y48, y63, y78] v8_96)), .val (.int (own_rk [y33, y48, y63, y78] v9_104)), .val (.ref o_11), .val (.int v16_234), .val (.int v17_268), .val (.int v18_302), .val (.int v19_336)]) C at_336 hv19_336.symm rfl rfl ?_
    refine own_iconst (pc' := 339) (v := (0 : Int32)) C at_338 own_ki_0 rfl ?_
    refine own_iloadN (pc' := 340) C at_339 rfl rfl ?_
    refine own_aload (pc' := 342) C at_340 rfl rfl rfl ?_
    refine own_iload (pc' := 344) C at_342 rfl rfl ?_
    refine own_iload (pc' := 346) C at_344 rfl rfl ?_
    refine own_callS (pc' := 349) (wL := 0) (argsL := [(.int (0 : Int32)), (.int (4 : Int32)), (.ref o_11), (.int v16_234), (.int v6_82)]) (rest := []) C (own_okk l Z a0 hw (0 : Int32) (4 : Int32) o_11 v16_234 v6_82 (((([(0 : Int32), (0 : Int32), (0 : Int32), (0 : Int32)].set ((own_pre (own_inc (own_inc (own_inc (own_inc (fun _ => 0) ((own_rk [y33, y48, y63, y78] v6_82).toNatClampNeg + 1)) ((own_rk [y33, y48, y63, y78] v7_89).toNatClampNeg + 1)) ((own_rk [y33, y48, y63, y78] v8_96).toNatClampNeg + 1)) ((own_rk [y33, y48, y63, y78] v9_104).toNatClampNeg + 1))) (own_rk [y33, y48, y63, y78] v6_82).toNatClampNeg).toNatClampNeg v6_82).set ((own_inc (own_pre (own_inc (own_inc (own_inc (own_inc (fun _ => 0) ((own_rk [y33, y48, y63, y78] v6_82).toNatClampNeg + 1)) ((own_rk [y33, y48, y63, y78] v7_89).toNatClampNeg + 1)) ((own_rk [y33, y48, y63, y78] v8_96).toNatClampNeg + 1)) ((own_rk [y33, y48, y63, y78] v9_104).toNatClampNeg + 1))) (own_rk [y33, y48, y63, y78] v6_82).toNatClampNeg) (own_rk [y33, y48, y63, y78] v7_89).toNatClampNeg).toNatClampNeg v7_89).set ((own_inc (own_inc (own_pre (own_inc (own_inc (own_inc (own_inc (fun _ => 0) ((own_rk [y33, y48, y63, y78] v6_82).toNatClampNeg + 1)) ((own_rk [y33, y48, y63, y78] v7_89).toNatClampNeg + 1)) ((own_rk [y33, y48, y63, y78] v8_96).toNatClampNeg + 1)) ((own_rk [y33, y48, y63, y78] v9_104).toNatClampNeg + 1))) (own_rk [y33, y48, y63, y78] v6_82).toNatClampNeg) (own_rk [y33, y48, y63, y78] v7_89).toNatClampNeg) (own_rk [y33, y48, y63, y78] v8_96).toNatClampNeg).toNatClampNeg v8_96).set ((own_inc (own_inc (own_inc (own_pre (own_inc (own_inc (own_inc (own_inc (fun _ => 0) ((own_rk [y33, y48, y63, y78] v6_82).toNatClampNeg + 1)) ((own_rk [y33, y48, y63, y78] v7_89).toNatClampNeg + 1)) ((own_rk [y33, y48, y63, y78] v8_96).toNatClampNeg + 1)) ((own_rk [y33, y48, y63, y78] v9_104).toNatClampNeg + 1))) (own_rk [y33, y48, y63, y78] v6_82).toNatClampNeg) (own_rk [y33, y48, y63, y78] v7_89).toNatClampNeg) (own_rk [y33, y48, y63, y78] v8_96).toNatClampNeg) (own_rk [y33, y48, y63, y78] v9_104).toNatClampNeg).toNatClampNeg v9_104) h11 n0 Z_ A_o_11 (by rw [hv16_234]; exact own_qn _ _ _ (own_c01 _ _ _ _ _) (own_c01 _ _ _ _ _) (own_c01 _ _ _ _ _)) (own_ltn (by rw [hv16_234]; exact own_qn _ _ _ (own_c01 _ _ _ _ _) (own_c01 _ _ _ _ _) (own_c01 _ _ _ _ _)) (by first | (simp; done) | rfl | (simp; rfl)))) at_346 (hw _ (List.mem_of_getElem? (i := 9) rfl)) (hw _ (List.mem_of_getElem? (i := 10) rfl)) (hw _ (List.mem_of_getElem? (i := 7) rfl)) (hw _ (List.mem_of_getElem? (i := 11) rfl)) (by decide) (by decide) (by decide) rfl (lenOf pd3 rfl) rfl rfl (Nat.le_of_eq rfl) (by decide) (by decide) rfl ?_
    rintro _ _ ⟨rfl, rfl⟩
    rw [show (own_ok (((([(0 : Int32), (0 : Int32), (0 : Int32), (0 : Int32)].set ((own_pre (own_inc (own_inc (own_inc (own_inc (fun _ => 0) ((own_rk [y33, y48, y63, y78] v6_82).toNatClampNeg + 1)) ((own_rk [y33, y48, y63, y78] v7_89).toNatClampNeg + 1)) ((own_rk [y33, y48, y63, y78] v8_96).toNatClampNeg + 1)) ((own_rk [y33, y48, y63, y78] v9_104).toNatClampNeg + 1))) (own_rk [y33, y48, y63, y78] v6_82).toNatClampNeg).toNatClampNeg v6_82).set ((own_inc (own_pre (own_inc (own_inc (own_inc (own_inc (fun _ => 0) ((own_rk [y33, y48, y63, y78] v6_82).toNatClampNeg + 1)) ((own_rk [y33, y48, y63, y78] v7_89).toNatClampNeg + 1)) ((own_rk [y33, y48, y63, y78] v8_96).toNatClampNeg + 1)) ((own_rk [y33, y48, y63, y78] v9_104).toNatClampNeg + 1))) (own_rk [y33, y48, y63, y78] v6_82).toNatClampNeg) (own_rk [y33, y48, y63, y78] v7_89).toNatClampNeg).toNatClampNeg v7_89).set ((own_inc (own_inc (own_pre (own_inc (own_inc (own_inc (own_inc (fun _ => 0) ((own_rk [y33, y48, y63, y78] v6_82).toNatClampNeg + 1)) ((own_rk [y33, y48, y63, y78] v7_89).toNatClampNeg + 1)) ((own_rk [y33, y48, y63, y78] v8_96).toNatClampNeg + 1)) ((own_rk [y33, y48, y63, y78] v9_104).toNatClampNeg + 1))) (own_rk [y33, y48, y63, y78] v6_82).toNatClampNeg) (own_rk [y33, y48, y63, y78] v7_89).toNatClampNeg) (own_rk [y33, y48, y63, y78] v8_96).toNatClampNeg).toNatClampNeg v8_96).set ((own_inc (own_inc (own_inc (own_pre (own_inc (own_inc (own_inc (own_inc (fun _ => 0) ((own_rk [y33, y48, y63, y78] v6_82).toNatClampNeg + 1)) ((own_rk [y33, y48, y63, y78] v7_89).toNatClampNeg + 1)) ((own_rk [y33, y48, y63, y78] v8_96).toNatClampNeg + 1)) ((own_rk [y33, y48, y63, y78] v9_104).toNatClampNeg + 1))) (own_rk [y33, y48, y63, y78] v6_82).toNatClampNeg) (own_rk [y33, y48, y63, y78] v7_89).toNatClampNeg) (own_rk [y33, y48, y63, y78] v8_96).toNatClampNeg) (own_rk [y33, y48, y63, y78] v9_104).toNatClampNeg).toNatClampNeg v9_104) (0 : Int32) (4 : Int32) v16_234 v6_82) = 1 from by rw [hv16_234]; exact FIN.2.2.2.2.1]
    show Wp p l e _ s m _ below meth c n0 _ h11 (((0 + 1) + 1) + 2) (((0 + 4) + 4) + 13) (mkF m 349 #[.val (.int p0), .val (.int p1), .val (.int p2), .val (.int (4 : Int32)), .val (.int v4_15), .val (.ref b1), .val (.int v6_82), .val (.int v7_89), .val (.int v8_96), .val (.int v9_104), .val (.ref b6), .val (.int (own_rk [y33, y48, y63, y78] v6_82)), .val (.int (own_rk [y33, y48, y63, y78] v7_89)), .val (.int (own_rk [y33, y48, y63, y78] v8_96)), .val (.int (own_rk [y33, y48, y63, y78] v9_104)), .val (.ref o_11), .val (.int v16_234), .val (.int v17_268), .val (.int v18_302), .val (.int v19_336)] [(.int (1 : Int32))])
    refine own_if_eq (pt := 398) (pf := 352) C at_349 (by decide) (by decide) rfl (fun q => absurd q (by decide)) (fun _ => ?_)
    refine own_iconst (pc' := 353) (v := (1 : Int32)) C at_352 own_ki_1 rfl ?_
    refine own_iloadN (pc' := 354) C at_353 rfl rfl ?_
    refine own_aload (pc' := 356) C at_354 rfl rfl rfl ?_
    refine own_iload (pc' := 358) C at_356 rfl rfl ?_
    refine own_iload (pc' := 360) C at_358 rfl rfl ?_
    refine own_callS (pc' := 363) (wL := 0) (argsL := [(.int (1 : Int32)), (.int (4 : Int32)), (.ref o_11), (.int v17_268), (.int v7_89)]) (rest := []) C (own_okk l Z a0 hw (1 : Int32) (4 : Int32) o_11 v17_268 v7_89 (((([(0 : Int32), (0 : Int32), (0 : Int32), (0 : Int32)].set ((own_pre (own_inc (own_inc (own_inc (own_inc (fun _ => 0) ((own_rk [y33, y48, y63, y78] v6_82).toNatClampNeg + 1)) ((own_rk [y33, y48, y63, y78] v7_89).toNatClampNeg + 1)) ((own_rk [y33, y48, y63, y78] v8_96).toNatClampNeg + 1)) ((own_rk [y33, y48, y63, y78] v9_104).toNatClampNeg + 1))) (own_rk [y33, y48, y63, y78] v6_82).toNatClampNeg).toNatClampNeg v6_82).set ((own_inc (own_pre (own_inc (own_inc (own_inc (own_inc (fun _ => 0) ((own_rk [y33, y48, y63, y78] v6_82).toNatClampNeg + 1)) ((own_rk [y33, y48, y63, y78] v7_89).toNatClampNeg + 1)) ((own_rk [y33, y48, y63, y78] v8_96).toNatClampNeg + 1)) ((own_rk [y33, y48, y63, y78] v9_104).toNatClampNeg + 1))) (own_rk [y33, y48, y63, y78] v6_82).toNatClampNeg) (own_rk [y33, y48, y63, y78] v7_89).toNatClampNeg).toNatClampNeg v7_89).set ((own_inc (own_inc (own_pre (own_inc (own_inc (own_inc (own_inc (fun _ => 0) ((own_rk [y33, y48, y63, y78] v6_82).toNatClampNeg + 1)) ((own_rk [y33, y48, y63, y78] v7_89).toNatClampNeg + 1)) ((own_rk [y33, y48, y63, y78] v8_96).toNatClampNeg + 1)) ((own_rk [y33, y48, y63, y78] v9_104).toNatClampNeg + 1))) (own_rk [y33, y48, y63, y78] v6_82).toNatClampNeg) (own_rk [y33, y48, y63, y78] v7_89).toNatClampNeg) (own_rk [y33, y48, y63, y78] v8_96).toNatClampNeg).toNatClampNeg v8_96).set ((own_inc (own_inc (own_inc (own_pre (own_inc (own_inc (own_inc (own_inc (fun _ => 0) ((own_rk [y33, y48, y63, y78] v6_82).toNatClampNeg + 1)) ((own_rk [y33, y48, y63, y78] v7_89).toNatClampNeg + 1)) ((own_rk [y33, y48, y63, y78] v8_96).toNatClampNeg + 1)) ((own_rk [y33, y48, y63, y78] v9_104).toNatClampNeg + 1))) (own_rk [y33, y48, y63, y78] v6_82).toNatClampNeg) (own_rk [y33, y48, y63, y78] v7_89).toNatClampNeg) (own_rk [y33, y48, y63, y78] v8_96).toNatClampNeg) (own_rk [y33, y48, y63, y78] v9_104).toNatClampNeg).toNatClampNeg v9_104) h11 n0 Z_ A_o_11 (by rw [hv17_268]; exact own_qn _ _ _ (own_c01 _ _ _ _ _) (own_c01 _ _ _ _ _) (own_c01 _ _ _ _ _)) (own_ltn (by rw [hv17_268]; exact own_qn _ _ _ (own_c01 _ _ _ _ _) (own_c01 _ _ _ _ _) (own_c01 _ _ _ _ _)) (by first | (simp; done) | rfl | (simp; rfl)))) at_360 (hw _ (List.mem_of_getElem? (i := 9) rfl)) (hw _ (List.mem_of_getElem? (i := 10) rfl)) (hw _ (List.mem_of_getElem? (i := 7) rfl)) (hw _ (List.mem_of_getElem? (i := 11) rfl)) (by decide) (by decide) (by decide) rfl (lenOf pd3 rfl) rfl rfl (Nat.le_of_eq rfl) (by decide) (by decide) rfl ?_
    rintro _ _ ⟨rfl, rfl⟩
    rw [show (own_ok (((([(0 : Int32), (0 : Int32), (0 : Int32), (0 : Int32)].set ((own_pre (own_inc (own_inc (own_inc (own_inc (fun _ => 0) ((own_rk [y33, y48, y63, y78] v6_82).toNatClampNeg + 1)) ((own_rk [y33, y48, y63, y78] v7_89).toNatClampNeg + 1)) ((own_rk [y33, y48, y63, y78] v8_96).toNatClampNeg + 1)) ((own_rk [y33, y48, y63, y78] v9_104).toNatClampNeg + 1))) (own_rk [y33, y48, y63, y78] v6_82).toNatClampNeg).toNatClampNeg v6_82).set ((own_inc (own_pre (own_inc (own_inc (own_inc (own_inc (fun _ => 0) ((own_rk [y33, y48, y63, y78] v6_82).toNatClampNeg + 1)) ((own_rk [y33, y48, y63, y78] v7_89).toNatClampNeg + 1)) ((own_rk [y33, y48, y63, y78] v8_96).toNatClampNeg + 1)) ((own_rk [y33, y48, y63, y78] v9_104).toNatClampNeg + 1))) (own_rk [y33, y48, y63, y78] v6_82).toNatClampNeg) (own_rk [y33, y48, y63, y78] v7_89).toNatClampNeg).toNatClampNeg v7_89).set ((own_inc (own_inc (own_pre (own_inc (own_inc (own_inc (own_inc (fun _ => 0) ((own_rk [y33, y48, y63, y78] v6_82).toNatClampNeg + 1)) ((own_rk [y33, y48, y63, y78] v7_89).toNatClampNeg + 1)) ((own_rk [y33, y48, y63, y78] v8_96).toNatClampNeg + 1)) ((own_rk [y33, y48, y63, y78] v9_104).toNatClampNeg + 1))) (own_rk [y33, y48, y63, y78] v6_82).toNatClampNeg) (own_rk [y33, y48, y63, y78] v7_89).toNatClampNeg) (own_rk [y33, y48, y63, y78] v8_96).toNatClampNeg).toNatClampNeg v8_96).set ((own_inc (own_inc (own_inc (own_pre (own_inc (own_inc (own_inc (own_inc (fun _ => 0) ((own_rk [y33, y48, y63, y78] v6_82).toNatClampNeg + 1)) ((own_rk [y33, y48, y63, y78] v7_89).toNatClampNeg + 1)) ((own_rk [y33, y48, y63, y78] v8_96).toNatClampNeg + 1)) ((own_rk [y33, y48, y63, y78] v9_104).toNatClampNeg + 1))) (own_rk [y33, y48, y63, y78] v6_82).toNatClampNeg) (own_rk [y33, y48, y63, y78] v7_89).toNatClampNeg) (own_rk [y33, y48, y63, y78] v8_96).toNatClampNeg) (own_rk [y33, y48, y63, y78] v9_104).toNatClampNeg).toNatClampNeg v9_104) (1 : Int32) (4 : Int32) v17_268 v7_89) = 1 from by rw [hv17_268]; exact FIN.2.2.2.2.2.1]
    show Wp p l e _ s m _ below meth c n0 _ h11 (((0 + 1) + 1) + 2) (((0 + 4) + 4) + 13) (mkF m 363 #[.val (.int p0), .val (.int p1), .val (.int p2), .val (.int (4 : Int32)), .val (.int v4_15), .val (.ref b1), .val (.int v6_82), .val (.int v7_89), .val (.int v8_96), .val (.int v9_104), .val (.ref b6), .val (.int (own_rk [y33, y48, y63, y78] v6_82)), .val (.int (own_rk [y33, y48, y63, y78] v7_89)), .val (.int (own_rk [y33, y48, y63, y78] v8_96)), .val (.int (own_rk [y33, y48, y63, y78] v9_104)), .val (.ref o_11), .val (.int v16_234), .val (.int v17_268), .val (.int v18_302), .val (.int v19_336)] [(.int (1 : Int32))])
    refine own_if_eq (pt := 398) (pf := 366) C at_363 (by decide) (by decide) rfl (fun q => absurd q (by decide)) (fun _ => ?_)
    refine own_iconst (pc' := 367) (v := (2 : Int32)) C at_366 own_ki_2 rfl ?_
    refine own_iloadN (pc' := 368) C at_367 rfl rfl ?_
    refine own_aload (pc' := 370) C at_368 rfl rfl rfl ?_
    refine own_iload (pc' := 372) C at_370 rfl rfl ?_
    refine own_iload (pc' := 374) C at_372 rfl rfl ?_
    refine own_callS (pc' := 377) (wL := 0) (argsL := [(.int (2 : Int32)), (.int (4 : Int32)), (.ref o_11), (.int v18_302), (.int v8_96)]) (rest := []) C (own_okk l Z a0 hw (2 : Int32) (4 : Int32) o_11 v18_302 v8_96 (((([(0 : Int32), (0 : Int32), (0 : Int32), (0 : Int32)].set ((own_pre (own_inc (own_inc (own_inc (own_inc (fun _ => 0) ((own_rk [y33, y48, y63, y78] v6_82).toNatClampNeg + 1)) ((own_rk [y33, y48, y63, y78] v7_89).toNatClampNeg + 1)) ((own_rk [y33, y48, y63, y78] v8_96).toNatClampNeg + 1)) ((own_rk [y33, y48, y63, y78] v9_104).toNatClampNeg + 1))) (own_rk [y33, y48, y63, y78] v6_82).toNatClampNeg).toNatClampNeg v6_82).set ((own_inc (own_pre (own_inc (own_inc (own_inc (own_inc (fun _ => 0) ((own_rk [y33, y48, y63, y78] v6_82).toNatClampNeg + 1)) ((own_rk [y33, y48, y63, y78] v7_89).toNatClampNeg + 1)) ((own_rk [y33, y48, y63, y78] v8_96).toNatClampNeg + 1)) ((own_rk [y33, y48, y63, y78] v9_104).toNatClampNeg + 1))) (own_rk [y33, y48, y63, y78] v6_82).toNatClampNeg) (own_rk [y33, y48, y63, y78] v7_89).toNatClampNeg).toNatClampNeg v7_89).set ((own_inc (own_inc (own_pre (own_inc (own_inc (own_inc (own_inc (fun _ => 0) ((own_rk [y33, y48, y63, y78] v6_82).toNatClampNeg + 1)) ((own_rk [y33, y48, y63, y78] v7_89).toNatClampNeg + 1)) ((own_rk [y33, y48, y63, y78] v8_96).toNatClampNeg + 1)) ((own_rk [y33, y48, y63, y78] v9_104).toNatClampNeg + 1))) (own_rk [y33, y48, y63, y78] v6_82).toNatClampNeg) (own_rk [y33, y48, y63, y78] v7_89).toNatClampNeg) (own_rk [y33, y48, y63, y78] v8_96).toNatClampNeg).toNatClampNeg v8_96).set ((own_inc (own_inc (own_inc (own_pre (own_inc (own_inc (own_inc (own_inc (fun _ => 0) ((own_rk [y33, y48, y63, y78] v6_82).toNatClampNeg + 1)) ((own_rk [y33, y48, y63, y78] v7_89).toNatClampNeg + 1)) ((own_rk [y33, y48, y63, y78] v8_96).toNatClampNeg + 1)) ((own_rk [y33, y48, y63, y78] v9_104).toNatClampNeg + 1))) (own_rk [y33, y48, y63, y78] v6_82).toNatClampNeg) (own_rk [y33, y48, y63, y78] v7_89).toNatClampNeg) (own_rk [y33, y48, y63, y78] v8_96).toNatClampNeg) (own_rk [y33, y48, y63, y78] v9_104).toNatClampNeg).toNatClampNeg v9_104) h11 n0 Z_ A_o_11 (by rw [hv18_302]; exact own_qn _ _ _ (own_c01 _ _ _ _ _) (own_c01 _ _ _ _ _) (own_c01 _ _ _ _ _)) (own_ltn (by rw [hv18_302]; exact own_qn _ _ _ (own_c01 _ _ _ _ _) (own_c01 _ _ _ _ _) (own_c01 _ _ _ _ _)) (by first | (simp; done) | rfl | (simp; rfl)))) at_374 (hw _ (List.mem_of_getElem? (i := 9) rfl)) (hw _ (List.mem_of_getElem? (i := 10) rfl)) (hw _ (List.mem_of_getElem? (i := 7) rfl)) (hw _ (List.mem_of_getElem? (i := 11) rfl)) (by decide) (by decide) (by decide) rfl (lenOf pd3 rfl) rfl rfl (Nat.le_of_eq rfl) (by decide) (by decide) rfl ?_
    rintro _ _ ⟨rfl, rfl⟩
    rw [show (own_ok (((([(0 : Int32), (0 : Int32), (0 : Int32), (0 : Int32)].set ((own_pre (own_inc (own_inc (own_inc (own_inc (fun _ => 0) ((own_rk [y33, y48, y63, y78] v6_82).toNatClampNeg + 1)) ((own_rk [y33, y48, y63, y78] v7_89).toNatClampNeg + 1)) ((own_rk [y33, y48, y63, y78] v8_96).toNatClampNeg + 1)) ((own_rk [y33, y48, y63, y78] v9_104).toNatClampNeg + 1))) (own_rk [y33, y48, y63, y78] v6_82).toNatClampNeg).toNatClampNeg v6_82).set ((own_inc (own_pre (own_inc (own_inc (own_inc (own_inc (fun _ => 0) ((own_rk [y33, y48, y63, y78] v6_82).toNatClampNeg + 1)) ((own_rk [y33, y48, y63, y78] v7_89).toNatClampNeg + 1)) ((own_rk [y33, y48, y63, y78] v8_96).toNatClampNeg + 1)) ((own_rk [y33, y48, y63, y78] v9_104).toNatClampNeg + 1))) (own_rk [y33, y48, y63, y78] v6_82).toNatClampNeg) (own_rk [y33, y48, y63, y78] v7_89).toNatClampNeg).toNatClampNeg v7_89).set ((own_inc (own_inc (own_pre (own_inc (own_inc (own_inc (own_inc (fun _ => 0) ((own_rk [y33, y48, y63, y78] v6_82).toNatClampNeg + 1)) ((own_rk [y33, y48, y63, y78] v7_89).toNatClampNeg + 1)) ((own_rk [y33, y48, y63, y78] v8_96).toNatClampNeg + 1)) ((own_rk [y33, y48, y63, y78] v9_104).toNatClampNeg + 1))) (own_rk [y33, y48, y63, y78] v6_82).toNatClampNeg) (own_rk [y33, y48, y63, y78] v7_89).toNatClampNeg) (own_rk [y33, y48, y63, y78] v8_96).toNatClampNeg).toNatClampNeg v8_96).set ((own_inc (own_inc (own_inc (own_pre (own_inc (own_inc (own_inc (own_inc (fun _ => 0) ((own_rk [y33, y48, y63, y78] v6_82).toNatClampNeg + 1)) ((own_rk [y33, y48, y63, y78] v7_89).toNatClampNeg + 1)) ((own_rk [y33, y48, y63, y78] v8_96).toNatClampNeg + 1)) ((own_rk [y33, y48, y63, y78] v9_104).toNatClampNeg + 1))) (own_rk [y33, y48, y63, y78] v6_82).toNatClampNeg) (own_rk [y33, y48, y63, y78] v7_89).toNatClampNeg) (own_rk [y33, y48, y63, y78] v8_96).toNatClampNeg) (own_rk [y33, y48, y63, y78] v9_104).toNatClampNeg).toNatClampNeg v9_104) (2 : Int32) (4 : Int32) v18_302 v8_96) = 1 from by rw [hv18_302]; exact FIN.2.2.2.2.2.2.1]
    show Wp p l e _ s m _ below meth c n0 _ h11 (((0 + 1) + 1) + 2) (((0 + 4) + 4) + 13) (mkF m 377 #[.val (.int p0), .val (.int p1), .val (.int p2), .val (.int (4 : Int32)), .val (.int v4_15), .val (.ref b1), .val (.int v6_82), .val (.int v7_89), .val (.int v8_96), .val (.int v9_104), .val (.ref b6), .val (.int (own_rk [y33, y48, y63, y78] v6_82)), .val (.int (own_rk [y33, y48, y63, y78] v7_89)), .val (.int (own_rk [y33, y48, y63, y78] v8_96)), .val (.int (own_rk [y33, y48, y63, y78] v9_104)), .val (.ref o_11), .val (.int v16_234), .val (.int v17_268), .val (.int v18_302), .val (.int v19_336)] [(.int (1 : Int32))])
    refine own_if_eq (pt := 398) (pf := 380) C at_377 (by decide) (by decide) rfl (fun q => absurd q (by decide)) (fun _ => ?_)
    refine own_iconst (pc' := 381) (v := (3 : Int32)) C at_380 own_ki_3 rfl ?_
    refine own_iloadN (pc' := 382) C at_381 rfl rfl ?_
    refine own_aload (pc' := 384) C at_382 rfl rfl rfl ?_
    refine own_iload (pc' := 386) C at_384 rfl rfl ?_
    refine own_iload (pc' := 388) C at_386 rfl rfl ?_
    refine own_callS (pc' := 391) (wL := 0) (argsL := [(.int (3 : Int32)), (.int (4 : Int32)), (.ref o_11), (.int v19_336), (.int v9_104)]) (rest := []) C (own_okk l Z a0 hw (3 : Int32) (4 : Int32) o_11 v19_336 v9_104 (((([(0 : Int32), (0 : Int32), (0 : Int32), (0 : Int32)].set ((own_pre (own_inc (own_inc (own_inc (own_inc (fun _ => 0) ((own_rk [y33, y48, y63, y78] v6_82).toNatClampNeg + 1)) ((own_rk [y33, y48, y63, y78] v7_89).toNatClampNeg + 1)) ((own_rk [y33, y48, y63, y78] v8_96).toNatClampNeg + 1)) ((own_rk [y33, y48, y63, y78] v9_104).toNatClampNeg + 1))) (own_rk [y33, y48, y63, y78] v6_82).toNatClampNeg).toNatClampNeg v6_82).set ((own_inc (own_pre (own_inc (own_inc (own_inc (own_inc (fun _ => 0) ((own_rk [y33, y48, y63, y78] v6_82).toNatClampNeg + 1)) ((own_rk [y33, y48, y63, y78] v7_89).toNatClampNeg + 1)) ((own_rk [y33, y48, y63, y78] v8_96).toNatClampNeg + 1)) ((own_rk [y33, y48, y63, y78] v9_104).toNatClampNeg + 1))) (own_rk [y33, y48, y63, y78] v6_82).toNatClampNeg) (own_rk [y33, y48, y63, y78] v7_89).toNatClampNeg).toNatClampNeg v7_89).set ((own_inc (own_inc (own_pre (own_inc (own_inc (own_inc (own_inc (fun _ => 0) ((own_rk [y33, y48, y63, y78] v6_82).toNatClampNeg + 1)) ((own_rk [y33, y48, y63, y78] v7_89).toNatClampNeg + 1)) ((own_rk [y33, y48, y63, y78] v8_96).toNatClampNeg + 1)) ((own_rk [y33, y48, y63, y78] v9_104).toNatClampNeg + 1))) (own_rk [y33, y48, y63, y78] v6_82).toNatClampNeg) (own_rk [y33, y48, y63, y78] v7_89).toNatClampNeg) (own_rk [y33, y48, y63, y78] v8_96).toNatClampNeg).toNatClampNeg v8_96).set ((own_inc (own_inc (own_inc (own_pre (own_inc (own_inc (own_inc (own_inc (fun _ => 0) ((own_rk [y33, y48, y63, y78] v6_82).toNatClampNeg + 1)) ((own_rk [y33, y48, y63, y78] v7_89).toNatClampNeg + 1)) ((own_rk [y33, y48, y63, y78] v8_96).toNatClampNeg + 1)) ((own_rk [y33, y48, y63, y78] v9_104).toNatClampNeg + 1))) (own_rk [y33, y48, y63, y78] v6_82).toNatClampNeg) (own_rk [y33, y48, y63, y78] v7_89).toNatClampNeg) (own_rk [y33, y48, y63, y78] v8_96).toNatClampNeg) (own_rk [y33, y48, y63, y78] v9_104).toNatClampNeg).toNatClampNeg v9_104) h11 n0 Z_ A_o_11 (by rw [hv19_336]; exact own_qn _ _ _ (own_c01 _ _ _ _ _) (own_c01 _ _ _ _ _) (own_c01 _ _ _ _ _)) (own_ltn (by rw [hv19_336]; exact own_qn _ _ _ (own_c01 _ _ _ _ _) (own_c01 _ _ _ _ _) (own_c01 _ _ _ _ _)) (by first | (simp; done) | rfl | (simp; rfl)))) at_388 (hw _ (List.mem_of_getElem? (i := 9) rfl)) (hw _ (List.mem_of_getElem? (i := 10) rfl)) (hw _ (List.mem_of_getElem? (i := 7) rfl)) (hw _ (List.mem_of_getElem? (i := 11) rfl)) (by decide) (by decide) (by decide) rfl (lenOf pd3 rfl) rfl rfl (Nat.le_of_eq rfl) (by decide) (by decide) rfl ?_
    rintro _ _ ⟨rfl, rfl⟩
    rw [show (own_ok (((([(0 : Int32), (0 : Int32), (0 : Int32), (0 : Int32)].set ((own_pre (own_inc (own_inc (own_inc (own_inc (fun _ => 0) ((own_rk [y33, y48, y63, y78] v6_82).toNatClampNeg + 1)) ((own_rk [y33, y48, y63, y78] v7_89).toNatClampNeg + 1)) ((own_rk [y33, y48, y63, y78] v8_96).toNatClampNeg + 1)) ((own_rk [y33, y48, y63, y78] v9_104).toNatClampNeg + 1))) (own_rk [y33, y48, y63, y78] v6_82).toNatClampNeg).toNatClampNeg v6_82).set ((own_inc (own_pre (own_inc (own_inc (own_inc (own_inc (fun _ => 0) ((own_rk [y33, y48, y63, y78] v6_82).toNatClampNeg + 1)) ((own_rk [y33, y48, y63, y78] v7_89).toNatClampNeg + 1)) ((own_rk [y33, y48, y63, y78] v8_96).toNatClampNeg + 1)) ((own_rk [y33, y48, y63, y78] v9_104).toNatClampNeg + 1))) (own_rk [y33, y48, y63, y78] v6_82).toNatClampNeg) (own_rk [y33, y48, y63, y78] v7_89).toNatClampNeg).toNatClampNeg v7_89).set ((own_inc (own_inc (own_pre (own_inc (own_inc (own_inc (own_inc (fun _ => 0) ((own_rk [y33, y48, y63, y78] v6_82).toNatClampNeg + 1)) ((own_rk [y33, y48, y63, y78] v7_89).toNatClampNeg + 1)) ((own_rk [y33, y48, y63, y78] v8_96).toNatClampNeg + 1)) ((own_rk [y33, y48, y63, y78] v9_104).toNatClampNeg + 1))) (own_rk [y33, y48, y63, y78] v6_82).toNatClampNeg) (own_rk [y33, y48, y63, y78] v7_89).toNatClampNeg) (own_rk [y33, y48, y63, y78] v8_96).toNatClampNeg).toNatClampNeg v8_96).set ((own_inc (own_inc (own_inc (own_pre (own_inc (own_inc (own_inc (own_inc (fun _ => 0) ((own_rk [y33, y48, y63, y78] v6_82).toNatClampNeg + 1)) ((own_rk [y33, y48, y63, y78] v7_89).toNatClampNeg + 1)) ((own_rk [y33, y48, y63, y78] v8_96).toNatClampNeg + 1)) ((own_rk [y33, y48, y63, y78] v9_104).toNatClampNeg + 1))) (own_rk [y33, y48, y63, y78] v6_82).toNatClampNeg) (own_rk [y33, y48, y63, y78] v7_89).toNatClampNeg) (own_rk [y33, y48, y63, y78] v8_96).toNatClampNeg) (own_rk [y33, y48, y63, y78] v9_104).toNatClampNeg).toNatClampNeg v9_104) (3 : Int32) (4 : Int32) v19_336 v9_104) = 1 from by rw [hv19_336]; exact FIN.2.2.2.2.2.2.2]
    show Wp p l e _ s m _ below meth c n0 _ h11 (((0 + 1) + 1) + 2) (((0 + 4) + 4) + 13) (mkF m 391 #[.val (.int p0), .val (.int p1), .val (.int p2), .val (.int (4 : Int32)), .val (.int v4_15), .val (.ref b1), .val (.int v6_82), .val (.int v7_89), .val (.int v8_96), .val (.int v9_104), .val (.ref b6), .val (.int (own_rk [y33, y48, y63, y78] v6_82)), .val (.int (own_rk [y33, y48, y63, y78] v7_89)), .val (.int (own_rk [y33, y48, y63, y78] v8_96)), .val (.int (own_rk [y33, y48, y63, y78] v9_104)), .val (.ref o_11), .val (.int v16_234), .val (.int v17_268), .val (.int v18_302), .val (.int v19_336)] [(.int (1 : Int32))])
    refine own_if_eq (pt := 398) (pf := 394) C at_391 (by decide) (by decide) rfl (fun q => absurd q (by decide)) (fun _ => ?_)
    refine own_iconst (pc' := 395) (v := (1 : Int32)) C at_394 own_ki_1 rfl ?_
    refine own_goto (pc' := 399) C at_395 (by decide) (by decide) ?_
    refine own_zret C at_399 (by decide) (by decide) (Or.inr rfl) ?_
    exact rfl
set_option maxRecDepth 65536 in
set_option maxHeartbeats 40000000 in
theorem comes_1 {Post : Tables → Env → Array Value → State → Outcome → State → Prop} (hpost : ∀ tb e args s v u, (limb_1_1.after args s (.returned v) u = true ∧ limb_1_2.after args s (.returned v) u = true ∧ True) → FrameEnd s (.returned v) u (Jvm.fieldLocs frame_1_writes args s ++ Jvm.arrayLocs frame_1_arrays args s ++ Jvm.staticLocs frame_1_statics s) 16 128 → Post tb e args s (.returned v) u) :
    ArmFor flags0 classFile x code maxLocals ret World_1 tables_1 room_1 Calls_1 rest_1 Pre_1 Post := by
  intro l hfl _ _ p e ha hc hk s m args below hf hA hF happ hP
  obtain ⟨hcalls, hrest, hpre⟩ := hP
  obtain ⟨-, -, -, hnamed, -, -, -, hat⟩ := (Spec.applies_iff hf).mp happ
  obtain ⟨hg, hn⟩ := and_e (Cond.before_iff.mp (show (Jvm.Cond.and given_1 narrow_1).before args s = true from hpre))
  obtain ⟨hcount, q0⟩ := and_e hg
  obtain ⟨r0, q1⟩ := and_e q0
  obtain ⟨r1, q2⟩ := and_e q1
  obtain ⟨w0, w1, w2, rfl⟩ : ∃ w0 w1 w2 : Value, args = #[w0, w1, w2] := by
    have hs : args.size = 3 := by simpa [Cond.value, given_1] using hcount
    obtain ⟨L⟩ := args
    match L, hs with
    | [w0, w1, w2], _ => exact ⟨w0, w1, w2, rfl⟩
  have hw := fun d (hd : d ∈ tables_1) => atoms_spec (ws := Jvm.Cond.code x code maxLocals ret :: tables_1) hat d (List.mem_cons_of_mem _ hd)
  obtain ⟨i0, e0⟩ := is_v r0
  obtain rfl : w0 = (.int i0) := Option.some.inj e0
  obtain ⟨i1, e1⟩ := is_v r1
  obtain rfl : w1 = (.int i1) := Option.some.inj e1
  obtain ⟨i2, e2⟩ := is_v q2
  obtain rfl : w2 = (.int i2) := Option.some.inj e2
  obtain ⟨n, o, h1, h2, h3, _, L, rfl, ⟨rfl, N⟩, hq⟩ := own_law l s _ hw tables_1 i0 i1 i2  s.heap s.heap.size (Nat.le_refl _)  p e ha hc hk s m _ below hf ((Spec.applies_iff_loose hf).mp happ).1 ⟨rfl, State.Warmed39.refl s, rfl⟩ trivial
  refine ⟨n, _, h1, h2, h3, hpost _ _ _ _ _ _ ⟨Cond.after_iff.mpr rfl, Cond.after_iff.mpr (eq_i res_at (Term.int_eval (1)) rfl), trivial⟩ ⟨hq.1, hq.2.1, (hq.2.2.sift fun y hy => Or.inr (N y hy)).mono (by decide) (by decide)⟩⟩
theorem main_1_1 : Claimed_1_1 := comes_1 fun _ _ _ _ _ _ h hF => ⟨h.1, hF⟩
theorem main_1_2 : Claimed_1_2 := comes_1 fun _ _ _ _ _ _ h hF => ⟨h.2.1, hF⟩
end Jvm.Pilot.@@N@@
namespace Jvm.Pilot.@@N@@
open Jvm Jvm.ClassFile Sem Op Lib Jvm.Free Jvm.Stand Jvm.Pilot.@@N@@.Jvm.D
/-! MADE BY PROGRAM (witnessworld.py) out of the Statement's table words and the real class files: 9 classes; the members and pool entries that the words name. The judged class is class 1, her method 1. -/
namespace start1
open Jvm.ClassFile
def u (s : String) : CpInfo := .utf8 (stringToUtf16 s)
/-- a pool by its gaps: so many unusable entries, then the entry; so many at the end -/
def gap : Nat → List CpInfo → List CpInfo
  | 0, r => r
  | n + 1, r => .unusable :: gap n r
def poolList (es : List (Nat × CpInfo)) (last : Nat) : List CpInfo := es.foldr (fun e r => gap e.1 (e.2 :: r)) (gap last [])
def pool (es : List (Nat × CpInfo)) (last : Nat) : Array CpInfo := ⟨poolList es last⟩
def fileOf (pool : Array CpInfo) (this : Nat) (attrs : Array Attribute := #[]) (ms : Array MethodInfo := #[]) (fl : Nat := 33) (sup : Nat := 0) (ifs : Array Nat := #[]) (fds : Array FieldInfo := #[]) : ClassFile where
  minorVersion := 0
  majorVersion := 65
  constantPool := pool
  accessFlags := fl
  thisClass := this
  superClass := sup
  interfaces := ifs
  fields := fds
  methods := ms
  attributes := attrs
def plain (name : String) (sup : Option ClassId) : Class where
  name := name
  kind := .ordinary
  loader := none
  accessFlags := 33
  super := sup
  interfaces := #[]
  cf := none
  fields := #[]
  methods := #[]
  instanceTypes := #[]
  staticTypes := #[]
  resolved := #[]
  callSites := []
  init := .initialized
  statics := none
  mirror := none

def pool0 : Array CpInfo := pool [(5, u "<init>"), (0, u "()V"), (1, .class_ 10), (1, u "java/lang/Object")] 113

def k0m0 : Method := { name := "<init>", desc := "()V", sig := { parameters := [], returnType := none }, accessFlags := 1, code := none }
/-- java/lang/Object -/
def k0 : Class := { plain "java/lang/Object" none with
  accessFlags := 33
  interfaces := #[]
  cf := some (fileOf pool0 8 #[] #[{ accessFlags := 1, nameIndex := 5, descriptorIndex := 6, attributes := #[] }] 33 0 #[] #[])
  fields := #[]
  methods := #[k0m0]
  instanceTypes := #[]
  staticTypes := #[]
  resolved := Array.replicate 124 none
  statics := none }

def pool1 : Array CpInfo := pool [(2, .class_ 4), (1, u "java/lang/Object"), (0, u "<init>"), (0, u "()V"), (0, .methodref 8 9), (0, .class_ 10), (0, .nameAndType 11 12), (0, u "com/example/precedence/precedence/Touches"), (0, u "sorted"), (0, u "([I[II)[I"), (0, .methodref 14 15), (0, .class_ 16), (0, .nameAndType 17 18), (0, u "com/example/precedence/precedence/TouchesSortedPinLaw"), (0, u "c"), (0, u "(IIIIZ)I"), (0, .methodref 14 20), (0, .nameAndType 21 22), (0, u "ok"), (0, u "(II[III)Z"), (2, u "law"), (0, u "(III)Z")] 5

def k1m0 : Method := { name := "<init>", desc := "()V", sig := { parameters := [], returnType := none }, accessFlags := 1, code := none }
def k1c1 : Code := { maxStack := 6, maxLocals := 20, code := code, exceptionTable := #[], attributes := #[] }
def k1m1 : Method := { name := "law", desc := "(III)Z", sig := { parameters := [.int, .int, .int], returnType := some .boolean }, accessFlags := 9, code := some k1c1 }
def k1c2 : Code := { maxStack := 2, maxLocals := 5, code := method_3_code, exceptionTable := #[], attributes := #[] }
def k1m2 : Method := { name := "c", desc := "(IIIIZ)I", sig := { parameters := [.int, .int, .int, .int, .boolean], returnType := some .int }, accessFlags := 10, code := some k1c2 }
def k1c3 : Code := { maxStack := 2, maxLocals := 5, code := method_4_code, exceptionTable := #[], attributes := #[] }
def k1m3 : Method := { name := "ok", desc := "(II[III)Z", sig := { parameters := [.int, .int, (.array .int), .int, .int], returnType := some .boolean }, accessFlags := 10, code := some k1c3 }
/-- com/example/precedence/precedence/TouchesSortedPinLaw -/
def k1 : Class := { plain "com/example/precedence/precedence/TouchesSortedPinLaw" (some 0) with
  accessFlags := 49
  interfaces := #[]
  cf := some (fileOf pool1 14 #[] #[{ accessFlags := 1, nameIndex := 5, descriptorIndex := 6, attributes := #[] }, { accessFlags := 9, nameIndex := 25, descriptorIndex := 26, attributes := #[] }, { accessFlags := 10, nameIndex := 17, descriptorIndex := 18, attributes := #[] }, { accessFlags := 10, nameIndex := 21, descriptorIndex := 22, attributes := #[] }] 49 2 #[] #[])
  fields := #[]
  methods := #[k1m0, k1m1, k1m2, k1m3]
  instanceTypes := #[]
  staticTypes := #[]
  resolved := Array.replicate 32 none
  statics := none }

def pool2 : Array CpInfo := pool [(6, .class_ 8), (1, u "com/example/precedence/precedence/Touches"), (3, .class_ 14), (1, u "java/lang/Object"), (1, .class_ 17), (0, u "com/example/precedence/precedence/Touches$StepList"), (5, u "steps"), (0, u "Ljava/util/List;"), (4, u "schedule"), (3, u "Lcom/example/precedence/precedence/Schedule;"), (2, u "nodes"), (0, u "Lcom/example/precedence/precedence/Nodes;"), (6, u "scheduled"), (0, u "[I"), (11, u "ids"), (13, u "sorted"), (0, u "([I[II)[I"), (2, u "touchAt"), (2, u "touchStart"), (6, u "keys"), (0, u "[J"), (2, u "reads"), (2, u "writes"), (2, u "readsBeforeWrite"), (2, u "occurrence"), (6, u "placeStart"), (2, u "places"), (108, u "KINDS")] 65

def k2c0 : Code := { maxStack := 6, maxLocals := 9, code := prog_106_method_6_code, exceptionTable := #[], attributes := #[] }
def k2m0 : Method := { name := "sorted", desc := "([I[II)[I", sig := { parameters := [(.array .int), (.array .int), .int], returnType := some (.array .int) }, accessFlags := 8, code := some k2c0 }
/-- com/example/precedence/precedence/Touches -/
def k2 : Class := { plain "com/example/precedence/precedence/Touches" (some 0) with
  accessFlags := 48
  interfaces := #[]
  cf := some (fileOf pool2 6 #[.nestMembers #[16]] #[{ accessFlags := 8, nameIndex := 71, descriptorIndex := 72, attributes := #[] }] 48 12 #[] #[{ accessFlags := 24, nameIndex := 217, descriptorIndex := 24, attributes := #[] }, { accessFlags := 18, nameIndex := 29, descriptorIndex := 33, attributes := #[] }, { accessFlags := 18, nameIndex := 36, descriptorIndex := 37, attributes := #[] }, { accessFlags := 18, nameIndex := 44, descriptorIndex := 45, attributes := #[] }, { accessFlags := 18, nameIndex := 23, descriptorIndex := 24, attributes := #[] }, { accessFlags := 18, nameIndex := 85, descriptorIndex := 86, attributes := #[] }, { accessFlags := 18, nameIndex := 57, descriptorIndex := 45, attributes := #[] }, { accessFlags := 18, nameIndex := 78, descriptorIndex := 45, attributes := #[] }, { accessFlags := 18, nameIndex := 89, descriptorIndex := 45, attributes := #[] }, { accessFlags := 18, nameIndex := 92, descriptorIndex := 45, attributes := #[] }, { accessFlags := 18, nameIndex := 95, descriptorIndex := 45, attributes := #[] }, { accessFlags := 18, nameIndex := 75, descriptorIndex := 45, attributes := #[] }, { accessFlags := 18, nameIndex := 98, descriptorIndex := 45, attributes := #[] }, { accessFlags := 18, nameIndex := 105, descriptorIndex := 45, attributes := #[] }, { accessFlags := 18, nameIndex := 108, descriptorIndex := 45, attributes := #[] }])
  fields := #[{ name := "KINDS", type := (.object "java/util/List"), accessFlags := 24, slot := 0, constantValue := 0 }, { name := "schedule", type := (.object "com/example/precedence/precedence/Schedule"), accessFlags := 18, slot := 0, constantValue := 0 }, { name := "nodes", type := (.object "com/example/precedence/precedence/Nodes"), accessFlags := 18, slot := 1, constantValue := 0 }, { name := "scheduled", type := (.array .int), accessFlags := 18, slot := 2, constantValue := 0 }, { name := "steps", type := (.object "java/util/List"), accessFlags := 18, slot := 3, constantValue := 0 }, { name := "keys", type := (.array .long), accessFlags := 18, slot := 4, constantValue := 0 }, { name := "ids", type := (.array .int), accessFlags := 18, slot := 5, constantValue := 0 }, { name := "touchStart", type := (.array .int), accessFlags := 18, slot := 6, constantValue := 0 }, { name := "reads", type := (.array .int), accessFlags := 18, slot := 7, constantValue := 0 }, { name := "writes", type := (.array .int), accessFlags := 18, slot := 8, constantValue := 0 }, { name := "readsBeforeWrite", type := (.array .int), accessFlags := 18, slot := 9, constantValue := 0 }, { name := "touchAt", type := (.array .int), accessFlags := 18, slot := 10, constantValue := 0 }, { name := "occurrence", type := (.array .int), accessFlags := 18, slot := 11, constantValue := 0 }, { name := "placeStart", type := (.array .int), accessFlags := 18, slot := 12, constantValue := 0 }, { name := "places", type := (.array .int), accessFlags := 18, slot := 13, constantValue := 0 }]
  methods := #[k2m0]
  instanceTypes := #[(.object "com/example/precedence/precedence/Schedule"), (.object "com/example/precedence/precedence/Nodes"), (.array .int), (.object "java/util/List"), (.array .long), (.array .int), (.array .int), (.array .int), (.array .int), (.array .int), (.array .int), (.array .int), (.array .int), (.array .int)]
  staticTypes := #[(.object "java/util/List")]
  resolved := Array.replicate 283 none
  statics := none }

def pool3 : Array CpInfo := pool [(1, u "java/lang/Cloneable"), (0, .class_ 1), (0, u "java/lang/Object"), (0, .class_ 3)] 3

/-- java/lang/Cloneable -/
def k3 : Class := { plain "java/lang/Cloneable" (some 0) with
  accessFlags := 1537
  interfaces := #[]
  cf := some (fileOf pool3 2 #[] #[] 1537 4 #[] #[])
  fields := #[]
  methods := #[]
  instanceTypes := #[]
  staticTypes := #[]
  resolved := Array.replicate 8 none
  statics := none }

def pool4 : Array CpInfo := pool [(1, u "java/io/Serializable"), (0, .class_ 1), (0, u "java/lang/Object"), (0, .class_ 3)] 3

/-- java/io/Serializable -/
def k4 : Class := { plain "java/io/Serializable" (some 0) with
  accessFlags := 1537
  interfaces := #[]
  cf := some (fileOf pool4 2 #[] #[] 1537 4 #[] #[])
  fields := #[]
  methods := #[]
  instanceTypes := #[]
  staticTypes := #[]
  resolved := Array.replicate 8 none
  statics := none }

/-- the primitive byte -/
def k5 : Class := { plain "byte" none with kind := .primitive 'B', accessFlags := 0x411 }
/-- [B -/
def k6 : Class := { plain "[B" (some 0) with kind := .array 5 .byte, interfaces := #[3, 4], accessFlags := 1041 }

/-- the primitive int -/
def k7 : Class := { plain "int" none with kind := .primitive 'I', accessFlags := 0x411 }
/-- [I -/
def k8 : Class := { plain "[I" (some 0) with kind := .array 7 .int, interfaces := #[3, 4], accessFlags := 1041 }

def heap : Heap := #[]
def classes : Array Class := #[k0, k1, k2, k3, k4, k5, k6, k7, k8]
def interned : List (Array UInt16 × Addr) := []
def slotsUsed : Nat := 0
def theMethod : MethodId := ⟨1, 1⟩
def args0 : Array Value := #[.int 5, .int 5, .int 9]
def aboutOver (below : List Frame) : State where
  vm := { classes := classes, interned := interned.toArray }
  heap := heap
  slotsUsed := slotsUsed
  threads := #[{ frames := .invoking theMethod args0 :: below }]
def below0 : List Frame := [.native { method := ⟨0, 0⟩, args := #[] }]
def about1 : State := aboutOver below0
def p0 : Program := .bare "" "" ""
def e0 : Env := launch0.env 0 0 0
theorem w_frames : about1.frames = Frame.invoking theMethod args0 :: below0 := rfl
set_option maxRecDepth 65536 in
theorem w_args : argsFit about1.vm theMethod args0 = true := by decide +kernel
set_option maxRecDepth 65536 in
theorem w_heap : heapFits about1 = true := by decide +kernel
set_option maxRecDepth 65536 in
theorem w_runnable : about1.curStatus? = some .runnable := by decide +kernel
set_option maxRecDepth 65536 in
theorem w_alone : about1.alone = true := by decide +kernel
set_option maxRecDepth 65536 in
theorem w_named : about1.methodNamed? x = some theMethod := by decide +kernel
set_option maxRecDepth 65536 in
theorem w_hears : about1.hears theMethod below0 = true := by decide +kernel
set_option maxRecDepth 65536 in
theorem w_ripe : about1.ripe theMethod args0 below0 = true := by decide +kernel
theorem w_running : about1.status = .running := rfl
set_option maxRecDepth 65536 in
theorem w_room : about1.hasRoom e0.platform room_1 = true :=
  launch0.hasRoom_least _ room_1 (by decide +kernel) (by decide +kernel) (by decide +kernel) (by decide +kernel) (by decide +kernel) (by decide +kernel)
theorem allAtoms_all (ts : List Jvm.Cond) (a : Array Jvm.Value) (st : Jvm.State) : (allAtoms ts).before a st = ts.all (fun c => c.before a st) := by
  induction ts with
  | nil => rfl
  | cons c t ih =>
    show (Jvm.Cond.and c (allAtoms t)).before a st = _
    rw [Jvm.Cond.before_and, ih, List.all_cons]
def words1 : List Jvm.Cond := Jvm.Cond.code x code maxLocals ret :: tables_1
/-- a 'code' word, met by the world's own term for the bytes: nothing is compared byte by byte -/
theorem code_word {y : MethodName} {bytes : ByteArray} {mx : Nat} {rt : Option FieldType} {a : Array Value} {s : State} {m : MethodId} {meth : Method} {c : Code} (h1 : s.methodNamed? y = some m) (h2 : s.vm.method? m = some meth) (h3 : meth.code = some c) (h4 : c.code = bytes)
    (h5 : (c.maxLocals == mx && c.exceptionTable.isEmpty && decide (c.maxStack ≤ mostOperands) && decide (meth.sig.returnType = rt) && !meth.locks && decide (parseMethodDescriptor y.desc = some meth.sig)) = true) : (Jvm.Cond.code y bytes mx rt).before a s = true := by
  simp only [Bool.and_eq_true, beq_iff_eq, Bool.not_eq_true', decide_eq_true_eq] at h5
  obtain ⟨⟨⟨⟨⟨g1, g2⟩, g3⟩, g4⟩, g5⟩, g6⟩ := h5
  simp [Cond.before, Cond.holds, Cond.value, h1, h2, h3, h4, g1, g2, g3, g4, g5, g6]
def isCode : Jvm.Cond → Bool
  | .code _ _ _ _ => true
  | _ => false
theorem all_split {L : List Jvm.Cond} {P : Jvm.Cond → Bool} (h1 : L.all (fun c => isCode c || P c) = true) (h2 : ∀ c ∈ L.filter isCode, P c = true) : L.all P = true := by
  refine List.all_eq_true.mpr fun c hc => ?_
  have h := List.all_eq_true.mp h1 c hc
  rcases Bool.eq_false_or_eq_true (isCode c) with hi | hi
  · exact h2 c (List.mem_filter.mpr ⟨hc, hi⟩)
  · simpa [hi] using h
set_option maxRecDepth 65536 in
theorem w_c0 : (Jvm.Cond.code x code maxLocals ret).before args0 about1 = true := code_word (m := ⟨1, 1⟩) (meth := k1m1) (c := k1c1) (by decide +kernel) rfl rfl rfl (by decide +kernel)
set_option maxRecDepth 65536 in
theorem w_c1 : (Jvm.Cond.code ({ cls := "com/example/precedence/precedence/Touches", name := "sorted", desc := "([I[II)[I" } : Jvm.MethodName) prog_106_method_6_code (9 : Nat) (Option.some (Jvm.ClassFile.FieldType.array Jvm.ClassFile.FieldType.int))).before args0 about1 = true := code_word (m := ⟨2, 0⟩) (meth := k2m0) (c := k2c0) (by decide +kernel) rfl rfl rfl (by decide +kernel)
set_option maxRecDepth 65536 in
theorem w_c2 : (Jvm.Cond.code ({ cls := "com/example/precedence/precedence/TouchesSortedPinLaw", name := "c", desc := "(IIIIZ)I" } : Jvm.MethodName) method_3_code (5 : Nat) (Option.some Jvm.ClassFile.FieldType.int)).before args0 about1 = true := code_word (m := ⟨1, 2⟩) (meth := k1m2) (c := k1c2) (by decide +kernel) rfl rfl rfl (by decide +kernel)
set_option maxRecDepth 65536 in
theorem w_c3 : (Jvm.Cond.code ({ cls := "com/example/precedence/precedence/TouchesSortedPinLaw", name := "ok", desc := "(II[III)Z" } : Jvm.MethodName) method_4_code (5 : Nat) (Option.some Jvm.ClassFile.FieldType.boolean)).before args0 about1 = true := code_word (m := ⟨1, 3⟩) (meth := k1m3) (c := k1c3) (by decide +kernel) rfl rfl rfl (by decide +kernel)
def codes1 : List Jvm.Cond := [Jvm.Cond.code x code maxLocals ret, Jvm.Cond.code ({ cls := "com/example/precedence/precedence/Touches", name := "sorted", desc := "([I[II)[I" } : Jvm.MethodName) prog_106_method_6_code (9 : Nat) (Option.some (Jvm.ClassFile.FieldType.array Jvm.ClassFile.FieldType.int)), Jvm.Cond.code ({ cls := "com/example/precedence/precedence/TouchesSortedPinLaw", name := "c", desc := "(IIIIZ)I" } : Jvm.MethodName) method_3_code (5 : Nat) (Option.some Jvm.ClassFile.FieldType.int), Jvm.Cond.code ({ cls := "com/example/precedence/precedence/TouchesSortedPinLaw", name := "ok", desc := "(II[III)Z" } : Jvm.MethodName) method_4_code (5 : Nat) (Option.some Jvm.ClassFile.FieldType.boolean)]
set_option maxRecDepth 65536 in
theorem codes_eq : words1.filter isCode = codes1 := rfl
theorem w_codes : ∀ c ∈ words1.filter isCode, c.before args0 about1 = true := by
  rw [codes_eq]
  intro c hc
  simp only [codes1, List.mem_cons, List.not_mem_nil, or_false] at hc
  rcases hc with rfl | rfl | rfl | rfl
  · exact w_c0
  · exact w_c1
  · exact w_c2
  · exact w_c3
set_option maxRecDepth 65536 in
theorem w_t1 : words1.all (fun c => isCode c || c.before args0 about1) = true := by decide +kernel
theorem w_tables : (allAtoms (Jvm.Cond.code x code maxLocals ret :: tables_1)).before args0 about1 = true := by
  rw [allAtoms_all]
  show words1.all (fun c => c.before args0 about1) = true
  refine all_split ?_ w_codes
  rw [w_t1]
set_option maxRecDepth 65536 in
theorem w_case : (Jvm.Cond.and given_1 narrow_1).before args0 about1 = true := by decide +kernel
theorem w_applies : (headSpec (Jvm.Cond.code x code maxLocals ret :: tables_1) room_1).applies x e0.platform about1 = true :=
  (Spec.applies_iff w_frames).mpr ⟨w_running, w_runnable, w_alone, w_named, w_hears, w_ripe, w_room, w_tables⟩
theorem atStart : AtStart classFile x code maxLocals ret World_1 tables_1 room_1 Calls_1 rest_1 Pre_1 launch0 p0 e0 about1 theMethod args0 below0 :=
  ⟨lists_1, trivial, launch0.admits_env _ _ _, launch0.least_env, fairChoices_fair.cas, fairChoices_fair.clock, w_frames, w_args, w_heap, w_applies, trivial, trivial, w_case⟩
end start1
theorem witness_1 : WitnessClaimed_1 := ⟨start1.p0, start1.e0, start1.about1, start1.theMethod, start1.args0, start1.below0, start1.atStart⟩
end Jvm.Pilot.@@N@@
