import JvmDerived
import JvmDerived.Pilot.@@N@@Statement
import JvmDerived.Pilot.@@N@@Code
set_option linter.unusedVariables false
set_option linter.unusedSimpArgs false
namespace Jvm.RoadKit
open Sem ClassFile Op Lib Jvm.Stand Jvm.Free Jvm.LawKit
section New
variable {p : Program} {l : Launch} {e : Env} {R : Room} {s : State} {m : MethodId} {args : Array Value} {below : List Frame} {meth : Method} {c : Code} {T : State} {locs : List Loc} {cells slots : Nat}
theorem retI (X : Stand p l e R s m args below meth c T locs cells slots) (hx : p.tables.exec = Jvm.exec) {pc : Nat} {Ls : Array Slot} {z : Int32} {rest : List Value} (hret : meth.sig.returnType = some .int) (hd : decode c.code pc = .ok (.ireturn, 1)) {fs : List Frame}
    (hl : ∀ (f : JFrame) (acts : List Action), f.method = m → f.locked = none → f.entered = [] → (doReturn e (T.setTop f) acts (some (.int z))).1 = T.setFrames fs) : Steps p.tables e below (T.setTop (mkF m pc Ls (.int z :: rest))) (T.setFrames fs) := by
  have hm' : T.vm.method? m = some meth := X.method'
  have hn : narrow .int (.int z) = .int z := rfl
  show Steps p.tables e below (T.setTop { method := m, pc := pc, locals := Ls, stack := _ :: rest, locked := none }) _
  jvm_step X.here [X.here.top, hx, hd, hm', hret, hn]
  first | (intro acts; rw [hl _ acts rfl rfl rfl]) | rw [hl _ _ rfl rfl rfl]
  exact Steps.refl _
end New
end Jvm.RoadKit
namespace Jvm.Pilot.@@N@@
open Jvm Jvm.ClassFile Sem Op Lib Jvm.Free Jvm.Stand Jvm.LawKit Jvm.RoadKit Bundle Jvm.Pilot.@@N@@.Jvm.D
section OwnKit
variable {p : Program} {l : Launch} {e : Env} {R : Room} {s : State} {m : MethodId} {args : Array Value} {below : List Frame} {meth : Method} {c : Code} {Z : State} {a0 : Array Value} {cd : ByteArray} {ml : Nat} {ret : Option FieldType} {own nm : String} {n0 : Nat} {Q : Option Value → Heap → Prop} {h : Heap} {k n : Nat}
/-- what stands fast while one body runs -/
def Cx (p : Program) (s : State) (m : MethodId) (meth : Method) (c : Code) (Z : State) (cd : ByteArray) (ml : Nat) (ret : Option FieldType) (own nm : String) : Prop :=
  p.tables.exec = Jvm.exec ∧ Z.Warmed39 s.vm ∧ c.code = cd ∧ c.maxLocals = ml ∧ s.vm.findClass own = some m.cls ∧ meth.sig.returnType = ret ∧ meth.locks = false ∧ meth.name = nm
/-- from this frame, over this heap, the body returns and Q holds -/
def Wp (p : Program) (l : Launch) (e : Env) (R : Room) (s : State) (m : MethodId) (args : Array Value) (below : List Frame) (meth : Method) (c : Code) (n0 : Nat) (Q : Option Value → Heap → Prop) (h : Heap) (k n : Nat) (g : JFrame) : Prop :=
  ∀ (T : State) (locs : List Loc), Stand p l e R s m args below meth c T locs k n → T.heap = h → Fr n0 locs →
    ∃ s₂ o, Steps p.tables e below (T.setTop g) s₂ ∧ s₂.status = .running ∧ Ended s₂ below o ∧ ∃ v L, o = .returned v ∧ (Q v s₂.heap ∧ Fr n0 L) ∧ FrameEnd s o s₂ L R.cells R.slots
/-- a callee's contract: called with these arguments over this heap it returns, and Q holds -/
def Met (l : Launch) (y : MethodName) (bytes : ByteArray) (mL : Nat) (rt : Option FieldType) (ws : List Jvm.Cond) (rm : Room) (Z : State) (n0 : Nat) (as : Array Value) (h : Heap) (Q : Option Value → Heap → Prop) : Prop :=
  MetFree l y (head1 (Jvm.Cond.code y bytes mL rt :: ws) rm) (fun a U => a = as ∧ Z.Warmed39 U.vm ∧ U.heap = h) (fun _ _ _ _ _ => True) (fun _ U o U' => ∃ v L, o = .returned v ∧ (Q v U'.heap ∧ Fr n0 L) ∧ FrameEnd U o U' L rm.cells rm.slots)
theorem own_met {y : MethodName} {bytes : ByteArray} {mL : Nat} {rt : Option FieldType} {ws : List Jvm.Cond} {rm : Room} {as : Array Value} {Ls : Array Slot} (hpn : plainName y.cls = true) (hef : ∀ m, entryFrame m as mL = mkF m 0 Ls [])
    (H : ∀ p e s m below meth c, Cx p s m meth c Z bytes mL rt y.cls y.name → Wp p l e rm s m as below meth c n0 Q h 0 0 (mkF m 0 Ls [])) : Met l y bytes mL rt ws rm Z n0 as h Q := by
  refine MetFree.of_bodySF (plainFor_of_name hpn) hisR ?_
  intro p e s m args below meth c s₁ Bd hml0 hP hK
  obtain ⟨rfl, hZ, hh⟩ := hP
  have hown : s.vm.findClass y.cls = some m.cls := findClass_of_methodNamed Bd.named
  have hnm := (name_of_methodNamed Bd.named Bd.method).1
  have X0 : Stand p l e rm s m args below meth c s₁ [] 0 0 := Stand.of_body Bd
  have e0 : s₁.heap = h := by rw [← hh, Bd.state]; rfl
  obtain ⟨s₂, o, st, r⟩ := H p e s m below meth c ⟨Bd.exec, hZ, Bd.bytes, hml0, hown, Bd.returns, Bd.notSynchronized, hnm⟩ s₁ [] X0 e0 (Fr.nil n0)
  exact ⟨s₂, o, castTop (hef m) st, r⟩
/-! single steps -/
theorem own_lift {g g' : JFrame} (H : ∀ T, At T m c below → ∀ t, Steps p.tables e below (T.setTop g') t → Steps p.tables e below (T.setTop g) t) (W : Wp p l e R s m args below meth c n0 Q h k n g') : Wp p l e R s m args below meth c n0 Q h k n g := fun T locs X eT N => by
  obtain ⟨s₂, o, st, r⟩ := W T locs X eT N
  exact ⟨s₂, o, H T X.here _ st, r⟩
theorem own_liftX {g g' : JFrame} (H : ∀ T locs, Stand p l e R s m args below meth c T locs k n → T.heap = h → ∀ t, Steps p.tables e below (T.setTop g') t → Steps p.tables e below (T.setTop g) t) (W : Wp p l e R s m args below meth c n0 Q h k n g') : Wp p l e R s m args below meth c n0 Q h k n g := fun T locs X eT N => by
  obtain ⟨s₂, o, st, r⟩ := W T locs X eT N
  exact ⟨s₂, o, H T locs X eT _ st, r⟩
theorem own_cast {g g' : JFrame} (q : g = g') (W : Wp p l e R s m args below meth c n0 Q h k n g') : Wp p l e R s m args below meth c n0 Q h k n g := q ▸ W
theorem own_seq {g g' : JFrame} (t : Wp p l e R s m args below meth c n0 Q h k n g' → Wp p l e R s m args below meth c n0 Q h k n g) (w : Wp p l e R s m args below meth c n0 Q h k n g') : Wp p l e R s m args below meth c n0 Q h k n g := t w
theorem own_seq1 {g : JFrame} {F : Slot → JFrame} (t : (∀ u, RoadKit.One u → Wp p l e R s m args below meth c n0 Q h k n (F u)) → Wp p l e R s m args below meth c n0 Q h k n g) (w : ∀ u, RoadKit.One u → Wp p l e R s m args below meth c n0 Q h k n (F u)) : Wp p l e R s m args below meth c n0 Q h k n g := t w
theorem own_seq2 {g : JFrame} {F : Slot → Slot → JFrame} (t : (∀ u, RoadKit.One u → ∀ v, RoadKit.One v → Wp p l e R s m args below meth c n0 Q h k n (F u v)) → Wp p l e R s m args below meth c n0 Q h k n g) (w : ∀ u, RoadKit.One u → ∀ v, RoadKit.One v → Wp p l e R s m args below meth c n0 Q h k n (F u v)) : Wp p l e R s m args below meth c n0 Q h k n g := t w
theorem own_seqH {g g' : JFrame} {P : Heap → Prop} {k' n' : Nat} (t : (∀ h', P h' → Wp p l e R s m args below meth c n0 Q h' k' n' g') → Wp p l e R s m args below meth c n0 Q h k n g) (w : ∀ h', P h' → Wp p l e R s m args below meth c n0 Q h' k' n' g') : Wp p l e R s m args below meth c n0 Q h k n g := t w
variable {pc pc' : Nat} {Ls Ls' : Array Slot} {st : List Value}
theorem own_iload (C : Cx p s m meth c Z cd ml ret own nm) {i : Nat} {v : Int32} (hd : decode cd pc = .ok (.iload i, 2)) (hl : Ls[i]? = some (.val (.int v))) (hp : pc + 2 = pc') (W : Wp p l e R s m args below meth c n0 Q h k n (mkF m pc' Ls (.int v :: st))) : Wp p l e R s m args below meth c n0 Q h k n (mkF m pc Ls st) := by
  subst hp; exact own_lift (fun T A t q => XS.iload A C.1 rfl (hb C.2.2.1 hd) hl q) W
theorem own_iloadN (C : Cx p s m meth c Z cd ml ret own nm) {i : Fin 4} {v : Int32} (hd : decode cd pc = .ok (.iload_n i, 1)) (hl : Ls[i.val]? = some (.val (.int v))) (hp : pc + 1 = pc') (W : Wp p l e R s m args below meth c n0 Q h k n (mkF m pc' Ls (.int v :: st))) : Wp p l e R s m args below meth c n0 Q h k n (mkF m pc Ls st) := by
  subst hp; exact own_lift (fun T A t q => XS.iloadN A C.1 rfl (hb C.2.2.1 hd) hl q) W
theorem own_lload (C : Cx p s m meth c Z cd ml ret own nm) {i : Nat} {v : Int64} (hd : decode cd pc = .ok (.lload i, 2)) (hl : Ls[i]? = some (.val (.long v))) (hp : pc + 2 = pc') (W : Wp p l e R s m args below meth c n0 Q h k n (mkF m pc' Ls (.long v :: st))) : Wp p l e R s m args below meth c n0 Q h k n (mkF m pc Ls st) := by
  subst hp; exact own_lift (fun T A t q => XS.lload A C.1 rfl (hb C.2.2.1 hd) hl q) W
theorem own_lloadN (C : Cx p s m meth c Z cd ml ret own nm) {i : Fin 4} {v : Int64} (hd : decode cd pc = .ok (.lload_n i, 1)) (hl : Ls[i.val]? = some (.val (.long v))) (hp : pc + 1 = pc') (W : Wp p l e R s m args below meth c n0 Q h k n (mkF m pc' Ls (.long v :: st))) : Wp p l e R s m args below meth c n0 Q h k n (mkF m pc Ls st) := by
  subst hp; exact own_lift (fun T A t q => XS.lloadN A C.1 rfl (hb C.2.2.1 hd) hl q) W
theorem own_aload (C : Cx p s m meth c Z cd ml ret own nm) {i : Nat} {v : Value} (hd : decode cd pc = .ok (.aload i, 2)) (hl : Ls[i]? = some (.val v)) (hv : v.isRef = true) (hp : pc + 2 = pc') (W : Wp p l e R s m args below meth c n0 Q h k n (mkF m pc' Ls (v :: st))) : Wp p l e R s m args below meth c n0 Q h k n (mkF m pc Ls st) := by
  subst hp; exact own_lift (fun T A t q => XS.aload A C.1 rfl (hb C.2.2.1 hd) hl hv q) W
theorem own_aloadN (C : Cx p s m meth c Z cd ml ret own nm) {i : Fin 4} {v : Value} (hd : decode cd pc = .ok (.aload_n i, 1)) (hl : Ls[i.val]? = some (.val v)) (hv : v.isRef = true) (hp : pc + 1 = pc') (W : Wp p l e R s m args below meth c n0 Q h k n (mkF m pc' Ls (v :: st))) : Wp p l e R s m args below meth c n0 Q h k n (mkF m pc Ls st) := by
  subst hp; exact own_lift (fun T A t q => XS.aloadN A C.1 rfl (hb C.2.2.1 hd) hl hv q) W
theorem own_istore (C : Cx p s m meth c Z cd ml ret own nm) {i : Nat} {x y : Int32} (hd : decode cd pc = .ok (.istore i, 2)) (hy : x = y) (hl : storeLocals Ls i (.int y) = some Ls') (hp : pc + 2 = pc') (W : Wp p l e R s m args below meth c n0 Q h k n (mkF m pc' Ls' st)) : Wp p l e R s m args below meth c n0 Q h k n (mkF m pc Ls (.int x :: st)) := by
  subst hp hy; exact own_lift (fun T A t q => XS.istore A C.1 rfl (hb C.2.2.1 hd) rfl hl q) W
theorem own_istoreN (C : Cx p s m meth c Z cd ml ret own nm) {i : Fin 4} {x y : Int32} (hd : decode cd pc = .ok (.istore_n i, 1)) (hy : x = y) (hl : storeLocals Ls i.val (.int y) = some Ls') (hp : pc + 1 = pc') (W : Wp p l e R s m args below meth c n0 Q h k n (mkF m pc' Ls' st)) : Wp p l e R s m args below meth c n0 Q h k n (mkF m pc Ls (.int x :: st)) := by
  subst hp hy; exact own_lift (fun T A t q => XS.istoreN A C.1 rfl (hb C.2.2.1 hd) rfl hl q) W
theorem own_lstore (C : Cx p s m meth c Z cd ml ret own nm) {i : Nat} {x y : Int64} (hd : decode cd pc = .ok (.lstore i, 2)) (hy : x = y) (hl : storeLocals Ls i (.long y) = some Ls') (hp : pc + 2 = pc') (W : Wp p l e R s m args below meth c n0 Q h k n (mkF m pc' Ls' st)) : Wp p l e R s m args below meth c n0 Q h k n (mkF m pc Ls (.long x :: st)) := by
  subst hp hy; exact own_lift (fun T A t q => XS.lstore A C.1 rfl (hb C.2.2.1 hd) rfl hl q) W
theorem own_lstoreN (C : Cx p s m meth c Z cd ml ret own nm) {i : Fin 4} {x y : Int64} (hd : decode cd pc = .ok (.lstore_n i, 1)) (hy : x = y) (hl : storeLocals Ls i.val (.long y) = some Ls') (hp : pc + 1 = pc') (W : Wp p l e R s m args below meth c n0 Q h k n (mkF m pc' Ls' st)) : Wp p l e R s m args below meth c n0 Q h k n (mkF m pc Ls (.long x :: st)) := by
  subst hp hy; exact own_lift (fun T A t q => XS.lstoreN A C.1 rfl (hb C.2.2.1 hd) rfl hl q) W
theorem own_astore (C : Cx p s m meth c Z cd ml ret own nm) {i : Nat} {x : Value} (hd : decode cd pc = .ok (.astore i, 2)) (hv : x.isRef = true) (hl : storeLocals Ls i x = some Ls') (hp : pc + 2 = pc') (W : Wp p l e R s m args below meth c n0 Q h k n (mkF m pc' Ls' st)) : Wp p l e R s m args below meth c n0 Q h k n (mkF m pc Ls (x :: st)) := by
  subst hp; exact own_lift (fun T A t q => XS.astore A C.1 rfl (hb C.2.2.1 hd) rfl hv hl q) W
theorem own_astoreN (C : Cx p s m meth c Z cd ml ret own nm) {i : Fin 4} {x : Value} (hd : decode cd pc = .ok (.astore_n i, 1)) (hv : x.isRef = true) (hl : storeLocals Ls i.val x = some Ls') (hp : pc + 1 = pc') (W : Wp p l e R s m args below meth c n0 Q h k n (mkF m pc' Ls' st)) : Wp p l e R s m args below meth c n0 Q h k n (mkF m pc Ls (x :: st)) := by
  subst hp; exact own_lift (fun T A t q => XS.astoreN A C.1 rfl (hb C.2.2.1 hd) rfl hv hl q) W
theorem own_iconst (C : Cx p s m meth c Z cd ml ret own nm) {i : Int} {v : Int32} (hd : decode cd pc = .ok (.iconst i, 1)) (hv : Int32.ofInt i = v) (hp : pc + 1 = pc') (W : Wp p l e R s m args below meth c n0 Q h k n (mkF m pc' Ls (.int v :: st))) : Wp p l e R s m args below meth c n0 Q h k n (mkF m pc Ls st) := by
  subst hp hv; exact own_lift (fun T A t q => XS.iconst A C.1 rfl (hb C.2.2.1 hd) q) W
theorem own_bipush (C : Cx p s m meth c Z cd ml ret own nm) {i : Int} {v : Int32} (hd : decode cd pc = .ok (.bipush i, 2)) (hv : (Int8.ofInt i).toInt32 = v) (hp : pc + 2 = pc') (W : Wp p l e R s m args below meth c n0 Q h k n (mkF m pc' Ls (.int v :: st))) : Wp p l e R s m args below meth c n0 Q h k n (mkF m pc Ls st) := by
  subst hp hv; exact own_lift (fun T A t q => XS.bipush A C.1 rfl (hb C.2.2.1 hd) q) W
theorem own_sipush (C : Cx p s m meth c Z cd ml ret own nm) {i : Int} {v : Int32} (hd : decode cd pc = .ok (.sipush i, 3)) (hv : (Int16.ofInt i).toInt32 = v) (hp : pc + 3 = pc') (W : Wp p l e R s m args below meth c n0 Q h k n (mkF m pc' Ls (.int v :: st))) : Wp p l e R s m args below meth c n0 Q h k n (mkF m pc Ls st) := by
  subst hp hv; exact own_lift (fun T A t q => XS.sipush A C.1 rfl (hb C.2.2.1 hd) q) W
theorem own_lconst (C : Cx p s m meth c Z cd ml ret own nm) {i : Fin 2} {v : Int64} (hd : decode cd pc = .ok (.lconst i, 1)) (hv : Int64.ofNat i.val = v) (hp : pc + 1 = pc') (W : Wp p l e R s m args below meth c n0 Q h k n (mkF m pc' Ls (.long v :: st))) : Wp p l e R s m args below meth c n0 Q h k n (mkF m pc Ls st) := by
  subst hp hv; exact own_lift (fun T A t q => XS.lconst A C.1 rfl (hb C.2.2.1 hd) q) W
theorem own_null (C : Cx p s m meth c Z cd ml ret own nm) (hd : decode cd pc = .ok (.aconst_null, 1)) (hp : pc + 1 = pc') (W : Wp p l e R s m args below meth c n0 Q h k n (mkF m pc' Ls (.null :: st))) : Wp p l e R s m args below meth c n0 Q h k n (mkF m pc Ls st) := by
  subst hp; exact own_lift (fun T A t q => XS.aconstNull A C.1 rfl (hb C.2.2.1 hd) q) W
/-! returns -/
theorem own_vret (C : Cx p s m meth c Z cd ml none own nm) (hd : decode cd pc = .ok (.return_, 1)) (hk : k ≤ R.cells) (hn : n ≤ R.slots) (hq : Q none h) : Wp p l e R s m args below meth c n0 Q h k n (mkF m pc Ls []) := fun T locs X eT N => by
  obtain ⟨hx, hZ, hby, hml, hown, hret, hlk, hnm⟩ := C
  obtain ⟨fs, hr, hrun, hended, hW, hsame⟩ := X.leave (v := none) (fun _ => rfl) hlk
  exact ⟨_, _, X.returnOut hx hret (hb hby hd) hr, hrun, hended, _, _, rfl, ⟨by rw [show (T.setFrames fs).heap = T.heap from rfl, eT]; exact hq, N⟩, ⟨_, rfl⟩, hW, hsame.mono hk hn⟩
theorem own_iret {z : Int32} (C : Cx p s m meth c Z cd ml (some .int) own nm) (hd : decode cd pc = .ok (.ireturn, 1)) (hk : k ≤ R.cells) (hn : n ≤ R.slots) (hq : Q (some (.int z)) h) : Wp p l e R s m args below meth c n0 Q h k n (mkF m pc Ls (.int z :: st)) := fun T locs X eT N => by
  obtain ⟨hx, hZ, hby, hml, hown, hret, hlk, hnm⟩ := C
  obtain ⟨fs, hr, hrun, hended, hW, hsame⟩ := X.leave (v := some (.int z)) (fun q => by rw [hret] at q; cases q) hlk
  exact ⟨_, _, retI X hx hret (hb hby hd) hr, hrun, hended, _, _, rfl, ⟨by rw [show (T.setFrames fs).heap = T.heap from rfl, eT]; exact hq, N⟩, ⟨_, rfl⟩, hW, hsame.mono hk hn⟩
theorem own_nret {z : Int32} {t : FieldType} (C : Cx p s m meth c Z cd ml (some t) own nm) (ht : t = .boolean ∨ t = .byte ∨ t = .char ∨ t = .short) (hd : decode cd pc = .ok (.ireturn, 1)) (hk : k ≤ R.cells) (hn : n ≤ R.slots) (hq : Q (some (.int (nar t z))) h) : Wp p l e R s m args below meth c n0 Q h k n (mkF m pc Ls (.int z :: st)) := fun T locs X eT N => by
  obtain ⟨hx, hZ, hby, hml, hown, hret, hlk, hnm⟩ := C
  obtain ⟨fs, hr, hrun, hended, hW, hsame⟩ := X.leave (v := some (.int (nar t z))) (fun q => by rw [hret] at q; cases q) hlk
  exact ⟨_, _, retN X hx hret ht (hb hby hd) hr, hrun, hended, _, _, rfl, ⟨by rw [show (T.setFrames fs).heap = T.heap from rfl, eT]; exact hq, N⟩, ⟨_, rfl⟩, hW, hsame.mono hk hn⟩
theorem own_zret {z : Int32} (C : Cx p s m meth c Z cd ml (some .boolean) own nm) (hd : decode cd pc = .ok (.ireturn, 1)) (hk : k ≤ R.cells) (hn : n ≤ R.slots) (hz : z = 0 ∨ z = 1) (hq : Q (some (.int z)) h) : Wp p l e R s m args below meth c n0 Q h k n (mkF m pc Ls (.int z :: st)) :=
  own_nret C (Or.inl rfl) hd hk hn (by rcases hz with rfl | rfl <;> exact hq)
theorem own_lret {z : Int64} (C : Cx p s m meth c Z cd ml (some .long) own nm) (hd : decode cd pc = .ok (.lreturn, 1)) (hk : k ≤ R.cells) (hn : n ≤ R.slots) (hq : Q (some (.long z)) h) : Wp p l e R s m args below meth c n0 Q h k n (mkF m pc Ls [.long z]) := fun T locs X eT N => by
  obtain ⟨hx, hZ, hby, hml, hown, hret, hlk, hnm⟩ := C
  obtain ⟨fs, hr, hrun, hended, hW, hsame⟩ := X.leave (v := some (.long z)) (fun q => by rw [hret] at q; cases q) hlk
  exact ⟨_, _, X.lreturnOut hx hret (hb hby hd) hr, hrun, hended, _, _, rfl, ⟨by rw [show (T.setFrames fs).heap = T.heap from rfl, eT]; exact hq, N⟩, ⟨_, rfl⟩, hW, hsame.mono hk hn⟩
theorem own_aret {z : Value} {t : FieldType} (C : Cx p s m meth c Z cd ml (some t) own nm) (hv : z.isRef = true) (ht : t.isReference = true) (hd : decode cd pc = .ok (.areturn, 1)) (hk : k ≤ R.cells) (hn : n ≤ R.slots) (hq : Q (some z) h) : Wp p l e R s m args below meth c n0 Q h k n (mkF m pc Ls (z :: st)) := fun T locs X eT N => by
  obtain ⟨hx, hZ, hby, hml, hown, hret, hlk, hnm⟩ := C
  obtain ⟨fs, hr, hrun, hended, hW, hsame⟩ := X.leave (v := some z) (fun q => by rw [hret] at q; cases q) hlk
  have hd' := hb hby hd
  refine ⟨_, _, ?_, hrun, hended, _, _, rfl, ⟨by rw [show (T.setFrames fs).heap = T.heap from rfl, eT]; exact hq, N⟩, ⟨_, rfl⟩, hW, hsame.mono hk hn⟩
  jvm_step X.here [X.here.top, hx, hd', X.method', hret, hv, ht]
  first | (intro acts; rw [hr _ acts rfl rfl rfl]) | rw [hr _ _ rfl rfl rfl]
  exact Steps.refl _
theorem own_iadd (C : Cx p s m meth c Z cd ml ret own nm) {x y v : Int32} (hd : decode cd pc = .ok (.iadd, 1)) (hv : x + y = v) (hp : pc + 1 = pc') (W : Wp p l e R s m args below meth c n0 Q h k n (mkF m pc' Ls (.int v :: st))) : Wp p l e R s m args below meth c n0 Q h k n (mkF m pc Ls (.int y :: .int x :: st)) := by
  subst hp hv; exact own_lift (fun T A t q => XS.iadd A C.1 rfl (hb C.2.2.1 hd) rfl q) W
theorem own_isub (C : Cx p s m meth c Z cd ml ret own nm) {x y v : Int32} (hd : decode cd pc = .ok (.isub, 1)) (hv : x - y = v) (hp : pc + 1 = pc') (W : Wp p l e R s m args below meth c n0 Q h k n (mkF m pc' Ls (.int v :: st))) : Wp p l e R s m args below meth c n0 Q h k n (mkF m pc Ls (.int y :: .int x :: st)) := by
  subst hp hv; exact own_lift (fun T A t q => XS.isub A C.1 rfl (hb C.2.2.1 hd) rfl q) W
theorem own_imul (C : Cx p s m meth c Z cd ml ret own nm) {x y v : Int32} (hd : decode cd pc = .ok (.imul, 1)) (hv : x * y = v) (hp : pc + 1 = pc') (W : Wp p l e R s m args below meth c n0 Q h k n (mkF m pc' Ls (.int v :: st))) : Wp p l e R s m args below meth c n0 Q h k n (mkF m pc Ls (.int y :: .int x :: st)) := by
  subst hp hv; exact own_lift (fun T A t q => XS.imul A C.1 rfl (hb C.2.2.1 hd) rfl q) W
theorem own_iand (C : Cx p s m meth c Z cd ml ret own nm) {x y v : Int32} (hd : decode cd pc = .ok (.iand, 1)) (hv : x &&& y = v) (hp : pc + 1 = pc') (W : Wp p l e R s m args below meth c n0 Q h k n (mkF m pc' Ls (.int v :: st))) : Wp p l e R s m args below meth c n0 Q h k n (mkF m pc Ls (.int y :: .int x :: st)) := by
  subst hp hv; exact own_lift (fun T A t q => XS.iand A C.1 rfl (hb C.2.2.1 hd) rfl q) W
theorem own_ior (C : Cx p s m meth c Z cd ml ret own nm) {x y v : Int32} (hd : decode cd pc = .ok (.ior, 1)) (hv : x ||| y = v) (hp : pc + 1 = pc') (W : Wp p l e R s m args below meth c n0 Q h k n (mkF m pc' Ls (.int v :: st))) : Wp p l e R s m args below meth c n0 Q h k n (mkF m pc Ls (.int y :: .int x :: st)) := by
  subst hp hv; exact own_lift (fun T A t q => XS.ior A C.1 rfl (hb C.2.2.1 hd) rfl q) W
theorem own_ixor (C : Cx p s m meth c Z cd ml ret own nm) {x y v : Int32} (hd : decode cd pc = .ok (.ixor, 1)) (hv : x ^^^ y = v) (hp : pc + 1 = pc') (W : Wp p l e R s m args below meth c n0 Q h k n (mkF m pc' Ls (.int v :: st))) : Wp p l e R s m args below meth c n0 Q h k n (mkF m pc Ls (.int y :: .int x :: st)) := by
  subst hp hv; exact own_lift (fun T A t q => XS.ixor A C.1 rfl (hb C.2.2.1 hd) rfl q) W
theorem own_ishl (C : Cx p s m meth c Z cd ml ret own nm) {x y v : Int32} (hd : decode cd pc = .ok (.ishl, 1)) (hv : x <<< (y &&& 31) = v) (hp : pc + 1 = pc') (W : Wp p l e R s m args below meth c n0 Q h k n (mkF m pc' Ls (.int v :: st))) : Wp p l e R s m args below meth c n0 Q h k n (mkF m pc Ls (.int y :: .int x :: st)) := by
  subst hp hv; exact own_lift (fun T A t q => XS.ishl A C.1 rfl (hb C.2.2.1 hd) rfl q) W
theorem own_ishr (C : Cx p s m meth c Z cd ml ret own nm) {x y v : Int32} (hd : decode cd pc = .ok (.ishr, 1)) (hv : x >>> (y &&& 31) = v) (hp : pc + 1 = pc') (W : Wp p l e R s m args below meth c n0 Q h k n (mkF m pc' Ls (.int v :: st))) : Wp p l e R s m args below meth c n0 Q h k n (mkF m pc Ls (.int y :: .int x :: st)) := by
  subst hp hv; exact own_lift (fun T A t q => XS.ishr A C.1 rfl (hb C.2.2.1 hd) rfl q) W
theorem own_iushr (C : Cx p s m meth c Z cd ml ret own nm) {x y v : Int32} (hd : decode cd pc = .ok (.iushr, 1)) (hv : (x.toUInt32 >>> (y &&& 31).toUInt32).toInt32 = v) (hp : pc + 1 = pc') (W : Wp p l e R s m args below meth c n0 Q h k n (mkF m pc' Ls (.int v :: st))) : Wp p l e R s m args below meth c n0 Q h k n (mkF m pc Ls (.int y :: .int x :: st)) := by
  subst hp hv; exact own_lift (fun T A t q => XS.iushr A C.1 rfl (hb C.2.2.1 hd) rfl q) W
theorem own_idiv (C : Cx p s m meth c Z cd ml ret own nm) {x y v : Int32} (hd : decode cd pc = .ok (.idiv, 1)) (hy : y ≠ 0) (hv : x / y = v) (hp : pc + 1 = pc') (W : Wp p l e R s m args below meth c n0 Q h k n (mkF m pc' Ls (.int v :: st))) : Wp p l e R s m args below meth c n0 Q h k n (mkF m pc Ls (.int y :: .int x :: st)) := by
  subst hp hv; exact own_lift (fun T A t q => XS.idiv A C.1 rfl (hb C.2.2.1 hd) rfl hy q) W
theorem own_ladd (C : Cx p s m meth c Z cd ml ret own nm) {x y v : Int64} (hd : decode cd pc = .ok (.ladd, 1)) (hv : x + y = v) (hp : pc + 1 = pc') (W : Wp p l e R s m args below meth c n0 Q h k n (mkF m pc' Ls (.long v :: st))) : Wp p l e R s m args below meth c n0 Q h k n (mkF m pc Ls (.long y :: .long x :: st)) := by
  subst hp hv; exact own_lift (fun T A t q => XS.ladd A C.1 rfl (hb C.2.2.1 hd) rfl q) W
theorem own_lsub (C : Cx p s m meth c Z cd ml ret own nm) {x y v : Int64} (hd : decode cd pc = .ok (.lsub, 1)) (hv : x - y = v) (hp : pc + 1 = pc') (W : Wp p l e R s m args below meth c n0 Q h k n (mkF m pc' Ls (.long v :: st))) : Wp p l e R s m args below meth c n0 Q h k n (mkF m pc Ls (.long y :: .long x :: st)) := by
  subst hp hv; exact own_lift (fun T A t q => XS.lsub A C.1 rfl (hb C.2.2.1 hd) rfl q) W
theorem own_lmul (C : Cx p s m meth c Z cd ml ret own nm) {x y v : Int64} (hd : decode cd pc = .ok (.lmul, 1)) (hv : x * y = v) (hp : pc + 1 = pc') (W : Wp p l e R s m args below meth c n0 Q h k n (mkF m pc' Ls (.long v :: st))) : Wp p l e R s m args below meth c n0 Q h k n (mkF m pc Ls (.long y :: .long x :: st)) := by
  subst hp hv; exact own_lift (fun T A t q => XS.lmul A C.1 rfl (hb C.2.2.1 hd) rfl q) W
theorem own_land (C : Cx p s m meth c Z cd ml ret own nm) {x y v : Int64} (hd : decode cd pc = .ok (.land, 1)) (hv : x &&& y = v) (hp : pc + 1 = pc') (W : Wp p l e R s m args below meth c n0 Q h k n (mkF m pc' Ls (.long v :: st))) : Wp p l e R s m args below meth c n0 Q h k n (mkF m pc Ls (.long y :: .long x :: st)) := by
  subst hp hv; exact own_lift (fun T A t q => XS.land A C.1 rfl (hb C.2.2.1 hd) rfl q) W
theorem own_lor (C : Cx p s m meth c Z cd ml ret own nm) {x y v : Int64} (hd : decode cd pc = .ok (.lor, 1)) (hv : x ||| y = v) (hp : pc + 1 = pc') (W : Wp p l e R s m args below meth c n0 Q h k n (mkF m pc' Ls (.long v :: st))) : Wp p l e R s m args below meth c n0 Q h k n (mkF m pc Ls (.long y :: .long x :: st)) := by
  subst hp hv; exact own_lift (fun T A t q => XS.lor A C.1 rfl (hb C.2.2.1 hd) rfl q) W
theorem own_lxor (C : Cx p s m meth c Z cd ml ret own nm) {x y v : Int64} (hd : decode cd pc = .ok (.lxor, 1)) (hv : x ^^^ y = v) (hp : pc + 1 = pc') (W : Wp p l e R s m args below meth c n0 Q h k n (mkF m pc' Ls (.long v :: st))) : Wp p l e R s m args below meth c n0 Q h k n (mkF m pc Ls (.long y :: .long x :: st)) := by
  subst hp hv; exact own_lift (fun T A t q => XS.lxor A C.1 rfl (hb C.2.2.1 hd) rfl q) W
theorem own_ldiv (C : Cx p s m meth c Z cd ml ret own nm) {x y v : Int64} (hd : decode cd pc = .ok (.ldiv, 1)) (hy : y ≠ 0) (hv : x / y = v) (hp : pc + 1 = pc') (W : Wp p l e R s m args below meth c n0 Q h k n (mkF m pc' Ls (.long v :: st))) : Wp p l e R s m args below meth c n0 Q h k n (mkF m pc Ls (.long y :: .long x :: st)) := by
  subst hp hv; exact own_lift (fun T A t q => XS.ldiv A C.1 rfl (hb C.2.2.1 hd) rfl hy q) W
theorem own_irem (C : Cx p s m meth c Z cd ml ret own nm) {x y v : Int32} (hd : decode cd pc = .ok (.irem, 1)) (hy : y ≠ 0) (hv : x % y = v) (hp : pc + 1 = pc') (W : Wp p l e R s m args below meth c n0 Q h k n (mkF m pc' Ls (.int v :: st))) : Wp p l e R s m args below meth c n0 Q h k n (mkF m pc Ls (.int y :: .int x :: st)) := by
  subst hp hv; exact own_liftX (fun T locs X eT t q => iremM X C.1 rfl (hb C.2.2.1 hd) rfl hy q) W
theorem own_lrem (C : Cx p s m meth c Z cd ml ret own nm) {x y v : Int64} (hd : decode cd pc = .ok (.lrem, 1)) (hy : y ≠ 0) (hv : x % y = v) (hp : pc + 1 = pc') (W : Wp p l e R s m args below meth c n0 Q h k n (mkF m pc' Ls (.long v :: st))) : Wp p l e R s m args below meth c n0 Q h k n (mkF m pc Ls (.long y :: .long x :: st)) := by
  subst hp; rw [← lrem_mod] at hv; subst hv; exact own_lift (fun T A t q => XS.lrem A C.1 rfl (hb C.2.2.1 hd) rfl hy q) W
theorem own_lshl (C : Cx p s m meth c Z cd ml ret own nm) {x v : Int64} {y : Int32} (hd : decode cd pc = .ok (.lshl, 1)) (hv : x <<< (y &&& 0x3f).toInt64 = v) (hp : pc + 1 = pc') (W : Wp p l e R s m args below meth c n0 Q h k n (mkF m pc' Ls (.long v :: st))) : Wp p l e R s m args below meth c n0 Q h k n (mkF m pc Ls (.int y :: .long x :: st)) := by
  subst hp hv; exact own_lift (fun T A t q => XS.lshl A C.1 rfl (hb C.2.2.1 hd) rfl q) W
theorem own_lshr (C : Cx p s m meth c Z cd ml ret own nm) {x v : Int64} {y : Int32} (hd : decode cd pc = .ok (.lshr, 1)) (hv : x >>> (y &&& 0x3f).toInt64 = v) (hp : pc + 1 = pc') (W : Wp p l e R s m args below meth c n0 Q h k n (mkF m pc' Ls (.long v :: st))) : Wp p l e R s m args below meth c n0 Q h k n (mkF m pc Ls (.int y :: .long x :: st)) := by
  subst hp hv; exact own_lift (fun T A t q => XS.lshr A C.1 rfl (hb C.2.2.1 hd) rfl q) W
theorem own_lushr (C : Cx p s m meth c Z cd ml ret own nm) {x v : Int64} {y : Int32} (hd : decode cd pc = .ok (.lushr, 1)) (hv : (x.toUInt64 >>> (y &&& 0x3f).toInt64.toUInt64).toInt64 = v) (hp : pc + 1 = pc') (W : Wp p l e R s m args below meth c n0 Q h k n (mkF m pc' Ls (.long v :: st))) : Wp p l e R s m args below meth c n0 Q h k n (mkF m pc Ls (.int y :: .long x :: st)) := by
  subst hp hv; exact own_lift (fun T A t q => XS.lushr A C.1 rfl (hb C.2.2.1 hd) rfl q) W
theorem own_ineg (C : Cx p s m meth c Z cd ml ret own nm) {x : Int32} {v : Int32} (hd : decode cd pc = .ok (.ineg, 1)) (hv : -x = v) (hp : pc + 1 = pc') (W : Wp p l e R s m args below meth c n0 Q h k n (mkF m pc' Ls (.int v :: st))) : Wp p l e R s m args below meth c n0 Q h k n (mkF m pc Ls (.int x :: st)) := by
  subst hp hv; exact own_lift (fun T A t q => XS.ineg A C.1 rfl (hb C.2.2.1 hd) rfl q) W
theorem own_lneg (C : Cx p s m meth c Z cd ml ret own nm) {x : Int64} {v : Int64} (hd : decode cd pc = .ok (.lneg, 1)) (hv : -x = v) (hp : pc + 1 = pc') (W : Wp p l e R s m args below meth c n0 Q h k n (mkF m pc' Ls (.long v :: st))) : Wp p l e R s m args below meth c n0 Q h k n (mkF m pc Ls (.long x :: st)) := by
  subst hp hv; exact own_lift (fun T A t q => XS.lneg A C.1 rfl (hb C.2.2.1 hd) rfl q) W
theorem own_i2l (C : Cx p s m meth c Z cd ml ret own nm) {x : Int32} {v : Int64} (hd : decode cd pc = .ok (.i2l, 1)) (hv : x.toInt64 = v) (hp : pc + 1 = pc') (W : Wp p l e R s m args below meth c n0 Q h k n (mkF m pc' Ls (.long v :: st))) : Wp p l e R s m args below meth c n0 Q h k n (mkF m pc Ls (.int x :: st)) := by
  subst hp hv; exact own_lift (fun T A t q => XS.i2l A C.1 rfl (hb C.2.2.1 hd) rfl q) W
theorem own_l2i (C : Cx p s m meth c Z cd ml ret own nm) {x : Int64} {v : Int32} (hd : decode cd pc = .ok (.l2i, 1)) (hv : x.toInt32 = v) (hp : pc + 1 = pc') (W : Wp p l e R s m args below meth c n0 Q h k n (mkF m pc' Ls (.int v :: st))) : Wp p l e R s m args below meth c n0 Q h k n (mkF m pc Ls (.long x :: st)) := by
  subst hp hv; exact own_lift (fun T A t q => XS.l2i A C.1 rfl (hb C.2.2.1 hd) rfl q) W
theorem own_i2b (C : Cx p s m meth c Z cd ml ret own nm) {x : Int32} {v : Int32} (hd : decode cd pc = .ok (.i2b, 1)) (hv : x.toInt8.toInt32 = v) (hp : pc + 1 = pc') (W : Wp p l e R s m args below meth c n0 Q h k n (mkF m pc' Ls (.int v :: st))) : Wp p l e R s m args below meth c n0 Q h k n (mkF m pc Ls (.int x :: st)) := by
  subst hp hv; exact own_lift (fun T A t q => XS.i2b A C.1 rfl (hb C.2.2.1 hd) rfl q) W
theorem own_i2s (C : Cx p s m meth c Z cd ml ret own nm) {x : Int32} {v : Int32} (hd : decode cd pc = .ok (.i2s, 1)) (hv : x.toInt16.toInt32 = v) (hp : pc + 1 = pc') (W : Wp p l e R s m args below meth c n0 Q h k n (mkF m pc' Ls (.int v :: st))) : Wp p l e R s m args below meth c n0 Q h k n (mkF m pc Ls (.int x :: st)) := by
  subst hp hv; exact own_lift (fun T A t q => XS.i2s A C.1 rfl (hb C.2.2.1 hd) rfl q) W
theorem own_i2c (C : Cx p s m meth c Z cd ml ret own nm) {x : Int32} {v : Int32} (hd : decode cd pc = .ok (.i2c, 1)) (hv : x.toUInt32.toUInt16.toUInt32.toInt32 = v) (hp : pc + 1 = pc') (W : Wp p l e R s m args below meth c n0 Q h k n (mkF m pc' Ls (.int v :: st))) : Wp p l e R s m args below meth c n0 Q h k n (mkF m pc Ls (.int x :: st)) := by
  subst hp hv; exact own_lift (fun T A t q => XS.i2c A C.1 rfl (hb C.2.2.1 hd) rfl q) W
theorem own_lcmp (C : Cx p s m meth c Z cd ml ret own nm) {x y : Int64} (hd : decode cd pc = .ok (.lcmp, 1)) (hp : pc + 1 = pc') (W : Wp p l e R s m args below meth c n0 Q h k n (mkF m pc' Ls (.int (lcmpW x y) :: st))) : Wp p l e R s m args below meth c n0 Q h k n (mkF m pc Ls (.long y :: .long x :: st)) := by
  subst hp; exact own_lift (fun T A t q => XS.lcmp A C.1 rfl (hb C.2.2.1 hd) rfl q) W
theorem own_dup (C : Cx p s m meth c Z cd ml ret own nm) {x : Value} (hd : decode cd pc = .ok (.dup, 1)) (hc : x.category = 1) (hp : pc + 1 = pc') (W : Wp p l e R s m args below meth c n0 Q h k n (mkF m pc' Ls (x :: x :: st))) : Wp p l e R s m args below meth c n0 Q h k n (mkF m pc Ls (x :: st)) := by
  subst hp; exact own_lift (fun T A t q => XS.dup A C.1 rfl (hb C.2.2.1 hd) rfl hc q) W
theorem own_pop (C : Cx p s m meth c Z cd ml ret own nm) {x : Value} (hd : decode cd pc = .ok (.pop, 1)) (hc : x.category = 1) (hp : pc + 1 = pc') (W : Wp p l e R s m args below meth c n0 Q h k n (mkF m pc' Ls st)) : Wp p l e R s m args below meth c n0 Q h k n (mkF m pc Ls (x :: st)) := by
  subst hp; exact own_lift (fun T A t q => XS.pop A C.1 rfl (hb C.2.2.1 hd) rfl hc q) W
theorem own_dupX1 (C : Cx p s m meth c Z cd ml ret own nm) {x y : Value} (hd : decode cd pc = .ok (.dup_x1, 1)) (hc : x.category = 1) (hc' : y.category = 1) (hp : pc + 1 = pc') (W : Wp p l e R s m args below meth c n0 Q h k n (mkF m pc' Ls (x :: y :: x :: st))) : Wp p l e R s m args below meth c n0 Q h k n (mkF m pc Ls (x :: y :: st)) := by
  subst hp; exact own_lift (fun T A t q => XS.dupX1 A C.1 rfl (hb C.2.2.1 hd) rfl hc hc' q) W
theorem own_dup2 (C : Cx p s m meth c Z cd ml ret own nm) {x y : Value} (hd : decode cd pc = .ok (.dup2, 1)) (hc : x.category = 1) (hc' : y.category = 1) (hp : pc + 1 = pc') (W : Wp p l e R s m args below meth c n0 Q h k n (mkF m pc' Ls (x :: y :: x :: y :: st))) : Wp p l e R s m args below meth c n0 Q h k n (mkF m pc Ls (x :: y :: st)) := by
  subst hp; exact own_lift (fun T A t q => Jvm.Free.XT.dup2 A C.1 rfl (hb C.2.2.1 hd) rfl hc hc' q) W
theorem own_iinc (C : Cx p s m meth c Z cd ml ret own nm) {i : Nat} {d : Int} {x v : Int32} (hd : decode cd pc = .ok (.iinc i d, 3)) (hl : Ls[i]? = some (.val (.int x))) (hv : x + Int32.ofInt d = v) (hl' : storeLocals Ls i (.int v) = some Ls') (hp : pc + 3 = pc') (W : Wp p l e R s m args below meth c n0 Q h k n (mkF m pc' Ls' st)) : Wp p l e R s m args below meth c n0 Q h k n (mkF m pc Ls st) := by
  subst hp hv; exact own_lift (fun T A t q => XS.iinc A C.1 rfl (hb C.2.2.1 hd) hl hl' q) W
theorem own_goto (C : Cx p s m meth c Z cd ml ret own nm) {o : Int} (hd : decode cd pc = .ok (.goto o, 3)) (ho : 0 ≤ (pc : Int) + o) (hp : ((pc : Int) + o).toNat = pc') (W : Wp p l e R s m args below meth c n0 Q h k n (mkF m pc' Ls st)) : Wp p l e R s m args below meth c n0 Q h k n (mkF m pc Ls st) :=
  own_lift (fun T A t q => XS.goto A C.1 rfl (pc0 := pc) (pc' := pc') rfl (hb C.2.2.1 hd) ho hp q) W
theorem own_icmp_lt (C : Cx p s m meth c Z cd ml ret own nm) {o : Int} {x y : Int32} {pt pf : Nat} (hd : decode cd pc = .ok (.if_icmp .lt o, 3)) (ho : 0 ≤ (pc : Int) + o) (hp : ((pc : Int) + o).toNat = pt) (hf : pc + 3 = pf) (WT : x < y → Wp p l e R s m args below meth c n0 Q h k n (mkF m pt Ls st)) (WF : ¬ x < y → Wp p l e R s m args below meth c n0 Q h k n (mkF m pf Ls st)) : Wp p l e R s m args below meth c n0 Q h k n (mkF m pc Ls (.int y :: .int x :: st)) := by
  subst hf
  by_cases g : x < y
  · exact own_lift (fun T A t q => XS.icmpYes A C.1 rfl (pc0 := pc) (pc' := pt) rfl (hb C.2.2.1 hd) rfl (tlt g).1 ho hp q) (WT g)
  · exact own_lift (fun T A t q => XS.icmpNo A C.1 rfl (hb C.2.2.1 hd) rfl (flt g).1 q) (WF g)
theorem own_if_lt (C : Cx p s m meth c Z cd ml ret own nm) {o : Int} {x : Int32} {pt pf : Nat} (hd : decode cd pc = .ok (.ifCond .lt o, 3)) (ho : 0 ≤ (pc : Int) + o) (hp : ((pc : Int) + o).toNat = pt) (hf : pc + 3 = pf) (WT : x < 0 → Wp p l e R s m args below meth c n0 Q h k n (mkF m pt Ls st)) (WF : ¬ x < 0 → Wp p l e R s m args below meth c n0 Q h k n (mkF m pf Ls st)) : Wp p l e R s m args below meth c n0 Q h k n (mkF m pc Ls (.int x :: st)) := by
  subst hf
  by_cases g : x < 0
  · exact own_lift (fun T A t q => XS.ifYes A C.1 rfl (pc0 := pc) (pc' := pt) rfl (hb C.2.2.1 hd) rfl ((if0 _ _).trans (tlt g).1) ho hp q) (WT g)
  · exact own_lift (fun T A t q => XS.ifNo A C.1 rfl (hb C.2.2.1 hd) rfl ((if0 _ _).trans (flt g).1) q) (WF g)
theorem own_lcmp_lt (C : Cx p s m meth c Z cd ml ret own nm) {o : Int} {x y : Int64} {p1 pt pf : Nat} (hd0 : decode cd pc = .ok (.lcmp, 1)) (h1 : pc + 1 = p1) (hd : decode cd p1 = .ok (.ifCond .lt o, 3)) (ho : 0 ≤ (p1 : Int) + o) (hp : ((p1 : Int) + o).toNat = pt) (hf : p1 + 3 = pf) (WT : x < y → Wp p l e R s m args below meth c n0 Q h k n (mkF m pt Ls st)) (WF : ¬ x < y → Wp p l e R s m args below meth c n0 Q h k n (mkF m pf Ls st)) : Wp p l e R s m args below meth c n0 Q h k n (mkF m pc Ls (.long y :: .long x :: st)) :=
  own_lcmp C hd0 h1 (own_if_lt C hd ho hp hf (fun g => WT ((lw_lt x y).mp g)) (fun g => WF (fun q => g ((lw_lt x y).mpr q))))
theorem own_icmp_ge (C : Cx p s m meth c Z cd ml ret own nm) {o : Int} {x y : Int32} {pt pf : Nat} (hd : decode cd pc = .ok (.if_icmp .ge o, 3)) (ho : 0 ≤ (pc : Int) + o) (hp : ((pc : Int) + o).toNat = pt) (hf : pc + 3 = pf) (WT : ¬ x < y → Wp p l e R s m args below meth c n0 Q h k n (mkF m pt Ls st)) (WF : x < y → Wp p l e R s m args below meth c n0 Q h k n (mkF m pf Ls st)) : Wp p l e R s m args below meth c n0 Q h k n (mkF m pc Ls (.int y :: .int x :: st)) := by
  subst hf
  by_cases g : x < y
  · exact own_lift (fun T A t q => XS.icmpNo A C.1 rfl (hb C.2.2.1 hd) rfl (tlt g).2.1 q) (WF g)
  · exact own_lift (fun T A t q => XS.icmpYes A C.1 rfl (pc0 := pc) (pc' := pt) rfl (hb C.2.2.1 hd) rfl (flt g).2.1 ho hp q) (WT g)
theorem own_if_ge (C : Cx p s m meth c Z cd ml ret own nm) {o : Int} {x : Int32} {pt pf : Nat} (hd : decode cd pc = .ok (.ifCond .ge o, 3)) (ho : 0 ≤ (pc : Int) + o) (hp : ((pc : Int) + o).toNat = pt) (hf : pc + 3 = pf) (WT : ¬ x < 0 → Wp p l e R s m args below meth c n0 Q h k n (mkF m pt Ls st)) (WF : x < 0 → Wp p l e R s m args below meth c n0 Q h k n (mkF m pf Ls st)) : Wp p l e R s m args below meth c n0 Q h k n (mkF m pc Ls (.int x :: st)) := by
  subst hf
  by_cases g : x < 0
  · exact own_lift (fun T A t q => XS.ifNo A C.1 rfl (hb C.2.2.1 hd) rfl ((if0 _ _).trans (tlt g).2.1) q) (WF g)
  · exact own_lift (fun T A t q => XS.ifYes A C.1 rfl (pc0 := pc) (pc' := pt) rfl (hb C.2.2.1 hd) rfl ((if0 _ _).trans (flt g).2.1) ho hp q) (WT g)
theorem own_lcmp_ge (C : Cx p s m meth c Z cd ml ret own nm) {o : Int} {x y : Int64} {p1 pt pf : Nat} (hd0 : decode cd pc = .ok (.lcmp, 1)) (h1 : pc + 1 = p1) (hd : decode cd p1 = .ok (.ifCond .ge o, 3)) (ho : 0 ≤ (p1 : Int) + o) (hp : ((p1 : Int) + o).toNat = pt) (hf : p1 + 3 = pf) (WT : ¬ x < y → Wp p l e R s m args below meth c n0 Q h k n (mkF m pt Ls st)) (WF : x < y → Wp p l e R s m args below meth c n0 Q h k n (mkF m pf Ls st)) : Wp p l e R s m args below meth c n0 Q h k n (mkF m pc Ls (.long y :: .long x :: st)) :=
  own_lcmp C hd0 h1 (own_if_ge C hd ho hp hf (fun g => WT (fun q => g ((lw_lt x y).mpr q))) (fun g => WF ((lw_lt x y).mp g)))
theorem own_icmp_gt (C : Cx p s m meth c Z cd ml ret own nm) {o : Int} {x y : Int32} {pt pf : Nat} (hd : decode cd pc = .ok (.if_icmp .gt o, 3)) (ho : 0 ≤ (pc : Int) + o) (hp : ((pc : Int) + o).toNat = pt) (hf : pc + 3 = pf) (WT : y < x → Wp p l e R s m args below meth c n0 Q h k n (mkF m pt Ls st)) (WF : ¬ y < x → Wp p l e R s m args below meth c n0 Q h k n (mkF m pf Ls st)) : Wp p l e R s m args below meth c n0 Q h k n (mkF m pc Ls (.int y :: .int x :: st)) := by
  subst hf
  by_cases g : y < x
  · exact own_lift (fun T A t q => XS.icmpYes A C.1 rfl (pc0 := pc) (pc' := pt) rfl (hb C.2.2.1 hd) rfl (tlt g).2.2.1 ho hp q) (WT g)
  · exact own_lift (fun T A t q => XS.icmpNo A C.1 rfl (hb C.2.2.1 hd) rfl (flt g).2.2.1 q) (WF g)
theorem own_if_gt (C : Cx p s m meth c Z cd ml ret own nm) {o : Int} {x : Int32} {pt pf : Nat} (hd : decode cd pc = .ok (.ifCond .gt o, 3)) (ho : 0 ≤ (pc : Int) + o) (hp : ((pc : Int) + o).toNat = pt) (hf : pc + 3 = pf) (WT : 0 < x → Wp p l e R s m args below meth c n0 Q h k n (mkF m pt Ls st)) (WF : ¬ 0 < x → Wp p l e R s m args below meth c n0 Q h k n (mkF m pf Ls st)) : Wp p l e R s m args below meth c n0 Q h k n (mkF m pc Ls (.int x :: st)) := by
  subst hf
  by_cases g : 0 < x
  · exact own_lift (fun T A t q => XS.ifYes A C.1 rfl (pc0 := pc) (pc' := pt) rfl (hb C.2.2.1 hd) rfl ((if0 _ _).trans (tlt g).2.2.1) ho hp q) (WT g)
  · exact own_lift (fun T A t q => XS.ifNo A C.1 rfl (hb C.2.2.1 hd) rfl ((if0 _ _).trans (flt g).2.2.1) q) (WF g)
theorem own_lcmp_gt (C : Cx p s m meth c Z cd ml ret own nm) {o : Int} {x y : Int64} {p1 pt pf : Nat} (hd0 : decode cd pc = .ok (.lcmp, 1)) (h1 : pc + 1 = p1) (hd : decode cd p1 = .ok (.ifCond .gt o, 3)) (ho : 0 ≤ (p1 : Int) + o) (hp : ((p1 : Int) + o).toNat = pt) (hf : p1 + 3 = pf) (WT : y < x → Wp p l e R s m args below meth c n0 Q h k n (mkF m pt Ls st)) (WF : ¬ y < x → Wp p l e R s m args below meth c n0 Q h k n (mkF m pf Ls st)) : Wp p l e R s m args below meth c n0 Q h k n (mkF m pc Ls (.long y :: .long x :: st)) :=
  own_lcmp C hd0 h1 (own_if_gt C hd ho hp hf (fun g => WT ((lw_gt x y).mp g)) (fun g => WF (fun q => g ((lw_gt x y).mpr q))))
theorem own_icmp_le (C : Cx p s m meth c Z cd ml ret own nm) {o : Int} {x y : Int32} {pt pf : Nat} (hd : decode cd pc = .ok (.if_icmp .le o, 3)) (ho : 0 ≤ (pc : Int) + o) (hp : ((pc : Int) + o).toNat = pt) (hf : pc + 3 = pf) (WT : ¬ y < x → Wp p l e R s m args below meth c n0 Q h k n (mkF m pt Ls st)) (WF : y < x → Wp p l e R s m args below meth c n0 Q h k n (mkF m pf Ls st)) : Wp p l e R s m args below meth c n0 Q h k n (mkF m pc Ls (.int y :: .int x :: st)) := by
  subst hf
  by_cases g : y < x
  · exact own_lift (fun T A t q => XS.icmpNo A C.1 rfl (hb C.2.2.1 hd) rfl (tlt g).2.2.2 q) (WF g)
  · exact own_lift (fun T A t q => XS.icmpYes A C.1 rfl (pc0 := pc) (pc' := pt) rfl (hb C.2.2.1 hd) rfl (flt g).2.2.2 ho hp q) (WT g)
theorem own_if_le (C : Cx p s m meth c Z cd ml ret own nm) {o : Int} {x : Int32} {pt pf : Nat} (hd : decode cd pc = .ok (.ifCond .le o, 3)) (ho : 0 ≤ (pc : Int) + o) (hp : ((pc : Int) + o).toNat = pt) (hf : pc + 3 = pf) (WT : ¬ 0 < x → Wp p l e R s m args below meth c n0 Q h k n (mkF m pt Ls st)) (WF : 0 < x → Wp p l e R s m args below meth c n0 Q h k n (mkF m pf Ls st)) : Wp p l e R s m args below meth c n0 Q h k n (mkF m pc Ls (.int x :: st)) := by
  subst hf
  by_cases g : 0 < x
  · exact own_lift (fun T A t q => XS.ifNo A C.1 rfl (hb C.2.2.1 hd) rfl ((if0 _ _).trans (tlt g).2.2.2) q) (WF g)
  · exact own_lift (fun T A t q => XS.ifYes A C.1 rfl (pc0 := pc) (pc' := pt) rfl (hb C.2.2.1 hd) rfl ((if0 _ _).trans (flt g).2.2.2) ho hp q) (WT g)
theorem own_lcmp_le (C : Cx p s m meth c Z cd ml ret own nm) {o : Int} {x y : Int64} {p1 pt pf : Nat} (hd0 : decode cd pc = .ok (.lcmp, 1)) (h1 : pc + 1 = p1) (hd : decode cd p1 = .ok (.ifCond .le o, 3)) (ho : 0 ≤ (p1 : Int) + o) (hp : ((p1 : Int) + o).toNat = pt) (hf : p1 + 3 = pf) (WT : ¬ y < x → Wp p l e R s m args below meth c n0 Q h k n (mkF m pt Ls st)) (WF : y < x → Wp p l e R s m args below meth c n0 Q h k n (mkF m pf Ls st)) : Wp p l e R s m args below meth c n0 Q h k n (mkF m pc Ls (.long y :: .long x :: st)) :=
  own_lcmp C hd0 h1 (own_if_le C hd ho hp hf (fun g => WT (fun q => g ((lw_gt x y).mpr q))) (fun g => WF ((lw_gt x y).mp g)))
theorem own_icmp_eq (C : Cx p s m meth c Z cd ml ret own nm) {o : Int} {x y : Int32} {pt pf : Nat} (hd : decode cd pc = .ok (.if_icmp .eq o, 3)) (ho : 0 ≤ (pc : Int) + o) (hp : ((pc : Int) + o).toNat = pt) (hf : pc + 3 = pf) (WT : x = y → Wp p l e R s m args below meth c n0 Q h k n (mkF m pt Ls st)) (WF : ¬ x = y → Wp p l e R s m args below meth c n0 Q h k n (mkF m pf Ls st)) : Wp p l e R s m args below meth c n0 Q h k n (mkF m pc Ls (.int y :: .int x :: st)) := by
  subst hf
  by_cases g : x = y
  · exact own_lift (fun T A t q => XS.icmpYes A C.1 rfl (pc0 := pc) (pc' := pt) rfl (hb C.2.2.1 hd) rfl (teq g).1 ho hp q) (WT g)
  · exact own_lift (fun T A t q => XS.icmpNo A C.1 rfl (hb C.2.2.1 hd) rfl (feq g).1 q) (WF g)
theorem own_if_eq (C : Cx p s m meth c Z cd ml ret own nm) {o : Int} {x : Int32} {pt pf : Nat} (hd : decode cd pc = .ok (.ifCond .eq o, 3)) (ho : 0 ≤ (pc : Int) + o) (hp : ((pc : Int) + o).toNat = pt) (hf : pc + 3 = pf) (WT : x = 0 → Wp p l e R s m args below meth c n0 Q h k n (mkF m pt Ls st)) (WF : ¬ x = 0 → Wp p l e R s m args below meth c n0 Q h k n (mkF m pf Ls st)) : Wp p l e R s m args below meth c n0 Q h k n (mkF m pc Ls (.int x :: st)) := by
  subst hf
  by_cases g : x = 0
  · exact own_lift (fun T A t q => XS.ifYes A C.1 rfl (pc0 := pc) (pc' := pt) rfl (hb C.2.2.1 hd) rfl ((if0 _ _).trans (teq g).1) ho hp q) (WT g)
  · exact own_lift (fun T A t q => XS.ifNo A C.1 rfl (hb C.2.2.1 hd) rfl ((if0 _ _).trans (feq g).1) q) (WF g)
theorem own_lcmp_eq (C : Cx p s m meth c Z cd ml ret own nm) {o : Int} {x y : Int64} {p1 pt pf : Nat} (hd0 : decode cd pc = .ok (.lcmp, 1)) (h1 : pc + 1 = p1) (hd : decode cd p1 = .ok (.ifCond .eq o, 3)) (ho : 0 ≤ (p1 : Int) + o) (hp : ((p1 : Int) + o).toNat = pt) (hf : p1 + 3 = pf) (WT : x = y → Wp p l e R s m args below meth c n0 Q h k n (mkF m pt Ls st)) (WF : ¬ x = y → Wp p l e R s m args below meth c n0 Q h k n (mkF m pf Ls st)) : Wp p l e R s m args below meth c n0 Q h k n (mkF m pc Ls (.long y :: .long x :: st)) :=
  own_lcmp C hd0 h1 (own_if_eq C hd ho hp hf (fun g => WT ((lw_eq x y).mp g)) (fun g => WF (fun q => g ((lw_eq x y).mpr q))))
theorem own_icmp_ne (C : Cx p s m meth c Z cd ml ret own nm) {o : Int} {x y : Int32} {pt pf : Nat} (hd : decode cd pc = .ok (.if_icmp .ne o, 3)) (ho : 0 ≤ (pc : Int) + o) (hp : ((pc : Int) + o).toNat = pt) (hf : pc + 3 = pf) (WT : ¬ x = y → Wp p l e R s m args below meth c n0 Q h k n (mkF m pt Ls st)) (WF : x = y → Wp p l e R s m args below meth c n0 Q h k n (mkF m pf Ls st)) : Wp p l e R s m args below meth c n0 Q h k n (mkF m pc Ls (.int y :: .int x :: st)) := by
  subst hf
  by_cases g : x = y
  · exact own_lift (fun T A t q => XS.icmpNo A C.1 rfl (hb C.2.2.1 hd) rfl (teq g).2 q) (WF g)
  · exact own_lift (fun T A t q => XS.icmpYes A C.1 rfl (pc0 := pc) (pc' := pt) rfl (hb C.2.2.1 hd) rfl (feq g).2 ho hp q) (WT g)
theorem own_if_ne (C : Cx p s m meth c Z cd ml ret own nm) {o : Int} {x : Int32} {pt pf : Nat} (hd : decode cd pc = .ok (.ifCond .ne o, 3)) (ho : 0 ≤ (pc : Int) + o) (hp : ((pc : Int) + o).toNat = pt) (hf : pc + 3 = pf) (WT : ¬ x = 0 → Wp p l e R s m args below meth c n0 Q h k n (mkF m pt Ls st)) (WF : x = 0 → Wp p l e R s m args below meth c n0 Q h k n (mkF m pf Ls st)) : Wp p l e R s m args below meth c n0 Q h k n (mkF m pc Ls (.int x :: st)) := by
  subst hf
  by_cases g : x = 0
  · exact own_lift (fun T A t q => XS.ifNo A C.1 rfl (hb C.2.2.1 hd) rfl ((if0 _ _).trans (teq g).2) q) (WF g)
  · exact own_lift (fun T A t q => XS.ifYes A C.1 rfl (pc0 := pc) (pc' := pt) rfl (hb C.2.2.1 hd) rfl ((if0 _ _).trans (feq g).2) ho hp q) (WT g)
theorem own_lcmp_ne (C : Cx p s m meth c Z cd ml ret own nm) {o : Int} {x y : Int64} {p1 pt pf : Nat} (hd0 : decode cd pc = .ok (.lcmp, 1)) (h1 : pc + 1 = p1) (hd : decode cd p1 = .ok (.ifCond .ne o, 3)) (ho : 0 ≤ (p1 : Int) + o) (hp : ((p1 : Int) + o).toNat = pt) (hf : p1 + 3 = pf) (WT : ¬ x = y → Wp p l e R s m args below meth c n0 Q h k n (mkF m pt Ls st)) (WF : x = y → Wp p l e R s m args below meth c n0 Q h k n (mkF m pf Ls st)) : Wp p l e R s m args below meth c n0 Q h k n (mkF m pc Ls (.long y :: .long x :: st)) :=
  own_lcmp C hd0 h1 (own_if_ne C hd ho hp hf (fun g => WT (fun q => g ((lw_eq x y).mpr q))) (fun g => WF ((lw_eq x y).mp g)))
theorem own_acmp_eq (C : Cx p s m meth c Z cd ml ret own nm) {o : Int} {a b : Addr} {pt pf : Nat} (hd : decode cd pc = .ok (.if_acmp .eq o, 3)) (ho : 0 ≤ (pc : Int) + o) (hp : ((pc : Int) + o).toNat = pt) (hf : pc + 3 = pf) (WT : a = b → Wp p l e R s m args below meth c n0 Q h k n (mkF m pt Ls st)) (WF : ¬ a = b → Wp p l e R s m args below meth c n0 Q h k n (mkF m pf Ls st)) : Wp p l e R s m args below meth c n0 Q h k n (mkF m pc Ls (.ref b :: .ref a :: st)) := by
  subst hf
  by_cases g : a = b
  · exact own_lift (fun T A t q => XS.acmpYes A C.1 rfl (pc0 := pc) (pc' := pt) rfl (hb C.2.2.1 hd) rfl (by simp [if_acmp.holds, g]) ho hp q) (WT g)
  · exact own_lift (fun T A t q => XS.acmpNo A C.1 rfl (hb C.2.2.1 hd) rfl (by simp [if_acmp.holds, g]) q) (WF g)
theorem own_acmp_ne (C : Cx p s m meth c Z cd ml ret own nm) {o : Int} {a b : Addr} {pt pf : Nat} (hd : decode cd pc = .ok (.if_acmp .ne o, 3)) (ho : 0 ≤ (pc : Int) + o) (hp : ((pc : Int) + o).toNat = pt) (hf : pc + 3 = pf) (WT : ¬ a = b → Wp p l e R s m args below meth c n0 Q h k n (mkF m pt Ls st)) (WF : a = b → Wp p l e R s m args below meth c n0 Q h k n (mkF m pf Ls st)) : Wp p l e R s m args below meth c n0 Q h k n (mkF m pc Ls (.ref b :: .ref a :: st)) := by
  subst hf
  by_cases g : a = b
  · exact own_lift (fun T A t q => XS.acmpNo A C.1 rfl (hb C.2.2.1 hd) rfl (by simp [if_acmp.holds, g]) q) (WF g)
  · exact own_lift (fun T A t q => XS.acmpYes A C.1 rfl (pc0 := pc) (pc' := pt) rfl (hb C.2.2.1 hd) rfl (by simp [if_acmp.holds, g]) ho hp q) (WT g)
theorem own_ifnull_y (C : Cx p s m meth c Z cd ml ret own nm) {o : Int} {pt : Nat} (hd : decode cd pc = .ok (.ifnull o, 3)) (ho : 0 ≤ (pc : Int) + o) (hp : ((pc : Int) + o).toNat = pt) (W : Wp p l e R s m args below meth c n0 Q h k n (mkF m pt Ls st)) : Wp p l e R s m args below meth c n0 Q h k n (mkF m pc Ls (.null :: st)) :=
  own_lift (fun T A t q => XS.ifnullYes A C.1 rfl (pc0 := pc) (pc' := pt) rfl (hb C.2.2.1 hd) rfl ho hp q) W
theorem own_ifnull_n (C : Cx p s m meth c Z cd ml ret own nm) {o : Int} {a : Addr} (hd : decode cd pc = .ok (.ifnull o, 3)) (hp : pc + 3 = pc') (W : Wp p l e R s m args below meth c n0 Q h k n (mkF m pc' Ls st)) : Wp p l e R s m args below meth c n0 Q h k n (mkF m pc Ls (.ref a :: st)) := by
  subst hp; exact own_lift (fun T A t q => XS.ifnullNo A C.1 rfl (hb C.2.2.1 hd) rfl q) W
theorem own_ifnonnull_y (C : Cx p s m meth c Z cd ml ret own nm) {o : Int} {a : Addr} {pt : Nat} (hd : decode cd pc = .ok (.ifnonnull o, 3)) (ho : 0 ≤ (pc : Int) + o) (hp : ((pc : Int) + o).toNat = pt) (W : Wp p l e R s m args below meth c n0 Q h k n (mkF m pt Ls st)) : Wp p l e R s m args below meth c n0 Q h k n (mkF m pc Ls (.ref a :: st)) :=
  own_lift (fun T A t q => XS.ifnonnullYes A C.1 rfl (pc0 := pc) (pc' := pt) rfl (hb C.2.2.1 hd) rfl ho hp q) W
theorem own_ifnonnull_n (C : Cx p s m meth c Z cd ml ret own nm) {o : Int} (hd : decode cd pc = .ok (.ifnonnull o, 3)) (hp : pc + 3 = pc') (W : Wp p l e R s m args below meth c n0 Q h k n (mkF m pc' Ls st)) : Wp p l e R s m args below meth c n0 Q h k n (mkF m pc Ls (.null :: st)) := by
  subst hp; exact own_lift (fun T A t q => XS.ifnonnullNo A C.1 rfl (hb C.2.2.1 hd) rfl q) W
theorem own_ldc (C : Cx p s m meth c Z cd ml ret own nm) {i : Nat} {v : Int32} (hd : decode cd pc = .ok (.ldc i, 2)) (w : (Jvm.Cond.constant own i v).before a0 Z = true) (hp : pc + 2 = pc') (W : Wp p l e R s m args below meth c n0 Q h k n (mkF m pc' Ls (.int v :: st))) : Wp p l e R s m args below meth c n0 Q h k n (mkF m pc Ls st) := by
  subst hp; exact own_liftX (fun T locs X eT t q => X.ldcInt C.1 C.2.2.2.2.1 (mvT C.2.1 w) (g := mkF m pc Ls st) rfl (hb C.2.2.1 hd) t q) W
theorem own_ldcw (C : Cx p s m meth c Z cd ml ret own nm) {i : Nat} {v : Int32} (hd : decode cd pc = .ok (.ldc_w i, 3)) (w : (Jvm.Cond.constant own i v).before a0 Z = true) (hp : pc + 3 = pc') (W : Wp p l e R s m args below meth c n0 Q h k n (mkF m pc' Ls (.int v :: st))) : Wp p l e R s m args below meth c n0 Q h k n (mkF m pc Ls st) := by
  subst hp; exact own_liftX (fun T locs X eT t q => X.ldcwInt C.1 C.2.2.2.2.1 (mvT C.2.1 w) (g := mkF m pc Ls st) rfl (hb C.2.2.1 hd) t q) W
theorem own_ldc2 (C : Cx p s m meth c Z cd ml ret own nm) {i : Nat} {v : Int64} (hd : decode cd pc = .ok (.ldc2_w i, 3)) (w : (Jvm.Cond.constantLong own i v).before a0 Z = true) (hp : pc + 3 = pc') (W : Wp p l e R s m args below meth c n0 Q h k n (mkF m pc' Ls (.long v :: st))) : Wp p l e R s m args below meth c n0 Q h k n (mkF m pc Ls st) := by
  subst hp; exact own_liftX (fun T locs X eT t q => X.ldc2Long C.1 C.2.2.2.2.1 (mvT C.2.1 w) (g := mkF m pc Ls st) rfl (hb C.2.2.1 hd) t q) W
/-! objects -/
theorem own_getfield (C : Cx p s m meth c Z cd ml ret own nm) {i : Nat} {O f d : String} {a : Addr} {v : Value} (hd : decode cd pc = .ok (.getfield i, 3)) (w : (Jvm.Cond.fieldLink own i O f d).before a0 Z = true) (F : Fld Z h a O f d v) (hp : pc + 3 = pc') (W : Wp p l e R s m args below meth c n0 Q h k n (mkF m pc' Ls (v :: st))) : Wp p l e R s m args below meth c n0 Q h k n (mkF m pc Ls (.ref a :: st)) := fun T locs X eT N => by
  subst hp
  obtain ⟨T', X', e', st'⟩ := getF X C.1 C.2.1 C.2.2.2.2.1 (host := "") (Or.inl w) Via.refl eT F (g := mkF m pc Ls (.ref a :: st)) rfl rfl (hb C.2.2.1 hd)
  obtain ⟨s₂, o, q, r⟩ := W T' locs X' e' N
  exact ⟨s₂, o, st' _ q, r⟩
theorem own_getstatic (C : Cx p s m meth c Z cd ml ret own nm) {i : Nat} {O f d : String} {v : Value} (hd : decode cd pc = .ok (.getstatic i, 3)) (w : (Jvm.Cond.fieldLink own i O f d).before a0 Z = true) (F : Sta Z h O f d v) (hp : pc + 3 = pc') (W : Wp p l e R s m args below meth c n0 Q h k n (mkF m pc' Ls (v :: st))) : Wp p l e R s m args below meth c n0 Q h k n (mkF m pc Ls st) := fun T locs X eT N => by
  subst hp
  obtain ⟨T', X', e', st'⟩ := getS2 X C.1 C.2.1 C.2.2.2.2.1 (host := "") (Or.inl w) Via.refl eT F (g := mkF m pc Ls st) rfl (hb C.2.2.1 hd)
  obtain ⟨s₂, o, q, r⟩ := W T' locs X' e' N
  exact ⟨s₂, o, st' _ q, r⟩
theorem own_putfield (C : Cx p s m meth c Z cd ml ret own nm) {i kk : Nat} {O f d K : String} {ty : FieldType} {a : Addr} {v old : Value} (hd : decode cd pc = .ok (.putfield i, 3)) (w : (Jvm.Cond.fieldLink own i O f d).before a0 Z = true) (F : Fld Z h a O f d old) (E : Exa Z h a K) (L : (Jvm.Cond.lays K O f d).before a0 Z = true ∨ ((Jvm.Cond.laysFinal K O f d).before a0 Z = true ∧ own = O ∧ nm = "<init>")) (wi : (Jvm.Cond.instantiable K kk).before a0 Z = true)
    (hty : parseFieldDescriptor d = some ty) (hn : narrow ty v = v) (hf : fits ty v = true) (ha : n0 ≤ a) (hp : pc + 3 = pc') (W : ∀ h', Wr h h' a (RoadKit.slotOf Z O f d) v → Fld Z h' a O f d v → Wp p l e R s m args below meth c n0 Q h' k n (mkF m pc' Ls st)) : Wp p l e R s m args below meth c n0 Q h k n (mkF m pc Ls (v :: .ref a :: st)) := fun T locs X eT N => by
  subst hp
  obtain ⟨T', h', X', e', Wr', st'⟩ := putF X C.1 C.2.1 C.2.2.2.2.1 (host := "") (Or.inl w) Via.refl eT F E (L.imp id fun q => ⟨q.1, q.2.1, C.2.2.2.2.2.2.2.trans q.2.2⟩) wi hty hn hf (g := mkF m pc Ls (v :: .ref a :: st)) rfl rfl (hb C.2.2.1 hd)
  obtain ⟨s₂, o, q, r⟩ := W h' Wr' (F.same Wr') T' _ X' e' (Fr.snoc X' N ha)
  exact ⟨s₂, o, st' _ q, r⟩
theorem own_new (C : Cx p s m meth c Z cd ml ret own nm) {i nn : Nat} {K : String} (hd : decode cd pc = .ok (.new i, 3)) (w : (Jvm.Cond.classLink own i K).before a0 Z = true) (wi : (Jvm.Cond.instantiable K nn).before a0 Z = true) (wz : (Jvm.Cond.initialized K).before a0 Z = true) (hc : k + 1 ≤ R.cells) (hl : n + nn ≤ R.slots) (hp : pc + 3 = pc')
    (W : ∀ h' a, a = h.size → Ext h h' → Exa Z h' a K → (∀ {O f d : String} {ty : FieldType}, Laid Z a0 K O f d → parseFieldDescriptor d = some ty → Fld Z h' a O f d (defaultValue ty)) → Wp p l e R s m args below meth c n0 Q h' (k + 1) (n + nn) (mkF m pc' Ls (.ref a :: st))) : Wp p l e R s m args below meth c n0 Q h k n (mkF m pc Ls st) := fun T locs X eT N => by
  subst hp
  obtain ⟨T', h', X', e', E', A', D', -, st'⟩ := newO X C.1 C.2.1 C.2.2.2.2.1 w wi wz eT (g := mkF m pc Ls st) rfl (hb C.2.2.1 hd) hc hl
  obtain ⟨s₂, o, q, r⟩ := W h' h.size rfl E' A' D' T' _ X' e' N
  exact ⟨s₂, o, st' _ q, r⟩
/-- java.lang.Object's own constructor -/
theorem own_initO (C : Cx p s m meth c Z cd ml ret own nm) {i : Nat} {wL : Nat} (hd : decode cd pc = .ok (.invokespecial i, 3)) (w1 : (Jvm.Cond.methodLink own i Lib.objectInit).before a0 Z = true) (w2 : (Jvm.Cond.instanceMethod Lib.objectInit).before a0 Z = true) (w3 : (Jvm.Cond.code Lib.objectInit ⟨#[0xb1]⟩ 1 none).before a0 Z = true)
    {a : Addr} (hsz : Ls.size = ml) (hf : 1 ≤ R.frames) (hW : 0 + (st.map fun v => v.category).sum ≤ wL) (hl : wL + 12 ≤ R.locals) (hp : pc + 3 = pc') (W : Wp p l e R s m args below meth c n0 Q h k n (mkF m pc' Ls st)) : Wp p l e R s m args below meth c n0 Q h k n (mkF m pc Ls (.ref a :: st)) := fun T locs X eT N => by
  subst hp
  obtain ⟨T', X', e', st'⟩ := initO X C.1 C.2.1 C.2.2.2.2.1 w1 w2 w3 eT (g := mkF m pc Ls (.ref a :: st)) rfl (by rw [C.2.2.2.1]; exact hsz) rfl (hb C.2.2.1 hd) hf (W := wL) hW hl
  obtain ⟨s₂, o, q, r⟩ := W T' locs X' e' N
  exact ⟨s₂, o, st' _ q, r⟩
/-! arrays: of ints (of any narrow kind), of longs -/
def AI (Z : State) (h : Heap) (a : Addr) (ty : FieldType) (xs : List Int32) : Prop := ∃ cl : Cell, Arr Z h a cl ty ∧ cl.slots = (xs.map Value.int).toArray ∧ xs.length < 2 ^ 31
def AJ (Z : State) (h : Heap) (a : Addr) (xs : List Int64) : Prop := ∃ cl : Cell, Arr Z h a cl .long ∧ cl.slots = (xs.map Value.long).toArray ∧ xs.length < 2 ^ 31
theorem AI.lt {a : Addr} {ty : FieldType} {xs : List Int32} (A : AI Z h a ty xs) : a < h.size := by obtain ⟨cl, A, -⟩ := A; exact A.lt
theorem AJ.lt {a : Addr} {xs : List Int64} (A : AJ Z h a xs) : a < h.size := by obtain ⟨cl, A, -⟩ := A; exact A.lt
theorem AI.ext {h' : Heap} {a : Addr} {ty : FieldType} {xs : List Int32} (A : AI Z h a ty xs) (E : Ext h h') : AI Z h' a ty xs := by obtain ⟨cl, A, r⟩ := A; exact ⟨cl, A.ext E, r⟩
theorem AJ.ext {h' : Heap} {a : Addr} {xs : List Int64} (A : AJ Z h a xs) (E : Ext h h') : AJ Z h' a xs := by obtain ⟨cl, A, r⟩ := A; exact ⟨cl, A.ext E, r⟩
theorem AI.other {h' : Heap} {a b : Addr} {sl : Nat} {v : Value} {ty : FieldType} {xs : List Int32} (A : AI Z h a ty xs) (W : Wr h h' b sl v) (q : a ≠ b) : AI Z h' a ty xs := by obtain ⟨cl, A, r⟩ := A; exact ⟨cl, A.other W q, r⟩
theorem AJ.other {h' : Heap} {a b : Addr} {sl : Nat} {v : Value} {xs : List Int64} (A : AJ Z h a xs) (W : Wr h h' b sl v) (q : a ≠ b) : AJ Z h' a xs := by obtain ⟨cl, A, r⟩ := A; exact ⟨cl, A.other W q, r⟩
theorem AI.keep {h' : Heap} {a : Addr} {ws : List Addr} {ty : FieldType} {xs : List Int32} (A : AI Z h a ty xs) (K : Keep h h' ws) (q : a ∉ ws) : AI Z h' a ty xs := by obtain ⟨cl, A, r⟩ := A; exact ⟨cl, ⟨K.2.1 a cl A.1 q, A.2⟩, r⟩
theorem AJ.keep {h' : Heap} {a : Addr} {ws : List Addr} {xs : List Int64} (A : AJ Z h a xs) (K : Keep h h' ws) (q : a ∉ ws) : AJ Z h' a xs := by obtain ⟨cl, A, r⟩ := A; exact ⟨cl, ⟨K.2.1 a cl A.1 q, A.2⟩, r⟩
theorem AI.same {h' : Heap} {a : Addr} {i : Nat} {x : Int32} {ty : FieldType} {xs : List Int32} (A : AI Z h a ty xs) (W : Wr h h' a i (.int x)) : AI Z h' a ty (xs.set i x) := by
  obtain ⟨cl, A, r1, r2⟩ := A
  exact ⟨_, A.same W, by simp [Cell.setSlot, r1, List.map_set], by simpa using r2⟩
theorem AJ.same {h' : Heap} {a : Addr} {i : Nat} {x : Int64} {xs : List Int64} (A : AJ Z h a xs) (W : Wr h h' a i (.long x)) : AJ Z h' a (xs.set i x) := by
  obtain ⟨cl, A, r1, r2⟩ := A
  exact ⟨_, A.same W, by simp [Cell.setSlot, r1, List.map_set], by simpa using r2⟩
theorem own_iaload (C : Cx p s m meth c Z cd ml ret own nm) {a : Addr} {j v : Int32} {i : Nat} {xs : List Int32} (hd : decode cd pc = .ok (.iaload, 1)) (A : AI Z h a .int xs) (hj : ¬ j < 0) (hi : j.toNatClampNeg = i) (hv : xs[i]? = some v) (hp : pc + 1 = pc') (W : Wp p l e R s m args below meth c n0 Q h k n (mkF m pc' Ls (.int v :: st))) : Wp p l e R s m args below meth c n0 Q h k n (mkF m pc Ls (.int j :: .ref a :: st)) := by
  subst hp hi
  obtain ⟨cl, A, r1, r2⟩ := A
  have hlt := (List.getElem?_eq_some_iff.mp hv).1
  exact own_liftX (fun T locs X eT t q => X.iaload C.1 (j := j) (v := .int v) (by rw [eT]; exact A.1) (State.isArrayOf_alike C.2.1.alike A.2.1) A.2.2 (fun z => z.elim hj fun y => by rw [r1] at y; simp at y; omega) (by rw [r1]; simp [hv]) (g := mkF m pc Ls (.int j :: .ref a :: st)) rfl rfl (hb C.2.2.1 hd) t q) W
theorem own_baload (C : Cx p s m meth c Z cd ml ret own nm) {a : Addr} {j v : Int32} {i : Nat} {xs : List Int32} (hd : decode cd pc = .ok (.baload, 1)) (A : AI Z h a .byte xs) (hj : ¬ j < 0) (hi : j.toNatClampNeg = i) (hv : xs[i]? = some v) (hp : pc + 1 = pc') (W : Wp p l e R s m args below meth c n0 Q h k n (mkF m pc' Ls (.int v :: st))) : Wp p l e R s m args below meth c n0 Q h k n (mkF m pc Ls (.int j :: .ref a :: st)) := by
  subst hp hi
  obtain ⟨cl, A, r1, r2⟩ := A
  have hlt := (List.getElem?_eq_some_iff.mp hv).1
  exact own_liftX (fun T locs X eT t q => X.baloadBytes C.1 (j := j) (v := .int v) (by rw [eT]; exact A.1) (State.isArrayOf_alike C.2.1.alike A.2.1) A.2.2 (fun z => z.elim hj fun y => by rw [r1] at y; simp at y; omega) (by rw [r1]; simp [hv]) (g := mkF m pc Ls (.int j :: .ref a :: st)) rfl rfl (hb C.2.2.1 hd) t q) W
theorem own_laload (C : Cx p s m meth c Z cd ml ret own nm) {a : Addr} {j : Int32} {v : Int64} {i : Nat} {xs : List Int64} (hd : decode cd pc = .ok (.laload, 1)) (A : AJ Z h a xs) (hj : ¬ j < 0) (hi : j.toNatClampNeg = i) (hv : xs[i]? = some v) (hp : pc + 1 = pc') (W : Wp p l e R s m args below meth c n0 Q h k n (mkF m pc' Ls (.long v :: st))) : Wp p l e R s m args below meth c n0 Q h k n (mkF m pc Ls (.int j :: .ref a :: st)) := by
  subst hp hi
  obtain ⟨cl, A, r1, r2⟩ := A
  have hlt := (List.getElem?_eq_some_iff.mp hv).1
  exact own_liftX (fun T locs X eT t q => X.laload C.1 (j := j) (v := .long v) (by rw [eT]; exact A.1) (State.isArrayOf_alike C.2.1.alike A.2.1) A.2.2 (fun z => z.elim hj fun y => by rw [r1] at y; simp at y; omega) (by rw [r1]; simp [hv]) (g := mkF m pc Ls (.int j :: .ref a :: st)) rfl rfl (hb C.2.2.1 hd) t q) W
theorem own_lenI (C : Cx p s m meth c Z cd ml ret own nm) {a : Addr} {v : Int32} {ty : FieldType} {xs : List Int32} (hd : decode cd pc = .ok (.arraylength, 1)) (A : AI Z h a ty xs) (hv : xs.length.toInt32 = v) (hp : pc + 1 = pc') (W : Wp p l e R s m args below meth c n0 Q h k n (mkF m pc' Ls (.int v :: st))) : Wp p l e R s m args below meth c n0 Q h k n (mkF m pc Ls (.ref a :: st)) := by
  subst hp hv
  obtain ⟨cl, A, r1, r2⟩ := A
  have e1 : cl.slots.size = xs.length := by rw [r1]; simp
  exact own_liftX (fun T locs X eT t q => X.arraylength C.1 (by rw [eT]; exact A.1) (State.isArrayOf_alike C.2.1.alike A.2.1) (g := mkF m pc Ls (.ref a :: st)) rfl rfl (hb C.2.2.1 hd) t (by rw [e1]; exact q)) W
theorem own_lenJ (C : Cx p s m meth c Z cd ml ret own nm) {a : Addr} {v : Int32} {xs : List Int64} (hd : decode cd pc = .ok (.arraylength, 1)) (A : AJ Z h a xs) (hv : xs.length.toInt32 = v) (hp : pc + 1 = pc') (W : Wp p l e R s m args below meth c n0 Q h k n (mkF m pc' Ls (.int v :: st))) : Wp p l e R s m args below meth c n0 Q h k n (mkF m pc Ls (.ref a :: st)) := by
  subst hp hv
  obtain ⟨cl, A, r1, r2⟩ := A
  have e1 : cl.slots.size = xs.length := by rw [r1]; simp
  exact own_liftX (fun T locs X eT t q => X.arraylength C.1 (by rw [eT]; exact A.1) (State.isArrayOf_alike C.2.1.alike A.2.1) (g := mkF m pc Ls (.ref a :: st)) rfl rfl (hb C.2.2.1 hd) t (by rw [e1]; exact q)) W
theorem own_iastore (C : Cx p s m meth c Z cd ml ret own nm) {a : Addr} {j x : Int32} {i : Nat} {xs ys : List Int32} (hd : decode cd pc = .ok (.iastore, 1)) (A : AI Z h a .int xs) (hj : ¬ j < 0) (hi : j.toNatClampNeg = i) (hlt : i < xs.length) (hys : xs.set i x = ys) (ha : n0 ≤ a) (hp : pc + 1 = pc') (W : ∀ h', Wr h h' a i (.int x) → AI Z h' a .int ys → Wp p l e R s m args below meth c n0 Q h' k n (mkF m pc' Ls st)) : Wp p l e R s m args below meth c n0 Q h k n (mkF m pc Ls (.int x :: .int j :: .ref a :: st)) := fun T locs X eT N => by
  subst hp hi hys
  have A' := A
  obtain ⟨cl, A, r1, r2⟩ := A
  obtain ⟨T', h', X', e', Wr', st'⟩ := stI X C.1 C.2.1 eT A (j := j) (x := x) (fun z => z.elim hj fun y => by rw [r1] at y; simp at y; omega) (g := mkF m pc Ls (.int x :: .int j :: .ref a :: st)) rfl rfl (hb C.2.2.1 hd)
  obtain ⟨s₂, o, q, r⟩ := W h' Wr' (A'.same Wr') T' _ X' e' (Fr.snoc X' N ha)
  exact ⟨s₂, o, st' _ q, r⟩
theorem own_lastore (C : Cx p s m meth c Z cd ml ret own nm) {a : Addr} {j : Int32} {x : Int64} {i : Nat} {xs ys : List Int64} (hd : decode cd pc = .ok (.lastore, 1)) (A : AJ Z h a xs) (hj : ¬ j < 0) (hi : j.toNatClampNeg = i) (hlt : i < xs.length) (hys : xs.set i x = ys) (ha : n0 ≤ a) (hp : pc + 1 = pc') (W : ∀ h', Wr h h' a i (.long x) → AJ Z h' a ys → Wp p l e R s m args below meth c n0 Q h' k n (mkF m pc' Ls st)) : Wp p l e R s m args below meth c n0 Q h k n (mkF m pc Ls (.long x :: .int j :: .ref a :: st)) := fun T locs X eT N => by
  subst hp hi hys
  have A' := A
  obtain ⟨cl, A, r1, r2⟩ := A
  obtain ⟨T', h', X', e', Wr', st'⟩ := stJ X C.1 C.2.1 eT A (j := j) (x := x) (fun z => z.elim hj fun y => by rw [r1] at y; simp at y; omega) (g := mkF m pc Ls (.long x :: .int j :: .ref a :: st)) rfl rfl (hb C.2.2.1 hd)
  obtain ⟨s₂, o, q, r⟩ := W h' Wr' (A'.same Wr') T' _ X' e' (Fr.snoc X' N ha)
  exact ⟨s₂, o, st' _ q, r⟩
theorem own_bastore (C : Cx p s m meth c Z cd ml ret own nm) {a : Addr} {j x : Int32} {i : Nat} {xs ys : List Int32} (hd : decode cd pc = .ok (.bastore, 1)) (A : AI Z h a .byte xs) (hj : ¬ j < 0) (hi : j.toNatClampNeg = i) (hlt : i < xs.length) (hys : xs.set i (nar .byte x) = ys) (ha : n0 ≤ a) (hp : pc + 1 = pc') (W : ∀ h', Wr h h' a i (.int (nar .byte x)) → AI Z h' a .byte ys → Wp p l e R s m args below meth c n0 Q h' k n (mkF m pc' Ls st)) : Wp p l e R s m args below meth c n0 Q h k n (mkF m pc Ls (.int x :: .int j :: .ref a :: st)) := fun T locs X eT N => by
  subst hp hi hys
  have A' := A
  obtain ⟨cl, A, r1, r2⟩ := A
  obtain ⟨T', h', X', e', Wr', st'⟩ := stB X C.1 C.2.1 eT A (j := j) (x := x) (fun z => z.elim hj fun y => by rw [r1] at y; simp at y; omega) (g := mkF m pc Ls (.int x :: .int j :: .ref a :: st)) rfl rfl (hb C.2.2.1 hd)
  obtain ⟨s₂, o, q, r⟩ := W h' Wr' (A'.same Wr') T' _ X' e' (Fr.snoc X' N ha)
  exact ⟨s₂, o, st' _ q, r⟩
theorem own_newI (C : Cx p s m meth c Z cd ml ret own nm) {aty : ArrayType} {ty : FieldType} {z : Int32} {len cap : Nat} (hd : decode cd pc = .ok (.newarray aty, 2)) (hty : newarray.typeOf aty = ty) (hdv : defaultValue ty = .int 0) (w : (Jvm.Cond.arrayClass ty).before a0 Z = true) (hz : ¬ z < 0) (hlen : z.toNatClampNeg = len) (hcap : len ≤ cap) (hb8 : cap * 8 ≤ 536870912) (hc : k + 1 ≤ R.cells) (hl : n + cap ≤ R.slots) (hp : pc + 2 = pc')
    (W : ∀ h' a, a = h.size → Ext h h' → AI Z h' a ty (List.replicate len 0) → Wp p l e R s m args below meth c n0 Q h' (k + 1) (n + cap) (mkF m pc' Ls (.ref a :: st))) : Wp p l e R s m args below meth c n0 Q h k n (mkF m pc Ls (.int z :: st)) := fun T locs X eT N => by
  subst hp hlen hty
  obtain ⟨T', h', cA, X', e', E', A', st'⟩ := newP X C.1 C.2.1 w eT (g := mkF m pc Ls (.int z :: st)) rfl (hb C.2.2.1 hd) rfl hz hcap hb8 hc hl
  obtain ⟨s₂, o, q, r⟩ := W h' h.size rfl E' ⟨_, A', by simp [newA, hdv], by simp; exact (back32 hz).2⟩ T' _ X' e' N
  exact ⟨s₂, o, st' _ q, r⟩
theorem own_newJ (C : Cx p s m meth c Z cd ml ret own nm) {z : Int32} {len cap : Nat} (hd : decode cd pc = .ok (.newarray .long, 2)) (w : (Jvm.Cond.arrayClass .long).before a0 Z = true) (hz : ¬ z < 0) (hlen : z.toNatClampNeg = len) (hcap : len ≤ cap) (hb8 : cap * 8 ≤ 536870912) (hc : k + 1 ≤ R.cells) (hl : n + cap ≤ R.slots) (hp : pc + 2 = pc')
    (W : ∀ h' a, a = h.size → Ext h h' → AJ Z h' a (List.replicate len 0) → Wp p l e R s m args below meth c n0 Q h' (k + 1) (n + cap) (mkF m pc' Ls (.ref a :: st))) : Wp p l e R s m args below meth c n0 Q h k n (mkF m pc Ls (.int z :: st)) := fun T locs X eT N => by
  subst hp hlen
  obtain ⟨T', h', cA, X', e', E', A', st'⟩ := newP X C.1 C.2.1 (aty := .long) w eT (g := mkF m pc Ls (.int z :: st)) rfl (hb C.2.2.1 hd) rfl hz hcap hb8 hc hl
  obtain ⟨s₂, o, q, r⟩ := W h' h.size rfl E' ⟨_, A', by simp [newA, newarray.typeOf, defaultValue], by simp; exact (back32 hz).2⟩ T' _ X' e' N
  exact ⟨s₂, o, st' _ q, r⟩
/-! calls -/
theorem own_callS (C : Cx p s m meth c Z cd ml ret own nm) {i : Nat} {y : MethodName} {bytes : ByteArray} {mL wL : Nat} {rt : Option FieldType} {rm : Room} {as : Array Value} {Qc : Option Value → Heap → Prop} {argsL rest : List Value}
    (M : Met l y bytes mL rt [] rm Z n0 as h Qc)
    (hd : decode cd pc = .ok (.invokestatic i, 3)) (w1 : (Jvm.Cond.methodLink own i y).before a0 Z = true) (w2 : (Jvm.Cond.static y).before a0 Z = true) (w3 : (Jvm.Cond.initialized y.cls).before a0 Z = true) (w4 : (Jvm.Cond.code y bytes mL rt).before a0 Z = true)
    (hy : y.cls ≠ "java/lang/invoke/MethodHandle" ∧ y.cls ≠ "java/lang/invoke/VarHandle") (hfr : rm.frames + 1 ≤ R.frames) (hlo : wL + (mL + 11) + rm.locals ≤ R.locals) (hsz : Ls.size = ml) (hlen : ∀ sig, parseMethodDescriptor y.desc = some sig → argsL.length = sig.parameters.length)
    (hst : st = argsL.reverse ++ rest) (has : argsL.toArray = as) (hW : 0 + (rest.map fun v => v.category).sum ≤ wL) (hc : k + rm.cells ≤ R.cells) (hs : n + rm.slots ≤ R.slots) (hp : pc + 3 = pc')
    (W : ∀ v h', Qc v h' → Wp p l e R s m args below meth c n0 Q h' (k + rm.cells) (n + rm.slots) (mkF m pc' Ls (v.toList ++ rest))) : Wp p l e R s m args below meth c n0 Q h k n (mkF m pc Ls st) := fun T locs X eT N => by
  subst hp has
  obtain ⟨_, _, ⟨T', L', k', n'⟩, -, X', ⟨Lc, hQ, l1, y1, z1⟩, st'⟩ := Jvm.LawKit.callS X C.1 (y := y) C.2.2.2.2.1 (mvT C.2.1 w1) (mvT C.2.1 w2) (mvT C.2.1 w3) (mvT C.2.1 w4) hy (backOf (W := wL) (Q := fun v h L => Qc v h ∧ Fr n0 L) M C.2.1 w4 w3 hfr hlo) (g := mkF m pc Ls st) rfl (by rw [C.2.2.2.1]; exact hsz) (argsL := argsL) (rest := rest) hlen hst hW (hb C.2.2.1 hd) (fun _ _ => ⟨rfl, eT, hc, hs⟩)
  dsimp only [Pt.U, Pt.locs, Pt.cells, Pt.slots] at X' l1 y1 z1 st' hQ
  subst l1 y1 z1
  obtain ⟨s₂, o, q, r⟩ := W _ _ hQ.1 T' _ X' rfl (Fr.app N hQ.2)
  exact ⟨s₂, o, st' _ q, r⟩
theorem own_callI (C : Cx p s m meth c Z cd ml ret own nm) {i : Nat} {K : String} {dsc : String} {bytes : ByteArray} {mL wL : Nat} {rm : Room} {as : Array Value} {Qc : Option Value → Heap → Prop} {argsL rest : List Value} {a : Addr}
    (M : Met l ⟨K, "<init>", dsc⟩ bytes mL none [] rm Z n0 as h Qc)
    (hd : decode cd pc = .ok (.invokespecial i, 3)) (w1 : (Jvm.Cond.methodLink own i ⟨K, "<init>", dsc⟩).before a0 Z = true) (w2 : (Jvm.Cond.instanceMethod ⟨K, "<init>", dsc⟩).before a0 Z = true) (w3 : (Jvm.Cond.initialized K).before a0 Z = true) (w4 : (Jvm.Cond.code ⟨K, "<init>", dsc⟩ bytes mL none).before a0 Z = true)
    (hy : K ≠ "java/lang/invoke/MethodHandle" ∧ K ≠ "java/lang/invoke/VarHandle") (hfr : rm.frames + 1 ≤ R.frames) (hlo : wL + (mL + 11) + rm.locals ≤ R.locals) (hsz : Ls.size = ml) (hlen : ∀ sig, parseMethodDescriptor dsc = some sig → argsL.length = sig.parameters.length)
    (hst : st = argsL.reverse ++ .ref a :: rest) (has : (Value.ref a :: argsL).toArray = as) (hW : 0 + (rest.map fun v => v.category).sum ≤ wL) (hc : k + rm.cells ≤ R.cells) (hs : n + rm.slots ≤ R.slots) (hp : pc + 3 = pc')
    (W : ∀ v h', Qc v h' → Wp p l e R s m args below meth c n0 Q h' (k + rm.cells) (n + rm.slots) (mkF m pc' Ls (v.toList ++ rest))) : Wp p l e R s m args below meth c n0 Q h k n (mkF m pc Ls st) := fun T locs X eT N => by
  subst hp has
  obtain ⟨_, _, ⟨T', L', k', n'⟩, -, X', ⟨Lc, hQ, l1, y1, z1⟩, st'⟩ := X.specialBack C.1 (y := ⟨K, "<init>", dsc⟩) rfl C.2.2.2.2.1 (mvT C.2.1 w1) (mvT C.2.1 w2) (mvT C.2.1 w4) hy (backOf (W := wL) (Q := fun v h L => Qc v h ∧ Fr n0 L) M C.2.1 w4 w3 hfr hlo) (g := mkF m pc Ls st) rfl (by rw [C.2.2.2.1]; exact hsz) (Steps.refl _) (a := a) (argsL := argsL) (rest := rest) hlen hst hW (hb C.2.2.1 hd) (fun _ _ => ⟨rfl, eT, hc, hs⟩)
  dsimp only [Pt.U, Pt.locs, Pt.cells, Pt.slots] at X' l1 y1 z1 st' hQ
  subst l1 y1 z1
  obtain ⟨s₂, o, q, r⟩ := W _ _ hQ.1 T' _ X' rfl (Fr.app N hQ.2)
  exact ⟨s₂, o, st'.trans q, r⟩
theorem own_callV (C : Cx p s m meth c Z cd ml ret own nm) {i : Nat} {y : MethodName} {bytes : ByteArray} {mL wL : Nat} {rt : Option FieldType} {rm : Room} {as : Array Value} {Qc : Option Value → Heap → Prop} {argsL rest : List Value} {a : Addr}
    (M : Met l y bytes mL rt [] rm Z n0 as h Qc) (E : Exa Z h a y.cls)
    (hd : decode cd pc = .ok (.invokevirtual i, 3)) (w1 : (Jvm.Cond.methodLink own i y).before a0 Z = true) (w2 : (Jvm.Cond.declares y).before a0 Z = true) (w5 : (Jvm.Cond.selects y.cls y y).before a0 Z = true) (w6 : (Jvm.Cond.instanceMethod y).before a0 Z = true) (w3 : (Jvm.Cond.initialized y.cls).before a0 Z = true) (w4 : (Jvm.Cond.code y bytes mL rt).before a0 Z = true)
    (hy : y.cls ≠ "java/lang/invoke/MethodHandle" ∧ y.cls ≠ "java/lang/invoke/VarHandle") (hfr : rm.frames + 1 ≤ R.frames) (hlo : wL + (mL + 11) + rm.locals ≤ R.locals) (hsz : Ls.size = ml) (hlen : ∀ sig, parseMethodDescriptor y.desc = some sig → argsL.length = sig.parameters.length)
    (hst : st = argsL.reverse ++ .ref a :: rest) (has : (Value.ref a :: argsL).toArray = as) (hW : 0 + (rest.map fun v => v.category).sum ≤ wL) (hc : k + rm.cells ≤ R.cells) (hs : n + rm.slots ≤ R.slots) (hp : pc + 3 = pc')
    (W : ∀ v h', Qc v h' → Wp p l e R s m args below meth c n0 Q h' (k + rm.cells) (n + rm.slots) (mkF m pc' Ls (v.toList ++ rest))) : Wp p l e R s m args below meth c n0 Q h k n (mkF m pc Ls st) := fun T locs X eT N => by
  subst hp has
  obtain ⟨cq, kq, qa, qb, qc⟩ := isOf C.2.1 eT E
  obtain ⟨_, _, ⟨T', L', k', n'⟩, -, X', ⟨Lc, hQ, l1, y1, z1⟩, st'⟩ := X.virtualBack C.1 (y := y) (z := y) C.2.2.2.2.1 (mvT C.2.1 w1) (mvT C.2.1 w2) (notFace_of_selects (args := #[]) (mvT C.2.1 w5)) (mvT C.2.1 w5) (mvT C.2.1 w6) hy (backOf (W := wL) (Q := fun v h L => Qc v h ∧ Fr n0 L) M C.2.1 w4 w3 hfr hlo) qa qc (g := mkF m pc Ls st) rfl (by rw [C.2.2.2.1]; exact hsz) (Steps.refl _) (argsL := argsL) (rest := rest) hlen hst hW (hb C.2.2.1 hd) (fun _ _ => ⟨rfl, eT, hc, hs⟩)
  dsimp only [Pt.U, Pt.locs, Pt.cells, Pt.slots] at X' l1 y1 z1 st' hQ
  subst l1 y1 z1
  obtain ⟨s₂, o, q, r⟩ := W _ _ hQ.1 T' _ X' rfl (Fr.app N hQ.2)
  exact ⟨s₂, o, st'.trans q, r⟩
theorem own_callP (C : Cx p s m meth c Z cd ml ret own nm) {i : Nat} {y : MethodName} {bytes : ByteArray} {mL wL : Nat} {rt : Option FieldType} {rm : Room} {as : Array Value} {Qc : Option Value → Heap → Prop} {argsL rest : List Value} {a : Addr}
    (M : Met l y bytes mL rt [] rm Z n0 as h Qc) (E : Exa Z h a y.cls)
    (hd : decode cd pc = .ok (.invokevirtual i, 3)) (w1 : (Jvm.Cond.methodLink own i y).before a0 Z = true) (w2 : (Jvm.Cond.privateMethod y).before a0 Z = true) (w5 : (Jvm.Cond.selects y.cls y y).before a0 Z = true) (w6 : (Jvm.Cond.instanceMethod y).before a0 Z = true) (w3 : (Jvm.Cond.initialized y.cls).before a0 Z = true) (w4 : (Jvm.Cond.code y bytes mL rt).before a0 Z = true)
    (hy : y.cls ≠ "java/lang/invoke/MethodHandle" ∧ y.cls ≠ "java/lang/invoke/VarHandle") (hfr : rm.frames + 1 ≤ R.frames) (hlo : wL + (mL + 11) + rm.locals ≤ R.locals) (hsz : Ls.size = ml) (hlen : ∀ sig, parseMethodDescriptor y.desc = some sig → argsL.length = sig.parameters.length)
    (hst : st = argsL.reverse ++ .ref a :: rest) (has : (Value.ref a :: argsL).toArray = as) (hW : 0 + (rest.map fun v => v.category).sum ≤ wL) (hc : k + rm.cells ≤ R.cells) (hs : n + rm.slots ≤ R.slots) (hp : pc + 3 = pc')
    (W : ∀ v h', Qc v h' → Wp p l e R s m args below meth c n0 Q h' (k + rm.cells) (n + rm.slots) (mkF m pc' Ls (v.toList ++ rest))) : Wp p l e R s m args below meth c n0 Q h k n (mkF m pc Ls st) := fun T locs X eT N => by
  subst hp has
  obtain ⟨cq, q1, q2⟩ := E.cell
  obtain ⟨_, _, ⟨T', L', k', n'⟩, -, X', ⟨Lc, hQ, l1, y1, z1⟩, st'⟩ := X.privateBack C.1 (y := y) C.2.2.2.2.1 (mvT C.2.1 w1) (mvT C.2.1 w6) (mvT C.2.1 w5) (Cond.privateMethod_at (mvP C.2.1 w2 (args := #[]))) (mvT C.2.1 w4) hy (backOf (W := wL) (Q := fun v h L => Qc v h ∧ Fr n0 L) M C.2.1 w4 w3 hfr hlo) (g := mkF m pc Ls st) rfl (by rw [C.2.2.2.1]; exact hsz) (Steps.refl _) (a := a) (by rw [eT]; exact q1) q2 (argsL := argsL) (rest := rest) hlen hst hW (hb C.2.2.1 hd) (fun _ _ => ⟨rfl, eT, hc, hs⟩)
  dsimp only [Pt.U, Pt.locs, Pt.cells, Pt.slots] at X' l1 y1 z1 st' hQ
  subst l1 y1 z1
  obtain ⟨s₂, o, q, r⟩ := W _ _ hQ.1 T' _ X' rfl (Fr.app N hQ.2)
  exact ⟨s₂, o, st'.trans q, r⟩
end OwnKit
def own_f1 (x : Int32) : Int32 := (nar .byte (if (x &&& (3 : Int32)) = 0 then (46 : Int32) else (if (x &&& (3 : Int32)) = (3 : Int32) then ((x.toUInt32 >>> (2 : UInt32)).toInt32.toInt8.toInt32) else (((48 : Int32) + ((x.toUInt32 >>> (2 : UInt32)).toInt32 % (10 : Int32))).toInt8.toInt32))))
theorem d1_0 : decode method_3_code 0 = .ok (.iload_n 0, 1) := by decide +kernel
theorem d1_1 : decode method_3_code 1 = .ok (.iconst 3, 1) := by decide +kernel
theorem d1_2 : decode method_3_code 2 = .ok (.iand, 1) := by decide +kernel
theorem d1_3 : decode method_3_code 3 = .ok (.istore_n 1, 1) := by decide +kernel
theorem d1_4 : decode method_3_code 4 = .ok (.iload_n 1, 1) := by decide +kernel
theorem d1_5 : decode method_3_code 5 = .ok (.ifCond .ne 6, 3) := by decide +kernel
theorem d1_8 : decode method_3_code 8 = .ok (.bipush 46, 2) := by decide +kernel
theorem d1_10 : decode method_3_code 10 = .ok (.ireturn, 1) := by decide +kernel
theorem d1_11 : decode method_3_code 11 = .ok (.iload_n 1, 1) := by decide +kernel
theorem d1_12 : decode method_3_code 12 = .ok (.iconst 3, 1) := by decide +kernel
theorem d1_13 : decode method_3_code 13 = .ok (.if_icmp .ne 8, 3) := by decide +kernel
theorem d1_16 : decode method_3_code 16 = .ok (.iload_n 0, 1) := by decide +kernel
theorem d1_17 : decode method_3_code 17 = .ok (.iconst 2, 1) := by decide +kernel
theorem d1_18 : decode method_3_code 18 = .ok (.iushr, 1) := by decide +kernel
theorem d1_19 : decode method_3_code 19 = .ok (.i2b, 1) := by decide +kernel
theorem d1_20 : decode method_3_code 20 = .ok (.ireturn, 1) := by decide +kernel
theorem d1_21 : decode method_3_code 21 = .ok (.bipush 48, 2) := by decide +kernel
theorem d1_23 : decode method_3_code 23 = .ok (.iload_n 0, 1) := by decide +kernel
theorem d1_24 : decode method_3_code 24 = .ok (.iconst 2, 1) := by decide +kernel
theorem d1_25 : decode method_3_code 25 = .ok (.iushr, 1) := by decide +kernel
theorem d1_26 : decode method_3_code 26 = .ok (.bipush 10, 2) := by decide +kernel
theorem d1_28 : decode method_3_code 28 = .ok (.irem, 1) := by decide +kernel
theorem d1_29 : decode method_3_code 29 = .ok (.iadd, 1) := by decide +kernel
theorem d1_30 : decode method_3_code 30 = .ok (.i2b, 1) := by decide +kernel
theorem d1_31 : decode method_3_code 31 = .ok (.ireturn, 1) := by decide +kernel
theorem pn1 : plainName "com/example/vestwork/vestwork/io/PlainNumbersIsPlainDecimalPinLaw" = true := by first | (simp [plainName, overriddenIn]; done) | decide +kernel
theorem ef1 (m : MethodId) (x0 : Int32) : entryFrame m #[(.int x0)] 2 = mkF m 0 #[.val (.int x0), .unset] [] := by first | (simp [entryFrame, mkF, argsToLocals, Value.category]; done) | rfl
theorem own_ki_3 : Int32.ofInt (3) = (3 : Int32) := by decide
theorem own_kb_46 : (Int8.ofInt (46)).toInt32 = (46 : Int32) := by decide
theorem own_ki_2 : Int32.ofInt (2) = (2 : Int32) := by decide
theorem own_siushr_2 (x : Int32) : (x.toUInt32 >>> ((2 : Int32) &&& 31).toUInt32).toInt32 = (x.toUInt32 >>> (2 : UInt32)).toInt32 := by rw [show ((2 : Int32) &&& 31).toUInt32 = (2 : UInt32) from by decide]
theorem own_kb_48 : (Int8.ofInt (48)).toInt32 = (48 : Int32) := by decide
theorem own_kb_10 : (Int8.ofInt (10)).toInt32 = (10 : Int32) := by decide
set_option maxRecDepth 65536 in
set_option maxHeartbeats 40000000 in
theorem own_m1 (l : Launch) (Z : State) (a0 : Array Value) (hw : ∀ d ∈ tables_1, d.before a0 Z = true) (x : Int32)  (h0 : Heap) (n0 : Nat) (Z_ : n0 ≤ h0.size)  :
    Met l (⟨"com/example/vestwork/vestwork/io/PlainNumbersIsPlainDecimalPinLaw", "pick", "(I)B"⟩ : MethodName) method_3_code 2 (some .byte) [] ({ frames := 0, cells := 0, slots := 0, locals := 0 } : Room) Z n0 #[(.int x)] h0 (fun v h => v = some (.int (own_f1 x)) ∧ h0 = h) := by
  refine own_met pn1 (fun m => ef1 m x) ?_
  intro p e s m below meth c C
  refine own_iloadN (pc' := 1) C d1_0 rfl rfl ?_
  refine own_iconst (pc' := 2) (v := (3 : Int32)) C d1_1 own_ki_3 rfl ?_
  refine own_iand (pc' := 3) C d1_2 rfl rfl ?_
  obtain ⟨v1_3, hv1_3⟩ : ∃ z : Int32, z = (x &&& (3 : Int32)) := ⟨_, rfl⟩
  refine own_istoreN (pc' := 4) (y := v1_3) (Ls' := #[.val (.int x), .val (.int v1_3)]) C d1_3 hv1_3.symm rfl rfl ?_
  refine own_iloadN (pc' := 5) C d1_4 rfl rfl ?_
  refine own_if_ne (pt := 11) (pf := 8) C d1_5 (by decide) (by decide) rfl ?_ ?_
  · intro hc5
    refine own_iloadN (pc' := 12) C d1_11 rfl rfl ?_
    refine own_iconst (pc' := 13) (v := (3 : Int32)) C d1_12 own_ki_3 rfl ?_
    refine own_icmp_ne (pt := 21) (pf := 16) C d1_13 (by decide) (by decide) rfl ?_ ?_
    · intro hc13
      refine own_bipush (pc' := 23) (v := (48 : Int32)) C d1_21 own_kb_48 rfl ?_
      refine own_iloadN (pc' := 24) C d1_23 rfl rfl ?_
      refine own_iconst (pc' := 25) (v := (2 : Int32)) C d1_24 own_ki_2 rfl ?_
      refine own_iushr (pc' := 26) (v := (x.toUInt32 >>> (2 : UInt32)).toInt32) C d1_25 (own_siushr_2 _) rfl ?_
      refine own_bipush (pc' := 28) (v := (10 : Int32)) C d1_26 own_kb_10 rfl ?_
      refine own_irem (pc' := 29) C d1_28 (by decide) rfl rfl ?_
      refine own_iadd (pc' := 30) C d1_29 rfl rfl ?_
      refine own_i2b (pc' := 31) C d1_30 rfl rfl ?_
      refine own_nret C (by simp) d1_31 (by decide) (by decide) ?_
      exact ⟨by simp only [own_f1, ← hv1_3, if_neg hc5, if_neg hc13], rfl⟩
    · intro hc13
      refine own_iloadN (pc' := 17) C d1_16 rfl rfl ?_
      refine own_iconst (pc' := 18) (v := (2 : Int32)) C d1_17 own_ki_2 rfl ?_
      refine own_iushr (pc' := 19) (v := (x.toUInt32 >>> (2 : UInt32)).toInt32) C d1_18 (own_siushr_2 _) rfl ?_
      refine own_i2b (pc' := 20) C d1_19 rfl rfl ?_
      refine own_nret C (by simp) d1_20 (by decide) (by decide) ?_
      exact ⟨by simp only [own_f1, ← hv1_3, if_neg hc5, if_pos hc13], rfl⟩
  · intro hc5
    refine own_bipush (pc' := 10) (v := (46 : Int32)) C d1_8 own_kb_46 rfl ?_
    refine own_nret C (by simp) d1_10 (by decide) (by decide) ?_
    exact ⟨by simp only [own_f1, ← hv1_3, if_pos hc5], rfl⟩

def own_f6 (b : Int32) : Int32 := (if b < (48 : Int32) then (if b = (46 : Int32) then (1 : Int32) else (2 : Int32)) else (if (57 : Int32) < b then (if b = (46 : Int32) then (1 : Int32) else (2 : Int32)) else (0 : Int32)))
theorem d6_0 : decode method_4_code 0 = .ok (.iload_n 0, 1) := by decide +kernel
theorem d6_1 : decode method_4_code 1 = .ok (.bipush 48, 2) := by decide +kernel
theorem d6_3 : decode method_4_code 3 = .ok (.if_icmp .lt 11, 3) := by decide +kernel
theorem d6_6 : decode method_4_code 6 = .ok (.iload_n 0, 1) := by decide +kernel
theorem d6_7 : decode method_4_code 7 = .ok (.bipush 57, 2) := by decide +kernel
theorem d6_9 : decode method_4_code 9 = .ok (.if_icmp .gt 5, 3) := by decide +kernel
theorem d6_12 : decode method_4_code 12 = .ok (.iconst 0, 1) := by decide +kernel
theorem d6_13 : decode method_4_code 13 = .ok (.ireturn, 1) := by decide +kernel
theorem d6_14 : decode method_4_code 14 = .ok (.iload_n 0, 1) := by decide +kernel
theorem d6_15 : decode method_4_code 15 = .ok (.bipush 46, 2) := by decide +kernel
theorem d6_17 : decode method_4_code 17 = .ok (.if_icmp .ne 5, 3) := by decide +kernel
theorem d6_20 : decode method_4_code 20 = .ok (.iconst 1, 1) := by decide +kernel
theorem d6_21 : decode method_4_code 21 = .ok (.ireturn, 1) := by decide +kernel
theorem d6_22 : decode method_4_code 22 = .ok (.iconst 2, 1) := by decide +kernel
theorem d6_23 : decode method_4_code 23 = .ok (.ireturn, 1) := by decide +kernel
theorem pn6 : plainName "com/example/vestwork/vestwork/io/PlainNumbersIsPlainDecimalPinLaw" = true := by first | (simp [plainName, overriddenIn]; done) | decide +kernel
theorem ef6 (m : MethodId) (x0 : Int32) : entryFrame m #[(.int x0)] 1 = mkF m 0 #[.val (.int x0)] [] := by first | (simp [entryFrame, mkF, argsToLocals, Value.category]; done) | rfl
theorem own_ki_1 : Int32.ofInt (1) = (1 : Int32) := by decide
theorem own_kb_57 : (Int8.ofInt (57)).toInt32 = (57 : Int32) := by decide
theorem own_ki_0 : Int32.ofInt (0) = (0 : Int32) := by decide
set_option maxRecDepth 65536 in
set_option maxHeartbeats 40000000 in
theorem own_m6 (l : Launch) (Z : State) (a0 : Array Value) (hw : ∀ d ∈ tables_1, d.before a0 Z = true) (b : Int32)  (h0 : Heap) (n0 : Nat) (Z_ : n0 ≤ h0.size)  :
    Met l (⟨"com/example/vestwork/vestwork/io/PlainNumbersIsPlainDecimalPinLaw", "kind", "(B)I"⟩ : MethodName) method_4_code 1 (some .int) [] ({ frames := 0, cells := 0, slots := 0, locals := 0 } : Room) Z n0 #[(.int b)] h0 (fun v h => v = some (.int (own_f6 b)) ∧ h0 = h) := by
  refine own_met pn6 (fun m => ef6 m b) ?_
  intro p e s m below meth c C
  refine own_iloadN (pc' := 1) C d6_0 rfl rfl ?_
  refine own_bipush (pc' := 3) (v := (48 : Int32)) C d6_1 own_kb_48 rfl ?_
  refine own_icmp_lt (pt := 14) (pf := 6) C d6_3 (by decide) (by decide) rfl ?_ ?_
  · intro hc3
    refine own_iloadN (pc' := 15) C d6_14 rfl rfl ?_
    refine own_bipush (pc' := 17) (v := (46 : Int32)) C d6_15 own_kb_46 rfl ?_
    refine own_icmp_ne (pt := 22) (pf := 20) C d6_17 (by decide) (by decide) rfl ?_ ?_
    · intro hc17
      refine own_iconst (pc' := 23) (v := (2 : Int32)) C d6_22 own_ki_2 rfl ?_
      refine own_iret C d6_23 (by decide) (by decide) ?_
      exact ⟨by simp only [own_f6, if_pos hc3, if_neg hc17], rfl⟩
    · intro hc17
      refine own_iconst (pc' := 21) (v := (1 : Int32)) C d6_20 own_ki_1 rfl ?_
      refine own_iret C d6_21 (by decide) (by decide) ?_
      exact ⟨by simp only [own_f6, if_pos hc3, if_pos hc17], rfl⟩
  · intro hc3
    refine own_iloadN (pc' := 7) C d6_6 rfl rfl ?_
    refine own_bipush (pc' := 9) (v := (57 : Int32)) C d6_7 own_kb_57 rfl ?_
    refine own_icmp_gt (pt := 14) (pf := 12) C d6_9 (by decide) (by decide) rfl ?_ ?_
    · intro hc9
      refine own_iloadN (pc' := 15) C d6_14 rfl rfl ?_
      refine own_bipush (pc' := 17) (v := (46 : Int32)) C d6_15 own_kb_46 rfl ?_
      refine own_icmp_ne (pt := 22) (pf := 20) C d6_17 (by decide) (by decide) rfl ?_ ?_
      · intro hc17
        refine own_iconst (pc' := 23) (v := (2 : Int32)) C d6_22 own_ki_2 rfl ?_
        refine own_iret C d6_23 (by decide) (by decide) ?_
        exact ⟨by simp only [own_f6, if_neg hc3, if_pos hc9, if_neg hc17], rfl⟩
      · intro hc17
        refine own_iconst (pc' := 21) (v := (1 : Int32)) C d6_20 own_ki_1 rfl ?_
        refine own_iret C d6_21 (by decide) (by decide) ?_
        exact ⟨by simp only [own_f6, if_neg hc3, if_pos hc9, if_pos hc17], rfl⟩
    · intro hc9
      refine own_iconst (pc' := 13) (v := (0 : Int32)) C d6_12 own_ki_0 rfl ?_
      refine own_iret C d6_13 (by decide) (by decide) ?_
      exact ⟨by simp only [own_f6, if_neg hc3, if_neg hc9], rfl⟩

def own_bad (x i f t : Int32) : Int32 := if i < f then 0 else if i < t then (if own_f6 x = 2 then 1 else 0) else 0
def own_pt (x i f t : Int32) : Int32 := if i < f then 0 else if i < t then (if own_f6 x = 1 then 1 else 0) else 0
def own_isd (x : Int32) : Bool := if x < 48 then false else if 57 < x then false else true
def own_isp (x : Int32) : Bool := decide (x = 46)
def own_eod (xs : List Int32) : Nat → Int32 → Int32
  | 0, i => i
  | n + 1, i => if own_isd (xs.getD i.toNatClampNeg 0) = true then own_eod xs n (i + 1) else i
def own_ipd (xs : List Int32) (f e : Int32) : Int32 := if f < own_eod xs (e.toInt - f.toInt).toNat f then (if own_eod xs (e.toInt - f.toInt).toNat f = e then 1 else if own_eod xs (e.toInt - f.toInt).toNat f < e then (if xs.getD (own_eod xs (e.toInt - f.toInt).toNat f).toNatClampNeg 0 = 46 then (if own_eod xs (e.toInt - f.toInt).toNat f + 1 < own_eod xs (e.toInt - (own_eod xs (e.toInt - f.toInt).toNat f + 1).toInt).toNat (own_eod xs (e.toInt - f.toInt).toNat f + 1) then (if own_eod xs (e.toInt - (own_eod xs (e.toInt - f.toInt).toNat f + 1).toInt).toNat (own_eod xs (e.toInt - f.toInt).toNat f + 1) = e then 1 else 0) else 0) else 0) else 0) else 0
theorem own_get {xs : List Int32} {i : Nat} (h : i < xs.length) : xs[i]? = some (xs.getD i 0) := by
  rw [List.getD_eq_getElem?_getD, List.getElem?_eq_getElem h]; rfl
theorem own_irr (i : Int32) : ¬ i < i := by rw [Int32.lt_iff_toInt_lt]; omega
theorem own_nlt {a b : Int32} (h : a = b) : ¬ a < b := by subst h; exact own_irr a

theorem d2_0 : decode method_5_code 0 = .ok (.iload_n 2, 1) := by decide +kernel
theorem d2_1 : decode method_5_code 1 = .ok (.iload_n 1, 1) := by decide +kernel
theorem d2_2 : decode method_5_code 2 = .ok (.if_icmp .gt 22, 3) := by decide +kernel
theorem d2_5 : decode method_5_code 5 = .ok (.iload_n 1, 1) := by decide +kernel
theorem d2_6 : decode method_5_code 6 = .ok (.iload_n 3, 1) := by decide +kernel
theorem d2_7 : decode method_5_code 7 = .ok (.if_icmp .ge 17, 3) := by decide +kernel
theorem d2_10 : decode method_5_code 10 = .ok (.aload_n 0, 1) := by decide +kernel
theorem d2_11 : decode method_5_code 11 = .ok (.iload_n 1, 1) := by decide +kernel
theorem d2_12 : decode method_5_code 12 = .ok (.baload, 1) := by decide +kernel
theorem d2_13 : decode method_5_code 13 = .ok (.invokestatic 21, 3) := by decide +kernel
theorem d2_16 : decode method_5_code 16 = .ok (.iconst 2, 1) := by decide +kernel
theorem d2_17 : decode method_5_code 17 = .ok (.if_icmp .ne 7, 3) := by decide +kernel
theorem d2_20 : decode method_5_code 20 = .ok (.iconst 1, 1) := by decide +kernel
theorem d2_21 : decode method_5_code 21 = .ok (.goto 4, 3) := by decide +kernel
theorem d2_24 : decode method_5_code 24 = .ok (.iconst 0, 1) := by decide +kernel
theorem d2_25 : decode method_5_code 25 = .ok (.ireturn, 1) := by decide +kernel
theorem pn2 : plainName "com/example/vestwork/vestwork/io/PlainNumbersIsPlainDecimalPinLaw" = true := by first | (simp [plainName, overriddenIn]; done) | decide +kernel
theorem ef2 (m : MethodId) (x0 : Addr) (x1 : Int32) (x2 : Int32) (x3 : Int32) : entryFrame m #[(.ref x0), (.int x1), (.int x2), (.int x3)] 4 = mkF m 0 #[.val (.ref x0), .val (.int x1), .val (.int x2), .val (.int x3)] [] := by first | (simp [entryFrame, mkF, argsToLocals, Value.category]; done) | rfl
theorem pd6 : parseMethodDescriptor "(B)I" = some ⟨[.byte], some .int⟩ := by decide +kernel
set_option maxRecDepth 65536 in
set_option maxHeartbeats 40000000 in
theorem own_bad0 (l : Launch) (Z : State) (a0 : Array Value) (hw : ∀ d ∈ tables_1, d.before a0 Z = true) (t : Addr) (f : Int32) (u : Int32) (x0_ x1_ x2_ x3_ x4_ : Int32) (h0 : Heap) (n0 : Nat) (Z_ : n0 ≤ h0.size) (A_t : AI Z h0 t .byte [x0_, x1_, x2_, x3_, x4_]) :
    Met l (⟨"com/example/vestwork/vestwork/io/PlainNumbersIsPlainDecimalPinLaw", "bad", "([BIII)I"⟩ : MethodName) method_5_code 4 (some .int) [] ({ frames := 1, cells := 0, slots := 0, locals := 12 } : Room) Z n0 #[(.ref t), (.int (0 : Int32)), (.int f), (.int u)] h0 (fun v h => v = some (.int (own_bad x0_ 0 f u)) ∧ h0 = h) := by
  refine own_met pn2 (fun m => ef2 m t (0 : Int32) f u) ?_
  intro p e s m below meth c C
  refine own_iloadN (pc' := 1) C d2_0 rfl rfl ?_
  refine own_iloadN (pc' := 2) C d2_1 rfl rfl ?_
  obtain ⟨vs_25, hvs_25⟩ : ∃ z : Int32, z = (if (0 : Int32) < f then (0 : Int32) else (if (0 : Int32) < u then (if (own_f6 x0_) = (2 : Int32) then (1 : Int32) else (0 : Int32)) else (0 : Int32))) := ⟨_, rfl⟩
  have hzvs_25 : vs_25 = 0 ∨ vs_25 = 1 := by rw [hvs_25]; repeat (first | exact Or.inl rfl | exact Or.inr rfl | split)
  refine own_seq (g' := mkF m 25 #[.val (.ref t), .val (.int (0 : Int32)), .val (.int f), .val (.int u)] [(.int vs_25)]) (fun J25 => ?_) ?_
  · refine own_icmp_gt (pt := 24) (pf := 5) C d2_2 (by decide) (by decide) rfl ?_ ?_
    · intro hc2
      refine own_iconst (pc' := 25) (v := (0 : Int32)) C d2_24 own_ki_0 rfl ?_
      exact own_cast (by simp only [hvs_25, if_pos hc2]) (J25)
    · intro hc2
      refine own_iloadN (pc' := 6) C d2_5 rfl rfl ?_
      refine own_iloadN (pc' := 7) C d2_6 rfl rfl ?_
      refine own_icmp_ge (pt := 24) (pf := 10) C d2_7 (by decide) (by decide) rfl ?_ ?_
      · intro hc7
        refine own_iconst (pc' := 25) (v := (0 : Int32)) C d2_24 own_ki_0 rfl ?_
        exact own_cast (by simp only [hvs_25, if_neg hc2, if_neg hc7]) (J25)
      · intro hc7
        refine own_aloadN (pc' := 11) C d2_10 rfl rfl rfl ?_
        refine own_iloadN (pc' := 12) C d2_11 rfl rfl ?_
        refine own_baload (pc' := 13) (v := x0_) (i := 0) C d2_12 A_t (by decide) rfl rfl rfl ?_
        refine own_callS (pc' := 16) (wL := 0) (argsL := [(.int x0_)]) (rest := []) C (own_m6 l Z a0 hw x0_ h0 n0 Z_) d2_13 (hw _ (List.mem_of_getElem? (i := 19) rfl)) (hw _ (List.mem_of_getElem? (i := 20) rfl)) (hw _ (List.mem_of_getElem? (i := 3) rfl)) (hw _ (List.mem_of_getElem? (i := 21) rfl)) (by decide) (by decide) (by decide) rfl (lenOf pd6 rfl) rfl rfl (Nat.le_of_eq rfl) (by decide) (by decide) rfl ?_
        rintro _ _ ⟨rfl, rfl⟩
        show Wp p l e _ s m _ below meth c n0 _ h0 0 0 (mkF m 16 #[.val (.ref t), .val (.int (0 : Int32)), .val (.int f), .val (.int u)] [(.int (own_f6 x0_))])
        refine own_iconst (pc' := 17) (v := (2 : Int32)) C d2_16 own_ki_2 rfl ?_
        refine own_icmp_ne (pt := 24) (pf := 20) C d2_17 (by decide) (by decide) rfl ?_ ?_
        · intro hc17
          refine own_iconst (pc' := 25) (v := (0 : Int32)) C d2_24 own_ki_0 rfl ?_
          exact own_cast (by simp only [hvs_25, if_neg hc2, if_pos hc7, if_neg hc17]) (J25)
        · intro hc17
          refine own_iconst (pc' := 21) (v := (1 : Int32)) C d2_20 own_ki_1 rfl ?_
          refine own_goto (pc' := 25) C d2_21 (by decide) (by decide) ?_
          exact own_cast (by simp only [hvs_25, if_neg hc2, if_pos hc7, if_pos hc17]) (J25)
  refine own_iret C d2_25 (by decide) (by decide) ?_
  exact ⟨by rw [own_bad, hvs_25], rfl⟩

set_option maxRecDepth 65536 in
set_option maxHeartbeats 40000000 in
theorem own_bad1 (l : Launch) (Z : State) (a0 : Array Value) (hw : ∀ d ∈ tables_1, d.before a0 Z = true) (t : Addr) (f : Int32) (u : Int32) (x0_ x1_ x2_ x3_ x4_ : Int32) (h0 : Heap) (n0 : Nat) (Z_ : n0 ≤ h0.size) (A_t : AI Z h0 t .byte [x0_, x1_, x2_, x3_, x4_]) :
    Met l (⟨"com/example/vestwork/vestwork/io/PlainNumbersIsPlainDecimalPinLaw", "bad", "([BIII)I"⟩ : MethodName) method_5_code 4 (some .int) [] ({ frames := 1, cells := 0, slots := 0, locals := 12 } : Room) Z n0 #[(.ref t), (.int (1 : Int32)), (.int f), (.int u)] h0 (fun v h => v = some (.int (own_bad x1_ 1 f u)) ∧ h0 = h) := by
  refine own_met pn2 (fun m => ef2 m t (1 : Int32) f u) ?_
  intro p e s m below meth c C
  refine own_iloadN (pc' := 1) C d2_0 rfl rfl ?_
  refine own_iloadN (pc' := 2) C d2_1 rfl rfl ?_
  obtain ⟨vs_25, hvs_25⟩ : ∃ z : Int32, z = (if (1 : Int32) < f then (0 : Int32) else (if (1 : Int32) < u then (if (own_f6 x1_) = (2 : Int32) then (1 : Int32) else (0 : Int32)) else (0 : Int32))) := ⟨_, rfl⟩
  have hzvs_25 : vs_25 = 0 ∨ vs_25 = 1 := by rw [hvs_25]; repeat (first | exact Or.inl rfl | exact Or.inr rfl | split)
  refine own_seq (g' := mkF m 25 #[.val (.ref t), .val (.int (1 : Int32)), .val (.int f), .val (.int u)] [(.int vs_25)]) (fun J25 => ?_) ?_
  · refine own_icmp_gt (pt := 24) (pf := 5) C d2_2 (by decide) (by decide) rfl ?_ ?_
    · intro hc2
      refine own_iconst (pc' := 25) (v := (0 : Int32)) C d2_24 own_ki_0 rfl ?_
      exact own_cast (by simp only [hvs_25, if_pos hc2]) (J25)
    · intro hc2
      refine own_iloadN (pc' := 6) C d2_5 rfl rfl ?_
      refine own_iloadN (pc' := 7) C d2_6 rfl rfl ?_
      refine own_icmp_ge (pt := 24) (pf := 10) C d2_7 (by decide) (by decide) rfl ?_ ?_
      · intro hc7
        refine own_iconst (pc' := 25) (v := (0 : Int32)) C d2_24 own_ki_0 rfl ?_
        exact own_cast (by simp only [hvs_25, if_neg hc2, if_neg hc7]) (J25)
      · intro hc7
        refine own_aloadN (pc' := 11) C d2_10 rfl rfl rfl ?_
        refine own_iloadN (pc' := 12) C d2_11 rfl rfl ?_
        refine own_baload (pc' := 13) (v := x1_) (i := 1) C d2_12 A_t (by decide) rfl rfl rfl ?_
        refine own_callS (pc' := 16) (wL := 0) (argsL := [(.int x1_)]) (rest := []) C (own_m6 l Z a0 hw x1_ h0 n0 Z_) d2_13 (hw _ (List.mem_of_getElem? (i := 19) rfl)) (hw _ (List.mem_of_getElem? (i := 20) rfl)) (hw _ (List.mem_of_getElem? (i := 3) rfl)) (hw _ (List.mem_of_getElem? (i := 21) rfl)) (by decide) (by decide) (by decide) rfl (lenOf pd6 rfl) rfl rfl (Nat.le_of_eq rfl) (by decide) (by decide) rfl ?_
        rintro _ _ ⟨rfl, rfl⟩
        show Wp p l e _ s m _ below meth c n0 _ h0 0 0 (mkF m 16 #[.val (.ref t), .val (.int (1 : Int32)), .val (.int f), .val (.int u)] [(.int (own_f6 x1_))])
        refine own_iconst (pc' := 17) (v := (2 : Int32)) C d2_16 own_ki_2 rfl ?_
        refine own_icmp_ne (pt := 24) (pf := 20) C d2_17 (by decide) (by decide) rfl ?_ ?_
        · intro hc17
          refine own_iconst (pc' := 25) (v := (0 : Int32)) C d2_24 own_ki_0 rfl ?_
          exact own_cast (by simp only [hvs_25, if_neg hc2, if_pos hc7, if_neg hc17]) (J25)
        · intro hc17
          refine own_iconst (pc' := 21) (v := (1 : Int32)) C d2_20 own_ki_1 rfl ?_
          refine own_goto (pc' := 25) C d2_21 (by decide) (by decide) ?_
          exact own_cast (by simp only [hvs_25, if_neg hc2, if_pos hc7, if_pos hc17]) (J25)
  refine own_iret C d2_25 (by decide) (by decide) ?_
  exact ⟨by rw [own_bad, hvs_25], rfl⟩

set_option maxRecDepth 65536 in
set_option maxHeartbeats 40000000 in
theorem own_bad2 (l : Launch) (Z : State) (a0 : Array Value) (hw : ∀ d ∈ tables_1, d.before a0 Z = true) (t : Addr) (f : Int32) (u : Int32) (x0_ x1_ x2_ x3_ x4_ : Int32) (h0 : Heap) (n0 : Nat) (Z_ : n0 ≤ h0.size) (A_t : AI Z h0 t .byte [x0_, x1_, x2_, x3_, x4_]) :
    Met l (⟨"com/example/vestwork/vestwork/io/PlainNumbersIsPlainDecimalPinLaw", "bad", "([BIII)I"⟩ : MethodName) method_5_code 4 (some .int) [] ({ frames := 1, cells := 0, slots := 0, locals := 12 } : Room) Z n0 #[(.ref t), (.int (2 : Int32)), (.int f), (.int u)] h0 (fun v h => v = some (.int (own_bad x2_ 2 f u)) ∧ h0 = h) := by
  refine own_met pn2 (fun m => ef2 m t (2 : Int32) f u) ?_
  intro p e s m below meth c C
  refine own_iloadN (pc' := 1) C d2_0 rfl rfl ?_
  refine own_iloadN (pc' := 2) C d2_1 rfl rfl ?_
  obtain ⟨vs_25, hvs_25⟩ : ∃ z : Int32, z = (if (2 : Int32) < f then (0 : Int32) else (if (2 : Int32) < u then (if (own_f6 x2_) = (2 : Int32) then (1 : Int32) else (0 : Int32)) else (0 : Int32))) := ⟨_, rfl⟩
  have hzvs_25 : vs_25 = 0 ∨ vs_25 = 1 := by rw [hvs_25]; repeat (first | exact Or.inl rfl | exact Or.inr rfl | split)
  refine own_seq (g' := mkF m 25 #[.val (.ref t), .val (.int (2 : Int32)), .val (.int f), .val (.int u)] [(.int vs_25)]) (fun J25 => ?_) ?_
  · refine own_icmp_gt (pt := 24) (pf := 5) C d2_2 (by decide) (by decide) rfl ?_ ?_
    · intro hc2
      refine own_iconst (pc' := 25) (v := (0 : Int32)) C d2_24 own_ki_0 rfl ?_
      exact own_cast (by simp only [hvs_25, if_pos hc2]) (J25)
    · intro hc2
      refine own_iloadN (pc' := 6) C d2_5 rfl rfl ?_
      refine own_iloadN (pc' := 7) C d2_6 rfl rfl ?_
      refine own_icmp_ge (pt := 24) (pf := 10) C d2_7 (by decide) (by decide) rfl ?_ ?_
      · intro hc7
        refine own_iconst (pc' := 25) (v := (0 : Int32)) C d2_24 own_ki_0 rfl ?_
        exact own_cast (by simp only [hvs_25, if_neg hc2, if_neg hc7]) (J25)
      · intro hc7
        refine own_aloadN (pc' := 11) C d2_10 rfl rfl rfl ?_
        refine own_iloadN (pc' := 12) C d2_11 rfl rfl ?_
        refine own_baload (pc' := 13) (v := x2_) (i := 2) C d2_12 A_t (by decide) rfl rfl rfl ?_
        refine own_callS (pc' := 16) (wL := 0) (argsL := [(.int x2_)]) (rest := []) C (own_m6 l Z a0 hw x2_ h0 n0 Z_) d2_13 (hw _ (List.mem_of_getElem? (i := 19) rfl)) (hw _ (List.mem_of_getElem? (i := 20) rfl)) (hw _ (List.mem_of_getElem? (i := 3) rfl)) (hw _ (List.mem_of_getElem? (i := 21) rfl)) (by decide) (by decide) (by decide) rfl (lenOf pd6 rfl) rfl rfl (Nat.le_of_eq rfl) (by decide) (by decide) rfl ?_
        rintro _ _ ⟨rfl, rfl⟩
        show Wp p l e _ s m _ below meth c n0 _ h0 0 0 (mkF m 16 #[.val (.ref t), .val (.int (2 : Int32)), .val (.int f), .val (.int u)] [(.int (own_f6 x2_))])
        refine own_iconst (pc' := 17) (v := (2 : Int32)) C d2_16 own_ki_2 rfl ?_
        refine own_icmp_ne (pt := 24) (pf := 20) C d2_17 (by decide) (by decide) rfl ?_ ?_
        · intro hc17
          refine own_iconst (pc' := 25) (v := (0 : Int32)) C d2_24 own_ki_0 rfl ?_
          exact own_cast (by simp only [hvs_25, if_neg hc2, if_pos hc7, if_neg hc17]) (J25)
        · intro hc17
          refine own_iconst (pc' := 21) (v := (1 : Int32)) C d2_20 own_ki_1 rfl ?_
          refine own_goto (pc' := 25) C d2_21 (by decide) (by decide) ?_
          exact own_cast (by simp only [hvs_25, if_neg hc2, if_pos hc7, if_pos hc17]) (J25)
  refine own_iret C d2_25 (by decide) (by decide) ?_
  exact ⟨by rw [own_bad, hvs_25], rfl⟩

set_option maxRecDepth 65536 in
set_option maxHeartbeats 40000000 in
theorem own_bad3 (l : Launch) (Z : State) (a0 : Array Value) (hw : ∀ d ∈ tables_1, d.before a0 Z = true) (t : Addr) (f : Int32) (u : Int32) (x0_ x1_ x2_ x3_ x4_ : Int32) (h0 : Heap) (n0 : Nat) (Z_ : n0 ≤ h0.size) (A_t : AI Z h0 t .byte [x0_, x1_, x2_, x3_, x4_]) :
    Met l (⟨"com/example/vestwork/vestwork/io/PlainNumbersIsPlainDecimalPinLaw", "bad", "([BIII)I"⟩ : MethodName) method_5_code 4 (some .int) [] ({ frames := 1, cells := 0, slots := 0, locals := 12 } : Room) Z n0 #[(.ref t), (.int (3 : Int32)), (.int f), (.int u)] h0 (fun v h => v = some (.int (own_bad x3_ 3 f u)) ∧ h0 = h) := by
  refine own_met pn2 (fun m => ef2 m t (3 : Int32) f u) ?_
  intro p e s m below meth c C
  refine own_iloadN (pc' := 1) C d2_0 rfl rfl ?_
  refine own_iloadN (pc' := 2) C d2_1 rfl rfl ?_
  obtain ⟨vs_25, hvs_25⟩ : ∃ z : Int32, z = (if (3 : Int32) < f then (0 : Int32) else (if (3 : Int32) < u then (if (own_f6 x3_) = (2 : Int32) then (1 : Int32) else (0 : Int32)) else (0 : Int32))) := ⟨_, rfl⟩
  have hzvs_25 : vs_25 = 0 ∨ vs_25 = 1 := by rw [hvs_25]; repeat (first | exact Or.inl rfl | exact Or.inr rfl | split)
  refine own_seq (g' := mkF m 25 #[.val (.ref t), .val (.int (3 : Int32)), .val (.int f), .val (.int u)] [(.int vs_25)]) (fun J25 => ?_) ?_
  · refine own_icmp_gt (pt := 24) (pf := 5) C d2_2 (by decide) (by decide) rfl ?_ ?_
    · intro hc2
      refine own_iconst (pc' := 25) (v := (0 : Int32)) C d2_24 own_ki_0 rfl ?_
      exact own_cast (by simp only [hvs_25, if_pos hc2]) (J25)
    · intro hc2
      refine own_iloadN (pc' := 6) C d2_5 rfl rfl ?_
      refine own_iloadN (pc' := 7) C d2_6 rfl rfl ?_
      refine own_icmp_ge (pt := 24) (pf := 10) C d2_7 (by decide) (by decide) rfl ?_ ?_
      · intro hc7
        refine own_iconst (pc' := 25) (v := (0 : Int32)) C d2_24 own_ki_0 rfl ?_
        exact own_cast (by simp only [hvs_25, if_neg hc2, if_neg hc7]) (J25)
      · intro hc7
        refine own_aloadN (pc' := 11) C d2_10 rfl rfl rfl ?_
        refine own_iloadN (pc' := 12) C d2_11 rfl rfl ?_
        refine own_baload (pc' := 13) (v := x3_) (i := 3) C d2_12 A_t (by decide) rfl rfl rfl ?_
        refine own_callS (pc' := 16) (wL := 0) (argsL := [(.int x3_)]) (rest := []) C (own_m6 l Z a0 hw x3_ h0 n0 Z_) d2_13 (hw _ (List.mem_of_getElem? (i := 19) rfl)) (hw _ (List.mem_of_getElem? (i := 20) rfl)) (hw _ (List.mem_of_getElem? (i := 3) rfl)) (hw _ (List.mem_of_getElem? (i := 21) rfl)) (by decide) (by decide) (by decide) rfl (lenOf pd6 rfl) rfl rfl (Nat.le_of_eq rfl) (by decide) (by decide) rfl ?_
        rintro _ _ ⟨rfl, rfl⟩
        show Wp p l e _ s m _ below meth c n0 _ h0 0 0 (mkF m 16 #[.val (.ref t), .val (.int (3 : Int32)), .val (.int f), .val (.int u)] [(.int (own_f6 x3_))])
        refine own_iconst (pc' := 17) (v := (2 : Int32)) C d2_16 own_ki_2 rfl ?_
        refine own_icmp_ne (pt := 24) (pf := 20) C d2_17 (by decide) (by decide) rfl ?_ ?_
        · intro hc17
          refine own_iconst (pc' := 25) (v := (0 : Int32)) C d2_24 own_ki_0 rfl ?_
          exact own_cast (by simp only [hvs_25, if_neg hc2, if_pos hc7, if_neg hc17]) (J25)
        · intro hc17
          refine own_iconst (pc' := 21) (v := (1 : Int32)) C d2_20 own_ki_1 rfl ?_
          refine own_goto (pc' := 25) C d2_21 (by decide) (by decide) ?_
          exact own_cast (by simp only [hvs_25, if_neg hc2, if_pos hc7, if_pos hc17]) (J25)
  refine own_iret C d2_25 (by decide) (by decide) ?_
  exact ⟨by rw [own_bad, hvs_25], rfl⟩

set_option maxRecDepth 65536 in
set_option maxHeartbeats 40000000 in
theorem own_bad4 (l : Launch) (Z : State) (a0 : Array Value) (hw : ∀ d ∈ tables_1, d.before a0 Z = true) (t : Addr) (f : Int32) (u : Int32) (x0_ x1_ x2_ x3_ x4_ : Int32) (h0 : Heap) (n0 : Nat) (Z_ : n0 ≤ h0.size) (A_t : AI Z h0 t .byte [x0_, x1_, x2_, x3_, x4_]) :
    Met l (⟨"com/example/vestwork/vestwork/io/PlainNumbersIsPlainDecimalPinLaw", "bad", "([BIII)I"⟩ : MethodName) method_5_code 4 (some .int) [] ({ frames := 1, cells := 0, slots := 0, locals := 12 } : Room) Z n0 #[(.ref t), (.int (4 : Int32)), (.int f), (.int u)] h0 (fun v h => v = some (.int (own_bad x4_ 4 f u)) ∧ h0 = h) := by
  refine own_met pn2 (fun m => ef2 m t (4 : Int32) f u) ?_
  intro p e s m below meth c C
  refine own_iloadN (pc' := 1) C d2_0 rfl rfl ?_
  refine own_iloadN (pc' := 2) C d2_1 rfl rfl ?_
  obtain ⟨vs_25, hvs_25⟩ : ∃ z : Int32, z = (if (4 : Int32) < f then (0 : Int32) else (if (4 : Int32) < u then (if (own_f6 x4_) = (2 : Int32) then (1 : Int32) else (0 : Int32)) else (0 : Int32))) := ⟨_, rfl⟩
  have hzvs_25 : vs_25 = 0 ∨ vs_25 = 1 := by rw [hvs_25]; repeat (first | exact Or.inl rfl | exact Or.inr rfl | split)
  refine own_seq (g' := mkF m 25 #[.val (.ref t), .val (.int (4 : Int32)), .val (.int f), .val (.int u)] [(.int vs_25)]) (fun J25 => ?_) ?_
  · refine own_icmp_gt (pt := 24) (pf := 5) C d2_2 (by decide) (by decide) rfl ?_ ?_
    · intro hc2
      refine own_iconst (pc' := 25) (v := (0 : Int32)) C d2_24 own_ki_0 rfl ?_
      exact own_cast (by simp only [hvs_25, if_pos hc2]) (J25)
    · intro hc2
      refine own_iloadN (pc' := 6) C d2_5 rfl rfl ?_
      refine own_iloadN (pc' := 7) C d2_6 rfl rfl ?_
      refine own_icmp_ge (pt := 24) (pf := 10) C d2_7 (by decide) (by decide) rfl ?_ ?_
      · intro hc7
        refine own_iconst (pc' := 25) (v := (0 : Int32)) C d2_24 own_ki_0 rfl ?_
        exact own_cast (by simp only [hvs_25, if_neg hc2, if_neg hc7]) (J25)
      · intro hc7
        refine own_aloadN (pc' := 11) C d2_10 rfl rfl rfl ?_
        refine own_iloadN (pc' := 12) C d2_11 rfl rfl ?_
        refine own_baload (pc' := 13) (v := x4_) (i := 4) C d2_12 A_t (by decide) rfl rfl rfl ?_
        refine own_callS (pc' := 16) (wL := 0) (argsL := [(.int x4_)]) (rest := []) C (own_m6 l Z a0 hw x4_ h0 n0 Z_) d2_13 (hw _ (List.mem_of_getElem? (i := 19) rfl)) (hw _ (List.mem_of_getElem? (i := 20) rfl)) (hw _ (List.mem_of_getElem? (i := 3) rfl)) (hw _ (List.mem_of_getElem? (i := 21) rfl)) (by decide) (by decide) (by decide) rfl (lenOf pd6 rfl) rfl rfl (Nat.le_of_eq rfl) (by decide) (by decide) rfl ?_
        rintro _ _ ⟨rfl, rfl⟩
        show Wp p l e _ s m _ below meth c n0 _ h0 0 0 (mkF m 16 #[.val (.ref t), .val (.int (4 : Int32)), .val (.int f), .val (.int u)] [(.int (own_f6 x4_))])
        refine own_iconst (pc' := 17) (v := (2 : Int32)) C d2_16 own_ki_2 rfl ?_
        refine own_icmp_ne (pt := 24) (pf := 20) C d2_17 (by decide) (by decide) rfl ?_ ?_
        · intro hc17
          refine own_iconst (pc' := 25) (v := (0 : Int32)) C d2_24 own_ki_0 rfl ?_
          exact own_cast (by simp only [hvs_25, if_neg hc2, if_pos hc7, if_neg hc17]) (J25)
        · intro hc17
          refine own_iconst (pc' := 21) (v := (1 : Int32)) C d2_20 own_ki_1 rfl ?_
          refine own_goto (pc' := 25) C d2_21 (by decide) (by decide) ?_
          exact own_cast (by simp only [hvs_25, if_neg hc2, if_pos hc7, if_pos hc17]) (J25)
  refine own_iret C d2_25 (by decide) (by decide) ?_
  exact ⟨by rw [own_bad, hvs_25], rfl⟩

theorem d3_0 : decode method_6_code 0 = .ok (.iload_n 2, 1) := by decide +kernel
theorem d3_1 : decode method_6_code 1 = .ok (.iload_n 1, 1) := by decide +kernel
theorem d3_2 : decode method_6_code 2 = .ok (.if_icmp .gt 22, 3) := by decide +kernel
theorem d3_5 : decode method_6_code 5 = .ok (.iload_n 1, 1) := by decide +kernel
theorem d3_6 : decode method_6_code 6 = .ok (.iload_n 3, 1) := by decide +kernel
theorem d3_7 : decode method_6_code 7 = .ok (.if_icmp .ge 17, 3) := by decide +kernel
theorem d3_10 : decode method_6_code 10 = .ok (.aload_n 0, 1) := by decide +kernel
theorem d3_11 : decode method_6_code 11 = .ok (.iload_n 1, 1) := by decide +kernel
theorem d3_12 : decode method_6_code 12 = .ok (.baload, 1) := by decide +kernel
theorem d3_13 : decode method_6_code 13 = .ok (.invokestatic 21, 3) := by decide +kernel
theorem d3_16 : decode method_6_code 16 = .ok (.iconst 1, 1) := by decide +kernel
theorem d3_17 : decode method_6_code 17 = .ok (.if_icmp .ne 7, 3) := by decide +kernel
theorem d3_20 : decode method_6_code 20 = .ok (.iconst 1, 1) := by decide +kernel
theorem d3_21 : decode method_6_code 21 = .ok (.goto 4, 3) := by decide +kernel
theorem d3_24 : decode method_6_code 24 = .ok (.iconst 0, 1) := by decide +kernel
theorem d3_25 : decode method_6_code 25 = .ok (.ireturn, 1) := by decide +kernel
theorem pn3 : plainName "com/example/vestwork/vestwork/io/PlainNumbersIsPlainDecimalPinLaw" = true := by first | (simp [plainName, overriddenIn]; done) | decide +kernel
theorem ef3 (m : MethodId) (x0 : Addr) (x1 : Int32) (x2 : Int32) (x3 : Int32) : entryFrame m #[(.ref x0), (.int x1), (.int x2), (.int x3)] 4 = mkF m 0 #[.val (.ref x0), .val (.int x1), .val (.int x2), .val (.int x3)] [] := by first | (simp [entryFrame, mkF, argsToLocals, Value.category]; done) | rfl
set_option maxRecDepth 65536 in
set_option maxHeartbeats 40000000 in
theorem own_pt0 (l : Launch) (Z : State) (a0 : Array Value) (hw : ∀ d ∈ tables_1, d.before a0 Z = true) (t : Addr) (f : Int32) (u : Int32) (x0_ x1_ x2_ x3_ x4_ : Int32) (h0 : Heap) (n0 : Nat) (Z_ : n0 ≤ h0.size) (A_t : AI Z h0 t .byte [x0_, x1_, x2_, x3_, x4_]) :
    Met l (⟨"com/example/vestwork/vestwork/io/PlainNumbersIsPlainDecimalPinLaw", "pt", "([BIII)I"⟩ : MethodName) method_6_code 4 (some .int) [] ({ frames := 1, cells := 0, slots := 0, locals := 12 } : Room) Z n0 #[(.ref t), (.int (0 : Int32)), (.int f), (.int u)] h0 (fun v h => v = some (.int (own_pt x0_ 0 f u)) ∧ h0 = h) := by
  refine own_met pn3 (fun m => ef3 m t (0 : Int32) f u) ?_
  intro p e s m below meth c C
  refine own_iloadN (pc' := 1) C d3_0 rfl rfl ?_
  refine own_iloadN (pc' := 2) C d3_1 rfl rfl ?_
  obtain ⟨vs_25, hvs_25⟩ : ∃ z : Int32, z = (if (0 : Int32) < f then (0 : Int32) else (if (0 : Int32) < u then (if (own_f6 x0_) = (1 : Int32) then (1 : Int32) else (0 : Int32)) else (0 : Int32))) := ⟨_, rfl⟩
  have hzvs_25 : vs_25 = 0 ∨ vs_25 = 1 := by rw [hvs_25]; repeat (first | exact Or.inl rfl | exact Or.inr rfl | split)
  refine own_seq (g' := mkF m 25 #[.val (.ref t), .val (.int (0 : Int32)), .val (.int f), .val (.int u)] [(.int vs_25)]) (fun J25 => ?_) ?_
  · refine own_icmp_gt (pt := 24) (pf := 5) C d3_2 (by decide) (by decide) rfl ?_ ?_
    · intro hc2
      refine own_iconst (pc' := 25) (v := (0 : Int32)) C d3_24 own_ki_0 rfl ?_
      exact own_cast (by simp only [hvs_25, if_pos hc2]) (J25)
    · intro hc2
      refine own_iloadN (pc' := 6) C d3_5 rfl rfl ?_
      refine own_iloadN (pc' := 7) C d3_6 rfl rfl ?_
      refine own_icmp_ge (pt := 24) (pf := 10) C d3_7 (by decide) (by decide) rfl ?_ ?_
      · intro hc7
        refine own_iconst (pc' := 25) (v := (0 : Int32)) C d3_24 own_ki_0 rfl ?_
        exact own_cast (by simp only [hvs_25, if_neg hc2, if_neg hc7]) (J25)
      · intro hc7
        refine own_aloadN (pc' := 11) C d3_10 rfl rfl rfl ?_
        refine own_iloadN (pc' := 12) C d3_11 rfl rfl ?_
        refine own_baload (pc' := 13) (v := x0_) (i := 0) C d3_12 A_t (by decide) rfl rfl rfl ?_
        refine own_callS (pc' := 16) (wL := 0) (argsL := [(.int x0_)]) (rest := []) C (own_m6 l Z a0 hw x0_ h0 n0 Z_) d3_13 (hw _ (List.mem_of_getElem? (i := 19) rfl)) (hw _ (List.mem_of_getElem? (i := 20) rfl)) (hw _ (List.mem_of_getElem? (i := 3) rfl)) (hw _ (List.mem_of_getElem? (i := 21) rfl)) (by decide) (by decide) (by decide) rfl (lenOf pd6 rfl) rfl rfl (Nat.le_of_eq rfl) (by decide) (by decide) rfl ?_
        rintro _ _ ⟨rfl, rfl⟩
        show Wp p l e _ s m _ below meth c n0 _ h0 0 0 (mkF m 16 #[.val (.ref t), .val (.int (0 : Int32)), .val (.int f), .val (.int u)] [(.int (own_f6 x0_))])
        refine own_iconst (pc' := 17) (v := (1 : Int32)) C d3_16 own_ki_1 rfl ?_
        refine own_icmp_ne (pt := 24) (pf := 20) C d3_17 (by decide) (by decide) rfl ?_ ?_
        · intro hc17
          refine own_iconst (pc' := 25) (v := (0 : Int32)) C d3_24 own_ki_0 rfl ?_
          exact own_cast (by simp only [hvs_25, if_neg hc2, if_pos hc7, if_neg hc17]) (J25)
        · intro hc17
          refine own_iconst (pc' := 21) (v := (1 : Int32)) C d3_20 own_ki_1 rfl ?_
          refine own_goto (pc' := 25) C d3_21 (by decide) (by decide) ?_
          exact own_cast (by simp only [hvs_25, if_neg hc2, if_pos hc7, if_pos hc17]) (J25)
  refine own_iret C d3_25 (by decide) (by decide) ?_
  exact ⟨by rw [own_pt, hvs_25], rfl⟩

set_option maxRecDepth 65536 in
set_option maxHeartbeats 40000000 in
theorem own_pt1 (l : Launch) (Z : State) (a0 : Array Value) (hw : ∀ d ∈ tables_1, d.before a0 Z = true) (t : Addr) (f : Int32) (u : Int32) (x0_ x1_ x2_ x3_ x4_ : Int32) (h0 : Heap) (n0 : Nat) (Z_ : n0 ≤ h0.size) (A_t : AI Z h0 t .byte [x0_, x1_, x2_, x3_, x4_]) :
    Met l (⟨"com/example/vestwork/vestwork/io/PlainNumbersIsPlainDecimalPinLaw", "pt", "([BIII)I"⟩ : MethodName) method_6_code 4 (some .int) [] ({ frames := 1, cells := 0, slots := 0, locals := 12 } : Room) Z n0 #[(.ref t), (.int (1 : Int32)), (.int f), (.int u)] h0 (fun v h => v = some (.int (own_pt x1_ 1 f u)) ∧ h0 = h) := by
  refine own_met pn3 (fun m => ef3 m t (1 : Int32) f u) ?_
  intro p e s m below meth c C
  refine own_iloadN (pc' := 1) C d3_0 rfl rfl ?_
  refine own_iloadN (pc' := 2) C d3_1 rfl rfl ?_
  obtain ⟨vs_25, hvs_25⟩ : ∃ z : Int32, z = (if (1 : Int32) < f then (0 : Int32) else (if (1 : Int32) < u then (if (own_f6 x1_) = (1 : Int32) then (1 : Int32) else (0 : Int32)) else (0 : Int32))) := ⟨_, rfl⟩
  have hzvs_25 : vs_25 = 0 ∨ vs_25 = 1 := by rw [hvs_25]; repeat (first | exact Or.inl rfl | exact Or.inr rfl | split)
  refine own_seq (g' := mkF m 25 #[.val (.ref t), .val (.int (1 : Int32)), .val (.int f), .val (.int u)] [(.int vs_25)]) (fun J25 => ?_) ?_
  · refine own_icmp_gt (pt := 24) (pf := 5) C d3_2 (by decide) (by decide) rfl ?_ ?_
    · intro hc2
      refine own_iconst (pc' := 25) (v := (0 : Int32)) C d3_24 own_ki_0 rfl ?_
      exact own_cast (by simp only [hvs_25, if_pos hc2]) (J25)
    · intro hc2
      refine own_iloadN (pc' := 6) C d3_5 rfl rfl ?_
      refine own_iloadN (pc' := 7) C d3_6 rfl rfl ?_
      refine own_icmp_ge (pt := 24) (pf := 10) C d3_7 (by decide) (by decide) rfl ?_ ?_
      · intro hc7
        refine own_iconst (pc' := 25) (v := (0 : Int32)) C d3_24 own_ki_0 rfl ?_
        exact own_cast (by simp only [hvs_25, if_neg hc2, if_neg hc7]) (J25)
      · intro hc7
        refine own_aloadN (pc' := 11) C d3_10 rfl rfl rfl ?_
        refine own_iloadN (pc' := 12) C d3_11 rfl rfl ?_
        refine own_baload (pc' := 13) (v := x1_) (i := 1) C d3_12 A_t (by decide) rfl rfl rfl ?_
        refine own_callS (pc' := 16) (wL := 0) (argsL := [(.int x1_)]) (rest := []) C (own_m6 l Z a0 hw x1_ h0 n0 Z_) d3_13 (hw _ (List.mem_of_getElem? (i := 19) rfl)) (hw _ (List.mem_of_getElem? (i := 20) rfl)) (hw _ (List.mem_of_getElem? (i := 3) rfl)) (hw _ (List.mem_of_getElem? (i := 21) rfl)) (by decide) (by decide) (by decide) rfl (lenOf pd6 rfl) rfl rfl (Nat.le_of_eq rfl) (by decide) (by decide) rfl ?_
        rintro _ _ ⟨rfl, rfl⟩
        show Wp p l e _ s m _ below meth c n0 _ h0 0 0 (mkF m 16 #[.val (.ref t), .val (.int (1 : Int32)), .val (.int f), .val (.int u)] [(.int (own_f6 x1_))])
        refine own_iconst (pc' := 17) (v := (1 : Int32)) C d3_16 own_ki_1 rfl ?_
        refine own_icmp_ne (pt := 24) (pf := 20) C d3_17 (by decide) (by decide) rfl ?_ ?_
        · intro hc17
          refine own_iconst (pc' := 25) (v := (0 : Int32)) C d3_24 own_ki_0 rfl ?_
          exact own_cast (by simp only [hvs_25, if_neg hc2, if_pos hc7, if_neg hc17]) (J25)
        · intro hc17
          refine own_iconst (pc' := 21) (v := (1 : Int32)) C d3_20 own_ki_1 rfl ?_
          refine own_goto (pc' := 25) C d3_21 (by decide) (by decide) ?_
          exact own_cast (by simp only [hvs_25, if_neg hc2, if_pos hc7, if_pos hc17]) (J25)
  refine own_iret C d3_25 (by decide) (by decide) ?_
  exact ⟨by rw [own_pt, hvs_25], rfl⟩

set_option maxRecDepth 65536 in
set_option maxHeartbeats 40000000 in
theorem own_pt2 (l : Launch) (Z : State) (a0 : Array Value) (hw : ∀ d ∈ tables_1, d.before a0 Z = true) (t : Addr) (f : Int32) (u : Int32) (x0_ x1_ x2_ x3_ x4_ : Int32) (h0 : Heap) (n0 : Nat) (Z_ : n0 ≤ h0.size) (A_t : AI Z h0 t .byte [x0_, x1_, x2_, x3_, x4_]) :
    Met l (⟨"com/example/vestwork/vestwork/io/PlainNumbersIsPlainDecimalPinLaw", "pt", "([BIII)I"⟩ : MethodName) method_6_code 4 (some .int) [] ({ frames := 1, cells := 0, slots := 0, locals := 12 } : Room) Z n0 #[(.ref t), (.int (2 : Int32)), (.int f), (.int u)] h0 (fun v h => v = some (.int (own_pt x2_ 2 f u)) ∧ h0 = h) := by
  refine own_met pn3 (fun m => ef3 m t (2 : Int32) f u) ?_
  intro p e s m below meth c C
  refine own_iloadN (pc' := 1) C d3_0 rfl rfl ?_
  refine own_iloadN (pc' := 2) C d3_1 rfl rfl ?_
  obtain ⟨vs_25, hvs_25⟩ : ∃ z : Int32, z = (if (2 : Int32) < f then (0 : Int32) else (if (2 : Int32) < u then (if (own_f6 x2_) = (1 : Int32) then (1 : Int32) else (0 : Int32)) else (0 : Int32))) := ⟨_, rfl⟩
  have hzvs_25 : vs_25 = 0 ∨ vs_25 = 1 := by rw [hvs_25]; repeat (first | exact Or.inl rfl | exact Or.inr rfl | split)
  refine own_seq (g' := mkF m 25 #[.val (.ref t), .val (.int (2 : Int32)), .val (.int f), .val (.int u)] [(.int vs_25)]) (fun J25 => ?_) ?_
  · refine own_icmp_gt (pt := 24) (pf := 5) C d3_2 (by decide) (by decide) rfl ?_ ?_
    · intro hc2
      refine own_iconst (pc' := 25) (v := (0 : Int32)) C d3_24 own_ki_0 rfl ?_
      exact own_cast (by simp only [hvs_25, if_pos hc2]) (J25)
    · intro hc2
      refine own_iloadN (pc' := 6) C d3_5 rfl rfl ?_
      refine own_iloadN (pc' := 7) C d3_6 rfl rfl ?_
      refine own_icmp_ge (pt := 24) (pf := 10) C d3_7 (by decide) (by decide) rfl ?_ ?_
      · intro hc7
        refine own_iconst (pc' := 25) (v := (0 : Int32)) C d3_24 own_ki_0 rfl ?_
        exact own_cast (by simp only [hvs_25, if_neg hc2, if_neg hc7]) (J25)
      · intro hc7
        refine own_aloadN (pc' := 11) C d3_10 rfl rfl rfl ?_
        refine own_iloadN (pc' := 12) C d3_11 rfl rfl ?_
        refine own_baload (pc' := 13) (v := x2_) (i := 2) C d3_12 A_t (by decide) rfl rfl rfl ?_
        refine own_callS (pc' := 16) (wL := 0) (argsL := [(.int x2_)]) (rest := []) C (own_m6 l Z a0 hw x2_ h0 n0 Z_) d3_13 (hw _ (List.mem_of_getElem? (i := 19) rfl)) (hw _ (List.mem_of_getElem? (i := 20) rfl)) (hw _ (List.mem_of_getElem? (i := 3) rfl)) (hw _ (List.mem_of_getElem? (i := 21) rfl)) (by decide) (by decide) (by decide) rfl (lenOf pd6 rfl) rfl rfl (Nat.le_of_eq rfl) (by decide) (by decide) rfl ?_
        rintro _ _ ⟨rfl, rfl⟩
        show Wp p l e _ s m _ below meth c n0 _ h0 0 0 (mkF m 16 #[.val (.ref t), .val (.int (2 : Int32)), .val (.int f), .val (.int u)] [(.int (own_f6 x2_))])
        refine own_iconst (pc' := 17) (v := (1 : Int32)) C d3_16 own_ki_1 rfl ?_
        refine own_icmp_ne (pt := 24) (pf := 20) C d3_17 (by decide) (by decide) rfl ?_ ?_
        · intro hc17
          refine own_iconst (pc' := 25) (v := (0 : Int32)) C d3_24 own_ki_0 rfl ?_
          exact own_cast (by simp only [hvs_25, if_neg hc2, if_pos hc7, if_neg hc17]) (J25)
        · intro hc17
          refine own_iconst (pc' := 21) (v := (1 : Int32)) C d3_20 own_ki_1 rfl ?_
          refine own_goto (pc' := 25) C d3_21 (by decide) (by decide) ?_
          exact own_cast (by simp only [hvs_25, if_neg hc2, if_pos hc7, if_pos hc17]) (J25)
  refine own_iret C d3_25 (by decide) (by decide) ?_
  exact ⟨by rw [own_pt, hvs_25], rfl⟩

set_option maxRecDepth 65536 in
set_option maxHeartbeats 40000000 in
theorem own_pt3 (l : Launch) (Z : State) (a0 : Array Value) (hw : ∀ d ∈ tables_1, d.before a0 Z = true) (t : Addr) (f : Int32) (u : Int32) (x0_ x1_ x2_ x3_ x4_ : Int32) (h0 : Heap) (n0 : Nat) (Z_ : n0 ≤ h0.size) (A_t : AI Z h0 t .byte [x0_, x1_, x2_, x3_, x4_]) :
    Met l (⟨"com/example/vestwork/vestwork/io/PlainNumbersIsPlainDecimalPinLaw", "pt", "([BIII)I"⟩ : MethodName) method_6_code 4 (some .int) [] ({ frames := 1, cells := 0, slots := 0, locals := 12 } : Room) Z n0 #[(.ref t), (.int (3 : Int32)), (.int f), (.int u)] h0 (fun v h => v = some (.int (own_pt x3_ 3 f u)) ∧ h0 = h) := by
  refine own_met pn3 (fun m => ef3 m t (3 : Int32) f u) ?_
  intro p e s m below meth c C
  refine own_iloadN (pc' := 1) C d3_0 rfl rfl ?_
  refine own_iloadN (pc' := 2) C d3_1 rfl rfl ?_
  obtain ⟨vs_25, hvs_25⟩ : ∃ z : Int32, z = (if (3 : Int32) < f then (0 : Int32) else (if (3 : Int32) < u then (if (own_f6 x3_) = (1 : Int32) then (1 : Int32) else (0 : Int32)) else (0 : Int32))) := ⟨_, rfl⟩
  have hzvs_25 : vs_25 = 0 ∨ vs_25 = 1 := by rw [hvs_25]; repeat (first | exact Or.inl rfl | exact Or.inr rfl | split)
  refine own_seq (g' := mkF m 25 #[.val (.ref t), .val (.int (3 : Int32)), .val (.int f), .val (.int u)] [(.int vs_25)]) (fun J25 => ?_) ?_
  · refine own_icmp_gt (pt := 24) (pf := 5) C d3_2 (by decide) (by decide) rfl ?_ ?_
    · intro hc2
      refine own_iconst (pc' := 25) (v := (0 : Int32)) C d3_24 own_ki_0 rfl ?_
      exact own_cast (by simp only [hvs_25, if_pos hc2]) (J25)
    · intro hc2
      refine own_iloadN (pc' := 6) C d3_5 rfl rfl ?_
      refine own_iloadN (pc' := 7) C d3_6 rfl rfl ?_
      refine own_icmp_ge (pt := 24) (pf := 10) C d3_7 (by decide) (by decide) rfl ?_ ?_
      · intro hc7
        refine own_iconst (pc' := 25) (v := (0 : Int32)) C d3_24 own_ki_0 rfl ?_
        exact own_cast (by simp only [hvs_25, if_neg hc2, if_neg hc7]) (J25)
      · intro hc7
        refine own_aloadN (pc' := 11) C d3_10 rfl rfl rfl ?_
        refine own_iloadN (pc' := 12) C d3_11 rfl rfl ?_
        refine own_baload (pc' := 13) (v := x3_) (i := 3) C d3_12 A_t (by decide) rfl rfl rfl ?_
        refine own_callS (pc' := 16) (wL := 0) (argsL := [(.int x3_)]) (rest := []) C (own_m6 l Z a0 hw x3_ h0 n0 Z_) d3_13 (hw _ (List.mem_of_getElem? (i := 19) rfl)) (hw _ (List.mem_of_getElem? (i := 20) rfl)) (hw _ (List.mem_of_getElem? (i := 3) rfl)) (hw _ (List.mem_of_getElem? (i := 21) rfl)) (by decide) (by decide) (by decide) rfl (lenOf pd6 rfl) rfl rfl (Nat.le_of_eq rfl) (by decide) (by decide) rfl ?_
        rintro _ _ ⟨rfl, rfl⟩
        show Wp p l e _ s m _ below meth c n0 _ h0 0 0 (mkF m 16 #[.val (.ref t), .val (.int (3 : Int32)), .val (.int f), .val (.int u)] [(.int (own_f6 x3_))])
        refine own_iconst (pc' := 17) (v := (1 : Int32)) C d3_16 own_ki_1 rfl ?_
        refine own_icmp_ne (pt := 24) (pf := 20) C d3_17 (by decide) (by decide) rfl ?_ ?_
        · intro hc17
          refine own_iconst (pc' := 25) (v := (0 : Int32)) C d3_24 own_ki_0 rfl ?_
          exact own_cast (by simp only [hvs_25, if_neg hc2, if_pos hc7, if_neg hc17]) (J25)
        · intro hc17
          refine own_iconst (pc' := 21) (v := (1 : Int32)) C d3_20 own_ki_1 rfl ?_
          refine own_goto (pc' := 25) C d3_21 (by decide) (by decide) ?_
          exact own_cast (by simp only [hvs_25, if_neg hc2, if_pos hc7, if_pos hc17]) (J25)
  refine own_iret C d3_25 (by decide) (by decide) ?_
  exact ⟨by rw [own_pt, hvs_25], rfl⟩

set_option maxRecDepth 65536 in
set_option maxHeartbeats 40000000 in
theorem own_pt4 (l : Launch) (Z : State) (a0 : Array Value) (hw : ∀ d ∈ tables_1, d.before a0 Z = true) (t : Addr) (f : Int32) (u : Int32) (x0_ x1_ x2_ x3_ x4_ : Int32) (h0 : Heap) (n0 : Nat) (Z_ : n0 ≤ h0.size) (A_t : AI Z h0 t .byte [x0_, x1_, x2_, x3_, x4_]) :
    Met l (⟨"com/example/vestwork/vestwork/io/PlainNumbersIsPlainDecimalPinLaw", "pt", "([BIII)I"⟩ : MethodName) method_6_code 4 (some .int) [] ({ frames := 1, cells := 0, slots := 0, locals := 12 } : Room) Z n0 #[(.ref t), (.int (4 : Int32)), (.int f), (.int u)] h0 (fun v h => v = some (.int (own_pt x4_ 4 f u)) ∧ h0 = h) := by
  refine own_met pn3 (fun m => ef3 m t (4 : Int32) f u) ?_
  intro p e s m below meth c C
  refine own_iloadN (pc' := 1) C d3_0 rfl rfl ?_
  refine own_iloadN (pc' := 2) C d3_1 rfl rfl ?_
  obtain ⟨vs_25, hvs_25⟩ : ∃ z : Int32, z = (if (4 : Int32) < f then (0 : Int32) else (if (4 : Int32) < u then (if (own_f6 x4_) = (1 : Int32) then (1 : Int32) else (0 : Int32)) else (0 : Int32))) := ⟨_, rfl⟩
  have hzvs_25 : vs_25 = 0 ∨ vs_25 = 1 := by rw [hvs_25]; repeat (first | exact Or.inl rfl | exact Or.inr rfl | split)
  refine own_seq (g' := mkF m 25 #[.val (.ref t), .val (.int (4 : Int32)), .val (.int f), .val (.int u)] [(.int vs_25)]) (fun J25 => ?_) ?_
  · refine own_icmp_gt (pt := 24) (pf := 5) C d3_2 (by decide) (by decide) rfl ?_ ?_
    · intro hc2
      refine own_iconst (pc' := 25) (v := (0 : Int32)) C d3_24 own_ki_0 rfl ?_
      exact own_cast (by simp only [hvs_25, if_pos hc2]) (J25)
    · intro hc2
      refine own_iloadN (pc' := 6) C d3_5 rfl rfl ?_
      refine own_iloadN (pc' := 7) C d3_6 rfl rfl ?_
      refine own_icmp_ge (pt := 24) (pf := 10) C d3_7 (by decide) (by decide) rfl ?_ ?_
      · intro hc7
        refine own_iconst (pc' := 25) (v := (0 : Int32)) C d3_24 own_ki_0 rfl ?_
        exact own_cast (by simp only [hvs_25, if_neg hc2, if_neg hc7]) (J25)
      · intro hc7
        refine own_aloadN (pc' := 11) C d3_10 rfl rfl rfl ?_
        refine own_iloadN (pc' := 12) C d3_11 rfl rfl ?_
        refine own_baload (pc' := 13) (v := x4_) (i := 4) C d3_12 A_t (by decide) rfl rfl rfl ?_
        refine own_callS (pc' := 16) (wL := 0) (argsL := [(.int x4_)]) (rest := []) C (own_m6 l Z a0 hw x4_ h0 n0 Z_) d3_13 (hw _ (List.mem_of_getElem? (i := 19) rfl)) (hw _ (List.mem_of_getElem? (i := 20) rfl)) (hw _ (List.mem_of_getElem? (i := 3) rfl)) (hw _ (List.mem_of_getElem? (i := 21) rfl)) (by decide) (by decide) (by decide) rfl (lenOf pd6 rfl) rfl rfl (Nat.le_of_eq rfl) (by decide) (by decide) rfl ?_
        rintro _ _ ⟨rfl, rfl⟩
        show Wp p l e _ s m _ below meth c n0 _ h0 0 0 (mkF m 16 #[.val (.ref t), .val (.int (4 : Int32)), .val (.int f), .val (.int u)] [(.int (own_f6 x4_))])
        refine own_iconst (pc' := 17) (v := (1 : Int32)) C d3_16 own_ki_1 rfl ?_
        refine own_icmp_ne (pt := 24) (pf := 20) C d3_17 (by decide) (by decide) rfl ?_ ?_
        · intro hc17
          refine own_iconst (pc' := 25) (v := (0 : Int32)) C d3_24 own_ki_0 rfl ?_
          exact own_cast (by simp only [hvs_25, if_neg hc2, if_pos hc7, if_neg hc17]) (J25)
        · intro hc17
          refine own_iconst (pc' := 21) (v := (1 : Int32)) C d3_20 own_ki_1 rfl ?_
          refine own_goto (pc' := 25) C d3_21 (by decide) (by decide) ?_
          exact own_cast (by simp only [hvs_25, if_neg hc2, if_pos hc7, if_pos hc17]) (J25)
  refine own_iret C d3_25 (by decide) (by decide) ?_
  exact ⟨by rw [own_pt, hvs_25], rfl⟩

theorem d5_2 : decode prog_100_method_15_code 2 = .ok (.iload_n 3, 1) := by decide +kernel
theorem d5_3 : decode prog_100_method_15_code 3 = .ok (.iload_n 2, 1) := by decide +kernel
theorem d5_4 : decode prog_100_method_15_code 4 = .ok (.if_icmp .ge 25, 3) := by decide +kernel
theorem d5_7 : decode prog_100_method_15_code 7 = .ok (.aload_n 0, 1) := by decide +kernel
theorem d5_8 : decode prog_100_method_15_code 8 = .ok (.iload_n 3, 1) := by decide +kernel
theorem d5_9 : decode prog_100_method_15_code 9 = .ok (.baload, 1) := by decide +kernel
theorem d5_10 : decode prog_100_method_15_code 10 = .ok (.bipush 48, 2) := by decide +kernel
theorem d5_12 : decode prog_100_method_15_code 12 = .ok (.if_icmp .lt 17, 3) := by decide +kernel
theorem d5_15 : decode prog_100_method_15_code 15 = .ok (.aload_n 0, 1) := by decide +kernel
theorem d5_16 : decode prog_100_method_15_code 16 = .ok (.iload_n 3, 1) := by decide +kernel
theorem d5_17 : decode prog_100_method_15_code 17 = .ok (.baload, 1) := by decide +kernel
theorem d5_18 : decode prog_100_method_15_code 18 = .ok (.bipush 57, 2) := by decide +kernel
theorem d5_20 : decode prog_100_method_15_code 20 = .ok (.if_icmp .gt 9, 3) := by decide +kernel
theorem d5_23 : decode prog_100_method_15_code 23 = .ok (.iinc 3 1, 3) := by decide +kernel
theorem d5_26 : decode prog_100_method_15_code 26 = .ok (.goto (-24), 3) := by decide +kernel
theorem pn5 : plainName "com/example/vestwork/vestwork/io/PlainNumbers" = true := by first | (simp [plainName, overriddenIn]; done) | decide +kernel
theorem ef5 (m : MethodId) (x0 : Addr) (x1 : Int32) (x2 : Int32) : entryFrame m #[(.ref x0), (.int x1), (.int x2)] 4 = mkF m 0 #[.val (.ref x0), .val (.int x1), .val (.int x2), .unset] [] := by first | (simp [entryFrame, mkF, argsToLocals, Value.category]; done) | rfl
set_option maxRecDepth 65536 in
set_option maxHeartbeats 40000000 in
theorem own_loop {p : Program} {l : Launch} {e : Env} {R : Room} {s : State} {m : MethodId} {args : Array Value} {below : List Frame} {meth : Method} {c : Code} {Z : State} {n0 : Nat} {Q : Option Value → Heap → Prop} {h0 : Heap} {k n : Nat} {a0 : Array Value} (hw : ∀ d ∈ tables_1, d.before a0 Z = true) (C : Cx p s m meth c Z prog_100_method_15_code 4 (some .int) "com/example/vestwork/vestwork/io/PlainNumbers" "endOfDigits") {t : Addr} {f e_ : Int32} {xs : List Int32} (A_t : AI Z h0 t .byte xs) (ht : e_.toInt ≤ xs.length) (j : Nat) :
    ∀ (i : Int32), 0 ≤ i.toInt → i.toInt + j = e_.toInt → Wp p l e R s m args below meth c n0 Q h0 k n (mkF m 29 #[.val (.ref t), .val (.int f), .val (.int e_), .val (.int (own_eod xs j i))] []) → Wp p l e R s m args below meth c n0 Q h0 k n (mkF m 2 #[.val (.ref t), .val (.int f), .val (.int e_), .val (.int i)] []) := by
  induction j with
  | zero =>
    intro i h1 h2 hx
    have e0 : i = e_ := Int32.toInt_inj.mp (by omega)
    subst e0
    refine own_iloadN (pc' := 3) C d5_2 rfl rfl ?_
    refine own_iloadN (pc' := 4) C d5_3 rfl rfl ?_
    refine own_icmp_ge (pt := 29) (pf := 7) C d5_4 (by decide) (by decide) rfl (fun _ => ?_) (fun q => absurd q (own_irr i))
    exact hx
  | succ j ih =>
    intro i h1 h2 hx
    have hlt : i < e_ := by rw [Int32.lt_iff_toInt_lt]; omega
    have g1 : (i + 1).toInt = i.toInt + 1 := by have := c_iadd i 1; have := rng32 (i + 1); have := rng32 e_; have k1 : (1 : Int32).toInt = 1 := rfl; omega
    have hn : ¬ i < 0 := by rw [Int32.lt_iff_toInt_lt]; show ¬ i.toInt < 0; omega
    have hin : i.toNatClampNeg < xs.length := by simp only [Int32.toNatClampNeg]; omega
    refine own_iloadN (pc' := 3) C d5_2 rfl rfl ?_
    refine own_iloadN (pc' := 4) C d5_3 rfl rfl ?_
    refine own_icmp_ge (pt := 29) (pf := 7) C d5_4 (by decide) (by decide) rfl (fun q => absurd hlt q) (fun _ => ?_)
    refine own_aloadN (pc' := 8) C d5_7 rfl rfl rfl ?_
    refine own_iloadN (pc' := 9) C d5_8 rfl rfl ?_
    refine own_baload (pc' := 10) (v := (xs.getD i.toNatClampNeg 0)) (i := i.toNatClampNeg) C d5_9 A_t hn rfl (own_get hin) rfl ?_
    refine own_bipush (pc' := 12) (v := (48 : Int32)) C d5_10 own_kb_48 rfl ?_
    refine own_icmp_lt (pt := 29) (pf := 15) C d5_12 (by decide) (by decide) rfl ?_ ?_
    · intro hc12
      rw [own_eod, if_neg (by rw [own_isd, if_pos hc12]; exact Bool.false_ne_true)] at hx
      exact hx
    · intro hc12
      refine own_aloadN (pc' := 16) C d5_15 rfl rfl rfl ?_
      refine own_iloadN (pc' := 17) C d5_16 rfl rfl ?_
      refine own_baload (pc' := 18) (v := (xs.getD i.toNatClampNeg 0)) (i := i.toNatClampNeg) C d5_17 A_t hn rfl (own_get hin) rfl ?_
      refine own_bipush (pc' := 20) (v := (57 : Int32)) C d5_18 own_kb_57 rfl ?_
      refine own_icmp_gt (pt := 29) (pf := 23) C d5_20 (by decide) (by decide) rfl ?_ ?_
      · intro hc20
        rw [own_eod, if_neg (by rw [own_isd, if_neg hc12, if_pos hc20]; exact Bool.false_ne_true)] at hx
        exact hx
      · intro hc20
        refine own_iinc (pc' := 26) (v := (i + (1 : Int32))) (Ls' := #[.val (.ref t), .val (.int f), .val (.int e_), .val (.int (i + (1 : Int32)))]) C d5_23 rfl rfl rfl rfl ?_
        refine own_goto (pc' := 2) C d5_26 (by decide) (by decide) ?_
        rw [own_eod, if_pos (by rw [own_isd, if_neg hc12, if_neg hc20])] at hx
        exact ih _ (by omega) (by omega) hx

theorem d5_0 : decode prog_100_method_15_code 0 = .ok (.iload_n 1, 1) := by decide +kernel
theorem d5_1 : decode prog_100_method_15_code 1 = .ok (.istore_n 3, 1) := by decide +kernel
theorem d5_29 : decode prog_100_method_15_code 29 = .ok (.iload_n 3, 1) := by decide +kernel
theorem d5_30 : decode prog_100_method_15_code 30 = .ok (.ireturn, 1) := by decide +kernel
set_option maxRecDepth 65536 in
set_option maxHeartbeats 40000000 in
theorem own_m5 (l : Launch) (Z : State) (a0 : Array Value) (hw : ∀ d ∈ tables_1, d.before a0 Z = true) (t : Addr) (f : Int32) (e_ : Int32) (xs : List Int32) (j : Nat) (h0 : Heap) (n0 : Nat) (Z_ : n0 ≤ h0.size) (A_t : AI Z h0 t .byte xs) (ht : e_.toInt ≤ xs.length) (h1 : 0 ≤ f.toInt) (h2 : f.toInt + j = e_.toInt) :
    Met l (⟨"com/example/vestwork/vestwork/io/PlainNumbers", "endOfDigits", "([BII)I"⟩ : MethodName) prog_100_method_15_code 4 (some .int) [] ({ frames := 0, cells := 0, slots := 0, locals := 0 } : Room) Z n0 #[(.ref t), (.int f), (.int e_)] h0 (fun v h => v = some (.int (own_eod xs j f)) ∧ h0 = h) := by
  refine own_met pn5 (fun m => ef5 m t f e_) ?_
  intro p e s m below meth c C
  refine own_iloadN (pc' := 1) C d5_0 rfl rfl ?_
  refine own_istoreN (pc' := 2) (y := f) (Ls' := #[.val (.ref t), .val (.int f), .val (.int e_), .val (.int f)]) C d5_1 rfl rfl rfl ?_
  refine own_loop hw C A_t ht j _ h1 h2 ?_
  refine own_iloadN (pc' := 30) C d5_29 rfl rfl ?_
  refine own_iret C d5_30 (by decide) (by decide) ?_
  exact ⟨rfl, rfl⟩

theorem own_s2 {f e u : Int32} (hf : 0 ≤ f.toInt) (he : e.toInt ≤ 5) (h1 : f < u) (h2 : u < e) : 0 ≤ (u + 1).toInt ∧ (u + 1).toInt + ((e.toInt - (u + 1).toInt).toNat : Nat) = e.toInt := by
  rw [Int32.lt_iff_toInt_lt] at h1 h2
  have a := c_iadd u 1; have b := rng32 (u + 1); have k1 : (1 : Int32).toInt = 1 := rfl
  omega
theorem own_in {f e u : Int32} {xs : List Int32} (hf : 0 ≤ f.toInt) (he : e.toInt ≤ xs.length) (h1 : f < u) (h2 : u < e) : ¬ u < 0 ∧ u.toNatClampNeg < xs.length := by
  rw [Int32.lt_iff_toInt_lt] at h1 h2 ⊢
  have k0 : (0 : Int32).toInt = 0 := rfl
  simp only [Int32.toNatClampNeg]
  omega

theorem d4_0 : decode prog_100_method_6_code 0 = .ok (.aload_n 0, 1) := by decide +kernel
theorem d4_1 : decode prog_100_method_6_code 1 = .ok (.iload_n 1, 1) := by decide +kernel
theorem d4_2 : decode prog_100_method_6_code 2 = .ok (.iload_n 2, 1) := by decide +kernel
theorem d4_3 : decode prog_100_method_6_code 3 = .ok (.invokestatic 17, 3) := by decide +kernel
theorem d4_6 : decode prog_100_method_6_code 6 = .ok (.istore_n 3, 1) := by decide +kernel
theorem d4_7 : decode prog_100_method_6_code 7 = .ok (.iload_n 3, 1) := by decide +kernel
theorem d4_8 : decode prog_100_method_6_code 8 = .ok (.iload_n 1, 1) := by decide +kernel
theorem d4_9 : decode prog_100_method_6_code 9 = .ok (.if_icmp .le 12, 3) := by decide +kernel
theorem d4_12 : decode prog_100_method_6_code 12 = .ok (.iload_n 3, 1) := by decide +kernel
theorem d4_13 : decode prog_100_method_6_code 13 = .ok (.iload_n 2, 1) := by decide +kernel
theorem d4_14 : decode prog_100_method_6_code 14 = .ok (.if_icmp .ne 7, 3) := by decide +kernel
theorem d4_17 : decode prog_100_method_6_code 17 = .ok (.iconst 1, 1) := by decide +kernel
theorem d4_18 : decode prog_100_method_6_code 18 = .ok (.goto 4, 3) := by decide +kernel
theorem d4_21 : decode prog_100_method_6_code 21 = .ok (.iconst 0, 1) := by decide +kernel
theorem d4_22 : decode prog_100_method_6_code 22 = .ok (.istore 4, 2) := by decide +kernel
theorem d4_24 : decode prog_100_method_6_code 24 = .ok (.iload_n 3, 1) := by decide +kernel
theorem d4_25 : decode prog_100_method_6_code 25 = .ok (.iload_n 1, 1) := by decide +kernel
theorem d4_26 : decode prog_100_method_6_code 26 = .ok (.if_icmp .le 47, 3) := by decide +kernel
theorem d4_29 : decode prog_100_method_6_code 29 = .ok (.iload_n 3, 1) := by decide +kernel
theorem d4_30 : decode prog_100_method_6_code 30 = .ok (.iload_n 2, 1) := by decide +kernel
theorem d4_31 : decode prog_100_method_6_code 31 = .ok (.if_icmp .ge 42, 3) := by decide +kernel
theorem d4_34 : decode prog_100_method_6_code 34 = .ok (.aload_n 0, 1) := by decide +kernel
theorem d4_35 : decode prog_100_method_6_code 35 = .ok (.iload_n 3, 1) := by decide +kernel
theorem d4_36 : decode prog_100_method_6_code 36 = .ok (.baload, 1) := by decide +kernel
theorem d4_37 : decode prog_100_method_6_code 37 = .ok (.bipush 46, 2) := by decide +kernel
theorem d4_39 : decode prog_100_method_6_code 39 = .ok (.if_icmp .ne 34, 3) := by decide +kernel
theorem d4_42 : decode prog_100_method_6_code 42 = .ok (.aload_n 0, 1) := by decide +kernel
theorem d4_43 : decode prog_100_method_6_code 43 = .ok (.iload_n 3, 1) := by decide +kernel
theorem d4_44 : decode prog_100_method_6_code 44 = .ok (.iconst 1, 1) := by decide +kernel
theorem d4_45 : decode prog_100_method_6_code 45 = .ok (.iadd, 1) := by decide +kernel
theorem d4_46 : decode prog_100_method_6_code 46 = .ok (.iload_n 2, 1) := by decide +kernel
theorem d4_47 : decode prog_100_method_6_code 47 = .ok (.invokestatic 17, 3) := by decide +kernel
theorem d4_50 : decode prog_100_method_6_code 50 = .ok (.istore 5, 2) := by decide +kernel
theorem d4_52 : decode prog_100_method_6_code 52 = .ok (.iload 5, 2) := by decide +kernel
theorem d4_54 : decode prog_100_method_6_code 54 = .ok (.iload_n 3, 1) := by decide +kernel
theorem d4_55 : decode prog_100_method_6_code 55 = .ok (.iconst 1, 1) := by decide +kernel
theorem d4_56 : decode prog_100_method_6_code 56 = .ok (.iadd, 1) := by decide +kernel
theorem d4_57 : decode prog_100_method_6_code 57 = .ok (.if_icmp .le 13, 3) := by decide +kernel
theorem d4_60 : decode prog_100_method_6_code 60 = .ok (.iload 5, 2) := by decide +kernel
theorem d4_62 : decode prog_100_method_6_code 62 = .ok (.iload_n 2, 1) := by decide +kernel
theorem d4_63 : decode prog_100_method_6_code 63 = .ok (.if_icmp .ne 7, 3) := by decide +kernel
theorem d4_66 : decode prog_100_method_6_code 66 = .ok (.iconst 1, 1) := by decide +kernel
theorem d4_67 : decode prog_100_method_6_code 67 = .ok (.goto 4, 3) := by decide +kernel
theorem d4_70 : decode prog_100_method_6_code 70 = .ok (.iconst 0, 1) := by decide +kernel
theorem d4_71 : decode prog_100_method_6_code 71 = .ok (.istore 4, 2) := by decide +kernel
theorem d4_73 : decode prog_100_method_6_code 73 = .ok (.iload 4, 2) := by decide +kernel
theorem d4_75 : decode prog_100_method_6_code 75 = .ok (.ireturn, 1) := by decide +kernel
theorem pn4 : plainName "com/example/vestwork/vestwork/io/PlainNumbers" = true := by first | (simp [plainName, overriddenIn]; done) | decide +kernel
theorem ef4 (m : MethodId) (x0 : Addr) (x1 : Int32) (x2 : Int32) : entryFrame m #[(.ref x0), (.int x1), (.int x2)] 6 = mkF m 0 #[.val (.ref x0), .val (.int x1), .val (.int x2), .unset, .unset, .unset] [] := by first | (simp [entryFrame, mkF, argsToLocals, Value.category]; done) | rfl
theorem pd5 : parseMethodDescriptor "([BII)I" = some ⟨[(.array .byte), .int, .int], some .int⟩ := by decide +kernel
set_option maxRecDepth 65536 in
set_option maxHeartbeats 40000000 in
theorem own_m4 (l : Launch) (Z : State) (a0 : Array Value) (hw : ∀ d ∈ tables_1, d.before a0 Z = true) (t : Addr) (f : Int32) (e_ : Int32) (xs : List Int32) (h0 : Heap) (n0 : Nat) (Z_ : n0 ≤ h0.size) (A_t : AI Z h0 t .byte xs) (ht : e_.toInt ≤ xs.length) (he5 : e_.toInt ≤ 5) (hf : 0 ≤ f.toInt) (hfe : f.toInt ≤ e_.toInt) :
    Met l (⟨"com/example/vestwork/vestwork/io/PlainNumbers", "isPlainDecimal", "([BII)Z"⟩ : MethodName) prog_100_method_6_code 6 (some .boolean) [] ({ frames := 1, cells := 0, slots := 0, locals := 15 } : Room) Z n0 #[(.ref t), (.int f), (.int e_)] h0 (fun v h => v = some (.int (own_ipd xs f e_)) ∧ h0 = h) := by
  refine own_met pn4 (fun m => ef4 m t f e_) ?_
  intro p e s m below meth c C
  refine own_aloadN (pc' := 1) C d4_0 rfl rfl rfl ?_
  refine own_iloadN (pc' := 2) C d4_1 rfl rfl ?_
  refine own_iloadN (pc' := 3) C d4_2 rfl rfl ?_
  refine own_callS (pc' := 6) (wL := 0) (argsL := [(.ref t), (.int f), (.int e_)]) (rest := []) C (own_m5 l Z a0 hw t f e_ xs (e_.toInt - f.toInt).toNat h0 n0 Z_ A_t ht hf (by omega)) d4_3 (hw _ (List.mem_of_getElem? (i := 16) rfl)) (hw _ (List.mem_of_getElem? (i := 17) rfl)) (hw _ (List.mem_of_getElem? (i := 14) rfl)) (hw _ (List.mem_of_getElem? (i := 18) rfl)) (by decide) (by decide) (by decide) rfl (lenOf pd5 rfl) rfl rfl (Nat.le_of_eq rfl) (by decide) (by decide) rfl ?_
  rintro _ _ ⟨rfl, rfl⟩
  show Wp p l e _ s m _ below meth c n0 _ h0 0 0 (mkF m 6 #[.val (.ref t), .val (.int f), .val (.int e_), .unset, .unset, .unset] [(.int (own_eod xs (e_.toInt - f.toInt).toNat f))])
  obtain ⟨v3_6, hv3_6⟩ : ∃ z : Int32, z = (own_eod xs (e_.toInt - f.toInt).toNat f) := ⟨_, rfl⟩
  refine own_istoreN (pc' := 7) (y := v3_6) (Ls' := #[.val (.ref t), .val (.int f), .val (.int e_), .val (.int v3_6), .unset, .unset]) C d4_6 hv3_6.symm rfl rfl ?_
  refine own_iloadN (pc' := 8) C d4_7 rfl rfl ?_
  refine own_iloadN (pc' := 9) C d4_8 rfl rfl ?_
  refine own_icmp_le (pt := 21) (pf := 12) C d4_9 (by decide) (by decide) rfl ?_ ?_
  · intro hc9
    refine own_iconst (pc' := 22) (v := (0 : Int32)) C d4_21 own_ki_0 rfl ?_
    refine own_istore (pc' := 24) (y := (0 : Int32)) (Ls' := #[.val (.ref t), .val (.int f), .val (.int e_), .val (.int v3_6), .val (.int (0 : Int32)), .unset]) C d4_22 rfl rfl rfl ?_
    refine own_iloadN (pc' := 25) C d4_24 rfl rfl ?_
    refine own_iloadN (pc' := 26) C d4_25 rfl rfl ?_
    refine own_icmp_le (pt := 73) (pf := 29) C d4_26 (by decide) (by decide) rfl (fun _ => ?_) (fun q => absurd q hc9)
    refine own_iload (pc' := 75) C d4_73 rfl rfl ?_
    refine own_zret C d4_75 (by decide) (by decide) (Or.inl rfl) ?_
    exact ⟨by simp only [own_ipd, ← hv3_6, if_neg hc9], rfl⟩
  · intro hc9
    refine own_iloadN (pc' := 13) C d4_12 rfl rfl ?_
    refine own_iloadN (pc' := 14) C d4_13 rfl rfl ?_
    refine own_icmp_ne (pt := 21) (pf := 17) C d4_14 (by decide) (by decide) rfl ?_ ?_
    · intro hc14
      refine own_iconst (pc' := 22) (v := (0 : Int32)) C d4_21 own_ki_0 rfl ?_
      refine own_istore (pc' := 24) (y := (0 : Int32)) (Ls' := #[.val (.ref t), .val (.int f), .val (.int e_), .val (.int v3_6), .val (.int (0 : Int32)), .unset]) C d4_22 rfl rfl rfl ?_
      refine own_iloadN (pc' := 25) C d4_24 rfl rfl ?_
      refine own_iloadN (pc' := 26) C d4_25 rfl rfl ?_
      refine own_icmp_le (pt := 73) (pf := 29) C d4_26 (by decide) (by decide) rfl (fun q => absurd hc9 q) (fun _ => ?_)
      refine own_iloadN (pc' := 30) C d4_29 rfl rfl ?_
      refine own_iloadN (pc' := 31) C d4_30 rfl rfl ?_
      refine own_icmp_ge (pt := 73) (pf := 34) C d4_31 (by decide) (by decide) rfl ?_ ?_
      · intro hc31
        refine own_iload (pc' := 75) C d4_73 rfl rfl ?_
        refine own_zret C d4_75 (by decide) (by decide) (Or.inl rfl) ?_
        exact ⟨by simp only [own_ipd, ← hv3_6, if_pos hc9, if_neg hc14, if_neg hc31], rfl⟩
      · intro hc31
        refine own_aloadN (pc' := 35) C d4_34 rfl rfl rfl ?_
        refine own_iloadN (pc' := 36) C d4_35 rfl rfl ?_
        refine own_baload (pc' := 37) (v := (xs.getD v3_6.toNatClampNeg 0)) (i := v3_6.toNatClampNeg) C d4_36 A_t (own_in hf ht hc9 hc31).1 rfl (own_get (own_in hf ht hc9 hc31).2) rfl ?_
        refine own_bipush (pc' := 39) (v := (46 : Int32)) C d4_37 own_kb_46 rfl ?_
        refine own_icmp_ne (pt := 73) (pf := 42) C d4_39 (by decide) (by decide) rfl ?_ ?_
        · intro hc39
          refine own_iload (pc' := 75) C d4_73 rfl rfl ?_
          refine own_zret C d4_75 (by decide) (by decide) (Or.inl rfl) ?_
          exact ⟨by simp only [own_ipd, ← hv3_6, if_pos hc9, if_neg hc14, if_pos hc31, if_neg hc39], rfl⟩
        · intro hc39
          refine own_aloadN (pc' := 43) C d4_42 rfl rfl rfl ?_
          refine own_iloadN (pc' := 44) C d4_43 rfl rfl ?_
          refine own_iconst (pc' := 45) (v := (1 : Int32)) C d4_44 own_ki_1 rfl ?_
          refine own_iadd (pc' := 46) C d4_45 rfl rfl ?_
          refine own_iloadN (pc' := 47) C d4_46 rfl rfl ?_
          refine own_callS (pc' := 50) (wL := 0) (argsL := [(.ref t), (.int (v3_6 + (1 : Int32))), (.int e_)]) (rest := []) C (own_m5 l Z a0 hw t (v3_6 + (1 : Int32)) e_ xs (e_.toInt - (v3_6 + (1 : Int32)).toInt).toNat h0 n0 Z_ A_t ht (own_s2 hf he5 hc9 hc31).1 (own_s2 hf he5 hc9 hc31).2) d4_47 (hw _ (List.mem_of_getElem? (i := 16) rfl)) (hw _ (List.mem_of_getElem? (i := 17) rfl)) (hw _ (List.mem_of_getElem? (i := 14) rfl)) (hw _ (List.mem_of_getElem? (i := 18) rfl)) (by decide) (by decide) (by decide) rfl (lenOf pd5 rfl) rfl rfl (Nat.le_of_eq rfl) (by decide) (by decide) rfl ?_
          rintro _ _ ⟨rfl, rfl⟩
          show Wp p l e _ s m _ below meth c n0 _ h0 0 0 (mkF m 50 #[.val (.ref t), .val (.int f), .val (.int e_), .val (.int v3_6), .val (.int (0 : Int32)), .unset] [(.int (own_eod xs (e_.toInt - (v3_6 + (1 : Int32)).toInt).toNat (v3_6 + (1 : Int32))))])
          obtain ⟨v5_50, hv5_50⟩ : ∃ z : Int32, z = (own_eod xs (e_.toInt - (v3_6 + (1 : Int32)).toInt).toNat (v3_6 + (1 : Int32))) := ⟨_, rfl⟩
          refine own_istore (pc' := 52) (y := v5_50) (Ls' := #[.val (.ref t), .val (.int f), .val (.int e_), .val (.int v3_6), .val (.int (0 : Int32)), .val (.int v5_50)]) C d4_50 hv5_50.symm rfl rfl ?_
          refine own_iload (pc' := 54) C d4_52 rfl rfl ?_
          refine own_iloadN (pc' := 55) C d4_54 rfl rfl ?_
          refine own_iconst (pc' := 56) (v := (1 : Int32)) C d4_55 own_ki_1 rfl ?_
          refine own_iadd (pc' := 57) C d4_56 rfl rfl ?_
          refine own_icmp_le (pt := 70) (pf := 60) C d4_57 (by decide) (by decide) rfl ?_ ?_
          · intro hc57
            refine own_iconst (pc' := 71) (v := (0 : Int32)) C d4_70 own_ki_0 rfl ?_
            refine own_istore (pc' := 73) (y := (0 : Int32)) (Ls' := #[.val (.ref t), .val (.int f), .val (.int e_), .val (.int v3_6), .val (.int (0 : Int32)), .val (.int v5_50)]) C d4_71 rfl rfl rfl ?_
            refine own_iload (pc' := 75) C d4_73 rfl rfl ?_
            refine own_zret C d4_75 (by decide) (by decide) (Or.inl rfl) ?_
            exact ⟨by simp only [own_ipd, ← hv3_6, if_pos hc9, if_neg hc14, if_pos hc31, if_pos hc39, ← hv5_50, if_neg hc57], rfl⟩
          · intro hc57
            refine own_iload (pc' := 62) C d4_60 rfl rfl ?_
            refine own_iloadN (pc' := 63) C d4_62 rfl rfl ?_
            refine own_icmp_ne (pt := 70) (pf := 66) C d4_63 (by decide) (by decide) rfl ?_ ?_
            · intro hc63
              refine own_iconst (pc' := 71) (v := (0 : Int32)) C d4_70 own_ki_0 rfl ?_
              refine own_istore (pc' := 73) (y := (0 : Int32)) (Ls' := #[.val (.ref t), .val (.int f), .val (.int e_), .val (.int v3_6), .val (.int (0 : Int32)), .val (.int v5_50)]) C d4_71 rfl rfl rfl ?_
              refine own_iload (pc' := 75) C d4_73 rfl rfl ?_
              refine own_zret C d4_75 (by decide) (by decide) (Or.inl rfl) ?_
              exact ⟨by simp only [own_ipd, ← hv3_6, if_pos hc9, if_neg hc14, if_pos hc31, if_pos hc39, ← hv5_50, if_pos hc57, if_neg hc63], rfl⟩
            · intro hc63
              refine own_iconst (pc' := 67) (v := (1 : Int32)) C d4_66 own_ki_1 rfl ?_
              refine own_goto (pc' := 71) C d4_67 (by decide) (by decide) ?_
              refine own_istore (pc' := 73) (y := (1 : Int32)) (Ls' := #[.val (.ref t), .val (.int f), .val (.int e_), .val (.int v3_6), .val (.int (1 : Int32)), .val (.int v5_50)]) C d4_71 rfl rfl rfl ?_
              refine own_iload (pc' := 75) C d4_73 rfl rfl ?_
              refine own_zret C d4_75 (by decide) (by decide) (Or.inr rfl) ?_
              exact ⟨by simp only [own_ipd, ← hv3_6, if_pos hc9, if_neg hc14, if_pos hc31, if_pos hc39, ← hv5_50, if_pos hc57, if_pos hc63], rfl⟩
    · intro hc14
      refine own_iconst (pc' := 18) (v := (1 : Int32)) C d4_17 own_ki_1 rfl ?_
      refine own_goto (pc' := 22) C d4_18 (by decide) (by decide) ?_
      refine own_istore (pc' := 24) (y := (1 : Int32)) (Ls' := #[.val (.ref t), .val (.int f), .val (.int e_), .val (.int v3_6), .val (.int (1 : Int32)), .unset]) C d4_22 rfl rfl rfl ?_
      refine own_iloadN (pc' := 25) C d4_24 rfl rfl ?_
      refine own_iloadN (pc' := 26) C d4_25 rfl rfl ?_
      refine own_icmp_le (pt := 73) (pf := 29) C d4_26 (by decide) (by decide) rfl (fun q => absurd hc9 q) (fun _ => ?_)
      refine own_iloadN (pc' := 30) C d4_29 rfl rfl ?_
      refine own_iloadN (pc' := 31) C d4_30 rfl rfl ?_
      refine own_icmp_ge (pt := 73) (pf := 34) C d4_31 (by decide) (by decide) rfl (fun _ => ?_) (fun q => absurd q (own_nlt hc14))
      refine own_iload (pc' := 75) C d4_73 rfl rfl ?_
      refine own_zret C d4_75 (by decide) (by decide) (Or.inr rfl) ?_
      exact ⟨by simp only [own_ipd, ← hv3_6, if_pos hc9, if_pos hc14], rfl⟩

theorem own_ft {x z f t : Int32} (hf : f = ((x &&& (2147483647 : Int32)) % (6 : Int32))) (ht : t = (f + ((z &&& (2147483647 : Int32)) % ((6 : Int32) - f)))) : 0 ≤ f.toInt ∧ f.toInt ≤ 5 ∧ f.toInt ≤ t.toInt ∧ t.toInt ≤ 5 := by
  have a1 := c_mask x 2147483647 31 (by decide) (by decide)
  have a2 := c_irem (x &&& 2147483647) 6 6 rfl
  have a4 := rng32 x
  have k6 : (6 : Int32).toInt = 6 := rfl
  rw [← hf] at a2
  have b0 : 0 ≤ f.toInt ∧ f.toInt ≤ 5 := by omega
  have b1 := c_isub 6 f
  have b2 := rng32 (6 - f)
  have b3 := c_mask z 2147483647 31 (by decide) (by decide)
  have b4 := rng32 z
  have b5 := (c_iremV (z &&& 2147483647) (6 - f)).1 (by omega) (by omega)
  have b8 := c_iadd f ((z &&& 2147483647) % (6 - f))
  rw [← ht] at b8
  have b9 := rng32 t
  omega
theorem own_six {x f : Int32} (hf : f = ((x &&& (2147483647 : Int32)) % (6 : Int32))) : (6 : Int32) - f ≠ 0 := by
  have h := own_ft hf rfl (z := 0)
  intro q
  have b1 := c_isub 6 f
  have k6 : (6 : Int32).toInt = 6 := rfl
  rw [q] at b1
  have k0 : (0 : Int32).toInt = 0 := rfl
  omega
theorem own_i1 {x z f t y0 y1 y2 y3 y4 : Int32} (hf : f = ((x &&& (2147483647 : Int32)) % (6 : Int32))) (ht : t = (f + ((z &&& (2147483647 : Int32)) % ((6 : Int32) - f)))) (h : f < t) : ¬ f < 0 ∧ f.toNatClampNeg < [y0, y1, y2, y3, y4].length ∧ ¬ (t - 1) < 0 ∧ (t - 1).toNatClampNeg < [y0, y1, y2, y3, y4].length := by
  have q := own_ft hf ht
  rw [Int32.lt_iff_toInt_lt] at h
  have b := c_isub t 1; have r := rng32 (t - 1); have k1 : (1 : Int32).toInt = 1 := rfl
  have k0 : (0 : Int32).toInt = 0 := rfl
  simp only [Int32.lt_iff_toInt_lt, Int32.toNatClampNeg, List.length]
  omega
theorem own_kd (y : Int32) : own_f6 y = if own_isd y = true then 0 else if own_isp y = true then 1 else 2 := by
  simp only [own_f6, own_isd, own_isp]
  by_cases a : y < 48 <;> by_cases b : 57 < y <;> by_cases c : y = 46 <;> simp [a, b, c]
theorem own_dp (y : Int32) : (own_isd y && own_isp y) = false := by
  simp only [own_isd, own_isp]
  by_cases c : y = 46
  · subst c; decide
  · simp [c]
def own_eodB (ds : List Bool) : Nat → Int32 → Int32
  | 0, i => i
  | n + 1, i => if ds.getD i.toNatClampNeg false = true then own_eodB ds n (i + 1) else i
theorem own_gm (g : Int32 → Bool) (h0 : g 0 = false) (xs : List Int32) (i : Nat) : (xs.map g).getD i false = g (xs.getD i 0) := by
  simp only [List.getD_eq_getElem?_getD, List.getElem?_map]
  cases xs[i]? <;> simp [h0]
theorem own_eodE (xs : List Int32) : ∀ (n : Nat) (i : Int32), own_eod xs n i = own_eodB (xs.map own_isd) n i
  | 0, i => rfl
  | n + 1, i => by rw [own_eod, own_eodB, own_gm own_isd (by decide), own_eodE xs n]
def own_ipdB (ds ps : List Bool) (f e : Int32) : Int32 := if f < own_eodB ds (e.toInt - f.toInt).toNat f then (if own_eodB ds (e.toInt - f.toInt).toNat f = e then 1 else if own_eodB ds (e.toInt - f.toInt).toNat f < e then (if ps.getD (own_eodB ds (e.toInt - f.toInt).toNat f).toNatClampNeg false = true then (if own_eodB ds (e.toInt - f.toInt).toNat f + 1 < own_eodB ds (e.toInt - (own_eodB ds (e.toInt - f.toInt).toNat f + 1).toInt).toNat (own_eodB ds (e.toInt - f.toInt).toNat f + 1) then (if own_eodB ds (e.toInt - (own_eodB ds (e.toInt - f.toInt).toNat f + 1).toInt).toNat (own_eodB ds (e.toInt - f.toInt).toNat f + 1) = e then 1 else 0) else 0) else 0) else 0) else 0
theorem own_ipdE (xs : List Int32) (f e : Int32) : own_ipd xs f e = own_ipdB (xs.map own_isd) (xs.map own_isp) f e := by
  have hp : ∀ i : Nat, (xs.getD i 0 = 46) ↔ ((xs.map own_isp).getD i false = true) := fun i => by rw [own_gm own_isp (by decide)]; simp [own_isp]
  simp only [own_ipd, own_ipdB, own_eodE, hp]
def own_badB (d p : Bool) (i f t : Int32) : Int32 := if i < f then 0 else if i < t then (if d = true then 0 else if p = true then 0 else 1) else 0
def own_ptB (d p : Bool) (i f t : Int32) : Int32 := if i < f then 0 else if i < t then (if d = true then 0 else if p = true then 1 else 0) else 0
theorem own_badE (x i f t : Int32) : own_bad x i f t = own_badB (own_isd x) (own_isp x) i f t := by
  simp only [own_bad, own_badB, own_kd]
  cases own_isd x <;> cases own_isp x <;> simp
theorem own_ptE (x i f t : Int32) : own_pt x i f t = own_ptB (own_isd x) (own_isp x) i f t := by
  simp only [own_pt, own_ptB, own_kd]
  cases own_isd x <;> cases own_isp x <;> simp
theorem own_k0 (y : Int32) : (own_f6 y = 0) ↔ (own_isd y = true) := by
  rw [own_kd]; cases own_isd y <;> cases own_isp y <;> simp
def own_rhsB (d0 p0 d1 p1 d2 p2 d3 p3 d4 p4 : Bool) (f t : Int32) : Int32 :=
  if f < t then (if (own_badB d0 p0 0 f t + own_badB d1 p1 1 f t + own_badB d2 p2 2 f t + own_badB d3 p3 3 f t + own_badB d4 p4 4 f t) = 0 then (if 1 < (own_ptB d0 p0 0 f t + own_ptB d1 p1 1 f t + own_ptB d2 p2 2 f t + own_ptB d3 p3 3 f t + own_ptB d4 p4 4 f t) then 0 else (if [d0, d1, d2, d3, d4].getD f.toNatClampNeg false = true then (if [d0, d1, d2, d3, d4].getD (t - 1).toNatClampNeg false = true then 1 else 0) else 0)) else 0) else 0
set_option maxRecDepth 65536 in
theorem own_fin : ∀ f t : Fin 6, f.val ≤ t.val → ∀ d0 p0 d1 p1 d2 p2 d3 p3 d4 p4 : Bool, (d0 && p0) = false → (d1 && p1) = false → (d2 && p2) = false → (d3 && p3) = false → (d4 && p4) = false → own_ipdB [d0, d1, d2, d3, d4] [p0, p1, p2, p3, p4] (Int32.ofNat f.val) (Int32.ofNat t.val) = own_rhsB d0 p0 d1 p1 d2 p2 d3 p3 d4 p4 (Int32.ofNat f.val) (Int32.ofNat t.val) := by decide +kernel
theorem own_plain {x z f t y0 y1 y2 y3 y4 bd pt r : Int32} (hf : f = ((x &&& (2147483647 : Int32)) % (6 : Int32))) (ht : t = (f + ((z &&& (2147483647 : Int32)) % ((6 : Int32) - f))))
    (hb : bd = ((((own_bad y0 0 f t + own_bad y1 1 f t) + own_bad y2 2 f t) + own_bad y3 3 f t) + own_bad y4 4 f t)) (hp : pt = ((((own_pt y0 0 f t + own_pt y1 1 f t) + own_pt y2 2 f t) + own_pt y3 3 f t) + own_pt y4 4 f t))
    (hr : r = (if f < t then (if bd = 0 then (if (1 : Int32) < pt then (0 : Int32) else (if own_f6 ([y0, y1, y2, y3, y4].getD f.toNatClampNeg 0) = 0 then (if own_f6 ([y0, y1, y2, y3, y4].getD (t - 1).toNatClampNeg 0) = 0 then (1 : Int32) else (0 : Int32)) else (0 : Int32))) else (0 : Int32)) else (0 : Int32))) : own_ipd [y0, y1, y2, y3, y4] f t = r := by
  have q := own_ft hf ht
  have hd : ∀ i : Nat, (own_isd ([y0, y1, y2, y3, y4].getD i 0) = true) ↔ ([own_isd y0, own_isd y1, own_isd y2, own_isd y3, own_isd y4].getD i false = true) := fun i => by rw [← own_gm own_isd (by decide)]; rfl
  have key := own_fin ⟨f.toInt.toNat, by omega⟩ ⟨t.toInt.toNat, by omega⟩ (by show f.toInt.toNat ≤ t.toInt.toNat; omega) _ _ _ _ _ _ _ _ _ _ (own_dp y0) (own_dp y1) (own_dp y2) (own_dp y3) (own_dp y4)
  have ef : Int32.ofNat f.toInt.toNat = f := by
    rw [← Int32.toInt_inj]
    have := len_toInt (n := f.toInt.toNat) (by omega)
    show (Int32.ofNat f.toInt.toNat).toInt = _
    have e2 : (Int32.ofNat f.toInt.toNat).toInt = (f.toInt.toNat : Int) := this
    omega
  have et : Int32.ofNat t.toInt.toNat = t := by
    rw [← Int32.toInt_inj]
    have := len_toInt (n := t.toInt.toNat) (by omega)
    have e2 : (Int32.ofNat t.toInt.toNat).toInt = (t.toInt.toNat : Int) := this
    omega
  simp only [ef, et] at key
  rw [own_ipdE, hr, hb, hp]
  simp only [own_badE, own_ptE, own_k0, hd]
  exact key

theorem pn0 : plainName "com/example/vestwork/vestwork/io/PlainNumbersIsPlainDecimalPinLaw" = true := by first | (simp [plainName, overriddenIn]; done) | decide +kernel
theorem ef0 (m : MethodId) (x0 : Int32) (x1 : Int32) (x2 : Int32) (x3 : Int32) (x4 : Int32) (x5 : Int32) : entryFrame m #[(.int x0), (.int x1), (.int x2), (.int x3), (.int x4), (.int x5)] maxLocals = mkF m 0 #[.val (.int x0), .val (.int x1), .val (.int x2), .val (.int x3), .val (.int x4), .val (.int x5), .unset, .unset, .unset, .unset, .unset, .unset] [] := by first | (simp [entryFrame, mkF, argsToLocals, Value.category, maxLocals]; done) | rfl
theorem pd1 : parseMethodDescriptor "(I)B" = some ⟨[.int], some .byte⟩ := by decide +kernel
theorem pd2 : parseMethodDescriptor "([BIII)I" = some ⟨[(.array .byte), .int, .int, .int], some .int⟩ := by decide +kernel
theorem pd3 : parseMethodDescriptor "([BIII)I" = some ⟨[(.array .byte), .int, .int, .int], some .int⟩ := by decide +kernel
theorem pd4 : parseMethodDescriptor "([BII)Z" = some ⟨[(.array .byte), .int, .int], some .boolean⟩ := by decide +kernel
theorem own_ki_5 : Int32.ofInt (5) = (5 : Int32) := by decide
theorem own_ki_4 : Int32.ofInt (4) = (4 : Int32) := by decide
theorem own_kb_6 : (Int8.ofInt (6)).toInt32 = (6 : Int32) := by decide
theorem own_kb_8 : (Int8.ofInt (8)).toInt32 = (8 : Int32) := by decide
theorem own_siushr_8 (x : Int32) : (x.toUInt32 >>> ((8 : Int32) &&& 31).toUInt32).toInt32 = (x.toUInt32 >>> (8 : UInt32)).toInt32 := by rw [show ((8 : Int32) &&& 31).toUInt32 = (8 : UInt32) from by decide]
set_option maxRecDepth 65536 in
set_option maxHeartbeats 40000000 in
theorem own_law (l : Launch) (Z : State) (a0 : Array Value) (hw : ∀ d ∈ tables_1, d.before a0 Z = true) (ws : List Jvm.Cond) (p0 : Int32) (p1 : Int32) (p2 : Int32) (p3 : Int32) (p4 : Int32) (p5 : Int32)  (h0 : Heap) (n0 : Nat) (Z_ : n0 ≤ h0.size)  :
    Met l x code maxLocals ret ws room_1 Z n0 #[(.int p0), (.int p1), (.int p2), (.int p3), (.int p4), (.int p5)] h0 (fun v h => v = some (.int 1)) := by
  refine own_met pn0 (fun m => ef0 m p0 p1 p2 p3 p4 p5) ?_
  intro p e s m below meth c C0
  have C : Cx p s m meth c Z code 12 (some .boolean) "com/example/vestwork/vestwork/io/PlainNumbersIsPlainDecimalPinLaw" "law" := C0
  refine own_iconst (pc' := 1) (v := (5 : Int32)) C at_0 own_ki_5 rfl ?_
  refine own_newI (pc' := 3) (len := 5) (cap := 5) C at_1 rfl rfl (hw _ (List.mem_of_getElem? (i := 0) rfl)) (by decide) rfl (by decide) (by decide) (by decide) (by decide) rfl ?_
  intro h1 b1 g1 X1 A_b1
  have g_b1 : n0 ≤ b1 := g1 ▸ Z_
  replace Z_ := Nat.le_trans Z_ X1.1
  replace A_b1 : AI Z h1 b1 .byte [(0 : Int32), (0 : Int32), (0 : Int32), (0 : Int32), (0 : Int32)] := A_b1
  refine own_astore (pc' := 5) (Ls' := #[.val (.int p0), .val (.int p1), .val (.int p2), .val (.int p3), .val (.int p4), .val (.int p5), .val (.ref b1), .unset, .unset, .unset, .unset, .unset]) C at_3 rfl rfl rfl ?_
  refine own_aload (pc' := 7) C at_5 rfl rfl rfl ?_
  refine own_iconst (pc' := 8) (v := (0 : Int32)) C at_7 own_ki_0 rfl ?_
  refine own_iloadN (pc' := 9) C at_8 rfl rfl ?_
  refine own_callS (pc' := 12) (wL := 2) (argsL := [(.int p0)]) (rest := [(.int (0 : Int32)), (.ref b1)]) C (own_m1 l Z a0 hw p0 h1 n0 Z_) at_9 (hw _ (List.mem_of_getElem? (i := 1) rfl)) (hw _ (List.mem_of_getElem? (i := 2) rfl)) (hw _ (List.mem_of_getElem? (i := 3) rfl)) (hw _ (List.mem_of_getElem? (i := 4) rfl)) (by decide) (by decide) (by decide) rfl (lenOf pd1 rfl) rfl rfl (Nat.le_of_eq rfl) (by decide) (by decide) rfl ?_
  rintro _ _ ⟨rfl, rfl⟩
  show Wp p l e _ s m _ below meth c n0 _ h1 (0 + 1) (0 + 5) (mkF m 12 #[.val (.int p0), .val (.int p1), .val (.int p2), .val (.int p3), .val (.int p4), .val (.int p5), .val (.ref b1), .unset, .unset, .unset, .unset, .unset] [(.int (own_f1 p0)), (.int (0 : Int32)), (.ref b1)])
  obtain ⟨y12, hy12⟩ : ∃ z : Int32, z = (nar .byte (own_f1 p0)) := ⟨_, rfl⟩
  refine own_bastore (pc' := 13) (i := 0) (ys := [y12, (0 : Int32), (0 : Int32), (0 : Int32), (0 : Int32)]) C at_12 A_b1 (by decide) rfl (Nat.le_of_ble_eq_true rfl) (by rw [hy12]; rfl) g_b1 rfl ?_
  intro h2 W2 A2_
  replace A_b1 := A2_
  replace Z_ : n0 ≤ _ := Nat.le_trans Z_ (Nat.le_of_eq W2.size.symm)
  refine own_aload (pc' := 15) C at_13 rfl rfl rfl ?_
  refine own_iconst (pc' := 16) (v := (1 : Int32)) C at_15 own_ki_1 rfl ?_
  refine own_iloadN (pc' := 17) C at_16 rfl rfl ?_
  refine own_callS (pc' := 20) (wL := 2) (argsL := [(.int p1)]) (rest := [(.int (1 : Int32)), (.ref b1)]) C (own_m1 l Z a0 hw p1 h2 n0 Z_) at_17 (hw _ (List.mem_of_getElem? (i := 1) rfl)) (hw _ (List.mem_of_getElem? (i := 2) rfl)) (hw _ (List.mem_of_getElem? (i := 3) rfl)) (hw _ (List.mem_of_getElem? (i := 4) rfl)) (by decide) (by decide) (by decide) rfl (lenOf pd1 rfl) rfl rfl (Nat.le_of_eq rfl) (by decide) (by decide) rfl ?_
  rintro _ _ ⟨rfl, rfl⟩
  show Wp p l e _ s m _ below meth c n0 _ h2 (0 + 1) (0 + 5) (mkF m 20 #[.val (.int p0), .val (.int p1), .val (.int p2), .val (.int p3), .val (.int p4), .val (.int p5), .val (.ref b1), .unset, .unset, .unset, .unset, .unset] [(.int (own_f1 p1)), (.int (1 : Int32)), (.ref b1)])
  obtain ⟨y20, hy20⟩ : ∃ z : Int32, z = (nar .byte (own_f1 p1)) := ⟨_, rfl⟩
  refine own_bastore (pc' := 21) (i := 1) (ys := [y12, y20, (0 : Int32), (0 : Int32), (0 : Int32)]) C at_20 A_b1 (by decide) rfl (Nat.le_of_ble_eq_true rfl) (by rw [hy20]; rfl) g_b1 rfl ?_
  intro h3 W3 A3_
  replace A_b1 := A3_
  replace Z_ : n0 ≤ _ := Nat.le_trans Z_ (Nat.le_of_eq W3.size.symm)
  refine own_aload (pc' := 23) C at_21 rfl rfl rfl ?_
  refine own_iconst (pc' := 24) (v := (2 : Int32)) C at_23 own_ki_2 rfl ?_
  refine own_iloadN (pc' := 25) C at_24 rfl rfl ?_
  refine own_callS (pc' := 28) (wL := 2) (argsL := [(.int p2)]) (rest := [(.int (2 : Int32)), (.ref b1)]) C (own_m1 l Z a0 hw p2 h3 n0 Z_) at_25 (hw _ (List.mem_of_getElem? (i := 1) rfl)) (hw _ (List.mem_of_getElem? (i := 2) rfl)) (hw _ (List.mem_of_getElem? (i := 3) rfl)) (hw _ (List.mem_of_getElem? (i := 4) rfl)) (by decide) (by decide) (by decide) rfl (lenOf pd1 rfl) rfl rfl (Nat.le_of_eq rfl) (by decide) (by decide) rfl ?_
  rintro _ _ ⟨rfl, rfl⟩
  show Wp p l e _ s m _ below meth c n0 _ h3 (0 + 1) (0 + 5) (mkF m 28 #[.val (.int p0), .val (.int p1), .val (.int p2), .val (.int p3), .val (.int p4), .val (.int p5), .val (.ref b1), .unset, .unset, .unset, .unset, .unset] [(.int (own_f1 p2)), (.int (2 : Int32)), (.ref b1)])
  obtain ⟨y28, hy28⟩ : ∃ z : Int32, z = (nar .byte (own_f1 p2)) := ⟨_, rfl⟩
  refine own_bastore (pc' := 29) (i := 2) (ys := [y12, y20, y28, (0 : Int32), (0 : Int32)]) C at_28 A_b1 (by decide) rfl (Nat.le_of_ble_eq_true rfl) (by rw [hy28]; rfl) g_b1 rfl ?_
  intro h4 W4 A4_
  replace A_b1 := A4_
  replace Z_ : n0 ≤ _ := Nat.le_trans Z_ (Nat.le_of_eq W4.size.symm)
  refine own_aload (pc' := 31) C at_29 rfl rfl rfl ?_
  refine own_iconst (pc' := 32) (v := (3 : Int32)) C at_31 own_ki_3 rfl ?_
  refine own_iloadN (pc' := 33) C at_32 rfl rfl ?_
  refine own_callS (pc' := 36) (wL := 2) (argsL := [(.int p3)]) (rest := [(.int (3 : Int32)), (.ref b1)]) C (own_m1 l Z a0 hw p3 h4 n0 Z_) at_33 (hw _ (List.mem_of_getElem? (i := 1) rfl)) (hw _ (List.mem_of_getElem? (i := 2) rfl)) (hw _ (List.mem_of_getElem? (i := 3) rfl)) (hw _ (List.mem_of_getElem? (i := 4) rfl)) (by decide) (by decide) (by decide) rfl (lenOf pd1 rfl) rfl rfl (Nat.le_of_eq rfl) (by decide) (by decide) rfl ?_
  rintro _ _ ⟨rfl, rfl⟩
  show Wp p l e _ s m _ below meth c n0 _ h4 (0 + 1) (0 + 5) (mkF m 36 #[.val (.int p0), .val (.int p1), .val (.int p2), .val (.int p3), .val (.int p4), .val (.int p5), .val (.ref b1), .unset, .unset, .unset, .unset, .unset] [(.int (own_f1 p3)), (.int (3 : Int32)), (.ref b1)])
  obtain ⟨y36, hy36⟩ : ∃ z : Int32, z = (nar .byte (own_f1 p3)) := ⟨_, rfl⟩
  refine own_bastore (pc' := 37) (i := 3) (ys := [y12, y20, y28, y36, (0 : Int32)]) C at_36 A_b1 (by decide) rfl (Nat.le_of_ble_eq_true rfl) (by rw [hy36]; rfl) g_b1 rfl ?_
  intro h5 W5 A5_
  replace A_b1 := A5_
  replace Z_ : n0 ≤ _ := Nat.le_trans Z_ (Nat.le_of_eq W5.size.symm)
  refine own_aload (pc' := 39) C at_37 rfl rfl rfl ?_
  refine own_iconst (pc' := 40) (v := (4 : Int32)) C at_39 own_ki_4 rfl ?_
  refine own_iload (pc' := 42) C at_40 rfl rfl ?_
  refine own_callS (pc' := 45) (wL := 2) (argsL := [(.int p4)]) (rest := [(.int (4 : Int32)), (.ref b1)]) C (own_m1 l Z a0 hw p4 h5 n0 Z_) at_42 (hw _ (List.mem_of_getElem? (i := 1) rfl)) (hw _ (List.mem_of_getElem? (i := 2) rfl)) (hw _ (List.mem_of_getElem? (i := 3) rfl)) (hw _ (List.mem_of_getElem? (i := 4) rfl)) (by decide) (by decide) (by decide) rfl (lenOf pd1 rfl) rfl rfl (Nat.le_of_eq rfl) (by decide) (by decide) rfl ?_
  rintro _ _ ⟨rfl, rfl⟩
  show Wp p l e _ s m _ below meth c n0 _ h5 (0 + 1) (0 + 5) (mkF m 45 #[.val (.int p0), .val (.int p1), .val (.int p2), .val (.int p3), .val (.int p4), .val (.int p5), .val (.ref b1), .unset, .unset, .unset, .unset, .unset] [(.int (own_f1 p4)), (.int (4 : Int32)), (.ref b1)])
  obtain ⟨y45, hy45⟩ : ∃ z : Int32, z = (nar .byte (own_f1 p4)) := ⟨_, rfl⟩
  refine own_bastore (pc' := 46) (i := 4) (ys := [y12, y20, y28, y36, y45]) C at_45 A_b1 (by decide) rfl (Nat.le_of_ble_eq_true rfl) (by rw [hy45]; rfl) g_b1 rfl ?_
  intro h6 W6 A6_
  replace A_b1 := A6_
  replace Z_ : n0 ≤ _ := Nat.le_trans Z_ (Nat.le_of_eq W6.size.symm)
  refine own_iload (pc' := 48) C at_46 rfl rfl ?_
  refine own_ldc (pc' := 50) (v := (2147483647 : Int32)) C at_48 (hw _ (List.mem_of_getElem? (i := 5) rfl)) rfl ?_
  refine own_iand (pc' := 51) C at_50 rfl rfl ?_
  refine own_bipush (pc' := 53) (v := (6 : Int32)) C at_51 own_kb_6 rfl ?_
  refine own_irem (pc' := 54) C at_53 (by decide) rfl rfl ?_
  obtain ⟨v7_54, hv7_54⟩ : ∃ z : Int32, z = ((p5 &&& (2147483647 : Int32)) % (6 : Int32)) := ⟨_, rfl⟩
  refine own_istore (pc' := 56) (y := v7_54) (Ls' := #[.val (.int p0), .val (.int p1), .val (.int p2), .val (.int p3), .val (.int p4), .val (.int p5), .val (.ref b1), .val (.int v7_54), .unset, .unset, .unset, .unset]) C at_54 hv7_54.symm rfl rfl ?_
  refine own_iload (pc' := 58) C at_56 rfl rfl ?_
  refine own_iload (pc' := 60) C at_58 rfl rfl ?_
  refine own_bipush (pc' := 62) (v := (8 : Int32)) C at_60 own_kb_8 rfl ?_
  refine own_iushr (pc' := 63) (v := (p5.toUInt32 >>> (8 : UInt32)).toInt32) C at_62 (own_siushr_8 _) rfl ?_
  refine own_ldc (pc' := 65) (v := (2147483647 : Int32)) C at_63 (hw _ (List.mem_of_getElem? (i := 5) rfl)) rfl ?_
  refine own_iand (pc' := 66) C at_65 rfl rfl ?_
  refine own_bipush (pc' := 68) (v := (6 : Int32)) C at_66 own_kb_6 rfl ?_
  refine own_iload (pc' := 70) C at_68 rfl rfl ?_
  refine own_isub (pc' := 71) C at_70 rfl rfl ?_
  refine own_irem (pc' := 72) C at_71 (own_six hv7_54) rfl rfl ?_
  refine own_iadd (pc' := 73) C at_72 rfl rfl ?_
  obtain ⟨v8_73, hv8_73⟩ : ∃ z : Int32, z = (v7_54 + (((p5.toUInt32 >>> (8 : UInt32)).toInt32 &&& (2147483647 : Int32)) % ((6 : Int32) - v7_54))) := ⟨_, rfl⟩
  refine own_istore (pc' := 75) (y := v8_73) (Ls' := #[.val (.int p0), .val (.int p1), .val (.int p2), .val (.int p3), .val (.int p4), .val (.int p5), .val (.ref b1), .val (.int v7_54), .val (.int v8_73), .unset, .unset, .unset]) C at_73 hv8_73.symm rfl rfl ?_
  refine own_aload (pc' := 77) C at_75 rfl rfl rfl ?_
  refine own_iconst (pc' := 78) (v := (0 : Int32)) C at_77 own_ki_0 rfl ?_
  refine own_iload (pc' := 80) C at_78 rfl rfl ?_
  refine own_iload (pc' := 82) C at_80 rfl rfl ?_
  refine own_callS (pc' := 85) (wL := 0) (argsL := [(.ref b1), (.int (0 : Int32)), (.int v7_54), (.int v8_73)]) (rest := []) C (own_bad0 l Z a0 hw b1 v7_54 v8_73 y12 y20 y28 y36 y45 h6 n0 Z_ A_b1) at_82 (hw _ (List.mem_of_getElem? (i := 6) rfl)) (hw _ (List.mem_of_getElem? (i := 7) rfl)) (hw _ (List.mem_of_getElem? (i := 3) rfl)) (hw _ (List.mem_of_getElem? (i := 8) rfl)) (by decide) (by decide) (by decide) rfl (lenOf pd2 rfl) rfl rfl (Nat.le_of_eq rfl) (by decide) (by decide) rfl ?_
  rintro _ _ ⟨rfl, rfl⟩
  show Wp p l e _ s m _ below meth c n0 _ h6 (0 + 1) (0 + 5) (mkF m 85 #[.val (.int p0), .val (.int p1), .val (.int p2), .val (.int p3), .val (.int p4), .val (.int p5), .val (.ref b1), .val (.int v7_54), .val (.int v8_73), .unset, .unset, .unset] [(.int (own_bad y12 0 v7_54 v8_73))])
  refine own_aload (pc' := 87) C at_85 rfl rfl rfl ?_
  refine own_iconst (pc' := 88) (v := (1 : Int32)) C at_87 own_ki_1 rfl ?_
  refine own_iload (pc' := 90) C at_88 rfl rfl ?_
  refine own_iload (pc' := 92) C at_90 rfl rfl ?_
  refine own_callS (pc' := 95) (wL := 1) (argsL := [(.ref b1), (.int (1 : Int32)), (.int v7_54), (.int v8_73)]) (rest := [(.int (own_bad y12 0 v7_54 v8_73))]) C (own_bad1 l Z a0 hw b1 v7_54 v8_73 y12 y20 y28 y36 y45 h6 n0 Z_ A_b1) at_92 (hw _ (List.mem_of_getElem? (i := 6) rfl)) (hw _ (List.mem_of_getElem? (i := 7) rfl)) (hw _ (List.mem_of_getElem? (i := 3) rfl)) (hw _ (List.mem_of_getElem? (i := 8) rfl)) (by decide) (by decide) (by decide) rfl (lenOf pd2 rfl) rfl rfl (Nat.le_of_eq rfl) (by decide) (by decide) rfl ?_
  rintro _ _ ⟨rfl, rfl⟩
  show Wp p l e _ s m _ below meth c n0 _ h6 (0 + 1) (0 + 5) (mkF m 95 #[.val (.int p0), .val (.int p1), .val (.int p2), .val (.int p3), .val (.int p4), .val (.int p5), .val (.ref b1), .val (.int v7_54), .val (.int v8_73), .unset, .unset, .unset] [(.int (own_bad y20 1 v7_54 v8_73)), (.int (own_bad y12 0 v7_54 v8_73))])
  refine own_iadd (pc' := 96) C at_95 rfl rfl ?_
  refine own_aload (pc' := 98) C at_96 rfl rfl rfl ?_
  refine own_iconst (pc' := 99) (v := (2 : Int32)) C at_98 own_ki_2 rfl ?_
  refine own_iload (pc' := 101) C at_99 rfl rfl ?_
  refine own_iload (pc' := 103) C at_101 rfl rfl ?_
  refine own_callS (pc' := 106) (wL := 1) (argsL := [(.ref b1), (.int (2 : Int32)), (.int v7_54), (.int v8_73)]) (rest := [(.int ((own_bad y12 0 v7_54 v8_73) + (own_bad y20 1 v7_54 v8_73)))]) C (own_bad2 l Z a0 hw b1 v7_54 v8_73 y12 y20 y28 y36 y45 h6 n0 Z_ A_b1) at_103 (hw _ (List.mem_of_getElem? (i := 6) rfl)) (hw _ (List.mem_of_getElem? (i := 7) rfl)) (hw _ (List.mem_of_getElem? (i := 3) rfl)) (hw _ (List.mem_of_getElem? (i := 8) rfl)) (by decide) (by decide) (by decide) rfl (lenOf pd2 rfl) rfl rfl (Nat.le_of_eq rfl) (by decide) (by decide) rfl ?_
  rintro _ _ ⟨rfl, rfl⟩
  show Wp p l e _ s m _ below meth c n0 _ h6 (0 + 1) (0 + 5) (mkF m 106 #[.val (.int p0), .val (.int p1), .val (.int p2), .val (.int p3), .val (.int p4), .val (.int p5), .val (.ref b1), .val (.int v7_54), .val (.int v8_73), .unset, .unset, .unset] [(.int (own_bad y28 2 v7_54 v8_73)), (.int ((own_bad y12 0 v7_54 v8_73) + (own_bad y20 1 v7_54 v8_73)))])
  refine own_iadd (pc' := 107) C at_106 rfl rfl ?_
  refine own_aload (pc' := 109) C at_107 rfl rfl rfl ?_
  refine own_iconst (pc' := 110) (v := (3 : Int32)) C at_109 own_ki_3 rfl ?_
  refine own_iload (pc' := 112) C at_110 rfl rfl ?_
  refine own_iload (pc' := 114) C at_112 rfl rfl ?_
  refine own_callS (pc' := 117) (wL := 1) (argsL := [(.ref b1), (.int (3 : Int32)), (.int v7_54), (.int v8_73)]) (rest := [(.int (((own_bad y12 0 v7_54 v8_73) + (own_bad y20 1 v7_54 v8_73)) + (own_bad y28 2 v7_54 v8_73)))]) C (own_bad3 l Z a0 hw b1 v7_54 v8_73 y12 y20 y28 y36 y45 h6 n0 Z_ A_b1) at_114 (hw _ (List.mem_of_getElem? (i := 6) rfl)) (hw _ (List.mem_of_getElem? (i := 7) rfl)) (hw _ (List.mem_of_getElem? (i := 3) rfl)) (hw _ (List.mem_of_getElem? (i := 8) rfl)) (by decide) (by decide) (by decide) rfl (lenOf pd2 rfl) rfl rfl (Nat.le_of_eq rfl) (by decide) (by decide) rfl ?_
  rintro _ _ ⟨rfl, rfl⟩
  show Wp p l e _ s m _ below meth c n0 _ h6 (0 + 1) (0 + 5) (mkF m 117 #[.val (.int p0), .val (.int p1), .val (.int p2), .val (.int p3), .val (.int p4), .val (.int p5), .val (.ref b1), .val (.int v7_54), .val (.int v8_73), .unset, .unset, .unset] [(.int (own_bad y36 3 v7_54 v8_73)), (.int (((own_bad y12 0 v7_54 v8_73) + (own_bad y20 1 v7_54 v8_73)) + (own_bad y28 2 v7_54 v8_73)))])
  refine own_iadd (pc' := 118) C at_117 rfl rfl ?_
  refine own_aload (pc' := 120) C at_118 rfl rfl rfl ?_
  refine own_iconst (pc' := 121) (v := (4 : Int32)) C at_120 own_ki_4 rfl ?_
  refine own_iload (pc' := 123) C at_121 rfl rfl ?_
  refine own_iload (pc' := 125) C at_123 rfl rfl ?_
  refine own_callS (pc' := 128) (wL := 1) (argsL := [(.ref b1), (.int (4 : Int32)), (.int v7_54), (.int v8_73)]) (rest := [(.int ((((own_bad y12 0 v7_54 v8_73) + (own_bad y20 1 v7_54 v8_73)) + (own_bad y28 2 v7_54 v8_73)) + (own_bad y36 3 v7_54 v8_73)))]) C (own_bad4 l Z a0 hw b1 v7_54 v8_73 y12 y20 y28 y36 y45 h6 n0 Z_ A_b1) at_125 (hw _ (List.mem_of_getElem? (i := 6) rfl)) (hw _ (List.mem_of_getElem? (i := 7) rfl)) (hw _ (List.mem_of_getElem? (i := 3) rfl)) (hw _ (List.mem_of_getElem? (i := 8) rfl)) (by decide) (by decide) (by decide) rfl (lenOf pd2 rfl) rfl rfl (Nat.le_of_eq rfl) (by decide) (by decide) rfl ?_
  rintro _ _ ⟨rfl, rfl⟩
  show Wp p l e _ s m _ below meth c n0 _ h6 (0 + 1) (0 + 5) (mkF m 128 #[.val (.int p0), .val (.int p1), .val (.int p2), .val (.int p3), .val (.int p4), .val (.int p5), .val (.ref b1), .val (.int v7_54), .val (.int v8_73), .unset, .unset, .unset] [(.int (own_bad y45 4 v7_54 v8_73)), (.int ((((own_bad y12 0 v7_54 v8_73) + (own_bad y20 1 v7_54 v8_73)) + (own_bad y28 2 v7_54 v8_73)) + (own_bad y36 3 v7_54 v8_73)))])
  refine own_iadd (pc' := 129) C at_128 rfl rfl ?_
  obtain ⟨v9_129, hv9_129⟩ : ∃ z : Int32, z = (((((own_bad y12 0 v7_54 v8_73) + (own_bad y20 1 v7_54 v8_73)) + (own_bad y28 2 v7_54 v8_73)) + (own_bad y36 3 v7_54 v8_73)) + (own_bad y45 4 v7_54 v8_73)) := ⟨_, rfl⟩
  refine own_istore (pc' := 131) (y := v9_129) (Ls' := #[.val (.int p0), .val (.int p1), .val (.int p2), .val (.int p3), .val (.int p4), .val (.int p5), .val (.ref b1), .val (.int v7_54), .val (.int v8_73), .val (.int v9_129), .unset, .unset]) C at_129 hv9_129.symm rfl rfl ?_
  refine own_aload (pc' := 133) C at_131 rfl rfl rfl ?_
  refine own_iconst (pc' := 134) (v := (0 : Int32)) C at_133 own_ki_0 rfl ?_
  refine own_iload (pc' := 136) C at_134 rfl rfl ?_
  refine own_iload (pc' := 138) C at_136 rfl rfl ?_
  refine own_callS (pc' := 141) (wL := 0) (argsL := [(.ref b1), (.int (0 : Int32)), (.int v7_54), (.int v8_73)]) (rest := []) C (own_pt0 l Z a0 hw b1 v7_54 v8_73 y12 y20 y28 y36 y45 h6 n0 Z_ A_b1) at_138 (hw _ (List.mem_of_getElem? (i := 9) rfl)) (hw _ (List.mem_of_getElem? (i := 10) rfl)) (hw _ (List.mem_of_getElem? (i := 3) rfl)) (hw _ (List.mem_of_getElem? (i := 11) rfl)) (by decide) (by decide) (by decide) rfl (lenOf pd3 rfl) rfl rfl (Nat.le_of_eq rfl) (by decide) (by decide) rfl ?_
  rintro _ _ ⟨rfl, rfl⟩
  show Wp p l e _ s m _ below meth c n0 _ h6 (0 + 1) (0 + 5) (mkF m 141 #[.val (.int p0), .val (.int p1), .val (.int p2), .val (.int p3), .val (.int p4), .val (.int p5), .val (.ref b1), .val (.int v7_54), .val (.int v8_73), .val (.int v9_129), .unset, .unset] [(.int (own_pt y12 0 v7_54 v8_73))])
  refine own_aload (pc' := 143) C at_141 rfl rfl rfl ?_
  refine own_iconst (pc' := 144) (v := (1 : Int32)) C at_143 own_ki_1 rfl ?_
  refine own_iload (pc' := 146) C at_144 rfl rfl ?_
  refine own_iload (pc' := 148) C at_146 rfl rfl ?_
  refine own_callS (pc' := 151) (wL := 1) (argsL := [(.ref b1), (.int (1 : Int32)), (.int v7_54), (.int v8_73)]) (rest := [(.int (own_pt y12 0 v7_54 v8_73))]) C (own_pt1 l Z a0 hw b1 v7_54 v8_73 y12 y20 y28 y36 y45 h6 n0 Z_ A_b1) at_148 (hw _ (List.mem_of_getElem? (i := 9) rfl)) (hw _ (List.mem_of_getElem? (i := 10) rfl)) (hw _ (List.mem_of_getElem? (i := 3) rfl)) (hw _ (List.mem_of_getElem? (i := 11) rfl)) (by decide) (by decide) (by decide) rfl (lenOf pd3 rfl) rfl rfl (Nat.le_of_eq rfl) (by decide) (by decide) rfl ?_
  rintro _ _ ⟨rfl, rfl⟩
  show Wp p l e _ s m _ below meth c n0 _ h6 (0 + 1) (0 + 5) (mkF m 151 #[.val (.int p0), .val (.int p1), .val (.int p2), .val (.int p3), .val (.int p4), .val (.int p5), .val (.ref b1), .val (.int v7_54), .val (.int v8_73), .val (.int v9_129), .unset, .unset] [(.int (own_pt y20 1 v7_54 v8_73)), (.int (own_pt y12 0 v7_54 v8_73))])
  refine own_iadd (pc' := 152) C at_151 rfl rfl ?_
  refine own_aload (pc' := 154) C at_152 rfl rfl rfl ?_
  refine own_iconst (pc' := 155) (v := (2 : Int32)) C at_154 own_ki_2 rfl ?_
  refine own_iload (pc' := 157) C at_155 rfl rfl ?_
  refine own_iload (pc' := 159) C at_157 rfl rfl ?_
  refine own_callS (pc' := 162) (wL := 1) (argsL := [(.ref b1), (.int (2 : Int32)), (.int v7_54), (.int v8_73)]) (rest := [(.int ((own_pt y12 0 v7_54 v8_73) + (own_pt y20 1 v7_54 v8_73)))]) C (own_pt2 l Z a0 hw b1 v7_54 v8_73 y12 y20 y28 y36 y45 h6 n0 Z_ A_b1) at_159 (hw _ (List.mem_of_getElem? (i := 9) rfl)) (hw _ (List.mem_of_getElem? (i := 10) rfl)) (hw _ (List.mem_of_getElem? (i := 3) rfl)) (hw _ (List.mem_of_getElem? (i := 11) rfl)) (by decide) (by decide) (by decide) rfl (lenOf pd3 rfl) rfl rfl (Nat.le_of_eq rfl) (by decide) (by decide) rfl ?_
  rintro _ _ ⟨rfl, rfl⟩
  show Wp p l e _ s m _ below meth c n0 _ h6 (0 + 1) (0 + 5) (mkF m 162 #[.val (.int p0), .val (.int p1), .val (.int p2), .val (.int p3), .val (.int p4), .val (.int p5), .val (.ref b1), .val (.int v7_54), .val (.int v8_73), .val (.int v9_129), .unset, .unset] [(.int (own_pt y28 2 v7_54 v8_73)), (.int ((own_pt y12 0 v7_54 v8_73) + (own_pt y20 1 v7_54 v8_73)))])
  refine own_iadd (pc' := 163) C at_162 rfl rfl ?_
  refine own_aload (pc' := 165) C at_163 rfl rfl rfl ?_
  refine own_iconst (pc' := 166) (v := (3 : Int32)) C at_165 own_ki_3 rfl ?_
  refine own_iload (pc' := 168) C at_166 rfl rfl ?_
  refine own_iload (pc' := 170) C at_168 rfl rfl ?_
  refine own_callS (pc' := 173) (wL := 1) (argsL := [(.ref b1), (.int (3 : Int32)), (.int v7_54), (.int v8_73)]) (rest := [(.int (((own_pt y12 0 v7_54 v8_73) + (own_pt y20 1 v7_54 v8_73)) + (own_pt y28 2 v7_54 v8_73)))]) C (own_pt3 l Z a0 hw b1 v7_54 v8_73 y12 y20 y28 y36 y45 h6 n0 Z_ A_b1) at_170 (hw _ (List.mem_of_getElem? (i := 9) rfl)) (hw _ (List.mem_of_getElem? (i := 10) rfl)) (hw _ (List.mem_of_getElem? (i := 3) rfl)) (hw _ (List.mem_of_getElem? (i := 11) rfl)) (by decide) (by decide) (by decide) rfl (lenOf pd3 rfl) rfl rfl (Nat.le_of_eq rfl) (by decide) (by decide) rfl ?_
  rintro _ _ ⟨rfl, rfl⟩
  show Wp p l e _ s m _ below meth c n0 _ h6 (0 + 1) (0 + 5) (mkF m 173 #[.val (.int p0), .val (.int p1), .val (.int p2), .val (.int p3), .val (.int p4), .val (.int p5), .val (.ref b1), .val (.int v7_54), .val (.int v8_73), .val (.int v9_129), .unset, .unset] [(.int (own_pt y36 3 v7_54 v8_73)), (.int (((own_pt y12 0 v7_54 v8_73) + (own_pt y20 1 v7_54 v8_73)) + (own_pt y28 2 v7_54 v8_73)))])
  refine own_iadd (pc' := 174) C at_173 rfl rfl ?_
  refine own_aload (pc' := 176) C at_174 rfl rfl rfl ?_
  refine own_iconst (pc' := 177) (v := (4 : Int32)) C at_176 own_ki_4 rfl ?_
  refine own_iload (pc' := 179) C at_177 rfl rfl ?_
  refine own_iload (pc' := 181) C at_179 rfl rfl ?_
  refine own_callS (pc' := 184) (wL := 1) (argsL := [(.ref b1), (.int (4 : Int32)), (.int v7_54), (.int v8_73)]) (rest := [(.int ((((own_pt y12 0 v7_54 v8_73) + (own_pt y20 1 v7_54 v8_73)) + (own_pt y28 2 v7_54 v8_73)) + (own_pt y36 3 v7_54 v8_73)))]) C (own_pt4 l Z a0 hw b1 v7_54 v8_73 y12 y20 y28 y36 y45 h6 n0 Z_ A_b1) at_181 (hw _ (List.mem_of_getElem? (i := 9) rfl)) (hw _ (List.mem_of_getElem? (i := 10) rfl)) (hw _ (List.mem_of_getElem? (i := 3) rfl)) (hw _ (List.mem_of_getElem? (i := 11) rfl)) (by decide) (by decide) (by decide) rfl (lenOf pd3 rfl) rfl rfl (Nat.le_of_eq rfl) (by decide) (by decide) rfl ?_
  rintro _ _ ⟨rfl, rfl⟩
  show Wp p l e _ s m _ below meth c n0 _ h6 (0 + 1) (0 + 5) (mkF m 184 #[.val (.int p0), .val (.int p1), .val (.int p2), .val (.int p3), .val (.int p4), .val (.int p5), .val (.ref b1), .val (.int v7_54), .val (.int v8_73), .val (.int v9_129), .unset, .unset] [(.int (own_pt y45 4 v7_54 v8_73)), (.int ((((own_pt y12 0 v7_54 v8_73) + (own_pt y20 1 v7_54 v8_73)) + (own_pt y28 2 v7_54 v8_73)) + (own_pt y36 3 v7_54 v8_73)))])
  refine own_iadd (pc' := 185) C at_184 rfl rfl ?_
  obtain ⟨v10_185, hv10_185⟩ : ∃ z : Int32, z = (((((own_pt y12 0 v7_54 v8_73) + (own_pt y20 1 v7_54 v8_73)) + (own_pt y28 2 v7_54 v8_73)) + (own_pt y36 3 v7_54 v8_73)) + (own_pt y45 4 v7_54 v8_73)) := ⟨_, rfl⟩
  refine own_istore (pc' := 187) (y := v10_185) (Ls' := #[.val (.int p0), .val (.int p1), .val (.int p2), .val (.int p3), .val (.int p4), .val (.int p5), .val (.ref b1), .val (.int v7_54), .val (.int v8_73), .val (.int v9_129), .val (.int v10_185), .unset]) C at_185 hv10_185.symm rfl rfl ?_
  refine own_iload (pc' := 189) C at_187 rfl rfl ?_
  refine own_iload (pc' := 191) C at_189 rfl rfl ?_
  obtain ⟨vs_234, hvs_234⟩ : ∃ z : Int32, z = (if v7_54 < v8_73 then (if v9_129 = 0 then (if (1 : Int32) < v10_185 then (0 : Int32) else (if (own_f6 ([y12, y20, y28, y36, y45].getD v7_54.toNatClampNeg 0)) = 0 then (if (own_f6 ([y12, y20, y28, y36, y45].getD (v8_73 - (1 : Int32)).toNatClampNeg 0)) = 0 then (1 : Int32) else (0 : Int32)) else (0 : Int32))) else (0 : Int32)) else (0 : Int32)) := ⟨_, rfl⟩
  have hzvs_234 : vs_234 = 0 ∨ vs_234 = 1 := by rw [hvs_234]; repeat (first | exact Or.inl rfl | exact Or.inr rfl | split)
  refine own_seq (g' := mkF m 234 #[.val (.int p0), .val (.int p1), .val (.int p2), .val (.int p3), .val (.int p4), .val (.int p5), .val (.ref b1), .val (.int v7_54), .val (.int v8_73), .val (.int v9_129), .val (.int v10_185), .unset] [(.int vs_234)]) (fun J234 => ?_) ?_
  · refine own_icmp_le (pt := 233) (pf := 194) C at_191 (by decide) (by decide) rfl ?_ ?_
    · intro hc191
      refine own_iconst (pc' := 234) (v := (0 : Int32)) C at_233 own_ki_0 rfl ?_
      exact own_cast (by simp only [hvs_234, if_neg hc191]) (J234)
    · intro hc191
      refine own_iload (pc' := 196) C at_194 rfl rfl ?_
      refine own_if_ne (pt := 233) (pf := 199) C at_196 (by decide) (by decide) rfl ?_ ?_
      · intro hc196
        refine own_iconst (pc' := 234) (v := (0 : Int32)) C at_233 own_ki_0 rfl ?_
        exact own_cast (by simp only [hvs_234, if_pos hc191, if_neg hc196]) (J234)
      · intro hc196
        refine own_iload (pc' := 201) C at_199 rfl rfl ?_
        refine own_iconst (pc' := 202) (v := (1 : Int32)) C at_201 own_ki_1 rfl ?_
        refine own_icmp_gt (pt := 233) (pf := 205) C at_202 (by decide) (by decide) rfl ?_ ?_
        · intro hc202
          refine own_iconst (pc' := 234) (v := (0 : Int32)) C at_233 own_ki_0 rfl ?_
          exact own_cast (by simp only [hvs_234, if_pos hc191, if_pos hc196, if_pos hc202]) (J234)
        · intro hc202
          refine own_aload (pc' := 207) C at_205 rfl rfl rfl ?_
          refine own_iload (pc' := 209) C at_207 rfl rfl ?_
          refine own_baload (pc' := 210) (v := ([y12, y20, y28, y36, y45].getD v7_54.toNatClampNeg 0)) (i := v7_54.toNatClampNeg) C at_209 A_b1 (own_i1 (y0 := y12) (y1 := y20) (y2 := y28) (y3 := y36) (y4 := y45) hv7_54 hv8_73 hc191).1 rfl (own_get (own_i1 (y0 := y12) (y1 := y20) (y2 := y28) (y3 := y36) (y4 := y45) hv7_54 hv8_73 hc191).2.1) rfl ?_
          refine own_callS (pc' := 213) (wL := 0) (argsL := [(.int ([y12, y20, y28, y36, y45].getD v7_54.toNatClampNeg 0))]) (rest := []) C (own_m6 l Z a0 hw ([y12, y20, y28, y36, y45].getD v7_54.toNatClampNeg 0) h6 n0 Z_) at_210 (hw _ (List.mem_of_getElem? (i := 19) rfl)) (hw _ (List.mem_of_getElem? (i := 20) rfl)) (hw _ (List.mem_of_getElem? (i := 3) rfl)) (hw _ (List.mem_of_getElem? (i := 21) rfl)) (by decide) (by decide) (by decide) rfl (lenOf pd6 rfl) rfl rfl (Nat.le_of_eq rfl) (by decide) (by decide) rfl ?_
          rintro _ _ ⟨rfl, rfl⟩
          show Wp p l e _ s m _ below meth c n0 _ h6 (0 + 1) (0 + 5) (mkF m 213 #[.val (.int p0), .val (.int p1), .val (.int p2), .val (.int p3), .val (.int p4), .val (.int p5), .val (.ref b1), .val (.int v7_54), .val (.int v8_73), .val (.int v9_129), .val (.int v10_185), .unset] [(.int (own_f6 ([y12, y20, y28, y36, y45].getD v7_54.toNatClampNeg 0)))])
          refine own_if_ne (pt := 233) (pf := 216) C at_213 (by decide) (by decide) rfl ?_ ?_
          · intro hc213
            refine own_iconst (pc' := 234) (v := (0 : Int32)) C at_233 own_ki_0 rfl ?_
            exact own_cast (by simp only [hvs_234, if_pos hc191, if_pos hc196, if_neg hc202, if_neg hc213]) (J234)
          · intro hc213
            refine own_aload (pc' := 218) C at_216 rfl rfl rfl ?_
            refine own_iload (pc' := 220) C at_218 rfl rfl ?_
            refine own_iconst (pc' := 221) (v := (1 : Int32)) C at_220 own_ki_1 rfl ?_
            refine own_isub (pc' := 222) C at_221 rfl rfl ?_
            refine own_baload (pc' := 223) (v := ([y12, y20, y28, y36, y45].getD (v8_73 - (1 : Int32)).toNatClampNeg 0)) (i := (v8_73 - (1 : Int32)).toNatClampNeg) C at_222 A_b1 (own_i1 (y0 := y12) (y1 := y20) (y2 := y28) (y3 := y36) (y4 := y45) hv7_54 hv8_73 hc191).2.2.1 rfl (own_get (own_i1 (y0 := y12) (y1 := y20) (y2 := y28) (y3 := y36) (y4 := y45) hv7_54 hv8_73 hc191).2.2.2) rfl ?_
            refine own_callS (pc' := 226) (wL := 0) (argsL := [(.int ([y12, y20, y28, y36, y45].getD (v8_73 - (1 : Int32)).toNatClampNeg 0))]) (rest := []) C (own_m6 l Z a0 hw ([y12, y20, y28, y36, y45].getD (v8_73 - (1 : Int32)).toNatClampNeg 0) h6 n0 Z_) at_223 (hw _ (List.mem_of_getElem? (i := 19) rfl)) (hw _ (List.mem_of_getElem? (i := 20) rfl)) (hw _ (List.mem_of_getElem? (i := 3) rfl)) (hw _ (List.mem_of_getElem? (i := 21) rfl)) (by decide) (by decide) (by decide) rfl (lenOf pd6 rfl) rfl rfl (Nat.le_of_eq rfl) (by decide) (by decide) rfl ?_
            rintro _ _ ⟨rfl, rfl⟩
            show Wp p l e _ s m _ below meth c n0 _ h6 (0 + 1) (0 + 5) (mkF m 226 #[.val (.int p0), .val (.int p1), .val (.int p2), .val (.int p3), .val (.int p4), .val (.int p5), .val (.ref b1), .val (.int v7_54), .val (.int v8_73), .val (.int v9_129), .val (.int v10_185), .unset] [(.int (own_f6 ([y12, y20, y28, y36, y45].getD (v8_73 - (1 : Int32)).toNatClampNeg 0)))])
            refine own_if_ne (pt := 233) (pf := 229) C at_226 (by decide) (by decide) rfl ?_ ?_
            · intro hc226
              refine own_iconst (pc' := 234) (v := (0 : Int32)) C at_233 own_ki_0 rfl ?_
              exact own_cast (by simp only [hvs_234, if_pos hc191, if_pos hc196, if_neg hc202, if_pos hc213, if_neg hc226]) (J234)
            · intro hc226
              refine own_iconst (pc' := 230) (v := (1 : Int32)) C at_229 own_ki_1 rfl ?_
              refine own_goto (pc' := 234) C at_230 (by decide) (by decide) ?_
              exact own_cast (by simp only [hvs_234, if_pos hc191, if_pos hc196, if_neg hc202, if_pos hc213, if_pos hc226]) (J234)
  refine own_istore (pc' := 236) (y := vs_234) (Ls' := #[.val (.int p0), .val (.int p1), .val (.int p2), .val (.int p3), .val (.int p4), .val (.int p5), .val (.ref b1), .val (.int v7_54), .val (.int v8_73), .val (.int v9_129), .val (.int v10_185), .val (.int vs_234)]) C at_234 rfl rfl rfl ?_
  refine own_aload (pc' := 238) C at_236 rfl rfl rfl ?_
  refine own_iload (pc' := 240) C at_238 rfl rfl ?_
  refine own_iload (pc' := 242) C at_240 rfl rfl ?_
  refine own_callS (pc' := 245) (wL := 0) (argsL := [(.ref b1), (.int v7_54), (.int v8_73)]) (rest := []) C (own_m4 l Z a0 hw b1 v7_54 v8_73 [y12, y20, y28, y36, y45] h6 n0 Z_ A_b1 (by have := own_ft hv7_54 hv8_73; simp; omega) (by have := own_ft hv7_54 hv8_73; omega) (by have := own_ft hv7_54 hv8_73; omega) (by have := own_ft hv7_54 hv8_73; omega)) at_242 (hw _ (List.mem_of_getElem? (i := 12) rfl)) (hw _ (List.mem_of_getElem? (i := 13) rfl)) (hw _ (List.mem_of_getElem? (i := 14) rfl)) (hw _ (List.mem_of_getElem? (i := 15) rfl)) (by decide) (by decide) (by decide) rfl (lenOf pd4 rfl) rfl rfl (Nat.le_of_eq rfl) (by decide) (by decide) rfl ?_
  rintro _ _ ⟨rfl, rfl⟩
  show Wp p l e _ s m _ below meth c n0 _ h6 (0 + 1) (0 + 5) (mkF m 245 #[.val (.int p0), .val (.int p1), .val (.int p2), .val (.int p3), .val (.int p4), .val (.int p5), .val (.ref b1), .val (.int v7_54), .val (.int v8_73), .val (.int v9_129), .val (.int v10_185), .val (.int vs_234)] [(.int (own_ipd [y12, y20, y28, y36, y45] v7_54 v8_73))])
  refine own_iload (pc' := 247) C at_245 rfl rfl ?_
  refine own_icmp_ne (pt := 254) (pf := 250) C at_247 (by decide) (by decide) rfl (fun q => absurd (own_plain hv7_54 hv8_73 hv9_129 hv10_185 hvs_234) q) (fun _ => ?_)
  refine own_iconst (pc' := 251) (v := (1 : Int32)) C at_250 own_ki_1 rfl ?_
  refine own_goto (pc' := 255) C at_251 (by decide) (by decide) ?_
  refine own_zret C at_255 (by decide) (by decide) (Or.inr rfl) ?_
  exact rfl
set_option maxRecDepth 65536 in
set_option maxHeartbeats 40000000 in
theorem comes_1 {Post : Tables → Env → Array Value → State → Outcome → State → Prop} (hpost : ∀ tb e args s v u, (limb_1_1.after args s (.returned v) u = true ∧ limb_1_2.after args s (.returned v) u = true ∧ True) → FrameEnd s (.returned v) u (Jvm.fieldLocs frame_1_writes args s ++ Jvm.arrayLocs frame_1_arrays args s ++ Jvm.staticLocs frame_1_statics s) 16 128 → Post tb e args s (.returned v) u) :
    ArmFor flags0 classFile x code maxLocals ret World_1 tables_1 room_1 Calls_1 rest_1 Pre_1 Post := by
  intro l hfl _ _ p e ha hc hk s m args below hf hA hF happ hP
  obtain ⟨hcalls, hrest, hpre⟩ := hP
  obtain ⟨-, -, -, hnamed, -, -, -, hat⟩ := (Spec.applies_iff hf).mp happ
  obtain ⟨hg, hn⟩ := and_e (Cond.before_iff.mp (show (Jvm.Cond.and given_1 narrow_1).before args s = true from hpre))
  obtain ⟨hcount, q0⟩ := and_e hg
  obtain ⟨r0, q1⟩ := and_e q0
  obtain ⟨r1, q2⟩ := and_e q1
  obtain ⟨r2, q3⟩ := and_e q2
  obtain ⟨r3, q4⟩ := and_e q3
  obtain ⟨r4, q5⟩ := and_e q4
  obtain ⟨w0, w1, w2, w3, w4, w5, rfl⟩ : ∃ w0 w1 w2 w3 w4 w5 : Value, args = #[w0, w1, w2, w3, w4, w5] := by
    have hs : args.size = 6 := by simpa [Cond.value, given_1] using hcount
    obtain ⟨L⟩ := args
    match L, hs with
    | [w0, w1, w2, w3, w4, w5], _ => exact ⟨w0, w1, w2, w3, w4, w5, rfl⟩
  have hw := fun d (hd : d ∈ tables_1) => atoms_spec (ws := Jvm.Cond.code x code maxLocals ret :: tables_1) hat d (List.mem_cons_of_mem _ hd)
  obtain ⟨i0, e0⟩ := is_v r0
  obtain rfl : w0 = (.int i0) := Option.some.inj e0
  obtain ⟨i1, e1⟩ := is_v r1
  obtain rfl : w1 = (.int i1) := Option.some.inj e1
  obtain ⟨i2, e2⟩ := is_v r2
  obtain rfl : w2 = (.int i2) := Option.some.inj e2
  obtain ⟨i3, e3⟩ := is_v r3
  obtain rfl : w3 = (.int i3) := Option.some.inj e3
  obtain ⟨i4, e4⟩ := is_v r4
  obtain rfl : w4 = (.int i4) := Option.some.inj e4
  obtain ⟨i5, e5⟩ := is_v q5
  obtain rfl : w5 = (.int i5) := Option.some.inj e5
  obtain ⟨n, o, h1, h2, h3, _, L, rfl, ⟨rfl, N⟩, hq⟩ := own_law l s _ hw tables_1 i0 i1 i2 i3 i4 i5  s.heap s.heap.size (Nat.le_refl _)  p e ha hc hk s m _ below hf ((Spec.applies_iff_loose hf).mp happ).1 ⟨rfl, State.Warmed39.refl s, rfl⟩ trivial
  refine ⟨n, _, h1, h2, h3, hpost _ _ _ _ _ _ ⟨Cond.after_iff.mpr rfl, Cond.after_iff.mpr (eq_i res_at (Term.int_eval (1)) rfl), trivial⟩ ⟨hq.1, hq.2.1, (hq.2.2.sift fun y hy => Or.inr (N y hy)).mono (by decide) (by decide)⟩⟩
theorem main_1_1 : Claimed_1_1 := comes_1 fun _ _ _ _ _ _ h hF => ⟨h.1, hF⟩
theorem main_1_2 : Claimed_1_2 := comes_1 fun _ _ _ _ _ _ h hF => ⟨h.2.1, hF⟩
end Jvm.Pilot.@@N@@
namespace Jvm.Pilot.@@N@@
open Jvm Jvm.ClassFile Sem Op Lib Jvm.Free Jvm.Stand Jvm.Pilot.@@N@@.Jvm.D
/-! MADE BY PROGRAM (witnessworld.py) out of the Statement's table words and the real class files: 9 classes; the members and pool entries that the words name. The judged class is class 1, her method 1. -/
namespace start1
open Jvm.ClassFile
def u (s : String) : CpInfo := .utf8 (stringToUtf16 s)
/-- a pool by its gaps: so many unusable entries, then the entry; so many at the end -/
def gap : Nat → List CpInfo → List CpInfo
  | 0, r => r
  | n + 1, r => .unusable :: gap n r
def poolList (es : List (Nat × CpInfo)) (last : Nat) : List CpInfo := es.foldr (fun e r => gap e.1 (e.2 :: r)) (gap last [])
def pool (es : List (Nat × CpInfo)) (last : Nat) : Array CpInfo := ⟨poolList es last⟩
def fileOf (pool : Array CpInfo) (this : Nat) (attrs : Array Attribute := #[]) (ms : Array MethodInfo := #[]) (fl : Nat := 33) (sup : Nat := 0) (ifs : Array Nat := #[]) (fds : Array FieldInfo := #[]) : ClassFile where
  minorVersion := 0
  majorVersion := 65
  constantPool := pool
  accessFlags := fl
  thisClass := this
  superClass := sup
  interfaces := ifs
  fields := fds
  methods := ms
  attributes := attrs
def plain (name : String) (sup : Option ClassId) : Class where
  name := name
  kind := .ordinary
  loader := none
  accessFlags := 33
  super := sup
  interfaces := #[]
  cf := none
  fields := #[]
  methods := #[]
  instanceTypes := #[]
  staticTypes := #[]
  resolved := #[]
  callSites := []
  init := .initialized
  statics := none
  mirror := none

def pool0 : Array CpInfo := pool [(5, u "<init>"), (0, u "()V"), (1, .class_ 10), (1, u "java/lang/Object")] 113

def k0m0 : Method := { name := "<init>", desc := "()V", sig := { parameters := [], returnType := none }, accessFlags := 1, code := none }
/-- java/lang/Object -/
def k0 : Class := { plain "java/lang/Object" none with
  accessFlags := 33
  interfaces := #[]
  cf := some (fileOf pool0 8 #[] #[{ accessFlags := 1, nameIndex := 5, descriptorIndex := 6, attributes := #[] }] 33 0 #[] #[])
  fields := #[]
  methods := #[k0m0]
  instanceTypes := #[]
  staticTypes := #[]
  resolved := Array.replicate 124 none
  statics := none }

def pool1 : Array CpInfo := pool [(2, .class_ 4), (1, u "java/lang/Object"), (0, u "<init>"), (0, u "()V"), (0, .methodref 8 9), (0, .class_ 10), (0, .nameAndType 11 12), (0, u "com/example/vestwork/vestwork/io/PlainNumbersIsPlainDecimalPinLaw"), (0, u "pick"), (0, u "(I)B"), (0, .integer 2147483647), (0, .methodref 8 15), (0, .nameAndType 16 17), (0, u "bad"), (0, u "([BIII)I"), (0, .methodref 8 19), (0, .nameAndType 20 17), (0, u "pt"), (0, .methodref 8 22), (0, .nameAndType 23 24), (0, u "kind"), (0, u "(B)I"), (0, .methodref 26 27), (0, .class_ 28), (0, .nameAndType 29 30), (0, u "com/example/vestwork/vestwork/io/PlainNumbers"), (0, u "isPlainDecimal"), (0, u "([BII)Z"), (2, u "law"), (0, u "(IIIIII)Z")] 5

def k1m0 : Method := { name := "<init>", desc := "()V", sig := { parameters := [], returnType := none }, accessFlags := 2, code := none }
def k1c1 : Code := { maxStack := 5, maxLocals := 12, code := code, exceptionTable := #[], attributes := #[] }
def k1m1 : Method := { name := "law", desc := "(IIIIII)Z", sig := { parameters := [.int, .int, .int, .int, .int, .int], returnType := some .boolean }, accessFlags := 9, code := some k1c1 }
def k1c2 : Code := { maxStack := 3, maxLocals := 2, code := method_3_code, exceptionTable := #[], attributes := #[] }
def k1m2 : Method := { name := "pick", desc := "(I)B", sig := { parameters := [.int], returnType := some .byte }, accessFlags := 10, code := some k1c2 }
def k1c3 : Code := { maxStack := 2, maxLocals := 1, code := method_4_code, exceptionTable := #[], attributes := #[] }
def k1m3 : Method := { name := "kind", desc := "(B)I", sig := { parameters := [.byte], returnType := some .int }, accessFlags := 10, code := some k1c3 }
def k1c4 : Code := { maxStack := 2, maxLocals := 4, code := method_5_code, exceptionTable := #[], attributes := #[] }
def k1m4 : Method := { name := "bad", desc := "([BIII)I", sig := { parameters := [(.array .byte), .int, .int, .int], returnType := some .int }, accessFlags := 10, code := some k1c4 }
def k1c5 : Code := { maxStack := 2, maxLocals := 4, code := method_6_code, exceptionTable := #[], attributes := #[] }
def k1m5 : Method := { name := "pt", desc := "([BIII)I", sig := { parameters := [(.array .byte), .int, .int, .int], returnType := some .int }, accessFlags := 10, code := some k1c5 }
/-- com/example/vestwork/vestwork/io/PlainNumbersIsPlainDecimalPinLaw -/
def k1 : Class := { plain "com/example/vestwork/vestwork/io/PlainNumbersIsPlainDecimalPinLaw" (some 0) with
  accessFlags := 49
  interfaces := #[]
  cf := some (fileOf pool1 8 #[] #[{ accessFlags := 2, nameIndex := 5, descriptorIndex := 6, attributes := #[] }, { accessFlags := 9, nameIndex := 33, descriptorIndex := 34, attributes := #[] }, { accessFlags := 10, nameIndex := 11, descriptorIndex := 12, attributes := #[] }, { accessFlags := 10, nameIndex := 23, descriptorIndex := 24, attributes := #[] }, { accessFlags := 10, nameIndex := 16, descriptorIndex := 17, attributes := #[] }, { accessFlags := 10, nameIndex := 20, descriptorIndex := 17, attributes := #[] }] 49 2 #[] #[])
  fields := #[]
  methods := #[k1m0, k1m1, k1m2, k1m3, k1m4, k1m5]
  instanceTypes := #[]
  staticTypes := #[]
  resolved := Array.replicate 40 none
  statics := none }

def pool2 : Array CpInfo := pool [(2, .class_ 4), (1, u "java/lang/Object"), (0, u "<init>"), (0, u "()V"), (1, .class_ 10), (1, u "com/example/vestwork/vestwork/io/PlainNumbers"), (5, u "([BII)Z"), (0, .methodref 8 18), (0, .nameAndType 19 20), (0, u "endOfDigits"), (0, u "([BII)I"), (2, u "isPlainDecimal"), (36, u "MOST_DIGITS"), (0, u "I"), (2, u "MOST_WHOLE_NUMBER_DIGITS"), (1, u "DIGITS_A_LONG_HOLDS")] 14

def k2m0 : Method := { name := "<init>", desc := "()V", sig := { parameters := [], returnType := none }, accessFlags := 2, code := none }
def k2c1 : Code := { maxStack := 3, maxLocals := 6, code := prog_100_method_6_code, exceptionTable := #[], attributes := #[] }
def k2m1 : Method := { name := "isPlainDecimal", desc := "([BII)Z", sig := { parameters := [(.array .byte), .int, .int], returnType := some .boolean }, accessFlags := 8, code := some k2c1 }
def k2c2 : Code := { maxStack := 2, maxLocals := 4, code := prog_100_method_15_code, exceptionTable := #[], attributes := #[] }
def k2m2 : Method := { name := "endOfDigits", desc := "([BII)I", sig := { parameters := [(.array .byte), .int, .int], returnType := some .int }, accessFlags := 10, code := some k2c2 }
/-- com/example/vestwork/vestwork/io/PlainNumbers -/
def k2 : Class := { plain "com/example/vestwork/vestwork/io/PlainNumbers" (some 0) with
  accessFlags := 49
  interfaces := #[]
  cf := some (fileOf pool2 8 #[] #[{ accessFlags := 2, nameIndex := 5, descriptorIndex := 6, attributes := #[] }, { accessFlags := 8, nameIndex := 23, descriptorIndex := 16, attributes := #[] }, { accessFlags := 10, nameIndex := 19, descriptorIndex := 20, attributes := #[] }] 49 2 #[] #[{ accessFlags := 24, nameIndex := 60, descriptorIndex := 61, attributes := #[] }, { accessFlags := 26, nameIndex := 64, descriptorIndex := 61, attributes := #[] }, { accessFlags := 26, nameIndex := 66, descriptorIndex := 61, attributes := #[] }])
  fields := #[{ name := "MOST_DIGITS", type := .int, accessFlags := 24, slot := 0, constantValue := 0 }, { name := "MOST_WHOLE_NUMBER_DIGITS", type := .int, accessFlags := 26, slot := 1, constantValue := 0 }, { name := "DIGITS_A_LONG_HOLDS", type := .int, accessFlags := 26, slot := 2, constantValue := 0 }]
  methods := #[k2m0, k2m1, k2m2]
  instanceTypes := #[]
  staticTypes := #[.int, .int, .int]
  resolved := Array.replicate 81 none
  statics := none }

def pool3 : Array CpInfo := pool [(1, u "java/lang/Cloneable"), (0, .class_ 1), (0, u "java/lang/Object"), (0, .class_ 3)] 3

/-- java/lang/Cloneable -/
def k3 : Class := { plain "java/lang/Cloneable" (some 0) with
  accessFlags := 1537
  interfaces := #[]
  cf := some (fileOf pool3 2 #[] #[] 1537 4 #[] #[])
  fields := #[]
  methods := #[]
  instanceTypes := #[]
  staticTypes := #[]
  resolved := Array.replicate 8 none
  statics := none }

def pool4 : Array CpInfo := pool [(1, u "java/io/Serializable"), (0, .class_ 1), (0, u "java/lang/Object"), (0, .class_ 3)] 3

/-- java/io/Serializable -/
def k4 : Class := { plain "java/io/Serializable" (some 0) with
  accessFlags := 1537
  interfaces := #[]
  cf := some (fileOf pool4 2 #[] #[] 1537 4 #[] #[])
  fields := #[]
  methods := #[]
  instanceTypes := #[]
  staticTypes := #[]
  resolved := Array.replicate 8 none
  statics := none }

/-- the primitive byte -/
def k5 : Class := { plain "byte" none with kind := .primitive 'B', accessFlags := 0x411 }
/-- [B -/
def k6 : Class := { plain "[B" (some 0) with kind := .array 5 .byte, interfaces := #[3, 4], accessFlags := 1041 }

/-- the primitive int -/
def k7 : Class := { plain "int" none with kind := .primitive 'I', accessFlags := 0x411 }
/-- [I -/
def k8 : Class := { plain "[I" (some 0) with kind := .array 7 .int, interfaces := #[3, 4], accessFlags := 1041 }

def heap : Heap := #[]
def classes : Array Class := #[k0, k1, k2, k3, k4, k5, k6, k7, k8]
def interned : List (Array UInt16 × Addr) := []
def slotsUsed : Nat := 0
def theMethod : MethodId := ⟨1, 1⟩
def args0 : Array Value := #[.int 5, .int 5, .int 5, .int 5, .int 5, .int 9]
def aboutOver (below : List Frame) : State where
  vm := { classes := classes, interned := interned.toArray }
  heap := heap
  slotsUsed := slotsUsed
  threads := #[{ frames := .invoking theMethod args0 :: below }]
def below0 : List Frame := [.native { method := ⟨0, 0⟩, args := #[] }]
def about1 : State := aboutOver below0
def p0 : Program := .bare "" "" ""
def e0 : Env := launch0.env 0 0 0
theorem w_frames : about1.frames = Frame.invoking theMethod args0 :: below0 := rfl
set_option maxRecDepth 65536 in
theorem w_args : argsFit about1.vm theMethod args0 = true := by decide +kernel
set_option maxRecDepth 65536 in
theorem w_heap : heapFits about1 = true := by decide +kernel
set_option maxRecDepth 65536 in
theorem w_runnable : about1.curStatus? = some .runnable := by decide +kernel
set_option maxRecDepth 65536 in
theorem w_alone : about1.alone = true := by decide +kernel
set_option maxRecDepth 65536 in
theorem w_named : about1.methodNamed? x = some theMethod := by decide +kernel
set_option maxRecDepth 65536 in
theorem w_hears : about1.hears theMethod below0 = true := by decide +kernel
set_option maxRecDepth 65536 in
theorem w_ripe : about1.ripe theMethod args0 below0 = true := by decide +kernel
theorem w_running : about1.status = .running := rfl
set_option maxRecDepth 65536 in
theorem w_room : about1.hasRoom e0.platform room_1 = true :=
  launch0.hasRoom_least _ room_1 (by decide +kernel) (by decide +kernel) (by decide +kernel) (by decide +kernel) (by decide +kernel) (by decide +kernel)
theorem allAtoms_all (ts : List Jvm.Cond) (a : Array Jvm.Value) (st : Jvm.State) : (allAtoms ts).before a st = ts.all (fun c => c.before a st) := by
  induction ts with
  | nil => rfl
  | cons c t ih =>
    show (Jvm.Cond.and c (allAtoms t)).before a st = _
    rw [Jvm.Cond.before_and, ih, List.all_cons]
def words1 : List Jvm.Cond := Jvm.Cond.code x code maxLocals ret :: tables_1
/-- a 'code' word, met by the world's own term for the bytes: nothing is compared byte by byte -/
theorem code_word {y : MethodName} {bytes : ByteArray} {mx : Nat} {rt : Option FieldType} {a : Array Value} {s : State} {m : MethodId} {meth : Method} {c : Code} (h1 : s.methodNamed? y = some m) (h2 : s.vm.method? m = some meth) (h3 : meth.code = some c) (h4 : c.code = bytes)
    (h5 : (c.maxLocals == mx && c.exceptionTable.isEmpty && decide (c.maxStack ≤ mostOperands) && decide (meth.sig.returnType = rt) && !meth.locks && decide (parseMethodDescriptor y.desc = some meth.sig)) = true) : (Jvm.Cond.code y bytes mx rt).before a s = true := by
  simp only [Bool.and_eq_true, beq_iff_eq, Bool.not_eq_true', decide_eq_true_eq] at h5
  obtain ⟨⟨⟨⟨⟨g1, g2⟩, g3⟩, g4⟩, g5⟩, g6⟩ := h5
  simp [Cond.before, Cond.holds, Cond.value, h1, h2, h3, h4, g1, g2, g3, g4, g5, g6]
def isCode : Jvm.Cond → Bool
  | .code _ _ _ _ => true
  | _ => false
theorem all_split {L : List Jvm.Cond} {P : Jvm.Cond → Bool} (h1 : L.all (fun c => isCode c || P c) = true) (h2 : ∀ c ∈ L.filter isCode, P c = true) : L.all P = true := by
  refine List.all_eq_true.mpr fun c hc => ?_
  have h := List.all_eq_true.mp h1 c hc
  rcases Bool.eq_false_or_eq_true (isCode c) with hi | hi
  · exact h2 c (List.mem_filter.mpr ⟨hc, hi⟩)
  · simpa [hi] using h
set_option maxRecDepth 65536 in
theorem w_c0 : (Jvm.Cond.code x code maxLocals ret).before args0 about1 = true := code_word (m := ⟨1, 1⟩) (meth := k1m1) (c := k1c1) (by decide +kernel) rfl rfl rfl (by decide +kernel)
set_option maxRecDepth 65536 in
theorem w_c1 : (Jvm.Cond.code ({ cls := "com/example/vestwork/vestwork/io/PlainNumbersIsPlainDecimalPinLaw", name := "pick", desc := "(I)B" } : Jvm.MethodName) method_3_code (2 : Nat) (Option.some Jvm.ClassFile.FieldType.byte)).before args0 about1 = true := code_word (m := ⟨1, 2⟩) (meth := k1m2) (c := k1c2) (by decide +kernel) rfl rfl rfl (by decide +kernel)
set_option maxRecDepth 65536 in
theorem w_c2 : (Jvm.Cond.code ({ cls := "com/example/vestwork/vestwork/io/PlainNumbersIsPlainDecimalPinLaw", name := "bad", desc := "([BIII)I" } : Jvm.MethodName) method_5_code (4 : Nat) (Option.some Jvm.ClassFile.FieldType.int)).before args0 about1 = true := code_word (m := ⟨1, 4⟩) (meth := k1m4) (c := k1c4) (by decide +kernel) rfl rfl rfl (by decide +kernel)
set_option maxRecDepth 65536 in
theorem w_c3 : (Jvm.Cond.code ({ cls := "com/example/vestwork/vestwork/io/PlainNumbersIsPlainDecimalPinLaw", name := "pt", desc := "([BIII)I" } : Jvm.MethodName) method_6_code (4 : Nat) (Option.some Jvm.ClassFile.FieldType.int)).before args0 about1 = true := code_word (m := ⟨1, 5⟩) (meth := k1m5) (c := k1c5) (by decide +kernel) rfl rfl rfl (by decide +kernel)
set_option maxRecDepth 65536 in
theorem w_c4 : (Jvm.Cond.code ({ cls := "com/example/vestwork/vestwork/io/PlainNumbers", name := "isPlainDecimal", desc := "([BII)Z" } : Jvm.MethodName) prog_100_method_6_code (6 : Nat) (Option.some Jvm.ClassFile.FieldType.boolean)).before args0 about1 = true := code_word (m := ⟨2, 1⟩) (meth := k2m1) (c := k2c1) (by decide +kernel) rfl rfl rfl (by decide +kernel)
set_option maxRecDepth 65536 in
theorem w_c5 : (Jvm.Cond.code ({ cls := "com/example/vestwork/vestwork/io/PlainNumbers", name := "endOfDigits", desc := "([BII)I" } : Jvm.MethodName) prog_100_method_15_code (4 : Nat) (Option.some Jvm.ClassFile.FieldType.int)).before args0 about1 = true := code_word (m := ⟨2, 2⟩) (meth := k2m2) (c := k2c2) (by decide +kernel) rfl rfl rfl (by decide +kernel)
set_option maxRecDepth 65536 in
theorem w_c6 : (Jvm.Cond.code ({ cls := "com/example/vestwork/vestwork/io/PlainNumbersIsPlainDecimalPinLaw", name := "kind", desc := "(B)I" } : Jvm.MethodName) method_4_code (1 : Nat) (Option.some Jvm.ClassFile.FieldType.int)).before args0 about1 = true := code_word (m := ⟨1, 3⟩) (meth := k1m3) (c := k1c3) (by decide +kernel) rfl rfl rfl (by decide +kernel)
def codes1 : List Jvm.Cond := [Jvm.Cond.code x code maxLocals ret, Jvm.Cond.code ({ cls := "com/example/vestwork/vestwork/io/PlainNumbersIsPlainDecimalPinLaw", name := "pick", desc := "(I)B" } : Jvm.MethodName) method_3_code (2 : Nat) (Option.some Jvm.ClassFile.FieldType.byte), Jvm.Cond.code ({ cls := "com/example/vestwork/vestwork/io/PlainNumbersIsPlainDecimalPinLaw", name := "bad", desc := "([BIII)I" } : Jvm.MethodName) method_5_code (4 : Nat) (Option.some Jvm.ClassFile.FieldType.int), Jvm.Cond.code ({ cls := "com/example/vestwork/vestwork/io/PlainNumbersIsPlainDecimalPinLaw", name := "pt", desc := "([BIII)I" } : Jvm.MethodName) method_6_code (4 : Nat) (Option.some Jvm.ClassFile.FieldType.int), Jvm.Cond.code ({ cls := "com/example/vestwork/vestwork/io/PlainNumbers", name := "isPlainDecimal", desc := "([BII)Z" } : Jvm.MethodName) prog_100_method_6_code (6 : Nat) (Option.some Jvm.ClassFile.FieldType.boolean), Jvm.Cond.code ({ cls := "com/example/vestwork/vestwork/io/PlainNumbers", name := "endOfDigits", desc := "([BII)I" } : Jvm.MethodName) prog_100_method_15_code (4 : Nat) (Option.some Jvm.ClassFile.FieldType.int), Jvm.Cond.code ({ cls := "com/example/vestwork/vestwork/io/PlainNumbersIsPlainDecimalPinLaw", name := "kind", desc := "(B)I" } : Jvm.MethodName) method_4_code (1 : Nat) (Option.some Jvm.ClassFile.FieldType.int)]
set_option maxRecDepth 65536 in
theorem codes_eq : words1.filter isCode = codes1 := rfl
theorem w_codes : ∀ c ∈ words1.filter isCode, c.before args0 about1 = true := by
  rw [codes_eq]
  intro c hc
  simp only [codes1, List.mem_cons, List.not_mem_nil, or_false] at hc
  rcases hc with rfl | rfl | rfl | rfl | rfl | rfl | rfl
  · exact w_c0
  · exact w_c1
  · exact w_c2
  · exact w_c3
  · exact w_c4
  · exact w_c5
  · exact w_c6
set_option maxRecDepth 65536 in
theorem w_t1 : words1.all (fun c => isCode c || c.before args0 about1) = true := by decide +kernel
theorem w_tables : (allAtoms (Jvm.Cond.code x code maxLocals ret :: tables_1)).before args0 about1 = true := by
  rw [allAtoms_all]
  show words1.all (fun c => c.before args0 about1) = true
  refine all_split ?_ w_codes
  rw [w_t1]
set_option maxRecDepth 65536 in
theorem w_case : (Jvm.Cond.and given_1 narrow_1).before args0 about1 = true := by decide +kernel
theorem w_applies : (headSpec (Jvm.Cond.code x code maxLocals ret :: tables_1) room_1).applies x e0.platform about1 = true :=
  (Spec.applies_iff w_frames).mpr ⟨w_running, w_runnable, w_alone, w_named, w_hears, w_ripe, w_room, w_tables⟩
theorem atStart : AtStart classFile x code maxLocals ret World_1 tables_1 room_1 Calls_1 rest_1 Pre_1 launch0 p0 e0 about1 theMethod args0 below0 :=
  ⟨lists_1, trivial, launch0.admits_env _ _ _, launch0.least_env, fairChoices_fair.cas, fairChoices_fair.clock, w_frames, w_args, w_heap, w_applies, trivial, trivial, w_case⟩
end start1
theorem witness_1 : WitnessClaimed_1 := ⟨start1.p0, start1.e0, start1.about1, start1.theMethod, start1.args0, start1.below0, start1.atStart⟩
end Jvm.Pilot.@@N@@
