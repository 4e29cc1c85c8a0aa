import JvmDerived
import JvmDerived.Pilot.@@N@@Statement
import JvmDerived.Pilot.@@N@@Code
set_option linter.unusedVariables false
set_option linter.unusedSimpArgs false
namespace Jvm.Pilot.@@N@@
open Jvm Jvm.ClassFile Sem Op Lib Jvm.Free Jvm.Stand Jvm.LawKit Jvm.RoadKit Bundle Jvm.Pilot.@@N@@.Jvm.D
section OwnHead
variable {p : Program} {l : Launch} {e : Env} {R : Room} {s : State} {m : MethodId} {args : Array Value} {below : List Frame} {meth : Method} {c : Code} {T : State} {locs : List Loc} {cells slots : Nat} {Z : State} {a0 : Array Value} {h : Heap} {Q : Option Value → Heap → List Loc → Prop} {ce sl : Nat} {pc pc' : Nat} {Ls : Array Slot} {st : List Value}
def own_G (p : Program) (e : Env) (below : List Frame) (s : State) (Q : Option Value → Heap → List Loc → Prop) (ce sl : Nat) (S : State) : Prop := ∃ s₂ o, Steps p.tables e below S s₂ ∧ s₂.status = .running ∧ Ended s₂ below o ∧ ∃ v L, o = .returned v ∧ Q v s₂.heap L ∧ FrameEnd s o s₂ L ce sl
theorem own_fw {S S' : State} (h : ∀ t, Steps p.tables e below S' t → Steps p.tables e below S t) (g : own_G p e below s Q ce sl S') : own_G p e below s Q ce sl S := by
  obtain ⟨s₂, o, h1, r⟩ := g; exact ⟨s₂, o, h _ h1, r⟩
theorem own_via {S S' : State} (h : own_G p e below s Q ce sl S' → own_G p e below s Q ce sl S) (g : own_G p e below s Q ce sl S') : own_G p e below s Q ce sl S := h g
theorem own_cast {S S' : State} (h : S = S') (g : own_G p e below s Q ce sl S') : own_G p e below s Q ce sl S := h ▸ g
abbrev own_M (l : Launch) (Z : State) (y : MethodName) (bytes : ByteArray) (maxL : Nat) (ret : Option FieldType) (ws : List Jvm.Cond) (rm : Room) (as' : Array Value) (h0 : Heap) (Q : Option Value → Heap → List Loc → Prop) (ce sl : Nat) : Prop := MetFree l y (head1 (Jvm.Cond.code y bytes maxL ret :: ws) rm) (fun a U => a = as' ∧ Z.Warmed39 U.vm ∧ U.heap = h0) (fun _ _ _ _ _ => True) (fun _ U o U' => ∃ v L, o = .returned v ∧ Q v U'.heap L ∧ FrameEnd U o U' L ce sl)
theorem own_body {y : MethodName} {bytes : ByteArray} {maxL : Nat} {ret : Option FieldType} {ws : List Jvm.Cond} {rm : Room} {as' : Array Value} {h0 : Heap} (hp : plainFor y = true)
    (body : ∀ (p : Program) (e : Env) (s : State) (m : MethodId) (below : List Frame) (meth : Method) (c : Code) (s₁ : State), p.tables.exec = Jvm.exec → c.code = bytes → c.maxLocals = maxL → s.vm.findClass y.cls = some m.cls → meth.name = y.name → meth.sig.returnType = ret → meth.locks = false → Z.Warmed39 s.vm → Stand p l e rm s m as' below meth c s₁ [] 0 0 → s₁.heap = h0 → own_G p e below s Q ce sl (s₁.setTop (entryFrame m as' maxL))) : own_M l Z y bytes maxL ret ws rm as' h0 Q ce sl := by
  refine MetFree.of_bodySF hp hisR ?_
  intro p e s m args below meth c s₁ Bd hml hP hK
  obtain ⟨rfl, hZ, hh⟩ := hP
  exact body p e s m below meth c s₁ Bd.exec Bd.bytes hml (findClass_of_methodNamed Bd.named) (name_of_methodNamed Bd.named Bd.method).1 Bd.returns Bd.notSynchronized hZ (Stand.of_body Bd) (by rw [← hh, Bd.state]; rfl)
theorem own_ret (X : Stand p l e R s m args below meth c T locs cells slots) (hx : p.tables.exec = Jvm.exec) {w : Value} {t : FieldType} {i : Instr} (hret : meth.sig.returnType = some t) (hlk : meth.locks = false) (hn : narrow t w = w)
    (hi : (i = .ireturn ∧ (t = .int ∨ t = .boolean ∨ t = .byte ∨ t = .char ∨ t = .short) ∧ ∃ z, w = .int z) ∨ (i = .lreturn ∧ t = .long ∧ ∃ z, w = .long z) ∨ (i = .dreturn ∧ t = .double ∧ ∃ z, w = .double z) ∨ (i = .freturn ∧ t = .float ∧ ∃ z, w = .float z) ∨ (i = .areturn ∧ t.isReference = true ∧ w.isRef = true))
    (hd : decode c.code pc = .ok (i, 1)) (hQ : Q (some w) T.heap locs) (hce : cells ≤ ce) (hsl : slots ≤ sl) : own_G p e below s Q ce sl (T.setTop (mkF m pc Ls (w :: st))) := by
  obtain ⟨fs, hr, hrun, hended, hW, hsame⟩ := X.leave (v := some w) (fun h => by rw [hret] at h; cases h) hlk
  exact ⟨_, _, retOut X hx hret hn hi hd hr, hrun, hended, _, _, rfl, hQ, ⟨_, rfl⟩, hW, hsame.mono hce hsl⟩
theorem own_retI (X : Stand p l e R s m args below meth c T locs cells slots) (hx : p.tables.exec = Jvm.exec) {z : Int32} (hret : meth.sig.returnType = some .int) (hlk : meth.locks = false) (hd : decode c.code pc = .ok (.ireturn, 1)) (hQ : Q (some (.int z)) T.heap locs) (hce : cells ≤ ce) (hsl : slots ≤ sl) : own_G p e below s Q ce sl (T.setTop (mkF m pc Ls (.int z :: st))) := own_ret X hx hret hlk rfl (Or.inl ⟨rfl, Or.inl rfl, z, rfl⟩) hd hQ hce hsl
theorem own_retZ (X : Stand p l e R s m args below meth c T locs cells slots) (hx : p.tables.exec = Jvm.exec) {z : Int32} (hret : meth.sig.returnType = some .boolean) (hlk : meth.locks = false) (hz : z = 0 ∨ z = 1) (hd : decode c.code pc = .ok (.ireturn, 1)) (hQ : Q (some (.int z)) T.heap locs) (hce : cells ≤ ce) (hsl : slots ≤ sl) : own_G p e below s Q ce sl (T.setTop (mkF m pc Ls (.int z :: st))) := own_ret X hx hret hlk (by rcases hz with rfl | rfl <;> rfl) (Or.inl ⟨rfl, Or.inr (Or.inl rfl), z, rfl⟩) hd hQ hce hsl
theorem own_retB (X : Stand p l e R s m args below meth c T locs cells slots) (hx : p.tables.exec = Jvm.exec) {z : Int32} (hret : meth.sig.returnType = some .byte) (hlk : meth.locks = false) (hz : narrow .byte (.int z) = .int z) (hd : decode c.code pc = .ok (.ireturn, 1)) (hQ : Q (some (.int z)) T.heap locs) (hce : cells ≤ ce) (hsl : slots ≤ sl) : own_G p e below s Q ce sl (T.setTop (mkF m pc Ls (.int z :: st))) := own_ret X hx hret hlk hz (Or.inl ⟨rfl, Or.inr (Or.inr (Or.inl rfl)), z, rfl⟩) hd hQ hce hsl
theorem own_retL (X : Stand p l e R s m args below meth c T locs cells slots) (hx : p.tables.exec = Jvm.exec) {z : Int64} (hret : meth.sig.returnType = some .long) (hlk : meth.locks = false) (hd : decode c.code pc = .ok (.lreturn, 1)) (hQ : Q (some (.long z)) T.heap locs) (hce : cells ≤ ce) (hsl : slots ≤ sl) : own_G p e below s Q ce sl (T.setTop (mkF m pc Ls (.long z :: st))) := own_ret X hx hret hlk rfl (Or.inr (Or.inl ⟨rfl, rfl, z, rfl⟩)) hd hQ hce hsl
theorem own_retA (X : Stand p l e R s m args below meth c T locs cells slots) (hx : p.tables.exec = Jvm.exec) {v : Value} {t : FieldType} (hret : meth.sig.returnType = some t) (hlk : meth.locks = false) (ht : t.isReference = true) (hn : narrow t v = v) (hv : v.isRef = true) (hd : decode c.code pc = .ok (.areturn, 1)) (hQ : Q (some v) T.heap locs) (hce : cells ≤ ce) (hsl : slots ≤ sl) : own_G p e below s Q ce sl (T.setTop (mkF m pc Ls (v :: st))) := own_ret X hx hret hlk hn (Or.inr (Or.inr (Or.inr (Or.inr ⟨rfl, ht, hv⟩)))) hd hQ hce hsl
theorem own_retV (X : Stand p l e R s m args below meth c T locs cells slots) (hx : p.tables.exec = Jvm.exec) (hret : meth.sig.returnType = none) (hlk : meth.locks = false) (hd : decode c.code pc = .ok (.return_, 1)) (hQ : Q none T.heap locs) (hce : cells ≤ ce) (hsl : slots ≤ sl) : own_G p e below s Q ce sl (T.setTop (mkF m pc Ls [])) := by
  obtain ⟨fs, hr, hrun, hended, hW, hsame⟩ := X.leave (v := none) (fun _ => rfl) hlk
  exact ⟨_, _, X.returnOut hx hret hd hr, hrun, hended, _, _, rfl, hQ, ⟨_, rfl⟩, hW, hsame.mono hce hsl⟩
theorem own_iloadN {i : Fin 4} {v : Int32} (X : Stand p l e R s m args below meth c T locs cells slots) (hx : p.tables.exec = Jvm.exec) (hd : decode c.code pc = .ok (.iload_n i, 1)) (hl : Ls[i.val]? = some (.val (.int v))) (hp : pc + 1 = pc') (k : own_G p e below s Q ce sl (T.setTop (mkF m pc' Ls (.int v :: st)))) : own_G p e below s Q ce sl (T.setTop (mkF m pc Ls st)) := by
  subst hp; exact own_fw (fun t q => XS.iloadN X.here hx rfl hd hl q) k
theorem own_iload {i : Nat} {v : Int32} (X : Stand p l e R s m args below meth c T locs cells slots) (hx : p.tables.exec = Jvm.exec) (hd : decode c.code pc = .ok (.iload i, 2)) (hl : Ls[i]? = some (.val (.int v))) (hp : pc + 2 = pc') (k : own_G p e below s Q ce sl (T.setTop (mkF m pc' Ls (.int v :: st)))) : own_G p e below s Q ce sl (T.setTop (mkF m pc Ls st)) := by
  subst hp; exact own_fw (fun t q => XS.iload X.here hx rfl hd hl q) k
theorem own_lloadN {i : Fin 4} {v : Int64} (X : Stand p l e R s m args below meth c T locs cells slots) (hx : p.tables.exec = Jvm.exec) (hd : decode c.code pc = .ok (.lload_n i, 1)) (hl : Ls[i.val]? = some (.val (.long v))) (hp : pc + 1 = pc') (k : own_G p e below s Q ce sl (T.setTop (mkF m pc' Ls (.long v :: st)))) : own_G p e below s Q ce sl (T.setTop (mkF m pc Ls st)) := by
  subst hp; exact own_fw (fun t q => XS.lloadN X.here hx rfl hd hl q) k
theorem own_lload {i : Nat} {v : Int64} (X : Stand p l e R s m args below meth c T locs cells slots) (hx : p.tables.exec = Jvm.exec) (hd : decode c.code pc = .ok (.lload i, 2)) (hl : Ls[i]? = some (.val (.long v))) (hp : pc + 2 = pc') (k : own_G p e below s Q ce sl (T.setTop (mkF m pc' Ls (.long v :: st)))) : own_G p e below s Q ce sl (T.setTop (mkF m pc Ls st)) := by
  subst hp; exact own_fw (fun t q => XS.lload X.here hx rfl hd hl q) k
theorem own_aloadN {i : Fin 4} {v : Value} (X : Stand p l e R s m args below meth c T locs cells slots) (hx : p.tables.exec = Jvm.exec) (hd : decode c.code pc = .ok (.aload_n i, 1)) (hl : Ls[i.val]? = some (.val v)) (hv : v.isRef = true) (hp : pc + 1 = pc') (k : own_G p e below s Q ce sl (T.setTop (mkF m pc' Ls (v :: st)))) : own_G p e below s Q ce sl (T.setTop (mkF m pc Ls st)) := by
  subst hp; exact own_fw (fun t q => XS.aloadN X.here hx rfl hd hl hv q) k
theorem own_aload {i : Nat} {v : Value} (X : Stand p l e R s m args below meth c T locs cells slots) (hx : p.tables.exec = Jvm.exec) (hd : decode c.code pc = .ok (.aload i, 2)) (hl : Ls[i]? = some (.val v)) (hv : v.isRef = true) (hp : pc + 2 = pc') (k : own_G p e below s Q ce sl (T.setTop (mkF m pc' Ls (v :: st)))) : own_G p e below s Q ce sl (T.setTop (mkF m pc Ls st)) := by
  subst hp; exact own_fw (fun t q => XS.aload X.here hx rfl hd hl hv q) k
theorem own_istoreN {i : Fin 4} {v : Int32} (X : Stand p l e R s m args below meth c T locs cells slots) (hx : p.tables.exec = Jvm.exec) (hd : decode c.code pc = .ok (.istore_n i, 1)) {l' : Array Slot} (hl : storeLocals Ls i.val (.int v) = some l') (hp : pc + 1 = pc') (k : own_G p e below s Q ce sl (T.setTop (mkF m pc' l' st))) : own_G p e below s Q ce sl (T.setTop (mkF m pc Ls (.int v :: st))) := by
  subst hp; exact own_fw (fun t q => XS.istoreN X.here hx rfl hd rfl hl q) k
theorem own_istore {i : Nat} {v : Int32} (X : Stand p l e R s m args below meth c T locs cells slots) (hx : p.tables.exec = Jvm.exec) (hd : decode c.code pc = .ok (.istore i, 2)) {l' : Array Slot} (hl : storeLocals Ls i (.int v) = some l') (hp : pc + 2 = pc') (k : own_G p e below s Q ce sl (T.setTop (mkF m pc' l' st))) : own_G p e below s Q ce sl (T.setTop (mkF m pc Ls (.int v :: st))) := by
  subst hp; exact own_fw (fun t q => XS.istore X.here hx rfl hd rfl hl q) k
theorem own_lstoreN {i : Fin 4} {v : Int64} (X : Stand p l e R s m args below meth c T locs cells slots) (hx : p.tables.exec = Jvm.exec) (hd : decode c.code pc = .ok (.lstore_n i, 1)) {l' : Array Slot} (hl : storeLocals Ls i.val (.long v) = some l') (hp : pc + 1 = pc') (k : own_G p e below s Q ce sl (T.setTop (mkF m pc' l' st))) : own_G p e below s Q ce sl (T.setTop (mkF m pc Ls (.long v :: st))) := by
  subst hp; exact own_fw (fun t q => XS.lstoreN X.here hx rfl hd rfl hl q) k
theorem own_lstore {i : Nat} {v : Int64} (X : Stand p l e R s m args below meth c T locs cells slots) (hx : p.tables.exec = Jvm.exec) (hd : decode c.code pc = .ok (.lstore i, 2)) {l' : Array Slot} (hl : storeLocals Ls i (.long v) = some l') (hp : pc + 2 = pc') (k : own_G p e below s Q ce sl (T.setTop (mkF m pc' l' st))) : own_G p e below s Q ce sl (T.setTop (mkF m pc Ls (.long v :: st))) := by
  subst hp; exact own_fw (fun t q => XS.lstore X.here hx rfl hd rfl hl q) k
theorem own_astoreN {i : Fin 4} {v : Value} (X : Stand p l e R s m args below meth c T locs cells slots) (hx : p.tables.exec = Jvm.exec) (hd : decode c.code pc = .ok (.astore_n i, 1)) (hv : v.isRef = true) {l' : Array Slot} (hl : storeLocals Ls i.val v = some l') (hp : pc + 1 = pc') (k : own_G p e below s Q ce sl (T.setTop (mkF m pc' l' st))) : own_G p e below s Q ce sl (T.setTop (mkF m pc Ls (v :: st))) := by
  subst hp; exact own_fw (fun t q => XS.astoreN X.here hx rfl hd rfl hv hl q) k
theorem own_astore {i : Nat} {v : Value} (X : Stand p l e R s m args below meth c T locs cells slots) (hx : p.tables.exec = Jvm.exec) (hd : decode c.code pc = .ok (.astore i, 2)) (hv : v.isRef = true) {l' : Array Slot} (hl : storeLocals Ls i v = some l') (hp : pc + 2 = pc') (k : own_G p e below s Q ce sl (T.setTop (mkF m pc' l' st))) : own_G p e below s Q ce sl (T.setTop (mkF m pc Ls (v :: st))) := by
  subst hp; exact own_fw (fun t q => XS.astore X.here hx rfl hd rfl hv hl q) k
theorem own_iconst {i : Int} {z : Int32} (X : Stand p l e R s m args below meth c T locs cells slots) (hx : p.tables.exec = Jvm.exec) (hd : decode c.code pc = .ok (.iconst i, 1)) (hz : Int32.ofInt i = z) (hp : pc + 1 = pc') (k : own_G p e below s Q ce sl (T.setTop (mkF m pc' Ls (.int z :: st)))) : own_G p e below s Q ce sl (T.setTop (mkF m pc Ls st)) := by
  subst hp hz; exact own_fw (fun t q => XS.iconst X.here hx rfl hd q) k
theorem own_bipush {i : Int} {z : Int32} (X : Stand p l e R s m args below meth c T locs cells slots) (hx : p.tables.exec = Jvm.exec) (hd : decode c.code pc = .ok (.bipush i, 2)) (hz : (Int8.ofInt i).toInt32 = z) (hp : pc + 2 = pc') (k : own_G p e below s Q ce sl (T.setTop (mkF m pc' Ls (.int z :: st)))) : own_G p e below s Q ce sl (T.setTop (mkF m pc Ls st)) := by
  subst hp hz; exact own_fw (fun t q => XS.bipush X.here hx rfl hd q) k
theorem own_sipush {i : Int} {z : Int32} (X : Stand p l e R s m args below meth c T locs cells slots) (hx : p.tables.exec = Jvm.exec) (hd : decode c.code pc = .ok (.sipush i, 3)) (hz : (Int16.ofInt i).toInt32 = z) (hp : pc + 3 = pc') (k : own_G p e below s Q ce sl (T.setTop (mkF m pc' Ls (.int z :: st)))) : own_G p e below s Q ce sl (T.setTop (mkF m pc Ls st)) := by
  subst hp hz; exact own_fw (fun t q => XS.sipush X.here hx rfl hd q) k
theorem own_lconst {i : Fin 2} {z : Int64} (X : Stand p l e R s m args below meth c T locs cells slots) (hx : p.tables.exec = Jvm.exec) (hd : decode c.code pc = .ok (.lconst i, 1)) (hz : Int64.ofNat i = z) (hp : pc + 1 = pc') (k : own_G p e below s Q ce sl (T.setTop (mkF m pc' Ls (.long z :: st)))) : own_G p e below s Q ce sl (T.setTop (mkF m pc Ls st)) := by
  subst hp hz; exact own_fw (fun t q => XS.lconst X.here hx rfl hd q) k
theorem own_aconstNull (X : Stand p l e R s m args below meth c T locs cells slots) (hx : p.tables.exec = Jvm.exec) (hd : decode c.code pc = .ok (.aconst_null, 1)) (hp : pc + 1 = pc') (k : own_G p e below s Q ce sl (T.setTop (mkF m pc' Ls (.null :: st)))) : own_G p e below s Q ce sl (T.setTop (mkF m pc Ls st)) := by
  subst hp; exact own_fw (fun t q => XS.aconstNull X.here hx rfl hd q) k
theorem own_ldc (X : Stand p l e R s m args below meth c T locs cells slots) (hx : p.tables.exec = Jvm.exec) (hZ : Z.Warmed39 s.vm) {own : String} {index : Nat} {v : Int32} (hown : s.vm.findClass own = some m.cls) (w1 : (Jvm.Cond.constant own index v).before a0 Z = true) (hd : decode c.code pc = .ok (.ldc index, 2)) (hp : pc + 2 = pc') (k : own_G p e below s Q ce sl (T.setTop (mkF m pc' Ls (.int v :: st)))) : own_G p e below s Q ce sl (T.setTop (mkF m pc Ls st)) := by
  subst hp; exact own_fw (X.ldcInt hx hown (mvT hZ w1) (g := mkF m pc Ls st) rfl hd) k
theorem own_ldc2 (X : Stand p l e R s m args below meth c T locs cells slots) (hx : p.tables.exec = Jvm.exec) (hZ : Z.Warmed39 s.vm) {own : String} {index : Nat} {v : Int64} (hown : s.vm.findClass own = some m.cls) (w1 : (Jvm.Cond.constantLong own index v).before a0 Z = true) (hd : decode c.code pc = .ok (.ldc2_w index, 3)) (hp : pc + 3 = pc') (k : own_G p e below s Q ce sl (T.setTop (mkF m pc' Ls (.long v :: st)))) : own_G p e below s Q ce sl (T.setTop (mkF m pc Ls st)) := by
  subst hp; exact own_fw (X.ldc2Long hx hown (mvT hZ w1) (g := mkF m pc Ls st) rfl hd) k
theorem own_iadd {x y : Int32} (X : Stand p l e R s m args below meth c T locs cells slots) (hx : p.tables.exec = Jvm.exec) (hd : decode c.code pc = .ok (.iadd, 1)) (hp : pc + 1 = pc') (k : own_G p e below s Q ce sl (T.setTop (mkF m pc' Ls (.int (x + y) :: st)))) : own_G p e below s Q ce sl (T.setTop (mkF m pc Ls (.int y :: .int x :: st))) := by
  subst hp; exact own_fw (fun t q => XS.iadd X.here hx rfl hd rfl q) k
theorem own_isub {x y : Int32} (X : Stand p l e R s m args below meth c T locs cells slots) (hx : p.tables.exec = Jvm.exec) (hd : decode c.code pc = .ok (.isub, 1)) (hp : pc + 1 = pc') (k : own_G p e below s Q ce sl (T.setTop (mkF m pc' Ls (.int (x - y) :: st)))) : own_G p e below s Q ce sl (T.setTop (mkF m pc Ls (.int y :: .int x :: st))) := by
  subst hp; exact own_fw (fun t q => XS.isub X.here hx rfl hd rfl q) k
theorem own_imul {x y : Int32} (X : Stand p l e R s m args below meth c T locs cells slots) (hx : p.tables.exec = Jvm.exec) (hd : decode c.code pc = .ok (.imul, 1)) (hp : pc + 1 = pc') (k : own_G p e below s Q ce sl (T.setTop (mkF m pc' Ls (.int (x * y) :: st)))) : own_G p e below s Q ce sl (T.setTop (mkF m pc Ls (.int y :: .int x :: st))) := by
  subst hp; exact own_fw (fun t q => XS.imul X.here hx rfl hd rfl q) k
theorem own_iand {x y : Int32} (X : Stand p l e R s m args below meth c T locs cells slots) (hx : p.tables.exec = Jvm.exec) (hd : decode c.code pc = .ok (.iand, 1)) (hp : pc + 1 = pc') (k : own_G p e below s Q ce sl (T.setTop (mkF m pc' Ls (.int (x &&& y) :: st)))) : own_G p e below s Q ce sl (T.setTop (mkF m pc Ls (.int y :: .int x :: st))) := by
  subst hp; exact own_fw (fun t q => XS.iand X.here hx rfl hd rfl q) k
theorem own_ior {x y : Int32} (X : Stand p l e R s m args below meth c T locs cells slots) (hx : p.tables.exec = Jvm.exec) (hd : decode c.code pc = .ok (.ior, 1)) (hp : pc + 1 = pc') (k : own_G p e below s Q ce sl (T.setTop (mkF m pc' Ls (.int (x ||| y) :: st)))) : own_G p e below s Q ce sl (T.setTop (mkF m pc Ls (.int y :: .int x :: st))) := by
  subst hp; exact own_fw (fun t q => XS.ior X.here hx rfl hd rfl q) k
theorem own_ixor {x y : Int32} (X : Stand p l e R s m args below meth c T locs cells slots) (hx : p.tables.exec = Jvm.exec) (hd : decode c.code pc = .ok (.ixor, 1)) (hp : pc + 1 = pc') (k : own_G p e below s Q ce sl (T.setTop (mkF m pc' Ls (.int (x ^^^ y) :: st)))) : own_G p e below s Q ce sl (T.setTop (mkF m pc Ls (.int y :: .int x :: st))) := by
  subst hp; exact own_fw (fun t q => XS.ixor X.here hx rfl hd rfl q) k
theorem own_ishl {x y : Int32} (X : Stand p l e R s m args below meth c T locs cells slots) (hx : p.tables.exec = Jvm.exec) (hd : decode c.code pc = .ok (.ishl, 1)) (hp : pc + 1 = pc') (k : own_G p e below s Q ce sl (T.setTop (mkF m pc' Ls (.int (x <<< (y &&& 31)) :: st)))) : own_G p e below s Q ce sl (T.setTop (mkF m pc Ls (.int y :: .int x :: st))) := by
  subst hp; exact own_fw (fun t q => XS.ishl X.here hx rfl hd rfl q) k
theorem own_ishr {x y : Int32} (X : Stand p l e R s m args below meth c T locs cells slots) (hx : p.tables.exec = Jvm.exec) (hd : decode c.code pc = .ok (.ishr, 1)) (hp : pc + 1 = pc') (k : own_G p e below s Q ce sl (T.setTop (mkF m pc' Ls (.int (x >>> (y &&& 31)) :: st)))) : own_G p e below s Q ce sl (T.setTop (mkF m pc Ls (.int y :: .int x :: st))) := by
  subst hp; exact own_fw (fun t q => XS.ishr X.here hx rfl hd rfl q) k
theorem own_iushr {x y : Int32} (X : Stand p l e R s m args below meth c T locs cells slots) (hx : p.tables.exec = Jvm.exec) (hd : decode c.code pc = .ok (.iushr, 1)) (hp : pc + 1 = pc') (k : own_G p e below s Q ce sl (T.setTop (mkF m pc' Ls (.int ((x.toUInt32 >>> (y &&& 31).toUInt32).toInt32) :: st)))) : own_G p e below s Q ce sl (T.setTop (mkF m pc Ls (.int y :: .int x :: st))) := by
  subst hp; exact own_fw (fun t q => XS.iushr X.here hx rfl hd rfl q) k
theorem own_ladd {x y : Int64} (X : Stand p l e R s m args below meth c T locs cells slots) (hx : p.tables.exec = Jvm.exec) (hd : decode c.code pc = .ok (.ladd, 1)) (hp : pc + 1 = pc') (k : own_G p e below s Q ce sl (T.setTop (mkF m pc' Ls (.long (x + y) :: st)))) : own_G p e below s Q ce sl (T.setTop (mkF m pc Ls (.long y :: .long x :: st))) := by
  subst hp; exact own_fw (fun t q => XS.ladd X.here hx rfl hd rfl q) k
theorem own_lsub {x y : Int64} (X : Stand p l e R s m args below meth c T locs cells slots) (hx : p.tables.exec = Jvm.exec) (hd : decode c.code pc = .ok (.lsub, 1)) (hp : pc + 1 = pc') (k : own_G p e below s Q ce sl (T.setTop (mkF m pc' Ls (.long (x - y) :: st)))) : own_G p e below s Q ce sl (T.setTop (mkF m pc Ls (.long y :: .long x :: st))) := by
  subst hp; exact own_fw (fun t q => XS.lsub X.here hx rfl hd rfl q) k
theorem own_lmul {x y : Int64} (X : Stand p l e R s m args below meth c T locs cells slots) (hx : p.tables.exec = Jvm.exec) (hd : decode c.code pc = .ok (.lmul, 1)) (hp : pc + 1 = pc') (k : own_G p e below s Q ce sl (T.setTop (mkF m pc' Ls (.long (x * y) :: st)))) : own_G p e below s Q ce sl (T.setTop (mkF m pc Ls (.long y :: .long x :: st))) := by
  subst hp; exact own_fw (fun t q => XS.lmul X.here hx rfl hd rfl q) k
theorem own_land {x y : Int64} (X : Stand p l e R s m args below meth c T locs cells slots) (hx : p.tables.exec = Jvm.exec) (hd : decode c.code pc = .ok (.land, 1)) (hp : pc + 1 = pc') (k : own_G p e below s Q ce sl (T.setTop (mkF m pc' Ls (.long (x &&& y) :: st)))) : own_G p e below s Q ce sl (T.setTop (mkF m pc Ls (.long y :: .long x :: st))) := by
  subst hp; exact own_fw (fun t q => XS.land X.here hx rfl hd rfl q) k
theorem own_lor {x y : Int64} (X : Stand p l e R s m args below meth c T locs cells slots) (hx : p.tables.exec = Jvm.exec) (hd : decode c.code pc = .ok (.lor, 1)) (hp : pc + 1 = pc') (k : own_G p e below s Q ce sl (T.setTop (mkF m pc' Ls (.long (x ||| y) :: st)))) : own_G p e below s Q ce sl (T.setTop (mkF m pc Ls (.long y :: .long x :: st))) := by
  subst hp; exact own_fw (fun t q => XS.lor X.here hx rfl hd rfl q) k
theorem own_lxor {x y : Int64} (X : Stand p l e R s m args below meth c T locs cells slots) (hx : p.tables.exec = Jvm.exec) (hd : decode c.code pc = .ok (.lxor, 1)) (hp : pc + 1 = pc') (k : own_G p e below s Q ce sl (T.setTop (mkF m pc' Ls (.long (x ^^^ y) :: st)))) : own_G p e below s Q ce sl (T.setTop (mkF m pc Ls (.long y :: .long x :: st))) := by
  subst hp; exact own_fw (fun t q => XS.lxor X.here hx rfl hd rfl q) k
theorem own_lshl {x : Int64} {y : Int32} (X : Stand p l e R s m args below meth c T locs cells slots) (hx : p.tables.exec = Jvm.exec) (hd : decode c.code pc = .ok (.lshl, 1)) (hp : pc + 1 = pc') (k : own_G p e below s Q ce sl (T.setTop (mkF m pc' Ls (.long (x <<< (y &&& 0x3f).toInt64) :: st)))) : own_G p e below s Q ce sl (T.setTop (mkF m pc Ls (.int y :: .long x :: st))) := by
  subst hp; exact own_fw (fun t q => XS.lshl X.here hx rfl hd rfl q) k
theorem own_lshr {x : Int64} {y : Int32} (X : Stand p l e R s m args below meth c T locs cells slots) (hx : p.tables.exec = Jvm.exec) (hd : decode c.code pc = .ok (.lshr, 1)) (hp : pc + 1 = pc') (k : own_G p e below s Q ce sl (T.setTop (mkF m pc' Ls (.long (x >>> (y &&& 0x3f).toInt64) :: st)))) : own_G p e below s Q ce sl (T.setTop (mkF m pc Ls (.int y :: .long x :: st))) := by
  subst hp; exact own_fw (fun t q => XS.lshr X.here hx rfl hd rfl q) k
theorem own_lushr {x : Int64} {y : Int32} (X : Stand p l e R s m args below meth c T locs cells slots) (hx : p.tables.exec = Jvm.exec) (hd : decode c.code pc = .ok (.lushr, 1)) (hp : pc + 1 = pc') (k : own_G p e below s Q ce sl (T.setTop (mkF m pc' Ls (.long ((x.toUInt64 >>> (y &&& 0x3f).toInt64.toUInt64).toInt64) :: st)))) : own_G p e below s Q ce sl (T.setTop (mkF m pc Ls (.int y :: .long x :: st))) := by
  subst hp; exact own_fw (fun t q => XS.lushr X.here hx rfl hd rfl q) k
theorem own_idiv {x y : Int32} (X : Stand p l e R s m args below meth c T locs cells slots) (hx : p.tables.exec = Jvm.exec) (hd : decode c.code pc = .ok (.idiv, 1)) (hy : y ≠ 0) (hp : pc + 1 = pc') (k : own_G p e below s Q ce sl (T.setTop (mkF m pc' Ls (.int (x / y) :: st)))) : own_G p e below s Q ce sl (T.setTop (mkF m pc Ls (.int y :: .int x :: st))) := by
  subst hp; exact own_fw (fun t q => XS.idiv X.here hx rfl hd rfl hy q) k
theorem own_ldiv {x y : Int64} (X : Stand p l e R s m args below meth c T locs cells slots) (hx : p.tables.exec = Jvm.exec) (hd : decode c.code pc = .ok (.ldiv, 1)) (hy : y ≠ 0) (hp : pc + 1 = pc') (k : own_G p e below s Q ce sl (T.setTop (mkF m pc' Ls (.long (x / y) :: st)))) : own_G p e below s Q ce sl (T.setTop (mkF m pc Ls (.long y :: .long x :: st))) := by
  subst hp; exact own_fw (fun t q => XS.ldiv X.here hx rfl hd rfl hy q) k
theorem own_irem {x y : Int32} (X : Stand p l e R s m args below meth c T locs cells slots) (hx : p.tables.exec = Jvm.exec) (hd : decode c.code pc = .ok (.irem, 1)) (hy : y ≠ 0) (hp : pc + 1 = pc') (k : own_G p e below s Q ce sl (T.setTop (mkF m pc' Ls (.int (x % y) :: st)))) : own_G p e below s Q ce sl (T.setTop (mkF m pc Ls (.int y :: .int x :: st))) := by
  subst hp; exact own_fw (fun t q => iremM X hx rfl hd rfl hy q) k
theorem own_lrem {x y : Int64} (X : Stand p l e R s m args below meth c T locs cells slots) (hx : p.tables.exec = Jvm.exec) (hd : decode c.code pc = .ok (.lrem, 1)) (hy : y ≠ 0) (hp : pc + 1 = pc') (k : own_G p e below s Q ce sl (T.setTop (mkF m pc' Ls (.long (x % y) :: st)))) : own_G p e below s Q ce sl (T.setTop (mkF m pc Ls (.long y :: .long x :: st))) := by
  subst hp; rw [← lrem_mod] at k; exact own_fw (fun t q => XS.lrem X.here hx rfl hd rfl hy q) k
theorem own_ineg {x : Int32} (X : Stand p l e R s m args below meth c T locs cells slots) (hx : p.tables.exec = Jvm.exec) (hd : decode c.code pc = .ok (.ineg, 1)) (hp : pc + 1 = pc') (k : own_G p e below s Q ce sl (T.setTop (mkF m pc' Ls (.int (-x) :: st)))) : own_G p e below s Q ce sl (T.setTop (mkF m pc Ls (.int x :: st))) := by
  subst hp; exact own_fw (fun t q => XS.ineg X.here hx rfl hd rfl q) k
theorem own_lneg {x : Int64} (X : Stand p l e R s m args below meth c T locs cells slots) (hx : p.tables.exec = Jvm.exec) (hd : decode c.code pc = .ok (.lneg, 1)) (hp : pc + 1 = pc') (k : own_G p e below s Q ce sl (T.setTop (mkF m pc' Ls (.long (-x) :: st)))) : own_G p e below s Q ce sl (T.setTop (mkF m pc Ls (.long x :: st))) := by
  subst hp; exact own_fw (fun t q => XS.lneg X.here hx rfl hd rfl q) k
theorem own_i2l {x : Int32} (X : Stand p l e R s m args below meth c T locs cells slots) (hx : p.tables.exec = Jvm.exec) (hd : decode c.code pc = .ok (.i2l, 1)) (hp : pc + 1 = pc') (k : own_G p e below s Q ce sl (T.setTop (mkF m pc' Ls (.long x.toInt64 :: st)))) : own_G p e below s Q ce sl (T.setTop (mkF m pc Ls (.int x :: st))) := by
  subst hp; exact own_fw (fun t q => XS.i2l X.here hx rfl hd rfl q) k
theorem own_l2i {x : Int64} (X : Stand p l e R s m args below meth c T locs cells slots) (hx : p.tables.exec = Jvm.exec) (hd : decode c.code pc = .ok (.l2i, 1)) (hp : pc + 1 = pc') (k : own_G p e below s Q ce sl (T.setTop (mkF m pc' Ls (.int x.toInt32 :: st)))) : own_G p e below s Q ce sl (T.setTop (mkF m pc Ls (.long x :: st))) := by
  subst hp; exact own_fw (fun t q => XS.l2i X.here hx rfl hd rfl q) k
theorem own_i2b {x : Int32} (X : Stand p l e R s m args below meth c T locs cells slots) (hx : p.tables.exec = Jvm.exec) (hd : decode c.code pc = .ok (.i2b, 1)) (hp : pc + 1 = pc') (k : own_G p e below s Q ce sl (T.setTop (mkF m pc' Ls (.int x.toInt8.toInt32 :: st)))) : own_G p e below s Q ce sl (T.setTop (mkF m pc Ls (.int x :: st))) := by
  subst hp; exact own_fw (fun t q => XS.i2b X.here hx rfl hd rfl q) k
theorem own_lcmp {x y : Int64} (X : Stand p l e R s m args below meth c T locs cells slots) (hx : p.tables.exec = Jvm.exec) (hd : decode c.code pc = .ok (.lcmp, 1)) (hp : pc + 1 = pc') (k : own_G p e below s Q ce sl (T.setTop (mkF m pc' Ls (.int (lcmpW x y) :: st)))) : own_G p e below s Q ce sl (T.setTop (mkF m pc Ls (.long y :: .long x :: st))) := by
  subst hp; exact own_fw (fun t q => XS.lcmp X.here hx rfl hd rfl q) k
theorem own_dup {x : Value} (X : Stand p l e R s m args below meth c T locs cells slots) (hx : p.tables.exec = Jvm.exec) (hd : decode c.code pc = .ok (.dup, 1)) (hc : x.category = 1) (hp : pc + 1 = pc') (k : own_G p e below s Q ce sl (T.setTop (mkF m pc' Ls (x :: x :: st)))) : own_G p e below s Q ce sl (T.setTop (mkF m pc Ls (x :: st))) := by
  subst hp; exact own_fw (fun t q => XS.dup X.here hx rfl hd rfl hc q) k
theorem own_pop {x : Value} (X : Stand p l e R s m args below meth c T locs cells slots) (hx : p.tables.exec = Jvm.exec) (hd : decode c.code pc = .ok (.pop, 1)) (hc : x.category = 1) (hp : pc + 1 = pc') (k : own_G p e below s Q ce sl (T.setTop (mkF m pc' Ls st))) : own_G p e below s Q ce sl (T.setTop (mkF m pc Ls (x :: st))) := by
  subst hp; exact own_fw (fun t q => XS.pop X.here hx rfl hd rfl hc q) k
theorem own_dupX1 {x y : Value} (X : Stand p l e R s m args below meth c T locs cells slots) (hx : p.tables.exec = Jvm.exec) (hd : decode c.code pc = .ok (.dup_x1, 1)) (hc : x.category = 1) (hc' : y.category = 1) (hp : pc + 1 = pc') (k : own_G p e below s Q ce sl (T.setTop (mkF m pc' Ls (x :: y :: x :: st)))) : own_G p e below s Q ce sl (T.setTop (mkF m pc Ls (x :: y :: st))) := by
  subst hp; exact own_fw (fun t q => XS.dupX1 X.here hx rfl hd rfl hc hc' q) k
theorem own_dup2 {x y : Value} (X : Stand p l e R s m args below meth c T locs cells slots) (hx : p.tables.exec = Jvm.exec) (hd : decode c.code pc = .ok (.dup2, 1)) (hc : x.category = 1) (hc' : y.category = 1) (hp : pc + 1 = pc') (k : own_G p e below s Q ce sl (T.setTop (mkF m pc' Ls (x :: y :: x :: y :: st)))) : own_G p e below s Q ce sl (T.setTop (mkF m pc Ls (x :: y :: st))) := by
  subst hp; exact own_fw (fun t q => XT.dup2 X.here hx rfl hd rfl hc hc' q) k
theorem own_iinc {i : Nat} {cst : Int} {x z : Int32} (X : Stand p l e R s m args below meth c T locs cells slots) (hx : p.tables.exec = Jvm.exec) (hd : decode c.code pc = .ok (.iinc i cst, 3)) (hl : Ls[i]? = some (.val (.int x))) (hz : Int32.ofInt cst = z) {l' : Array Slot} (hl' : storeLocals Ls i (.int (x + z)) = some l') (hp : pc + 3 = pc') (k : own_G p e below s Q ce sl (T.setTop (mkF m pc' l' st))) : own_G p e below s Q ce sl (T.setTop (mkF m pc Ls st)) := by
  subst hp hz; exact own_fw (fun t q => XS.iinc X.here hx rfl hd hl hl' q) k
theorem own_goto {o : Int} (X : Stand p l e R s m args below meth c T locs cells slots) (hx : p.tables.exec = Jvm.exec) (hd : decode c.code pc = .ok (.goto o, 3)) (ho : 0 ≤ (pc : Int) + o) (hp : ((pc : Int) + o).toNat = pc') (k : own_G p e below s Q ce sl (T.setTop (mkF m pc' Ls st))) : own_G p e below s Q ce sl (T.setTop (mkF m pc Ls st)) := own_fw (fun t q => XS.goto X.here hx rfl (pc0 := pc) rfl hd ho hp q) k
theorem own_icmpT {o : Int} {cd : ClassFile.Cond} {x y : Int32} (X : Stand p l e R s m args below meth c T locs cells slots) (hx : p.tables.exec = Jvm.exec) (hd : decode c.code pc = .ok (.if_icmp cd o, 3)) (hc : if_icmp.holds cd x y = true) (ho : 0 ≤ (pc : Int) + o) (hp : ((pc : Int) + o).toNat = pc') (k : own_G p e below s Q ce sl (T.setTop (mkF m pc' Ls st))) : own_G p e below s Q ce sl (T.setTop (mkF m pc Ls (.int y :: .int x :: st))) := own_fw (fun t q => XS.icmpYes X.here hx rfl (pc0 := pc) rfl hd rfl hc ho hp q) k
theorem own_icmpF {o : Int} {cd : ClassFile.Cond} {x y : Int32} (X : Stand p l e R s m args below meth c T locs cells slots) (hx : p.tables.exec = Jvm.exec) (hd : decode c.code pc = .ok (.if_icmp cd o, 3)) (hc : if_icmp.holds cd x y = false) (hp : pc + 3 = pc') (k : own_G p e below s Q ce sl (T.setTop (mkF m pc' Ls st))) : own_G p e below s Q ce sl (T.setTop (mkF m pc Ls (.int y :: .int x :: st))) := by
  subst hp; exact own_fw (fun t q => XS.icmpNo X.here hx rfl hd rfl hc q) k
theorem own_ifT {o : Int} {cd : ClassFile.Cond} {x : Int32} (X : Stand p l e R s m args below meth c T locs cells slots) (hx : p.tables.exec = Jvm.exec) (hd : decode c.code pc = .ok (.ifCond cd o, 3)) (hc : if_icmp.holds cd x 0 = true) (ho : 0 ≤ (pc : Int) + o) (hp : ((pc : Int) + o).toNat = pc') (k : own_G p e below s Q ce sl (T.setTop (mkF m pc' Ls st))) : own_G p e below s Q ce sl (T.setTop (mkF m pc Ls (.int x :: st))) := own_fw (fun t q => XS.ifYes X.here hx rfl (pc0 := pc) rfl hd rfl ((if0 cd x).trans hc) ho hp q) k
theorem own_ifF {o : Int} {cd : ClassFile.Cond} {x : Int32} (X : Stand p l e R s m args below meth c T locs cells slots) (hx : p.tables.exec = Jvm.exec) (hd : decode c.code pc = .ok (.ifCond cd o, 3)) (hc : if_icmp.holds cd x 0 = false) (hp : pc + 3 = pc') (k : own_G p e below s Q ce sl (T.setTop (mkF m pc' Ls st))) : own_G p e below s Q ce sl (T.setTop (mkF m pc Ls (.int x :: st))) := by
  subst hp; exact own_fw (fun t q => XS.ifNo X.here hx rfl hd rfl ((if0 cd x).trans hc) q) k
theorem own_ltL {x y : Int64} (h : x < y) : if_icmp.holds .lt (lcmpW x y) 0 = true ∧ if_icmp.holds .ge (lcmpW x y) 0 = false ∧ if_icmp.holds .gt (lcmpW y x) 0 = true ∧ if_icmp.holds .le (lcmpW y x) 0 = false := by
  have h1 := (lw_lt x y).mpr h
  have h2 := (lw_gt y x).mpr h
  exact ⟨(tlt h1).1, (tlt h1).2.1, (tlt h2).2.2.1, (tlt h2).2.2.2⟩
theorem own_geL {x y : Int64} (h : ¬ x < y) : if_icmp.holds .lt (lcmpW x y) 0 = false ∧ if_icmp.holds .ge (lcmpW x y) 0 = true ∧ if_icmp.holds .gt (lcmpW y x) 0 = false ∧ if_icmp.holds .le (lcmpW y x) 0 = true := by
  have h1 : ¬ lcmpW x y < 0 := fun q => h ((lw_lt x y).mp q)
  have h2 : ¬ 0 < lcmpW y x := fun q => h ((lw_gt y x).mp q)
  exact ⟨(flt h1).1, (flt h1).2.1, (flt h2).2.2.1, (flt h2).2.2.2⟩
theorem own_eqL {x y : Int64} (h : x = y) : if_icmp.holds .eq (lcmpW x y) 0 = true ∧ if_icmp.holds .ne (lcmpW x y) 0 = false := teq ((lw_eq x y).mpr h)
theorem own_neL {x y : Int64} (h : ¬ x = y) : if_icmp.holds .eq (lcmpW x y) 0 = false ∧ if_icmp.holds .ne (lcmpW x y) 0 = true := feq (fun q => h ((lw_eq x y).mp q))
theorem own_bT {P : Prop} [Decidable P] (h : P) : if_icmp.holds .eq (if P then (1 : Int32) else 0) 0 = false ∧ if_icmp.holds .ne (if P then (1 : Int32) else 0) 0 = true := by rw [if_pos h]; exact ⟨rfl, rfl⟩
theorem own_bF {P : Prop} [Decidable P] (h : ¬ P) : if_icmp.holds .eq (if P then (1 : Int32) else 0) 0 = true ∧ if_icmp.holds .ne (if P then (1 : Int32) else 0) 0 = false := by rw [if_neg h]; exact ⟨rfl, rfl⟩
theorem own_b01 {P : Prop} [Decidable P] : (if P then (1 : Int32) else 0) = 0 ∨ (if P then (1 : Int32) else 0) = 1 := by by_cases h : P <;> simp [h]
theorem own_ifnonnullT {o : Int} {b : Addr} (X : Stand p l e R s m args below meth c T locs cells slots) (hx : p.tables.exec = Jvm.exec) (hd : decode c.code pc = .ok (.ifnonnull o, 3)) (ho : 0 ≤ (pc : Int) + o) (hp : ((pc : Int) + o).toNat = pc') (k : own_G p e below s Q ce sl (T.setTop (mkF m pc' Ls st))) : own_G p e below s Q ce sl (T.setTop (mkF m pc Ls (.ref b :: st))) := own_fw (fun t q => XS.ifnonnullYes X.here hx rfl (pc0 := pc) rfl hd rfl ho hp q) k
theorem own_ifnonnullF {o : Int} (X : Stand p l e R s m args below meth c T locs cells slots) (hx : p.tables.exec = Jvm.exec) (hd : decode c.code pc = .ok (.ifnonnull o, 3)) (hp : pc + 3 = pc') (k : own_G p e below s Q ce sl (T.setTop (mkF m pc' Ls st))) : own_G p e below s Q ce sl (T.setTop (mkF m pc Ls (.null :: st))) := by
  subst hp; exact own_fw (fun t q => XS.ifnonnullNo X.here hx rfl hd rfl q) k
theorem own_ifnullT {o : Int} (X : Stand p l e R s m args below meth c T locs cells slots) (hx : p.tables.exec = Jvm.exec) (hd : decode c.code pc = .ok (.ifnull o, 3)) (ho : 0 ≤ (pc : Int) + o) (hp : ((pc : Int) + o).toNat = pc') (k : own_G p e below s Q ce sl (T.setTop (mkF m pc' Ls st))) : own_G p e below s Q ce sl (T.setTop (mkF m pc Ls (.null :: st))) := own_fw (fun t q => XS.ifnullYes X.here hx rfl (pc0 := pc) rfl hd rfl ho hp q) k
theorem own_ifnullF {o : Int} {b : Addr} (X : Stand p l e R s m args below meth c T locs cells slots) (hx : p.tables.exec = Jvm.exec) (hd : decode c.code pc = .ok (.ifnull o, 3)) (hp : pc + 3 = pc') (k : own_G p e below s Q ce sl (T.setTop (mkF m pc' Ls st))) : own_G p e below s Q ce sl (T.setTop (mkF m pc Ls (.ref b :: st))) := by
  subst hp; exact own_fw (fun t q => XS.ifnullNo X.here hx rfl hd rfl q) k
theorem own_acmpT {o : Int} {cd : ACond} {x y : Value} (X : Stand p l e R s m args below meth c T locs cells slots) (hx : p.tables.exec = Jvm.exec) (hd : decode c.code pc = .ok (.if_acmp cd o, 3)) (h1 : x.isRef = true) (h2 : y.isRef = true) (hc : XT.acmp cd x y = true) (ho : 0 ≤ (pc : Int) + o) (hp : ((pc : Int) + o).toNat = pc') (k : own_G p e below s Q ce sl (T.setTop (mkF m pc' Ls st))) : own_G p e below s Q ce sl (T.setTop (mkF m pc Ls (y :: x :: st))) := own_fw (fun t q => XT.acmpYes X.here hx rfl (pc0 := pc) rfl hd rfl h1 h2 hc ho hp q) k
theorem own_acmpF {o : Int} {cd : ACond} {x y : Value} (X : Stand p l e R s m args below meth c T locs cells slots) (hx : p.tables.exec = Jvm.exec) (hd : decode c.code pc = .ok (.if_acmp cd o, 3)) (h1 : x.isRef = true) (h2 : y.isRef = true) (hc : XT.acmp cd x y = false) (hp : pc + 3 = pc') (k : own_G p e below s Q ce sl (T.setTop (mkF m pc' Ls st))) : own_G p e below s Q ce sl (T.setTop (mkF m pc Ls (y :: x :: st))) := by
  subst hp; exact own_fw (fun t q => XT.acmpNo X.here hx rfl hd rfl h1 h2 hc q) k
theorem own_getF (X : Stand p l e R s m args below meth c T locs cells slots) (hx : p.tables.exec = Jvm.exec) (hZ : Z.Warmed39 s.vm) {own O n d : String} {index : Nat} (hown : s.vm.findClass own = some m.cls) (w1 : (Jvm.Cond.fieldLink own index O n d).before a0 Z = true) (eT : T.heap = h) {a : Addr} {v : Value} (F : Fld Z h a O n d v) (hd : decode c.code pc = .ok (.getfield index, 3)) (hp : pc + 3 = pc')
    (k : ∀ T' : State, Stand p l e R s m args below meth c T' locs cells slots → T'.heap = h → own_G p e below s Q ce sl (T'.setTop (mkF m pc' Ls (v :: st)))) : own_G p e below s Q ce sl (T.setTop (mkF m pc Ls (.ref a :: st))) := by
  subst hp
  obtain ⟨T', X', e', st'⟩ := getF X hx hZ hown (host := "") (Or.inl w1) Via.refl eT F (g := mkF m pc Ls (.ref a :: st)) rfl rfl hd
  exact own_fw st' (k T' X' e')
theorem own_putF (X : Stand p l e R s m args below meth c T locs cells slots) (hx : p.tables.exec = Jvm.exec) (hZ : Z.Warmed39 s.vm) {own O n d C : String} {index kk : Nat} {ty : FieldType} (hown : s.vm.findClass own = some m.cls) (w1 : (Jvm.Cond.fieldLink own index O n d).before a0 Z = true) (eT : T.heap = h) {a : Addr} {v old : Value} (F : Fld Z h a O n d old) (E : Exa Z h a C) (L : (Jvm.Cond.lays C O n d).before a0 Z = true ∨ ((Jvm.Cond.laysFinal C O n d).before a0 Z = true ∧ own = O ∧ meth.name = "<init>")) (wi : (Jvm.Cond.instantiable C kk).before a0 Z = true) (hty : parseFieldDescriptor d = some ty) (hn : narrow ty v = v) (hf : fits ty v = true) (hd : decode c.code pc = .ok (.putfield index, 3)) (hp : pc + 3 = pc')
    (k : ∀ (T' : State) (h' : Heap), Stand p l e R s m args below meth c T' (locs ++ [⟨a, RoadKit.slotOf Z O n d⟩]) cells slots → T'.heap = h' → Wr h h' a (RoadKit.slotOf Z O n d) v → own_G p e below s Q ce sl (T'.setTop (mkF m pc' Ls st))) : own_G p e below s Q ce sl (T.setTop (mkF m pc Ls (v :: .ref a :: st))) := by
  subst hp
  obtain ⟨T', h', X', e', W', st'⟩ := putF X hx hZ hown (host := "") (Or.inl w1) Via.refl eT F E L wi hty hn hf (g := mkF m pc Ls (v :: .ref a :: st)) rfl rfl hd
  exact own_fw st' (k T' h' X' e' W')
theorem own_new (X : Stand p l e R s m args below meth c T locs cells slots) (hx : p.tables.exec = Jvm.exec) (hZ : Z.Warmed39 s.vm) {own C : String} {index n : Nat} (hown : s.vm.findClass own = some m.cls) (w1 : (Jvm.Cond.classLink own index C).before a0 Z = true) (wi : (Jvm.Cond.instantiable C n).before a0 Z = true) (wz : (Jvm.Cond.initialized C).before a0 Z = true) (eT : T.heap = h) (hd : decode c.code pc = .ok (.new index, 3)) (hp : pc + 3 = pc') (hc : cells + 1 ≤ R.cells) (hl : slots + n ≤ R.slots)
    (k : ∀ (T' : State) (h' : Heap) (a : Addr), a = h.size → Stand p l e R s m args below meth c T' locs (cells + 1) (slots + n) → T'.heap = h' → Ext h h' → Exa Z h' a C → (∀ {O nm d : String} {ty : FieldType}, Laid Z a0 C O nm d → parseFieldDescriptor d = some ty → Fld Z h' a O nm d (defaultValue ty)) → own_G p e below s Q ce sl (T'.setTop (mkF m pc' Ls (.ref a :: st)))) : own_G p e below s Q ce sl (T.setTop (mkF m pc Ls st)) := by
  subst hp
  obtain ⟨T', h', X', e', E', A', D', -, st'⟩ := newO X hx hZ hown w1 wi wz eT (g := mkF m pc Ls st) rfl hd hc hl
  exact own_fw st' (k T' h' h.size rfl X' e' E' A' D')
theorem own_initO (X : Stand p l e R s m args below meth c T locs cells slots) (hx : p.tables.exec = Jvm.exec) (hZ : Z.Warmed39 s.vm) {own : String} {idx : Nat} (hown : s.vm.findClass own = some m.cls) (w1 : (Jvm.Cond.methodLink own idx Lib.objectInit).before a0 Z = true) (w2 : (Jvm.Cond.instanceMethod Lib.objectInit).before a0 Z = true) (w3 : (Jvm.Cond.code Lib.objectInit object_method_1_code 1 none).before a0 Z = true) (eT : T.heap = h) (hsize : Ls.size = c.maxLocals) {a : Addr} (hd : decode c.code pc = .ok (.invokespecial idx, 3)) (hf : 1 ≤ R.frames) {W : Nat} (hW : (st.map fun v => v.category).sum ≤ W) (hl : W + 12 ≤ R.locals) (hp : pc + 3 = pc')
    (k : ∀ T' : State, Stand p l e R s m args below meth c T' locs cells slots → T'.heap = h → own_G p e below s Q ce sl (T'.setTop (mkF m pc' Ls st))) : own_G p e below s Q ce sl (T.setTop (mkF m pc Ls (.ref a :: st))) := by
  subst hp
  obtain ⟨T', X', e', st'⟩ := initO X hx hZ hown w1 w2 w3 eT (g := mkF m pc Ls (.ref a :: st)) rfl hsize rfl hd hf (W := W) (by show 2 * 0 + _ ≤ _; omega) hl
  exact own_fw st' (k T' X' e')
theorem own_callS (X : Stand p l e R s m args below meth c T locs cells slots) (hx : p.tables.exec = Jvm.exec) (hZ : Z.Warmed39 s.vm) {own : String} {index : Nat} {y : MethodName} {bytes : ByteArray} {maxL : Nat} {ret : Option FieldType} (hown : s.vm.findClass own = some m.cls) (w1 : (Jvm.Cond.methodLink own index y).before a0 Z = true) (w2 : (Jvm.Cond.static y).before a0 Z = true) (w3 : (Jvm.Cond.initialized y.cls).before a0 Z = true) (w4 : (Jvm.Cond.code y bytes maxL ret).before a0 Z = true) (hy : y.cls ≠ "java/lang/invoke/MethodHandle" ∧ y.cls ≠ "java/lang/invoke/VarHandle") {rm : Room} {as' : List Value} {Q' : Option Value → Heap → List Loc → Prop} (hM : own_M l Z y bytes maxL ret [] rm as'.toArray h Q' rm.cells rm.slots) (eT : T.heap = h) {W : Nat} (hf : rm.frames + 1 ≤ R.frames) (hl : W + (maxL + 11) + rm.locals ≤ R.locals) {ps : List FieldType} {r : Option FieldType} (pd : parseMethodDescriptor y.desc = some ⟨ps, r⟩) (hlen : as'.length = ps.length) {stk rest : List Value} (hstk : stk = as'.reverse ++ rest) (hd : decode c.code pc = .ok (.invokestatic index, 3)) (hW : (rest.map fun v => v.category).sum ≤ W) (hsize : Ls.size = c.maxLocals) (hc : cells + rm.cells ≤ R.cells) (hs : slots + rm.slots ≤ R.slots) (hp : pc + 3 = pc')
    (k : ∀ (v : Option Value) (T' : State) (L : List Loc), Stand p l e R s m args below meth c T' (locs ++ L) (cells + rm.cells) (slots + rm.slots) → Q' v T'.heap L → own_G p e below s Q ce sl (T'.setTop (mkF m pc' Ls (v.toList ++ rest)))) : own_G p e below s Q ce sl (T.setTop (mkF m pc Ls stk)) := by
  subst hp hstk
  obtain ⟨v, vm1, ⟨T', L', k', n'⟩, hWm, X', ⟨Lc, hQ', l', y', z'⟩, st'⟩ := Jvm.LawKit.callS X hx (y := y) hown (mvT hZ w1) (mvT hZ w2) (mvT hZ w3) (mvT hZ w4) hy (backOf (W := W) hM hZ w4 w3 hf hl) (g := mkF m pc Ls (as'.reverse ++ rest)) rfl hsize (argsL := as') (rest := rest) (lenOf pd hlen) rfl (by show 2 * 0 + _ ≤ _; omega) hd (fun _ _ => ⟨rfl, eT, hc, hs⟩)
  dsimp only [Pt.U, Pt.locs, Pt.cells, Pt.slots] at X' l' y' z' hQ'
  subst l' y' z'
  exact own_fw st' (k v T' Lc X' hQ')
theorem own_callC (X : Stand p l e R s m args below meth c T locs cells slots) (hx : p.tables.exec = Jvm.exec) (hZ : Z.Warmed39 s.vm) {own : String} {index : Nat} {y : MethodName} {bytes : ByteArray} {maxL : Nat} (hy1 : y.name = "<init>") (hown : s.vm.findClass own = some m.cls) (w1 : (Jvm.Cond.methodLink own index y).before a0 Z = true) (w2 : (Jvm.Cond.instanceMethod y).before a0 Z = true) (w3 : (Jvm.Cond.initialized y.cls).before a0 Z = true) (w4 : (Jvm.Cond.code y bytes maxL none).before a0 Z = true) (hy : y.cls ≠ "java/lang/invoke/MethodHandle" ∧ y.cls ≠ "java/lang/invoke/VarHandle") {a : Addr} {rm : Room} {as' : List Value} {Q' : Option Value → Heap → List Loc → Prop} (hM : own_M l Z y bytes maxL none [] rm (.ref a :: as').toArray h Q' rm.cells rm.slots) (eT : T.heap = h) {W : Nat} (hf : rm.frames + 1 ≤ R.frames) (hl : W + (maxL + 11) + rm.locals ≤ R.locals) {ps : List FieldType} {r : Option FieldType} (pd : parseMethodDescriptor y.desc = some ⟨ps, r⟩) (hlen : as'.length = ps.length) {stk rest : List Value} (hstk : stk = as'.reverse ++ .ref a :: rest) (hd : decode c.code pc = .ok (.invokespecial index, 3)) (hW : (rest.map fun v => v.category).sum ≤ W) (hsize : Ls.size = c.maxLocals) (hc : cells + rm.cells ≤ R.cells) (hs : slots + rm.slots ≤ R.slots) (hp : pc + 3 = pc')
    (k : ∀ (v : Option Value) (T' : State) (L : List Loc), Stand p l e R s m args below meth c T' (locs ++ L) (cells + rm.cells) (slots + rm.slots) → Q' v T'.heap L → own_G p e below s Q ce sl (T'.setTop (mkF m pc' Ls (v.toList ++ rest)))) : own_G p e below s Q ce sl (T.setTop (mkF m pc Ls stk)) := by
  subst hp hstk
  obtain ⟨v, vm1, ⟨T', L', k', n'⟩, hWm, X', ⟨Lc, hQ', l', y', z'⟩, st'⟩ := X.specialBack hx (y := y) hy1 hown (mvT hZ w1) (mvT hZ w2) (mvT hZ w4) hy (backOf (W := W) hM hZ w4 w3 hf hl) (g := mkF m pc Ls (as'.reverse ++ .ref a :: rest)) rfl hsize (Steps.refl _) (a := a) (argsL := as') (rest := rest) (lenOf pd hlen) rfl (by show 2 * 0 + _ ≤ _; omega) hd (fun _ _ => ⟨rfl, eT, hc, hs⟩)
  dsimp only [Pt.U, Pt.locs, Pt.cells, Pt.slots] at X' l' y' z' hQ'
  subst l' y' z'
  exact own_fw (fun t q => st'.trans q) (k v T' Lc X' hQ')
theorem own_callV (X : Stand p l e R s m args below meth c T locs cells slots) (hx : p.tables.exec = Jvm.exec) (hZ : Z.Warmed39 s.vm) {own C : String} {index : Nat} {y : MethodName} {bytes : ByteArray} {maxL : Nat} {ret : Option FieldType} (hown : s.vm.findClass own = some m.cls) (w1 : (Jvm.Cond.methodLink own index y).before a0 Z = true) (w2 : (Jvm.Cond.declares y).before a0 Z = true) (w3 : (Jvm.Cond.selects C y y).before a0 Z = true) (w4 : (Jvm.Cond.instanceMethod y).before a0 Z = true) (w5 : (Jvm.Cond.initialized y.cls).before a0 Z = true) (w6 : (Jvm.Cond.code y bytes maxL ret).before a0 Z = true) (hy : y.cls ≠ "java/lang/invoke/MethodHandle" ∧ y.cls ≠ "java/lang/invoke/VarHandle") {a : Addr} (E : Exa Z h a C) {rm : Room} {as' : List Value} {Q' : Option Value → Heap → List Loc → Prop} (hM : own_M l Z y bytes maxL ret [] rm (.ref a :: as').toArray h Q' rm.cells rm.slots) (eT : T.heap = h) {W : Nat} (hf : rm.frames + 1 ≤ R.frames) (hl : W + (maxL + 11) + rm.locals ≤ R.locals) {ps : List FieldType} {r : Option FieldType} (pd : parseMethodDescriptor y.desc = some ⟨ps, r⟩) (hlen : as'.length = ps.length) {stk rest : List Value} (hstk : stk = as'.reverse ++ .ref a :: rest) (hd : decode c.code pc = .ok (.invokevirtual index, 3)) (hW : (rest.map fun v => v.category).sum ≤ W) (hsize : Ls.size = c.maxLocals) (hc : cells + rm.cells ≤ R.cells) (hs : slots + rm.slots ≤ R.slots) (hp : pc + 3 = pc')
    (k : ∀ (v : Option Value) (T' : State) (L : List Loc), Stand p l e R s m args below meth c T' (locs ++ L) (cells + rm.cells) (slots + rm.slots) → Q' v T'.heap L → own_G p e below s Q ce sl (T'.setTop (mkF m pc' Ls (v.toList ++ rest)))) : own_G p e below s Q ce sl (T.setTop (mkF m pc Ls stk)) := by
  subst hp hstk
  obtain ⟨cq, kq, qa, qb, qc⟩ := isOf hZ eT E
  obtain ⟨v, vm1, ⟨T', L', k', n'⟩, hWm, X', ⟨Lc, hQ', l', y', z'⟩, st'⟩ := X.virtualBack hx (y := y) (z := y) hown (mvT hZ w1) (mvT hZ w2) (notFace_of_selects (args := #[]) (mvT hZ w3)) (mvT hZ w3) (mvT hZ w4) hy (backOf (W := W) hM hZ w6 w5 hf hl) qa qc (g := mkF m pc Ls (as'.reverse ++ .ref a :: rest)) rfl hsize (Steps.refl _) (argsL := as') (rest := rest) (lenOf pd hlen) rfl (by show 2 * 0 + _ ≤ _; omega) hd (fun _ _ => ⟨rfl, eT, hc, hs⟩)
  dsimp only [Pt.U, Pt.locs, Pt.cells, Pt.slots] at X' l' y' z' hQ'
  subst l' y' z'
  exact own_fw (fun t q => st'.trans q) (k v T' Lc X' hQ')
end OwnHead
theorem od_jdk_30_method_1_0 : decode jdk_30_method_1_code 0 = .ok (.aload_n 0, 1) := by decide +kernel
theorem od_jdk_30_method_1_1 : decode jdk_30_method_1_code 1 = .ok (.invokespecial 1, 3) := by decide +kernel
theorem ow_14 {Z : State} {a0 : Array Value} (hw : ∀ d ∈ tables_1, d.before a0 Z = true) : (Jvm.Cond.methodLink "java/lang/Record" (1 : Nat) ({ cls := "java/lang/Object", name := "<init>", desc := "()V" } : Jvm.MethodName)).before a0 Z = true := hw _ (List.mem_of_getElem? (i := 14) rfl)
theorem ow_15 {Z : State} {a0 : Array Value} (hw : ∀ d ∈ tables_1, d.before a0 Z = true) : (Jvm.Cond.instanceMethod ({ cls := "java/lang/Object", name := "<init>", desc := "()V" } : Jvm.MethodName)).before a0 Z = true := hw _ (List.mem_of_getElem? (i := 15) rfl)
theorem ow_16 {Z : State} {a0 : Array Value} (hw : ∀ d ∈ tables_1, d.before a0 Z = true) : (Jvm.Cond.code ({ cls := "java/lang/Object", name := "<init>", desc := "()V" } : Jvm.MethodName) object_method_1_code (1 : Nat) (Option.none : Option Jvm.ClassFile.FieldType)).before a0 Z = true := hw _ (List.mem_of_getElem? (i := 16) rfl)
theorem od_jdk_30_method_1_4 : decode jdk_30_method_1_code 4 = .ok (.return_, 1) := by decide +kernel
theorem opn_java_lang_Record : plainName "java/lang/Record" = true := by first | (simp [plainName, overriddenIn]; done) | decide +kernel
theorem oef_rm_rec (m : MethodId) (ra : Addr) : entryFrame m #[(.ref ra)] 1 = mkF m 0 #[.val (.ref ra)] [] := by first | (simp [entryFrame, mkF, argsToLocals, Value.category]; done) | rfl
set_option maxRecDepth 65536 in
set_option maxHeartbeats 40000000 in
theorem rm_rec (l : Launch) (Z : State) (a0 : Array Value) (hw : ∀ d ∈ tables_1, d.before a0 Z = true) (ra : Addr) (h0 : Heap) (n0 : Nat) (Z0 : n0 ≤ h0.size)  :
    own_M l Z (⟨"java/lang/Record", "<init>", "()V"⟩ : MethodName) jdk_30_method_1_code 1 none [] ({ frames := 1, cells := 0, slots := 0, locals := 12 } : Room) #[(.ref ra)] h0 (fun v h L => v = none ∧ Fr n0 L ∧ (h = h0)) 0 0 := by
  refine own_body (plainFor_of_name opn_java_lang_Record) ?_
  intro p e s m below meth c s1 hx hby hml hown hnm hret hlk hZ X0 e0
  rw [oef_rm_rec m ra]
  have N0 := Fr.nil n0
  refine own_aloadN X0 hx (hb hby od_jdk_30_method_1_0) rfl rfl (pc' := 1) rfl ?_
  refine own_initO X0 hx hZ hown (ow_14 hw) (ow_15 hw) (ow_16 hw) e0 (by rw [hml]; rfl) (hb hby od_jdk_30_method_1_1) (by decide) (W := 0) (Nat.le_of_eq rfl) (by decide) (pc' := 4) rfl ?_
  intro T1 X1 e1
  exact own_retV X1 hx hret hlk (hb hby od_jdk_30_method_1_4) ⟨rfl, N0, e1⟩ (by decide) (by decide)
theorem od_prog_220_method_1_0 : decode prog_220_method_1_code 0 = .ok (.aload_n 0, 1) := by decide +kernel
theorem od_prog_220_method_1_1 : decode prog_220_method_1_code 1 = .ok (.invokespecial 1, 3) := by decide +kernel
theorem ow_9 {Z : State} {a0 : Array Value} (hw : ∀ d ∈ tables_1, d.before a0 Z = true) : (Jvm.Cond.methodLink "com/example/structlane/structlane/model/RecordLayout$Position" (1 : Nat) ({ cls := "java/lang/Record", name := "<init>", desc := "()V" } : Jvm.MethodName)).before a0 Z = true := hw _ (List.mem_of_getElem? (i := 9) rfl)
theorem opd___V : parseMethodDescriptor "()V" = some ⟨[], none⟩ := by decide +kernel
theorem ow_10 {Z : State} {a0 : Array Value} (hw : ∀ d ∈ tables_1, d.before a0 Z = true) : (Jvm.Cond.instanceMethod ({ cls := "java/lang/Record", name := "<init>", desc := "()V" } : Jvm.MethodName)).before a0 Z = true := hw _ (List.mem_of_getElem? (i := 10) rfl)
theorem ow_12 {Z : State} {a0 : Array Value} (hw : ∀ d ∈ tables_1, d.before a0 Z = true) : (Jvm.Cond.initialized "java/lang/Record").before a0 Z = true := hw _ (List.mem_of_getElem? (i := 12) rfl)
theorem ow_13 {Z : State} {a0 : Array Value} (hw : ∀ d ∈ tables_1, d.before a0 Z = true) : (Jvm.Cond.code ({ cls := "java/lang/Record", name := "<init>", desc := "()V" } : Jvm.MethodName) jdk_30_method_1_code (1 : Nat) (Option.none : Option Jvm.ClassFile.FieldType)).before a0 Z = true := hw _ (List.mem_of_getElem? (i := 13) rfl)
theorem od_prog_220_method_1_4 : decode prog_220_method_1_code 4 = .ok (.aload_n 0, 1) := by decide +kernel
theorem od_prog_220_method_1_5 : decode prog_220_method_1_code 5 = .ok (.lload_n 1, 1) := by decide +kernel
theorem od_prog_220_method_1_6 : decode prog_220_method_1_code 6 = .ok (.putfield 7, 3) := by decide +kernel
theorem ow_17 {Z : State} {a0 : Array Value} (hw : ∀ d ∈ tables_1, d.before a0 Z = true) : (Jvm.Cond.fieldLink "com/example/structlane/structlane/model/RecordLayout$Position" (7 : Nat) "com/example/structlane/structlane/model/RecordLayout$Position" "byteIndex" "J").before a0 Z = true := hw _ (List.mem_of_getElem? (i := 17) rfl)
theorem ow_18 {Z : State} {a0 : Array Value} (hw : ∀ d ∈ tables_1, d.before a0 Z = true) : (Jvm.Cond.laysFinal "com/example/structlane/structlane/model/RecordLayout$Position" "com/example/structlane/structlane/model/RecordLayout$Position" "byteIndex" "J").before a0 Z = true := hw _ (List.mem_of_getElem? (i := 18) rfl)
theorem ow_4 {Z : State} {a0 : Array Value} (hw : ∀ d ∈ tables_1, d.before a0 Z = true) : (Jvm.Cond.instantiable "com/example/structlane/structlane/model/RecordLayout$Position" (2 : Nat)).before a0 Z = true := hw _ (List.mem_of_getElem? (i := 4) rfl)
theorem od_prog_220_method_1_9 : decode prog_220_method_1_code 9 = .ok (.aload_n 0, 1) := by decide +kernel
theorem od_prog_220_method_1_10 : decode prog_220_method_1_code 10 = .ok (.iload_n 3, 1) := by decide +kernel
theorem od_prog_220_method_1_11 : decode prog_220_method_1_code 11 = .ok (.putfield 13, 3) := by decide +kernel
theorem ow_19 {Z : State} {a0 : Array Value} (hw : ∀ d ∈ tables_1, d.before a0 Z = true) : (Jvm.Cond.fieldLink "com/example/structlane/structlane/model/RecordLayout$Position" (13 : Nat) "com/example/structlane/structlane/model/RecordLayout$Position" "bit" "I").before a0 Z = true := hw _ (List.mem_of_getElem? (i := 19) rfl)
theorem ow_20 {Z : State} {a0 : Array Value} (hw : ∀ d ∈ tables_1, d.before a0 Z = true) : (Jvm.Cond.laysFinal "com/example/structlane/structlane/model/RecordLayout$Position" "com/example/structlane/structlane/model/RecordLayout$Position" "bit" "I").before a0 Z = true := hw _ (List.mem_of_getElem? (i := 20) rfl)
theorem osn_0 {Z : State} {a0 : Array Value} (hw : ∀ d ∈ tables_1, d.before a0 Z = true) : RoadKit.slotOf Z "com/example/structlane/structlane/model/RecordLayout$Position" "bit" "I" ≠ RoadKit.slotOf Z "com/example/structlane/structlane/model/RecordLayout$Position" "byteIndex" "J" := slot_ne (C := "com/example/structlane/structlane/model/RecordLayout$Position") (Or.inr (ow_20 hw)) (Or.inr (ow_18 hw)) (by decide) (t := .int) (t' := .long) (by decide) (by decide)
theorem od_prog_220_method_1_14 : decode prog_220_method_1_code 14 = .ok (.return_, 1) := by decide +kernel
theorem osn_1 {Z : State} {a0 : Array Value} (hw : ∀ d ∈ tables_1, d.before a0 Z = true) : RoadKit.slotOf Z "com/example/structlane/structlane/model/RecordLayout$Position" "byteIndex" "J" ≠ RoadKit.slotOf Z "com/example/structlane/structlane/model/RecordLayout$Position" "bit" "I" := slot_ne (C := "com/example/structlane/structlane/model/RecordLayout$Position") (Or.inr (ow_18 hw)) (Or.inr (ow_20 hw)) (by decide) (t := .long) (t' := .int) (by decide) (by decide)
theorem opn_com_example_structlane_structlane_model_RecordLayout_Position : plainName "com/example/structlane/structlane/model/RecordLayout$Position" = true := by first | (simp [plainName, overriddenIn]; done) | decide +kernel
theorem oef_rm_init (m : MethodId) (ra : Addr) (u0 : Int64) (u1 : Int32) : entryFrame m #[(.ref ra), (.long u0), (.int u1)] 4 = mkF m 0 #[.val (.ref ra), .val (.long u0), .second, .val (.int u1)] [] := by first | (simp [entryFrame, mkF, argsToLocals, Value.category]; done) | rfl
set_option maxRecDepth 65536 in
set_option maxHeartbeats 40000000 in
theorem rm_init (l : Launch) (Z : State) (a0 : Array Value) (hw : ∀ d ∈ tables_1, d.before a0 Z = true) (ra : Addr) (u0 : Int64) (u1 : Int32) (w0 : Value) (w1 : Value) (h0 : Heap) (n0 : Nat) (Z0 : n0 ≤ h0.size) (P0 : Exa Z h0 ra "com/example/structlane/structlane/model/RecordLayout$Position") (P1 : Fld Z h0 ra "com/example/structlane/structlane/model/RecordLayout$Position" "byteIndex" "J" (w0)) (P2 : Fld Z h0 ra "com/example/structlane/structlane/model/RecordLayout$Position" "bit" "I" (w1)) (g_ra : n0 ≤ ra) :
    own_M l Z (⟨"com/example/structlane/structlane/model/RecordLayout$Position", "<init>", "(JI)V"⟩ : MethodName) prog_220_method_1_code 4 none [] ({ frames := 2, cells := 0, slots := 0, locals := 24 } : Room) #[(.ref ra), (.long u0), (.int u1)] h0 (fun v h L => v = none ∧ Fr n0 L ∧ (Keep h0 h [ra]) ∧ (Fld Z h ra "com/example/structlane/structlane/model/RecordLayout$Position" "byteIndex" "J" (.long u0)) ∧ (Fld Z h ra "com/example/structlane/structlane/model/RecordLayout$Position" "bit" "I" (.int u1))) 0 0 := by
  refine own_body (plainFor_of_name opn_com_example_structlane_structlane_model_RecordLayout_Position) ?_
  intro p e s m below meth c s1 hx hby hml hown hnm hret hlk hZ X0 e0
  rw [oef_rm_init m ra u0 u1]
  have N0 := Fr.nil n0
  refine own_aloadN X0 hx (hb hby od_prog_220_method_1_0) rfl rfl (pc' := 1) rfl ?_
  refine own_callC X0 hx hZ rfl hown (ow_9 hw) (ow_10 hw) (ow_12 hw) (ow_13 hw) (by decide) (rm_rec l Z a0 hw ra h0 n0 Z0) e0 (W := 0) (by decide) (by decide) opd___V rfl (rest := []) rfl (hb hby od_prog_220_method_1_1) (Nat.le_of_eq rfl) (by rw [hml]; rfl) (by decide) (by decide) (pc' := 4) rfl ?_
  intro v1 T1 L1 X1 q1
  obtain ⟨rfl, Nq1, eh1⟩ := q1
  have N1 := Fr.app N0 Nq1
  show own_G p e below s _ _ _ (T1.setTop (mkF m 4 #[.val (.ref ra), .val (.long u0), .second, .val (.int u1)] []))
  refine own_aloadN X1 hx (hb hby od_prog_220_method_1_4) rfl rfl (pc' := 5) rfl ?_
  refine own_lloadN X1 hx (hb hby od_prog_220_method_1_5) rfl (pc' := 6) rfl ?_
  refine own_putF X1 hx hZ hown (ow_17 hw) eh1 P1 P0 (Or.inr ⟨(ow_18 hw), rfl, hnm⟩) (ow_4 hw) (ty := .long) (by decide) rfl rfl (hb hby od_prog_220_method_1_6) (pc' := 9) rfl ?_
  intro T2 h2 X2 e2 W2
  have N2 := Fr.snoc X2 N1 g_ra
  refine own_aloadN X2 hx (hb hby od_prog_220_method_1_9) rfl rfl (pc' := 10) rfl ?_
  refine own_iloadN X2 hx (hb hby od_prog_220_method_1_10) rfl (pc' := 11) rfl ?_
  have f3 : Fld Z h2 ra "com/example/structlane/structlane/model/RecordLayout$Position" "bit" "I" (w1) := (P2.other W2 (Or.inr (osn_0 hw)))
  have f4 : Exa Z h2 ra "com/example/structlane/structlane/model/RecordLayout$Position" := (P0.wr W2)
  refine own_putF X2 hx hZ hown (ow_19 hw) e2 f3 f4 (Or.inr ⟨(ow_20 hw), rfl, hnm⟩) (ow_4 hw) (ty := .int) (by decide) rfl rfl (hb hby od_prog_220_method_1_11) (pc' := 14) rfl ?_
  intro T5 h5 X5 e5 W5
  have N5 := Fr.snoc X5 N2 g_ra
  have k8 : Keep h0 h5 [ra] := (Keep.wr (Keep.wr (Keep.refl _ _) W2 (Or.inl (List.mem_of_getElem? (i := 0) rfl))) W5 (Or.inl (List.mem_of_getElem? (i := 0) rfl)))
  have f9 : Fld Z h5 ra "com/example/structlane/structlane/model/RecordLayout$Position" "byteIndex" "J" (.long u0) := ((P1.same W2).other W5 (Or.inr (osn_1 hw)))
  exact own_retV X5 hx hret hlk (hb hby od_prog_220_method_1_14) ⟨rfl, N5, (by rw [e5]; exact k8), (by rw [e5]; exact f9), (by rw [e5]; exact (f3.same W5))⟩ (by decide) (by decide)
theorem od_prog_220_method_9_0 : decode prog_220_method_9_code 0 = .ok (.iload_n 2, 1) := by decide +kernel
theorem od_prog_220_method_9_1 : decode prog_220_method_9_code 1 = .ok (.i2l, 1) := by decide +kernel
theorem od_prog_220_method_9_2 : decode prog_220_method_9_code 2 = .ok (.ldc2_w 28, 3) := by decide +kernel
theorem ow_26 {Z : State} {a0 : Array Value} (hw : ∀ d ∈ tables_1, d.before a0 Z = true) : (Jvm.Cond.constantLong "com/example/structlane/structlane/model/RecordLayout$Position" (28 : Nat) (8 : Int64)).before a0 Z = true := hw _ (List.mem_of_getElem? (i := 26) rfl)
theorem od_prog_220_method_9_5 : decode prog_220_method_9_code 5 = .ok (.lmul, 1) := by decide +kernel
theorem od_prog_220_method_9_6 : decode prog_220_method_9_code 6 = .ok (.lstore 5, 2) := by decide +kernel
theorem od_prog_220_method_9_8 : decode prog_220_method_9_code 8 = .ok (.aload_n 0, 1) := by decide +kernel
theorem od_prog_220_method_9_9 : decode prog_220_method_9_code 9 = .ok (.getfield 7, 3) := by decide +kernel
theorem od_prog_220_method_9_12 : decode prog_220_method_9_code 12 = .ok (.iload_n 2, 1) := by decide +kernel
theorem od_prog_220_method_9_13 : decode prog_220_method_9_code 13 = .ok (.iconst 1, 1) := by decide +kernel
theorem od_prog_220_method_9_14 : decode prog_220_method_9_code 14 = .ok (.isub, 1) := by decide +kernel
theorem od_prog_220_method_9_15 : decode prog_220_method_9_code 15 = .ok (.i2l, 1) := by decide +kernel
theorem od_prog_220_method_9_16 : decode prog_220_method_9_code 16 = .ok (.land, 1) := by decide +kernel
theorem od_prog_220_method_9_17 : decode prog_220_method_9_code 17 = .ok (.ldc2_w 28, 3) := by decide +kernel
theorem od_prog_220_method_9_20 : decode prog_220_method_9_code 20 = .ok (.lmul, 1) := by decide +kernel
theorem od_prog_220_method_9_21 : decode prog_220_method_9_code 21 = .ok (.aload_n 0, 1) := by decide +kernel
theorem od_prog_220_method_9_22 : decode prog_220_method_9_code 22 = .ok (.getfield 13, 3) := by decide +kernel
theorem od_prog_220_method_9_25 : decode prog_220_method_9_code 25 = .ok (.i2l, 1) := by decide +kernel
theorem od_prog_220_method_9_26 : decode prog_220_method_9_code 26 = .ok (.ladd, 1) := by decide +kernel
theorem od_prog_220_method_9_27 : decode prog_220_method_9_code 27 = .ok (.lstore 7, 2) := by decide +kernel
theorem od_prog_220_method_9_29 : decode prog_220_method_9_code 29 = .ok (.lload 7, 2) := by decide +kernel
theorem od_prog_220_method_9_31 : decode prog_220_method_9_code 31 = .ok (.iload_n 1, 1) := by decide +kernel
theorem od_prog_220_method_9_32 : decode prog_220_method_9_code 32 = .ok (.i2l, 1) := by decide +kernel
theorem od_prog_220_method_9_33 : decode prog_220_method_9_code 33 = .ok (.ladd, 1) := by decide +kernel
theorem od_prog_220_method_9_34 : decode prog_220_method_9_code 34 = .ok (.lload 5, 2) := by decide +kernel
theorem od_prog_220_method_9_36 : decode prog_220_method_9_code 36 = .ok (.ladd, 1) := by decide +kernel
theorem od_prog_220_method_9_37 : decode prog_220_method_9_code 37 = .ok (.lconst 1, 1) := by decide +kernel
theorem od_prog_220_method_9_38 : decode prog_220_method_9_code 38 = .ok (.lsub, 1) := by decide +kernel
theorem od_prog_220_method_9_39 : decode prog_220_method_9_code 39 = .ok (.lload 5, 2) := by decide +kernel
theorem od_prog_220_method_9_41 : decode prog_220_method_9_code 41 = .ok (.ldiv, 1) := by decide +kernel
theorem od_prog_220_method_9_42 : decode prog_220_method_9_code 42 = .ok (.lstore 9, 2) := by decide +kernel
theorem od_prog_220_method_9_44 : decode prog_220_method_9_code 44 = .ok (.lload 9, 2) := by decide +kernel
theorem od_prog_220_method_9_46 : decode prog_220_method_9_code 46 = .ok (.lload_n 3, 1) := by decide +kernel
theorem od_prog_220_method_9_47 : decode prog_220_method_9_code 47 = .ok (.ldc2_w 28, 3) := by decide +kernel
theorem od_prog_220_method_9_50 : decode prog_220_method_9_code 50 = .ok (.lmul, 1) := by decide +kernel
theorem od_prog_220_method_9_51 : decode prog_220_method_9_code 51 = .ok (.lload 5, 2) := by decide +kernel
theorem od_prog_220_method_9_53 : decode prog_220_method_9_code 53 = .ok (.ldiv, 1) := by decide +kernel
theorem od_prog_220_method_9_54 : decode prog_220_method_9_code 54 = .ok (.lcmp, 1) := by decide +kernel
theorem od_prog_220_method_9_55 : decode prog_220_method_9_code 55 = .ok (.ifCond .gt 7, 3) := by decide +kernel
theorem od_prog_220_method_9_62 : decode prog_220_method_9_code 62 = .ok (.iconst 0, 1) := by decide +kernel
theorem od_prog_220_method_9_58 : decode prog_220_method_9_code 58 = .ok (.iconst 1, 1) := by decide +kernel
theorem od_prog_220_method_9_59 : decode prog_220_method_9_code 59 = .ok (.goto 4, 3) := by decide +kernel
theorem od_prog_220_method_9_63 : decode prog_220_method_9_code 63 = .ok (.ireturn, 1) := by decide +kernel
theorem oef_rm_sp (m : MethodId) (ra : Addr) (u0 : Int32) (u1 : Int32) (u2 : Int64) : entryFrame m #[(.ref ra), (.int u0), (.int u1), (.long u2)] 11 = mkF m 0 #[.val (.ref ra), .val (.int u0), .val (.int u1), .val (.long u2), .second, .unset, .unset, .unset, .unset, .unset, .unset] [] := by first | (simp [entryFrame, mkF, argsToLocals, Value.category]; done) | rfl
set_option maxRecDepth 65536 in
set_option maxHeartbeats 40000000 in
theorem rm_sp (l : Launch) (Z : State) (a0 : Array Value) (hw : ∀ d ∈ tables_1, d.before a0 Z = true) (ra : Addr) (u0 : Int32) (u1 : Int32) (u2 : Int64) (u3 : Int64) (u4 : Int32) (h0 : Heap) (n0 : Nat) (Z0 : n0 ≤ h0.size) (P0 : Fld Z h0 ra "com/example/structlane/structlane/model/RecordLayout$Position" "byteIndex" "J" (.long u3)) (P1 : Fld Z h0 ra "com/example/structlane/structlane/model/RecordLayout$Position" "bit" "I" (.int u4)) (hz : (u1.toInt64 * (8 : Int64)) ≠ (0 : Int64)) :
    own_M l Z (⟨"com/example/structlane/structlane/model/RecordLayout$Position", "spansNoMoreUnitsThan", "(IIJ)Z"⟩ : MethodName) prog_220_method_9_code 11 (some .boolean) [] ({ frames := 0, cells := 0, slots := 0, locals := 0 } : Room) #[(.ref ra), (.int u0), (.int u1), (.long u2)] h0 (fun v h L => v = some (.int (if ((u2 * (8 : Int64)) / (u1.toInt64 * (8 : Int64))) < (((((((u3 &&& ((u1 - (1 : Int32)).toInt64)) * (8 : Int64)) + u4.toInt64) + u0.toInt64) + (u1.toInt64 * (8 : Int64))) - (1 : Int64)) / (u1.toInt64 * (8 : Int64))) then (0 : Int32) else (1 : Int32))) ∧ Fr n0 L ∧ (h = h0)) 0 0 := by
  refine own_body (plainFor_of_name opn_com_example_structlane_structlane_model_RecordLayout_Position) ?_
  intro p e s m below meth c s1 hx hby hml hown hnm hret hlk hZ X0 e0
  rw [oef_rm_sp m ra u0 u1 u2]
  have N0 := Fr.nil n0
  refine own_iloadN X0 hx (hb hby od_prog_220_method_9_0) rfl (pc' := 1) rfl ?_
  refine own_i2l X0 hx (hb hby od_prog_220_method_9_1) (pc' := 2) rfl ?_
  refine own_ldc2 X0 hx hZ hown (ow_26 hw) (hb hby od_prog_220_method_9_2) (pc' := 5) rfl ?_
  refine own_lmul X0 hx (hb hby od_prog_220_method_9_5) (pc' := 6) rfl ?_
  refine own_lstore X0 hx (hb hby od_prog_220_method_9_6) (l' := #[.val (.ref ra), .val (.int u0), .val (.int u1), .val (.long u2), .second, .val (.long (u1.toInt64 * (8 : Int64))), .second, .unset, .unset, .unset, .unset]) rfl (pc' := 8) rfl ?_
  refine own_aloadN X0 hx (hb hby od_prog_220_method_9_8) rfl rfl (pc' := 9) rfl ?_
  refine own_getF X0 hx hZ hown (ow_17 hw) e0 P0 (hb hby od_prog_220_method_9_9) (pc' := 12) rfl ?_
  intro T1 X1 e1
  refine own_iloadN X1 hx (hb hby od_prog_220_method_9_12) rfl (pc' := 13) rfl ?_
  refine own_iconst X1 hx (hb hby od_prog_220_method_9_13) (z := (1 : Int32)) rfl (pc' := 14) rfl ?_
  refine own_isub X1 hx (hb hby od_prog_220_method_9_14) (pc' := 15) rfl ?_
  refine own_i2l X1 hx (hb hby od_prog_220_method_9_15) (pc' := 16) rfl ?_
  refine own_land X1 hx (hb hby od_prog_220_method_9_16) (pc' := 17) rfl ?_
  refine own_ldc2 X1 hx hZ hown (ow_26 hw) (hb hby od_prog_220_method_9_17) (pc' := 20) rfl ?_
  refine own_lmul X1 hx (hb hby od_prog_220_method_9_20) (pc' := 21) rfl ?_
  refine own_aloadN X1 hx (hb hby od_prog_220_method_9_21) rfl rfl (pc' := 22) rfl ?_
  refine own_getF X1 hx hZ hown (ow_19 hw) e1 P1 (hb hby od_prog_220_method_9_22) (pc' := 25) rfl ?_
  intro T2 X2 e2
  refine own_i2l X2 hx (hb hby od_prog_220_method_9_25) (pc' := 26) rfl ?_
  refine own_ladd X2 hx (hb hby od_prog_220_method_9_26) (pc' := 27) rfl ?_
  refine own_lstore X2 hx (hb hby od_prog_220_method_9_27) (l' := #[.val (.ref ra), .val (.int u0), .val (.int u1), .val (.long u2), .second, .val (.long (u1.toInt64 * (8 : Int64))), .second, .val (.long (((u3 &&& ((u1 - (1 : Int32)).toInt64)) * (8 : Int64)) + u4.toInt64)), .second, .unset, .unset]) rfl (pc' := 29) rfl ?_
  refine own_lload X2 hx (hb hby od_prog_220_method_9_29) rfl (pc' := 31) rfl ?_
  refine own_iloadN X2 hx (hb hby od_prog_220_method_9_31) rfl (pc' := 32) rfl ?_
  refine own_i2l X2 hx (hb hby od_prog_220_method_9_32) (pc' := 33) rfl ?_
  refine own_ladd X2 hx (hb hby od_prog_220_method_9_33) (pc' := 34) rfl ?_
  refine own_lload X2 hx (hb hby od_prog_220_method_9_34) rfl (pc' := 36) rfl ?_
  refine own_ladd X2 hx (hb hby od_prog_220_method_9_36) (pc' := 37) rfl ?_
  refine own_lconst X2 hx (hb hby od_prog_220_method_9_37) (z := (1 : Int64)) (by decide) (pc' := 38) rfl ?_
  refine own_lsub X2 hx (hb hby od_prog_220_method_9_38) (pc' := 39) rfl ?_
  refine own_lload X2 hx (hb hby od_prog_220_method_9_39) rfl (pc' := 41) rfl ?_
  refine own_ldiv X2 hx (hb hby od_prog_220_method_9_41) hz (pc' := 42) rfl ?_
  refine own_lstore X2 hx (hb hby od_prog_220_method_9_42) (l' := #[.val (.ref ra), .val (.int u0), .val (.int u1), .val (.long u2), .second, .val (.long (u1.toInt64 * (8 : Int64))), .second, .val (.long (((u3 &&& ((u1 - (1 : Int32)).toInt64)) * (8 : Int64)) + u4.toInt64)), .second, .val (.long (((((((u3 &&& ((u1 - (1 : Int32)).toInt64)) * (8 : Int64)) + u4.toInt64) + u0.toInt64) + (u1.toInt64 * (8 : Int64))) - (1 : Int64)) / (u1.toInt64 * (8 : Int64)))), .second]) rfl (pc' := 44) rfl ?_
  refine own_lload X2 hx (hb hby od_prog_220_method_9_44) rfl (pc' := 46) rfl ?_
  refine own_lloadN X2 hx (hb hby od_prog_220_method_9_46) rfl (pc' := 47) rfl ?_
  refine own_ldc2 X2 hx hZ hown (ow_26 hw) (hb hby od_prog_220_method_9_47) (pc' := 50) rfl ?_
  refine own_lmul X2 hx (hb hby od_prog_220_method_9_50) (pc' := 51) rfl ?_
  refine own_lload X2 hx (hb hby od_prog_220_method_9_51) rfl (pc' := 53) rfl ?_
  refine own_ldiv X2 hx (hb hby od_prog_220_method_9_53) hz (pc' := 54) rfl ?_
  refine own_lcmp X2 hx (hb hby od_prog_220_method_9_54) (pc' := 55) rfl ?_
  refine own_via (S' := T2.setTop (mkF m 63 #[.val (.ref ra), .val (.int u0), .val (.int u1), .val (.long u2), .second, .val (.long (u1.toInt64 * (8 : Int64))), .second, .val (.long (((u3 &&& ((u1 - (1 : Int32)).toInt64)) * (8 : Int64)) + u4.toInt64)), .second, .val (.long (((((((u3 &&& ((u1 - (1 : Int32)).toInt64)) * (8 : Int64)) + u4.toInt64) + u0.toInt64) + (u1.toInt64 * (8 : Int64))) - (1 : Int64)) / (u1.toInt64 * (8 : Int64)))), .second] [(.int (if ((u2 * (8 : Int64)) / (u1.toInt64 * (8 : Int64))) < (((((((u3 &&& ((u1 - (1 : Int32)).toInt64)) * (8 : Int64)) + u4.toInt64) + u0.toInt64) + (u1.toInt64 * (8 : Int64))) - (1 : Int64)) / (u1.toInt64 * (8 : Int64))) then (0 : Int32) else (1 : Int32)))])) (fun kk => ?_) ?_
  · by_cases c3 : ((u2 * (8 : Int64)) / (u1.toInt64 * (8 : Int64))) < (((((((u3 &&& ((u1 - (1 : Int32)).toInt64)) * (8 : Int64)) + u4.toInt64) + u0.toInt64) + (u1.toInt64 * (8 : Int64))) - (1 : Int64)) / (u1.toInt64 * (8 : Int64)))
    · refine own_ifT X2 hx (hb hby od_prog_220_method_9_55) (own_ltL c3).2.2.1 (by decide) (pc' := 62) rfl ?_
      refine own_iconst X2 hx (hb hby od_prog_220_method_9_62) (z := (0 : Int32)) rfl (pc' := 63) rfl ?_
      exact own_cast (by simp only [if_pos c3]) kk
    · refine own_ifF X2 hx (hb hby od_prog_220_method_9_55) (own_geL c3).2.2.1 (pc' := 58) rfl ?_
      refine own_iconst X2 hx (hb hby od_prog_220_method_9_58) (z := (1 : Int32)) rfl (pc' := 59) rfl ?_
      refine own_goto X2 hx (hb hby od_prog_220_method_9_59) (by decide) (pc' := 63) rfl ?_
      exact own_cast (by simp only [if_neg c3]) kk
  exact own_retZ X2 hx hret hlk (by first | exact own_b01 | (repeat' split) <;> simp) (hb hby od_prog_220_method_9_63) ⟨rfl, N0, e2⟩ (by decide) (by decide)
theorem own_key (B : Int64) (bt w U : Int32) (S : Int64) (k : Nat) (hk : k ≤ 28) (hU : U.toInt = (2 ^ k : Nat)) (hB : 0 ≤ B.toInt) (hb : 0 ≤ bt.toInt ∧ bt.toInt ≤ 7) (hw : 0 ≤ w.toInt) (hS : 0 ≤ S.toInt ∧ S.toInt < 576460752303423488) :
    (if ((S * (8 : Int64)) / (U.toInt64 * (8 : Int64))) < (((((((B &&& ((U - (1 : Int32)).toInt64)) * (8 : Int64)) + bt.toInt64) + w.toInt64) + (U.toInt64 * (8 : Int64))) - (1 : Int64)) / (U.toInt64 * (8 : Int64))) then (0 : Int32) else (1 : Int32)) = (if (((S / U.toInt64) * U.toInt64) * (8 : Int64)) < ((((B % U.toInt64) * (8 : Int64)) + bt.toInt64) + w.toInt64) then (0 : Int32) else (1 : Int32)) := by
  have hP1 : 1 ≤ 2 ^ k := Nat.one_le_two_pow
  have hP2 : 2 ^ k ≤ 268435456 := Nat.le_trans (Nat.pow_le_pow_right (by decide) hk) (by decide)
  obtain ⟨P, hP⟩ : ∃ P : Int, P = ((2 ^ k : Nat) : Int) := ⟨_, rfl⟩
  have p1 : 1 ≤ P := by rw [hP]; exact Int.ofNat_le.mpr hP1
  have p2 : P ≤ 268435456 := by rw [hP]; exact Int.ofNat_le.mpr hP2
  rw [← hP] at hU
  have rw32 := rng32 w
  have i1 := c_i2l U
  have i2 := c_i2l bt
  have i3 := c_i2l w
  have s1 := c_isub U 1
  have r1 := rng32 (U - 1)
  simp only [Int32.reduceToInt] at s1
  have u1 : (U - 1).toInt = P - 1 := by omega
  have i4 := c_i2l (U - 1)
  have hm : ((U - 1).toInt64).toBitVec.toNat = 2 ^ k - 1 := by
    have q : ((U - 1).toInt64).toInt = ((U - 1).toInt64).toBitVec.toInt := rfl
    rw [BitVec.toInt_eq_toNat_cond] at q
    have q3 : ((2 ^ k : Nat) : Int) = P := hP.symm
    split at q <;> omega
  have mk := c_maskL B (U - 1).toInt64 k (by omega) hm
  rw [← hP] at mk
  have m0 : 0 ≤ B.toInt % P := Int.emod_nonneg _ (by omega)
  have m1 : B.toInt % P < P := Int.emod_lt_of_pos _ (by omega)
  have l1 := c_lmul U.toInt64 8
  have l1r := rng64 (U.toInt64 * 8)
  have l2 := c_lmul (B &&& (U - 1).toInt64) 8
  have l2r := rng64 ((B &&& (U - 1).toInt64) * 8)
  have a1 := c_ladd ((B &&& (U - 1).toInt64) * 8) bt.toInt64
  have a1r := rng64 (((B &&& (U - 1).toInt64) * 8) + bt.toInt64)
  have a2 := c_ladd (((B &&& (U - 1).toInt64) * 8) + bt.toInt64) w.toInt64
  have a2r := rng64 ((((B &&& (U - 1).toInt64) * 8) + bt.toInt64) + w.toInt64)
  have a3 := c_ladd ((((B &&& (U - 1).toInt64) * 8) + bt.toInt64) + w.toInt64) (U.toInt64 * 8)
  have a3r := rng64 (((((B &&& (U - 1).toInt64) * 8) + bt.toInt64) + w.toInt64) + (U.toInt64 * 8))
  have a4 := c_lsub (((((B &&& (U - 1).toInt64) * 8) + bt.toInt64) + w.toInt64) + (U.toInt64 * 8)) 1
  have a4r := rng64 ((((((B &&& (U - 1).toInt64) * 8) + bt.toInt64) + w.toInt64) + (U.toInt64 * 8)) - 1)
  have l3 := c_lmul S 8
  have l3r := rng64 (S * 8)
  simp only [Int64.reduceToInt] at l1 l2 l3 a4
  have v1 : (U.toInt64 * 8).toInt = P * 8 := by omega
  have v2 : ((((((B &&& (U - 1).toInt64) * 8) + bt.toInt64) + w.toInt64) + (U.toInt64 * 8)) - 1).toInt = ((B.toInt % P) * 8 + bt.toInt + w.toInt) + P * 8 - 1 := by omega
  have v3 : (S * 8).toInt = S.toInt * 8 := by omega
  have n1 : U.toInt64 * 8 ≠ -1 := fun q => by
    have := congrArg Int64.toInt q
    simp only [v1, Int64.reduceToInt] at this
    omega
  have n2 : U.toInt64 ≠ -1 := fun q => by
    have := congrArg Int64.toInt q
    simp only [i1, Int64.reduceToInt] at this
    omega
  have d1 := (c_ldiv ((((((B &&& (U - 1).toInt64) * 8) + bt.toInt64) + w.toInt64) + (U.toInt64 * 8)) - 1) (U.toInt64 * 8) (P * 8) v1 n1).1 (by omega)
  have d2 := (c_ldiv (S * 8) (U.toInt64 * 8) (P * 8) v1 n1).1 (by omega)
  rw [v2] at d1
  rw [v3, Int.mul_ediv_mul_of_pos_left _ _ (by decide : (0 : Int) < 8)] at d2
  have d3 := (c_ldiv S U.toInt64 P (by omega) n2).1 hS.1
  have d4 := (c_lrem B U.toInt64 P (by omega)).1 hB
  rw [lrem_mod] at d4
  have t0 : 0 ≤ S.toInt / P := Int.ediv_nonneg hS.1 (by omega)
  have t1 : S.toInt / P * P ≤ S.toInt := Int.ediv_mul_le _ (by omega)
  have t2 : 0 ≤ S.toInt / P * P := Int.mul_nonneg t0 (by omega)
  have e1 := c_lmul (S / U.toInt64) U.toInt64
  have e1r := rng64 ((S / U.toInt64) * U.toInt64)
  have e2 := c_lmul ((S / U.toInt64) * U.toInt64) 8
  have e2r := rng64 (((S / U.toInt64) * U.toInt64) * 8)
  have e3 := c_lmul (B % U.toInt64) 8
  have e3r := rng64 ((B % U.toInt64) * 8)
  have e4 := c_ladd ((B % U.toInt64) * 8) bt.toInt64
  have e4r := rng64 (((B % U.toInt64) * 8) + bt.toInt64)
  have e5 := c_ladd (((B % U.toInt64) * 8) + bt.toInt64) w.toInt64
  have e5r := rng64 ((((B % U.toInt64) * 8) + bt.toInt64) + w.toInt64)
  simp only [Int64.reduceToInt] at e2 e3
  rw [d3, i1, hU] at e1
  have v4 : (((S / U.toInt64) * U.toInt64) * 8).toInt = S.toInt / P * P * 8 := by omega
  have v5 : ((((B % U.toInt64) * 8) + bt.toInt64) + w.toInt64).toInt = (B.toInt % P) * 8 + bt.toInt + w.toInt := by omega
  have key : (((S * 8) / (U.toInt64 * 8)) < (((((((B &&& (U - 1).toInt64) * 8) + bt.toInt64) + w.toInt64) + (U.toInt64 * 8)) - 1) / (U.toInt64 * 8))) ↔ ((((S / U.toInt64) * U.toInt64) * 8) < ((((B % U.toInt64) * 8) + bt.toInt64) + w.toInt64)) := by
    rw [Int64.lt_iff_toInt_lt, Int64.lt_iff_toInt_lt, d1, d2, v4, v5]
    generalize (B.toInt % P) * 8 + bt.toInt + w.toInt = xx
    generalize S.toInt / P = q
    rw [Int.lt_iff_add_one_le, Int.le_ediv_iff_mul_le (by omega : 0 < P * 8), Int.add_mul, ← Int.mul_assoc]
    omega
  simp only [key]
theorem own_B (b : Int64) : 0 ≤ (b &&& (9223372036854775807 : Int64)).toInt := by
  have := c_maskL b 9223372036854775807 63 (by decide) (by decide)
  omega
theorem own_bt (b : Int32) : 0 ≤ (b &&& (7 : Int32)).toInt ∧ (b &&& (7 : Int32)).toInt ≤ 7 := by
  have := c_mask b 7 3 (by decide) (by decide)
  omega
theorem own_w (c : Prop) [Decidable c] (w : Int32) : 0 ≤ (if c then (w &&& (2147483647 : Int32)) else (w &&& (255 : Int32))).toInt := by
  have h1 := c_mask w 2147483647 31 (by decide) (by decide)
  have h2 := c_mask w 255 8 (by decide) (by decide)
  split <;> omega
theorem own_S (c : Prop) [Decidable c] (t : Int64) : 0 ≤ (if c then (t &&& (576460752303423487 : Int64)) else (t &&& (31 : Int64))).toInt ∧ (if c then (t &&& (576460752303423487 : Int64)) else (t &&& (31 : Int64))).toInt < 576460752303423488 := by
  have h1 := c_maskL t 576460752303423487 59 (by decide) (by decide)
  have h2 := c_maskL t 31 5 (by decide) (by decide)
  split <;> omega
theorem own_U (a : Int32) : ∃ k : Nat, k ≤ 28 ∧ ((1 : Int32) <<< (((a &&& (2147483647 : Int32)) % (29 : Int32)) &&& 31)).toInt = (2 ^ k : Nat) := by
  have h := c_mask a 2147483647 31 (by decide) (by decide)
  have h1 := (c_irem (a &&& (2147483647 : Int32)) 29 29 rfl).1 (by omega)
  generalize (a &&& (2147483647 : Int32)) % (29 : Int32) = q at *
  have h2 : q.toInt = q.toBitVec.toInt := rfl
  have h3 := q.toBitVec.isLt
  rw [BitVec.toInt_eq_toNat_cond] at h2
  have h4 : q.toBitVec.toNat ≤ 28 := by split at h2 <;> omega
  refine ⟨q.toBitVec.toNat, h4, ?_⟩
  have h5 := c_ishl 1 q q.toBitVec.toNat (Nat.mod_eq_of_lt (by omega))
  have h6 : 2 ^ q.toBitVec.toNat ≤ 268435456 := Nat.le_trans (Nat.pow_le_pow_right (by decide) h4) (by decide)
  have h7 := rng32 ((1 : Int32) <<< (q &&& 31))
  simp only [Int32.reduceToInt] at h5
  have h8 : ((2 ^ q.toBitVec.toNat : Nat) : Int) ≤ 268435456 := Int.ofNat_le.mpr h6
  have h9 : (0 : Int) ≤ ((2 ^ q.toBitVec.toNat : Nat) : Int) := Int.natCast_nonneg _
  omega
theorem own_nz (U : Int32) (h : ∃ k : Nat, k ≤ 28 ∧ U.toInt = (2 ^ k : Nat)) : U.toInt64 ≠ (0 : Int64) ∧ (U.toInt64 * (8 : Int64)) ≠ (0 : Int64) := by
  obtain ⟨k, hk, hU⟩ := h
  have hP1 : 1 ≤ 2 ^ k := Nat.one_le_two_pow
  have hP2 : 2 ^ k ≤ 268435456 := Nat.le_trans (Nat.pow_le_pow_right (by decide) hk) (by decide)
  have q1 : (1 : Int) ≤ ((2 ^ k : Nat) : Int) := Int.ofNat_le.mpr hP1
  have q2 : ((2 ^ k : Nat) : Int) ≤ 268435456 := Int.ofNat_le.mpr hP2
  have i1 := c_i2l U
  have l1 := c_lmul U.toInt64 8
  simp only [Int64.reduceToInt] at l1
  constructor
  · intro q
    have := congrArg Int64.toInt q
    simp only [Int64.reduceToInt] at this
    omega
  · intro q
    have := congrArg Int64.toInt q
    simp only [Int64.reduceToInt] at this
    omega
theorem ow_0 {Z : State} {a0 : Array Value} (hw : ∀ d ∈ tables_1, d.before a0 Z = true) : (Jvm.Cond.constantLong "com/example/structlane/structlane/model/PositionSpansNoMoreUnitsThanPinLaw" (9 : Nat) (9223372036854775807 : Int64)).before a0 Z = true := hw _ (List.mem_of_getElem? (i := 0) rfl)
theorem ow_1 {Z : State} {a0 : Array Value} (hw : ∀ d ∈ tables_1, d.before a0 Z = true) : (Jvm.Cond.constant "com/example/structlane/structlane/model/PositionSpansNoMoreUnitsThanPinLaw" (11 : Nat) (2147483647 : Int32)).before a0 Z = true := hw _ (List.mem_of_getElem? (i := 1) rfl)
theorem ow_28 {Z : State} {a0 : Array Value} (hw : ∀ d ∈ tables_1, d.before a0 Z = true) : (Jvm.Cond.constantLong "com/example/structlane/structlane/model/PositionSpansNoMoreUnitsThanPinLaw" (14 : Nat) (576460752303423487 : Int64)).before a0 Z = true := hw _ (List.mem_of_getElem? (i := 28) rfl)
theorem ow_2 {Z : State} {a0 : Array Value} (hw : ∀ d ∈ tables_1, d.before a0 Z = true) : (Jvm.Cond.constantLong "com/example/structlane/structlane/model/PositionSpansNoMoreUnitsThanPinLaw" (12 : Nat) (31 : Int64)).before a0 Z = true := hw _ (List.mem_of_getElem? (i := 2) rfl)
theorem ow_3 {Z : State} {a0 : Array Value} (hw : ∀ d ∈ tables_1, d.before a0 Z = true) : (Jvm.Cond.classLink "com/example/structlane/structlane/model/PositionSpansNoMoreUnitsThanPinLaw" (16 : Nat) "com/example/structlane/structlane/model/RecordLayout$Position").before a0 Z = true := hw _ (List.mem_of_getElem? (i := 3) rfl)
theorem ow_5 {Z : State} {a0 : Array Value} (hw : ∀ d ∈ tables_1, d.before a0 Z = true) : (Jvm.Cond.initialized "com/example/structlane/structlane/model/RecordLayout$Position").before a0 Z = true := hw _ (List.mem_of_getElem? (i := 5) rfl)
theorem ow_6 {Z : State} {a0 : Array Value} (hw : ∀ d ∈ tables_1, d.before a0 Z = true) : (Jvm.Cond.methodLink "com/example/structlane/structlane/model/PositionSpansNoMoreUnitsThanPinLaw" (18 : Nat) ({ cls := "com/example/structlane/structlane/model/RecordLayout$Position", name := "<init>", desc := "(JI)V" } : Jvm.MethodName)).before a0 Z = true := hw _ (List.mem_of_getElem? (i := 6) rfl)
theorem opd__JI_V : parseMethodDescriptor "(JI)V" = some ⟨[.long, .int], none⟩ := by decide +kernel
theorem ow_7 {Z : State} {a0 : Array Value} (hw : ∀ d ∈ tables_1, d.before a0 Z = true) : (Jvm.Cond.instanceMethod ({ cls := "com/example/structlane/structlane/model/RecordLayout$Position", name := "<init>", desc := "(JI)V" } : Jvm.MethodName)).before a0 Z = true := hw _ (List.mem_of_getElem? (i := 7) rfl)
theorem ow_8 {Z : State} {a0 : Array Value} (hw : ∀ d ∈ tables_1, d.before a0 Z = true) : (Jvm.Cond.code ({ cls := "com/example/structlane/structlane/model/RecordLayout$Position", name := "<init>", desc := "(JI)V" } : Jvm.MethodName) prog_220_method_1_code (4 : Nat) (Option.none : Option Jvm.ClassFile.FieldType)).before a0 Z = true := hw _ (List.mem_of_getElem? (i := 8) rfl)
theorem ow_21 {Z : State} {a0 : Array Value} (hw : ∀ d ∈ tables_1, d.before a0 Z = true) : (Jvm.Cond.methodLink "com/example/structlane/structlane/model/PositionSpansNoMoreUnitsThanPinLaw" (21 : Nat) ({ cls := "com/example/structlane/structlane/model/RecordLayout$Position", name := "spansNoMoreUnitsThan", desc := "(IIJ)Z" } : Jvm.MethodName)).before a0 Z = true := hw _ (List.mem_of_getElem? (i := 21) rfl)
theorem ow_24 {Z : State} {a0 : Array Value} (hw : ∀ d ∈ tables_1, d.before a0 Z = true) : (Jvm.Cond.selects "com/example/structlane/structlane/model/RecordLayout$Position" ({ cls := "com/example/structlane/structlane/model/RecordLayout$Position", name := "spansNoMoreUnitsThan", desc := "(IIJ)Z" } : Jvm.MethodName) ({ cls := "com/example/structlane/structlane/model/RecordLayout$Position", name := "spansNoMoreUnitsThan", desc := "(IIJ)Z" } : Jvm.MethodName)).before a0 Z = true := hw _ (List.mem_of_getElem? (i := 24) rfl)
theorem opd__IIJ_Z : parseMethodDescriptor "(IIJ)Z" = some ⟨[.int, .int, .long], some .boolean⟩ := by decide +kernel
theorem ow_22 {Z : State} {a0 : Array Value} (hw : ∀ d ∈ tables_1, d.before a0 Z = true) : (Jvm.Cond.declares ({ cls := "com/example/structlane/structlane/model/RecordLayout$Position", name := "spansNoMoreUnitsThan", desc := "(IIJ)Z" } : Jvm.MethodName)).before a0 Z = true := hw _ (List.mem_of_getElem? (i := 22) rfl)
theorem ow_23 {Z : State} {a0 : Array Value} (hw : ∀ d ∈ tables_1, d.before a0 Z = true) : (Jvm.Cond.instanceMethod ({ cls := "com/example/structlane/structlane/model/RecordLayout$Position", name := "spansNoMoreUnitsThan", desc := "(IIJ)Z" } : Jvm.MethodName)).before a0 Z = true := hw _ (List.mem_of_getElem? (i := 23) rfl)
theorem ow_25 {Z : State} {a0 : Array Value} (hw : ∀ d ∈ tables_1, d.before a0 Z = true) : (Jvm.Cond.code ({ cls := "com/example/structlane/structlane/model/RecordLayout$Position", name := "spansNoMoreUnitsThan", desc := "(IIJ)Z" } : Jvm.MethodName) prog_220_method_9_code (11 : Nat) (Option.some Jvm.ClassFile.FieldType.boolean)).before a0 Z = true := hw _ (List.mem_of_getElem? (i := 25) rfl)
theorem ow_27 {Z : State} {a0 : Array Value} (hw : ∀ d ∈ tables_1, d.before a0 Z = true) : (Jvm.Cond.constantLong "com/example/structlane/structlane/model/PositionSpansNoMoreUnitsThanPinLaw" (25 : Nat) (8 : Int64)).before a0 Z = true := hw _ (List.mem_of_getElem? (i := 27) rfl)
theorem opn_com_example_structlane_structlane_model_PositionSpansNoMoreUnitsThanPinLaw : plainName "com/example/structlane/structlane/model/PositionSpansNoMoreUnitsThanPinLaw" = true := by first | (simp [plainName, overriddenIn]; done) | decide +kernel
theorem oef_law (m : MethodId) (u0 : Int64) (u1 : Int32) (u2 : Int32) (u3 : Int32) (u4 : Int64) (u5 : Int32) : entryFrame m #[(.long u0), (.int u1), (.int u2), (.int u3), (.long u4), (.int u5)] maxLocals = mkF m 0 #[.val (.long u0), .second, .val (.int u1), .val (.int u2), .val (.int u3), .val (.long u4), .second, .val (.int u5), .unset, .unset, .unset, .unset, .unset, .unset, .unset, .unset, .unset, .unset, .unset, .unset, .unset, .unset, .unset, .unset, .unset] [] := by first | (simp [entryFrame, mkF, argsToLocals, Value.category, maxLocals]; done) | rfl
set_option maxRecDepth 65536 in
set_option maxHeartbeats 40000000 in
theorem own_law (l : Launch) (Z : State) (a0 : Array Value) (hw : ∀ d ∈ tables_1, d.before a0 Z = true) (u0 : Int64) (u1 : Int32) (u2 : Int32) (u3 : Int32) (u4 : Int64) (u5 : Int32) (h0 : Heap) (n0 : Nat) (Z0 : n0 ≤ h0.size) :
    own_M l Z x code maxLocals ret tables_1 room_1 #[(.long u0), (.int u1), (.int u2), (.int u3), (.long u4), (.int u5)] h0 (fun v h L => v = some (.int 1) ∧ Fr n0 L) 1 2 := by
  refine own_body (plainFor_of_name opn_com_example_structlane_structlane_model_PositionSpansNoMoreUnitsThanPinLaw) ?_
  intro p e s m below meth c s1 hx hby hml' hown hnm hret hlk hZ X0 e0
  have hml : c.maxLocals = 25 := hml'
  rw [oef_law m u0 u1 u2 u3 u4 u5]
  have N0 := Fr.nil n0
  refine own_lloadN X0 hx (hb hby at_0) rfl (pc' := 1) rfl ?_
  refine own_ldc2 X0 hx hZ hown (ow_0 hw) (hb hby at_1) (pc' := 4) rfl ?_
  refine own_land X0 hx (hb hby at_4) (pc' := 5) rfl ?_
  refine own_lstore X0 hx (hb hby at_5) (l' := #[.val (.long u0), .second, .val (.int u1), .val (.int u2), .val (.int u3), .val (.long u4), .second, .val (.int u5), .val (.long (u0 &&& (9223372036854775807 : Int64))), .second, .unset, .unset, .unset, .unset, .unset, .unset, .unset, .unset, .unset, .unset, .unset, .unset, .unset, .unset, .unset]) rfl (pc' := 7) rfl ?_
  refine own_iloadN X0 hx (hb hby at_7) rfl (pc' := 8) rfl ?_
  refine own_bipush X0 hx (hb hby at_8) (z := (7 : Int32)) (by decide) (pc' := 10) rfl ?_
  refine own_iand X0 hx (hb hby at_10) (pc' := 11) rfl ?_
  refine own_istore X0 hx (hb hby at_11) (l' := #[.val (.long u0), .second, .val (.int u1), .val (.int u2), .val (.int u3), .val (.long u4), .second, .val (.int u5), .val (.long (u0 &&& (9223372036854775807 : Int64))), .second, .val (.int (u1 &&& (7 : Int32))), .unset, .unset, .unset, .unset, .unset, .unset, .unset, .unset, .unset, .unset, .unset, .unset, .unset, .unset]) rfl (pc' := 13) rfl ?_
  refine own_iload X0 hx (hb hby at_13) rfl (pc' := 15) rfl ?_
  refine own_iconst X0 hx (hb hby at_15) (z := (1 : Int32)) rfl (pc' := 16) rfl ?_
  refine own_iand X0 hx (hb hby at_16) (pc' := 17) rfl ?_
  refine own_via (S' := s1.setTop (mkF m 32 #[.val (.long u0), .second, .val (.int u1), .val (.int u2), .val (.int u3), .val (.long u4), .second, .val (.int u5), .val (.long (u0 &&& (9223372036854775807 : Int64))), .second, .val (.int (u1 &&& (7 : Int32))), .unset, .unset, .unset, .unset, .unset, .unset, .unset, .unset, .unset, .unset, .unset, .unset, .unset, .unset] [(.int (if (u5 &&& (1 : Int32)) = (0 : Int32) then (u2 &&& (2147483647 : Int32)) else (u2 &&& (255 : Int32))))])) (fun kk => ?_) ?_
  · by_cases c1 : (u5 &&& (1 : Int32)) = (0 : Int32)
    · refine own_ifT X0 hx (hb hby at_17) (teq c1).1 (by decide) (pc' := 28) rfl ?_
      refine own_iloadN X0 hx (hb hby at_28) rfl (pc' := 29) rfl ?_
      refine own_ldc X0 hx hZ hown (ow_1 hw) (hb hby at_29) (pc' := 31) rfl ?_
      refine own_iand X0 hx (hb hby at_31) (pc' := 32) rfl ?_
      exact own_cast (by simp only [if_pos c1]) kk
    · refine own_ifF X0 hx (hb hby at_17) (feq c1).1 (pc' := 20) rfl ?_
      refine own_iloadN X0 hx (hb hby at_20) rfl (pc' := 21) rfl ?_
      refine own_sipush X0 hx (hb hby at_21) (z := (255 : Int32)) (by decide) (pc' := 24) rfl ?_
      refine own_iand X0 hx (hb hby at_24) (pc' := 25) rfl ?_
      refine own_goto X0 hx (hb hby at_25) (by decide) (pc' := 32) rfl ?_
      exact own_cast (by simp only [if_neg c1]) kk
  refine own_istore X0 hx (hb hby at_32) (l' := #[.val (.long u0), .second, .val (.int u1), .val (.int u2), .val (.int u3), .val (.long u4), .second, .val (.int u5), .val (.long (u0 &&& (9223372036854775807 : Int64))), .second, .val (.int (u1 &&& (7 : Int32))), .val (.int (if (u5 &&& (1 : Int32)) = (0 : Int32) then (u2 &&& (2147483647 : Int32)) else (u2 &&& (255 : Int32)))), .unset, .unset, .unset, .unset, .unset, .unset, .unset, .unset, .unset, .unset, .unset, .unset, .unset]) rfl (pc' := 34) rfl ?_
  refine own_iload X0 hx (hb hby at_34) rfl (pc' := 36) rfl ?_
  refine own_ldc X0 hx hZ hown (ow_1 hw) (hb hby at_36) (pc' := 38) rfl ?_
  refine own_iand X0 hx (hb hby at_38) (pc' := 39) rfl ?_
  refine own_bipush X0 hx (hb hby at_39) (z := (29 : Int32)) (by decide) (pc' := 41) rfl ?_
  refine own_irem X0 hx (hb hby at_41) (by decide) (pc' := 42) rfl ?_
  refine own_istore X0 hx (hb hby at_42) (l' := #[.val (.long u0), .second, .val (.int u1), .val (.int u2), .val (.int u3), .val (.long u4), .second, .val (.int u5), .val (.long (u0 &&& (9223372036854775807 : Int64))), .second, .val (.int (u1 &&& (7 : Int32))), .val (.int (if (u5 &&& (1 : Int32)) = (0 : Int32) then (u2 &&& (2147483647 : Int32)) else (u2 &&& (255 : Int32)))), .val (.int ((u3 &&& (2147483647 : Int32)) % (29 : Int32))), .unset, .unset, .unset, .unset, .unset, .unset, .unset, .unset, .unset, .unset, .unset, .unset]) rfl (pc' := 44) rfl ?_
  refine own_iconst X0 hx (hb hby at_44) (z := (1 : Int32)) rfl (pc' := 45) rfl ?_
  refine own_iload X0 hx (hb hby at_45) rfl (pc' := 47) rfl ?_
  refine own_ishl X0 hx (hb hby at_47) (pc' := 48) rfl ?_
  refine own_istore X0 hx (hb hby at_48) (l' := #[.val (.long u0), .second, .val (.int u1), .val (.int u2), .val (.int u3), .val (.long u4), .second, .val (.int u5), .val (.long (u0 &&& (9223372036854775807 : Int64))), .second, .val (.int (u1 &&& (7 : Int32))), .val (.int (if (u5 &&& (1 : Int32)) = (0 : Int32) then (u2 &&& (2147483647 : Int32)) else (u2 &&& (255 : Int32)))), .val (.int ((u3 &&& (2147483647 : Int32)) % (29 : Int32))), .val (.int ((1 : Int32) <<< (((u3 &&& (2147483647 : Int32)) % (29 : Int32)) &&& 31))), .unset, .unset, .unset, .unset, .unset, .unset, .unset, .unset, .unset, .unset, .unset]) rfl (pc' := 50) rfl ?_
  obtain ⟨kU, hkU, hU⟩ := own_U u3
  refine own_iload X0 hx (hb hby at_50) rfl (pc' := 52) rfl ?_
  refine own_iconst X0 hx (hb hby at_52) (z := (2 : Int32)) rfl (pc' := 53) rfl ?_
  refine own_iand X0 hx (hb hby at_53) (pc' := 54) rfl ?_
  refine own_via (S' := s1.setTop (mkF m 72 #[.val (.long u0), .second, .val (.int u1), .val (.int u2), .val (.int u3), .val (.long u4), .second, .val (.int u5), .val (.long (u0 &&& (9223372036854775807 : Int64))), .second, .val (.int (u1 &&& (7 : Int32))), .val (.int (if (u5 &&& (1 : Int32)) = (0 : Int32) then (u2 &&& (2147483647 : Int32)) else (u2 &&& (255 : Int32)))), .val (.int ((u3 &&& (2147483647 : Int32)) % (29 : Int32))), .val (.int ((1 : Int32) <<< (((u3 &&& (2147483647 : Int32)) % (29 : Int32)) &&& 31))), .unset, .unset, .unset, .unset, .unset, .unset, .unset, .unset, .unset, .unset, .unset] [(.long (if (u5 &&& (2 : Int32)) = (0 : Int32) then (u4 &&& (576460752303423487 : Int64)) else (u4 &&& (31 : Int64))))])) (fun kk => ?_) ?_
  · by_cases c2 : (u5 &&& (2 : Int32)) = (0 : Int32)
    · refine own_ifT X0 hx (hb hby at_54) (teq c2).1 (by decide) (pc' := 66) rfl ?_
      refine own_lload X0 hx (hb hby at_66) rfl (pc' := 68) rfl ?_
      refine own_ldc2 X0 hx hZ hown (ow_28 hw) (hb hby at_68) (pc' := 71) rfl ?_
      refine own_land X0 hx (hb hby at_71) (pc' := 72) rfl ?_
      exact own_cast (by simp only [if_pos c2]) kk
    · refine own_ifF X0 hx (hb hby at_54) (feq c2).1 (pc' := 57) rfl ?_
      refine own_lload X0 hx (hb hby at_57) rfl (pc' := 59) rfl ?_
      refine own_ldc2 X0 hx hZ hown (ow_2 hw) (hb hby at_59) (pc' := 62) rfl ?_
      refine own_land X0 hx (hb hby at_62) (pc' := 63) rfl ?_
      refine own_goto X0 hx (hb hby at_63) (by decide) (pc' := 72) rfl ?_
      exact own_cast (by simp only [if_neg c2]) kk
  refine own_lstore X0 hx (hb hby at_72) (l' := #[.val (.long u0), .second, .val (.int u1), .val (.int u2), .val (.int u3), .val (.long u4), .second, .val (.int u5), .val (.long (u0 &&& (9223372036854775807 : Int64))), .second, .val (.int (u1 &&& (7 : Int32))), .val (.int (if (u5 &&& (1 : Int32)) = (0 : Int32) then (u2 &&& (2147483647 : Int32)) else (u2 &&& (255 : Int32)))), .val (.int ((u3 &&& (2147483647 : Int32)) % (29 : Int32))), .val (.int ((1 : Int32) <<< (((u3 &&& (2147483647 : Int32)) % (29 : Int32)) &&& 31))), .val (.long (if (u5 &&& (2 : Int32)) = (0 : Int32) then (u4 &&& (576460752303423487 : Int64)) else (u4 &&& (31 : Int64)))), .second, .unset, .unset, .unset, .unset, .unset, .unset, .unset, .unset, .unset]) rfl (pc' := 74) rfl ?_
  refine own_new X0 hx hZ hown (ow_3 hw) (ow_4 hw) (ow_5 hw) e0 (hb hby at_74) (pc' := 77) rfl (by decide) (by decide) ?_
  intro T3 h3 a3 g3 X3 e3 E3 A3 D3
  have ge_a3 : n0 ≤ a3 := by rw [g3]; exact Z0
  have F3_byteIndex : Fld Z h3 a3 "com/example/structlane/structlane/model/RecordLayout$Position" "byteIndex" "J" (.long (0 : Int64)) := D3 (Or.inr (ow_18 hw)) (ty := .long) (by decide)
  have F3_bit : Fld Z h3 a3 "com/example/structlane/structlane/model/RecordLayout$Position" "bit" "I" (.int (0 : Int32)) := D3 (Or.inr (ow_20 hw)) (ty := .int) (by decide)
  refine own_dup X3 hx (hb hby at_77) rfl (pc' := 78) rfl ?_
  refine own_lload X3 hx (hb hby at_78) rfl (pc' := 80) rfl ?_
  refine own_iload X3 hx (hb hby at_80) rfl (pc' := 82) rfl ?_
  have z5 : n0 ≤ h3.size := (Nat.le_trans Z0 E3.1)
  refine own_callC X3 hx hZ rfl hown (ow_6 hw) (ow_7 hw) (ow_5 hw) (ow_8 hw) (by decide) (rm_init l Z a0 hw a3 (u0 &&& (9223372036854775807 : Int64)) (u1 &&& (7 : Int32)) (.long (0 : Int64)) (.int (0 : Int32)) h3 n0 z5 A3 F3_byteIndex F3_bit ge_a3) e3 (W := 1) (by decide) (by decide) opd__JI_V rfl (rest := [(.ref a3)]) rfl (hb hby at_82) (Nat.le_of_eq rfl) (by rw [hml]; rfl) (by decide) (by decide) (pc' := 85) rfl ?_
  intro v4 T4 L4 X4 q4
  obtain ⟨rfl, Nq4, K4, p4_0, p4_1⟩ := q4
  have N4 := Fr.app N0 Nq4
  show own_G p e below s _ _ _ (T4.setTop (mkF m 85 #[.val (.long u0), .second, .val (.int u1), .val (.int u2), .val (.int u3), .val (.long u4), .second, .val (.int u5), .val (.long (u0 &&& (9223372036854775807 : Int64))), .second, .val (.int (u1 &&& (7 : Int32))), .val (.int (if (u5 &&& (1 : Int32)) = (0 : Int32) then (u2 &&& (2147483647 : Int32)) else (u2 &&& (255 : Int32)))), .val (.int ((u3 &&& (2147483647 : Int32)) % (29 : Int32))), .val (.int ((1 : Int32) <<< (((u3 &&& (2147483647 : Int32)) % (29 : Int32)) &&& 31))), .val (.long (if (u5 &&& (2 : Int32)) = (0 : Int32) then (u4 &&& (576460752303423487 : Int64)) else (u4 &&& (31 : Int64)))), .second, .unset, .unset, .unset, .unset, .unset, .unset, .unset, .unset, .unset] [(.ref a3)]))
  refine own_astore X4 hx (hb hby at_85) rfl (l' := #[.val (.long u0), .second, .val (.int u1), .val (.int u2), .val (.int u3), .val (.long u4), .second, .val (.int u5), .val (.long (u0 &&& (9223372036854775807 : Int64))), .second, .val (.int (u1 &&& (7 : Int32))), .val (.int (if (u5 &&& (1 : Int32)) = (0 : Int32) then (u2 &&& (2147483647 : Int32)) else (u2 &&& (255 : Int32)))), .val (.int ((u3 &&& (2147483647 : Int32)) % (29 : Int32))), .val (.int ((1 : Int32) <<< (((u3 &&& (2147483647 : Int32)) % (29 : Int32)) &&& 31))), .val (.long (if (u5 &&& (2 : Int32)) = (0 : Int32) then (u4 &&& (576460752303423487 : Int64)) else (u4 &&& (31 : Int64)))), .second, .val (.ref a3), .unset, .unset, .unset, .unset, .unset, .unset, .unset, .unset]) rfl (pc' := 87) rfl ?_
  refine own_aload X4 hx (hb hby at_87) rfl rfl (pc' := 89) rfl ?_
  refine own_iload X4 hx (hb hby at_89) rfl (pc' := 91) rfl ?_
  refine own_iload X4 hx (hb hby at_91) rfl (pc' := 93) rfl ?_
  refine own_lload X4 hx (hb hby at_93) rfl (pc' := 95) rfl ?_
  have z7 : n0 ≤ T4.heap.size := (Nat.le_trans z5 K4.1)
  have f8 : Exa Z T4.heap a3 "com/example/structlane/structlane/model/RecordLayout$Position" := (A3.keep K4)
  refine own_callV X4 hx hZ hown (ow_21 hw) (ow_22 hw) (ow_24 hw) (ow_23 hw) (ow_5 hw) (ow_25 hw) (by decide) f8 (rm_sp l Z a0 hw a3 (if (u5 &&& (1 : Int32)) = (0 : Int32) then (u2 &&& (2147483647 : Int32)) else (u2 &&& (255 : Int32))) ((1 : Int32) <<< (((u3 &&& (2147483647 : Int32)) % (29 : Int32)) &&& 31)) (if (u5 &&& (2 : Int32)) = (0 : Int32) then (u4 &&& (576460752303423487 : Int64)) else (u4 &&& (31 : Int64))) (u0 &&& (9223372036854775807 : Int64)) (u1 &&& (7 : Int32)) T4.heap n0 z7 p4_0 p4_1 (own_nz _ (own_U u3)).2) rfl (W := 0) (by decide) (by decide) opd__IIJ_Z rfl (rest := []) rfl (hb hby at_95) (Nat.le_of_eq rfl) (by rw [hml]; rfl) (by decide) (by decide) (pc' := 98) rfl ?_
  intro v6 T6 L6 X6 q6
  obtain ⟨rfl, Nq6, eh6⟩ := q6
  have N6 := Fr.app N4 Nq6
  show own_G p e below s _ _ _ (T6.setTop (mkF m 98 #[.val (.long u0), .second, .val (.int u1), .val (.int u2), .val (.int u3), .val (.long u4), .second, .val (.int u5), .val (.long (u0 &&& (9223372036854775807 : Int64))), .second, .val (.int (u1 &&& (7 : Int32))), .val (.int (if (u5 &&& (1 : Int32)) = (0 : Int32) then (u2 &&& (2147483647 : Int32)) else (u2 &&& (255 : Int32)))), .val (.int ((u3 &&& (2147483647 : Int32)) % (29 : Int32))), .val (.int ((1 : Int32) <<< (((u3 &&& (2147483647 : Int32)) % (29 : Int32)) &&& 31))), .val (.long (if (u5 &&& (2 : Int32)) = (0 : Int32) then (u4 &&& (576460752303423487 : Int64)) else (u4 &&& (31 : Int64)))), .second, .val (.ref a3), .unset, .unset, .unset, .unset, .unset, .unset, .unset, .unset] [(.int (if (((if (u5 &&& (2 : Int32)) = (0 : Int32) then (u4 &&& (576460752303423487 : Int64)) else (u4 &&& (31 : Int64))) * (8 : Int64)) / (((1 : Int32) <<< (((u3 &&& (2147483647 : Int32)) % (29 : Int32)) &&& 31)).toInt64 * (8 : Int64))) < ((((((((u0 &&& (9223372036854775807 : Int64)) &&& ((((1 : Int32) <<< (((u3 &&& (2147483647 : Int32)) % (29 : Int32)) &&& 31)) - (1 : Int32)).toInt64)) * (8 : Int64)) + (u1 &&& (7 : Int32)).toInt64) + (if (u5 &&& (1 : Int32)) = (0 : Int32) then (u2 &&& (2147483647 : Int32)) else (u2 &&& (255 : Int32))).toInt64) + (((1 : Int32) <<< (((u3 &&& (2147483647 : Int32)) % (29 : Int32)) &&& 31)).toInt64 * (8 : Int64))) - (1 : Int64)) / (((1 : Int32) <<< (((u3 &&& (2147483647 : Int32)) % (29 : Int32)) &&& 31)).toInt64 * (8 : Int64))) then (0 : Int32) else (1 : Int32)))]))
  refine own_istore X6 hx (hb hby at_98) (l' := #[.val (.long u0), .second, .val (.int u1), .val (.int u2), .val (.int u3), .val (.long u4), .second, .val (.int u5), .val (.long (u0 &&& (9223372036854775807 : Int64))), .second, .val (.int (u1 &&& (7 : Int32))), .val (.int (if (u5 &&& (1 : Int32)) = (0 : Int32) then (u2 &&& (2147483647 : Int32)) else (u2 &&& (255 : Int32)))), .val (.int ((u3 &&& (2147483647 : Int32)) % (29 : Int32))), .val (.int ((1 : Int32) <<< (((u3 &&& (2147483647 : Int32)) % (29 : Int32)) &&& 31))), .val (.long (if (u5 &&& (2 : Int32)) = (0 : Int32) then (u4 &&& (576460752303423487 : Int64)) else (u4 &&& (31 : Int64)))), .second, .val (.ref a3), .val (.int (if (((if (u5 &&& (2 : Int32)) = (0 : Int32) then (u4 &&& (576460752303423487 : Int64)) else (u4 &&& (31 : Int64))) * (8 : Int64)) / (((1 : Int32) <<< (((u3 &&& (2147483647 : Int32)) % (29 : Int32)) &&& 31)).toInt64 * (8 : Int64))) < ((((((((u0 &&& (9223372036854775807 : Int64)) &&& ((((1 : Int32) <<< (((u3 &&& (2147483647 : Int32)) % (29 : Int32)) &&& 31)) - (1 : Int32)).toInt64)) * (8 : Int64)) + (u1 &&& (7 : Int32)).toInt64) + (if (u5 &&& (1 : Int32)) = (0 : Int32) then (u2 &&& (2147483647 : Int32)) else (u2 &&& (255 : Int32))).toInt64) + (((1 : Int32) <<< (((u3 &&& (2147483647 : Int32)) % (29 : Int32)) &&& 31)).toInt64 * (8 : Int64))) - (1 : Int64)) / (((1 : Int32) <<< (((u3 &&& (2147483647 : Int32)) % (29 : Int32)) &&& 31)).toInt64 * (8 : Int64))) then (0 : Int32) else (1 : Int32))), .unset, .unset, .unset, .unset, .unset, .unset, .unset]) rfl (pc' := 100) rfl ?_
  refine own_lload X6 hx (hb hby at_100) rfl (pc' := 102) rfl ?_
  refine own_iload X6 hx (hb hby at_102) rfl (pc' := 104) rfl ?_
  refine own_i2l X6 hx (hb hby at_104) (pc' := 105) rfl ?_
  refine own_lrem X6 hx (hb hby at_105) (own_nz _ (own_U u3)).1 (pc' := 106) rfl ?_
  refine own_lstore X6 hx (hb hby at_106) (l' := #[.val (.long u0), .second, .val (.int u1), .val (.int u2), .val (.int u3), .val (.long u4), .second, .val (.int u5), .val (.long (u0 &&& (9223372036854775807 : Int64))), .second, .val (.int (u1 &&& (7 : Int32))), .val (.int (if (u5 &&& (1 : Int32)) = (0 : Int32) then (u2 &&& (2147483647 : Int32)) else (u2 &&& (255 : Int32)))), .val (.int ((u3 &&& (2147483647 : Int32)) % (29 : Int32))), .val (.int ((1 : Int32) <<< (((u3 &&& (2147483647 : Int32)) % (29 : Int32)) &&& 31))), .val (.long (if (u5 &&& (2 : Int32)) = (0 : Int32) then (u4 &&& (576460752303423487 : Int64)) else (u4 &&& (31 : Int64)))), .second, .val (.ref a3), .val (.int (if (((if (u5 &&& (2 : Int32)) = (0 : Int32) then (u4 &&& (576460752303423487 : Int64)) else (u4 &&& (31 : Int64))) * (8 : Int64)) / (((1 : Int32) <<< (((u3 &&& (2147483647 : Int32)) % (29 : Int32)) &&& 31)).toInt64 * (8 : Int64))) < ((((((((u0 &&& (9223372036854775807 : Int64)) &&& ((((1 : Int32) <<< (((u3 &&& (2147483647 : Int32)) % (29 : Int32)) &&& 31)) - (1 : Int32)).toInt64)) * (8 : Int64)) + (u1 &&& (7 : Int32)).toInt64) + (if (u5 &&& (1 : Int32)) = (0 : Int32) then (u2 &&& (2147483647 : Int32)) else (u2 &&& (255 : Int32))).toInt64) + (((1 : Int32) <<< (((u3 &&& (2147483647 : Int32)) % (29 : Int32)) &&& 31)).toInt64 * (8 : Int64))) - (1 : Int64)) / (((1 : Int32) <<< (((u3 &&& (2147483647 : Int32)) % (29 : Int32)) &&& 31)).toInt64 * (8 : Int64))) then (0 : Int32) else (1 : Int32))), .val (.long ((u0 &&& (9223372036854775807 : Int64)) % (((1 : Int32) <<< (((u3 &&& (2147483647 : Int32)) % (29 : Int32)) &&& 31)).toInt64))), .second, .unset, .unset, .unset, .unset, .unset]) rfl (pc' := 108) rfl ?_
  refine own_lload X6 hx (hb hby at_108) rfl (pc' := 110) rfl ?_
  refine own_ldc2 X6 hx hZ hown (ow_27 hw) (hb hby at_110) (pc' := 113) rfl ?_
  refine own_lmul X6 hx (hb hby at_113) (pc' := 114) rfl ?_
  refine own_iload X6 hx (hb hby at_114) rfl (pc' := 116) rfl ?_
  refine own_i2l X6 hx (hb hby at_116) (pc' := 117) rfl ?_
  refine own_ladd X6 hx (hb hby at_117) (pc' := 118) rfl ?_
  refine own_iload X6 hx (hb hby at_118) rfl (pc' := 120) rfl ?_
  refine own_i2l X6 hx (hb hby at_120) (pc' := 121) rfl ?_
  refine own_ladd X6 hx (hb hby at_121) (pc' := 122) rfl ?_
  refine own_lstore X6 hx (hb hby at_122) (l' := #[.val (.long u0), .second, .val (.int u1), .val (.int u2), .val (.int u3), .val (.long u4), .second, .val (.int u5), .val (.long (u0 &&& (9223372036854775807 : Int64))), .second, .val (.int (u1 &&& (7 : Int32))), .val (.int (if (u5 &&& (1 : Int32)) = (0 : Int32) then (u2 &&& (2147483647 : Int32)) else (u2 &&& (255 : Int32)))), .val (.int ((u3 &&& (2147483647 : Int32)) % (29 : Int32))), .val (.int ((1 : Int32) <<< (((u3 &&& (2147483647 : Int32)) % (29 : Int32)) &&& 31))), .val (.long (if (u5 &&& (2 : Int32)) = (0 : Int32) then (u4 &&& (576460752303423487 : Int64)) else (u4 &&& (31 : Int64)))), .second, .val (.ref a3), .val (.int (if (((if (u5 &&& (2 : Int32)) = (0 : Int32) then (u4 &&& (576460752303423487 : Int64)) else (u4 &&& (31 : Int64))) * (8 : Int64)) / (((1 : Int32) <<< (((u3 &&& (2147483647 : Int32)) % (29 : Int32)) &&& 31)).toInt64 * (8 : Int64))) < ((((((((u0 &&& (9223372036854775807 : Int64)) &&& ((((1 : Int32) <<< (((u3 &&& (2147483647 : Int32)) % (29 : Int32)) &&& 31)) - (1 : Int32)).toInt64)) * (8 : Int64)) + (u1 &&& (7 : Int32)).toInt64) + (if (u5 &&& (1 : Int32)) = (0 : Int32) then (u2 &&& (2147483647 : Int32)) else (u2 &&& (255 : Int32))).toInt64) + (((1 : Int32) <<< (((u3 &&& (2147483647 : Int32)) % (29 : Int32)) &&& 31)).toInt64 * (8 : Int64))) - (1 : Int64)) / (((1 : Int32) <<< (((u3 &&& (2147483647 : Int32)) % (29 : Int32)) &&& 31)).toInt64 * (8 : Int64))) then (0 : Int32) else (1 : Int32))), .val (.long ((u0 &&& (9223372036854775807 : Int64)) % (((1 : Int32) <<< (((u3 &&& (2147483647 : Int32)) % (29 : Int32)) &&& 31)).toInt64))), .second, .val (.long (((((u0 &&& (9223372036854775807 : Int64)) % (((1 : Int32) <<< (((u3 &&& (2147483647 : Int32)) % (29 : Int32)) &&& 31)).toInt64)) * (8 : Int64)) + ((u1 &&& (7 : Int32)).toInt64)) + ((if (u5 &&& (1 : Int32)) = (0 : Int32) then (u2 &&& (2147483647 : Int32)) else (u2 &&& (255 : Int32))).toInt64))), .second, .unset, .unset, .unset]) rfl (pc' := 124) rfl ?_
  refine own_lload X6 hx (hb hby at_124) rfl (pc' := 126) rfl ?_
  refine own_iload X6 hx (hb hby at_126) rfl (pc' := 128) rfl ?_
  refine own_i2l X6 hx (hb hby at_128) (pc' := 129) rfl ?_
  refine own_ldiv X6 hx (hb hby at_129) (own_nz _ (own_U u3)).1 (pc' := 130) rfl ?_
  refine own_lstore X6 hx (hb hby at_130) (l' := #[.val (.long u0), .second, .val (.int u1), .val (.int u2), .val (.int u3), .val (.long u4), .second, .val (.int u5), .val (.long (u0 &&& (9223372036854775807 : Int64))), .second, .val (.int (u1 &&& (7 : Int32))), .val (.int (if (u5 &&& (1 : Int32)) = (0 : Int32) then (u2 &&& (2147483647 : Int32)) else (u2 &&& (255 : Int32)))), .val (.int ((u3 &&& (2147483647 : Int32)) % (29 : Int32))), .val (.int ((1 : Int32) <<< (((u3 &&& (2147483647 : Int32)) % (29 : Int32)) &&& 31))), .val (.long (if (u5 &&& (2 : Int32)) = (0 : Int32) then (u4 &&& (576460752303423487 : Int64)) else (u4 &&& (31 : Int64)))), .second, .val (.ref a3), .val (.int (if (((if (u5 &&& (2 : Int32)) = (0 : Int32) then (u4 &&& (576460752303423487 : Int64)) else (u4 &&& (31 : Int64))) * (8 : Int64)) / (((1 : Int32) <<< (((u3 &&& (2147483647 : Int32)) % (29 : Int32)) &&& 31)).toInt64 * (8 : Int64))) < ((((((((u0 &&& (9223372036854775807 : Int64)) &&& ((((1 : Int32) <<< (((u3 &&& (2147483647 : Int32)) % (29 : Int32)) &&& 31)) - (1 : Int32)).toInt64)) * (8 : Int64)) + (u1 &&& (7 : Int32)).toInt64) + (if (u5 &&& (1 : Int32)) = (0 : Int32) then (u2 &&& (2147483647 : Int32)) else (u2 &&& (255 : Int32))).toInt64) + (((1 : Int32) <<< (((u3 &&& (2147483647 : Int32)) % (29 : Int32)) &&& 31)).toInt64 * (8 : Int64))) - (1 : Int64)) / (((1 : Int32) <<< (((u3 &&& (2147483647 : Int32)) % (29 : Int32)) &&& 31)).toInt64 * (8 : Int64))) then (0 : Int32) else (1 : Int32))), .val (.long ((u0 &&& (9223372036854775807 : Int64)) % (((1 : Int32) <<< (((u3 &&& (2147483647 : Int32)) % (29 : Int32)) &&& 31)).toInt64))), .second, .val (.long (((((u0 &&& (9223372036854775807 : Int64)) % (((1 : Int32) <<< (((u3 &&& (2147483647 : Int32)) % (29 : Int32)) &&& 31)).toInt64)) * (8 : Int64)) + ((u1 &&& (7 : Int32)).toInt64)) + ((if (u5 &&& (1 : Int32)) = (0 : Int32) then (u2 &&& (2147483647 : Int32)) else (u2 &&& (255 : Int32))).toInt64))), .second, .val (.long ((if (u5 &&& (2 : Int32)) = (0 : Int32) then (u4 &&& (576460752303423487 : Int64)) else (u4 &&& (31 : Int64))) / (((1 : Int32) <<< (((u3 &&& (2147483647 : Int32)) % (29 : Int32)) &&& 31)).toInt64))), .second, .unset]) rfl (pc' := 132) rfl ?_
  refine own_lload X6 hx (hb hby at_132) rfl (pc' := 134) rfl ?_
  refine own_lload X6 hx (hb hby at_134) rfl (pc' := 136) rfl ?_
  refine own_iload X6 hx (hb hby at_136) rfl (pc' := 138) rfl ?_
  refine own_i2l X6 hx (hb hby at_138) (pc' := 139) rfl ?_
  refine own_lmul X6 hx (hb hby at_139) (pc' := 140) rfl ?_
  refine own_ldc2 X6 hx hZ hown (ow_27 hw) (hb hby at_140) (pc' := 143) rfl ?_
  refine own_lmul X6 hx (hb hby at_143) (pc' := 144) rfl ?_
  refine own_lcmp X6 hx (hb hby at_144) (pc' := 145) rfl ?_
  refine own_via (S' := T6.setTop (mkF m 153 #[.val (.long u0), .second, .val (.int u1), .val (.int u2), .val (.int u3), .val (.long u4), .second, .val (.int u5), .val (.long (u0 &&& (9223372036854775807 : Int64))), .second, .val (.int (u1 &&& (7 : Int32))), .val (.int (if (u5 &&& (1 : Int32)) = (0 : Int32) then (u2 &&& (2147483647 : Int32)) else (u2 &&& (255 : Int32)))), .val (.int ((u3 &&& (2147483647 : Int32)) % (29 : Int32))), .val (.int ((1 : Int32) <<< (((u3 &&& (2147483647 : Int32)) % (29 : Int32)) &&& 31))), .val (.long (if (u5 &&& (2 : Int32)) = (0 : Int32) then (u4 &&& (576460752303423487 : Int64)) else (u4 &&& (31 : Int64)))), .second, .val (.ref a3), .val (.int (if (((if (u5 &&& (2 : Int32)) = (0 : Int32) then (u4 &&& (576460752303423487 : Int64)) else (u4 &&& (31 : Int64))) * (8 : Int64)) / (((1 : Int32) <<< (((u3 &&& (2147483647 : Int32)) % (29 : Int32)) &&& 31)).toInt64 * (8 : Int64))) < ((((((((u0 &&& (9223372036854775807 : Int64)) &&& ((((1 : Int32) <<< (((u3 &&& (2147483647 : Int32)) % (29 : Int32)) &&& 31)) - (1 : Int32)).toInt64)) * (8 : Int64)) + (u1 &&& (7 : Int32)).toInt64) + (if (u5 &&& (1 : Int32)) = (0 : Int32) then (u2 &&& (2147483647 : Int32)) else (u2 &&& (255 : Int32))).toInt64) + (((1 : Int32) <<< (((u3 &&& (2147483647 : Int32)) % (29 : Int32)) &&& 31)).toInt64 * (8 : Int64))) - (1 : Int64)) / (((1 : Int32) <<< (((u3 &&& (2147483647 : Int32)) % (29 : Int32)) &&& 31)).toInt64 * (8 : Int64))) then (0 : Int32) else (1 : Int32))), .val (.long ((u0 &&& (9223372036854775807 : Int64)) % (((1 : Int32) <<< (((u3 &&& (2147483647 : Int32)) % (29 : Int32)) &&& 31)).toInt64))), .second, .val (.long (((((u0 &&& (9223372036854775807 : Int64)) % (((1 : Int32) <<< (((u3 &&& (2147483647 : Int32)) % (29 : Int32)) &&& 31)).toInt64)) * (8 : Int64)) + ((u1 &&& (7 : Int32)).toInt64)) + ((if (u5 &&& (1 : Int32)) = (0 : Int32) then (u2 &&& (2147483647 : Int32)) else (u2 &&& (255 : Int32))).toInt64))), .second, .val (.long ((if (u5 &&& (2 : Int32)) = (0 : Int32) then (u4 &&& (576460752303423487 : Int64)) else (u4 &&& (31 : Int64))) / (((1 : Int32) <<< (((u3 &&& (2147483647 : Int32)) % (29 : Int32)) &&& 31)).toInt64))), .second, .unset] [(.int (if ((((if (u5 &&& (2 : Int32)) = (0 : Int32) then (u4 &&& (576460752303423487 : Int64)) else (u4 &&& (31 : Int64))) / (((1 : Int32) <<< (((u3 &&& (2147483647 : Int32)) % (29 : Int32)) &&& 31)).toInt64)) * (((1 : Int32) <<< (((u3 &&& (2147483647 : Int32)) % (29 : Int32)) &&& 31)).toInt64)) * (8 : Int64)) < (((((u0 &&& (9223372036854775807 : Int64)) % (((1 : Int32) <<< (((u3 &&& (2147483647 : Int32)) % (29 : Int32)) &&& 31)).toInt64)) * (8 : Int64)) + ((u1 &&& (7 : Int32)).toInt64)) + ((if (u5 &&& (1 : Int32)) = (0 : Int32) then (u2 &&& (2147483647 : Int32)) else (u2 &&& (255 : Int32))).toInt64)) then (0 : Int32) else (1 : Int32)))])) (fun kk => ?_) ?_
  · by_cases c9 : ((((if (u5 &&& (2 : Int32)) = (0 : Int32) then (u4 &&& (576460752303423487 : Int64)) else (u4 &&& (31 : Int64))) / (((1 : Int32) <<< (((u3 &&& (2147483647 : Int32)) % (29 : Int32)) &&& 31)).toInt64)) * (((1 : Int32) <<< (((u3 &&& (2147483647 : Int32)) % (29 : Int32)) &&& 31)).toInt64)) * (8 : Int64)) < (((((u0 &&& (9223372036854775807 : Int64)) % (((1 : Int32) <<< (((u3 &&& (2147483647 : Int32)) % (29 : Int32)) &&& 31)).toInt64)) * (8 : Int64)) + ((u1 &&& (7 : Int32)).toInt64)) + ((if (u5 &&& (1 : Int32)) = (0 : Int32) then (u2 &&& (2147483647 : Int32)) else (u2 &&& (255 : Int32))).toInt64))
    · refine own_ifT X6 hx (hb hby at_145) (own_ltL c9).2.2.1 (by decide) (pc' := 152) rfl ?_
      refine own_iconst X6 hx (hb hby at_152) (z := (0 : Int32)) rfl (pc' := 153) rfl ?_
      exact own_cast (by simp only [if_pos c9]) kk
    · refine own_ifF X6 hx (hb hby at_145) (own_geL c9).2.2.1 (pc' := 148) rfl ?_
      refine own_iconst X6 hx (hb hby at_148) (z := (1 : Int32)) rfl (pc' := 149) rfl ?_
      refine own_goto X6 hx (hb hby at_149) (by decide) (pc' := 153) rfl ?_
      exact own_cast (by simp only [if_neg c9]) kk
  refine own_istore X6 hx (hb hby at_153) (l' := #[.val (.long u0), .second, .val (.int u1), .val (.int u2), .val (.int u3), .val (.long u4), .second, .val (.int u5), .val (.long (u0 &&& (9223372036854775807 : Int64))), .second, .val (.int (u1 &&& (7 : Int32))), .val (.int (if (u5 &&& (1 : Int32)) = (0 : Int32) then (u2 &&& (2147483647 : Int32)) else (u2 &&& (255 : Int32)))), .val (.int ((u3 &&& (2147483647 : Int32)) % (29 : Int32))), .val (.int ((1 : Int32) <<< (((u3 &&& (2147483647 : Int32)) % (29 : Int32)) &&& 31))), .val (.long (if (u5 &&& (2 : Int32)) = (0 : Int32) then (u4 &&& (576460752303423487 : Int64)) else (u4 &&& (31 : Int64)))), .second, .val (.ref a3), .val (.int (if (((if (u5 &&& (2 : Int32)) = (0 : Int32) then (u4 &&& (576460752303423487 : Int64)) else (u4 &&& (31 : Int64))) * (8 : Int64)) / (((1 : Int32) <<< (((u3 &&& (2147483647 : Int32)) % (29 : Int32)) &&& 31)).toInt64 * (8 : Int64))) < ((((((((u0 &&& (9223372036854775807 : Int64)) &&& ((((1 : Int32) <<< (((u3 &&& (2147483647 : Int32)) % (29 : Int32)) &&& 31)) - (1 : Int32)).toInt64)) * (8 : Int64)) + (u1 &&& (7 : Int32)).toInt64) + (if (u5 &&& (1 : Int32)) = (0 : Int32) then (u2 &&& (2147483647 : Int32)) else (u2 &&& (255 : Int32))).toInt64) + (((1 : Int32) <<< (((u3 &&& (2147483647 : Int32)) % (29 : Int32)) &&& 31)).toInt64 * (8 : Int64))) - (1 : Int64)) / (((1 : Int32) <<< (((u3 &&& (2147483647 : Int32)) % (29 : Int32)) &&& 31)).toInt64 * (8 : Int64))) then (0 : Int32) else (1 : Int32))), .val (.long ((u0 &&& (9223372036854775807 : Int64)) % (((1 : Int32) <<< (((u3 &&& (2147483647 : Int32)) % (29 : Int32)) &&& 31)).toInt64))), .second, .val (.long (((((u0 &&& (9223372036854775807 : Int64)) % (((1 : Int32) <<< (((u3 &&& (2147483647 : Int32)) % (29 : Int32)) &&& 31)).toInt64)) * (8 : Int64)) + ((u1 &&& (7 : Int32)).toInt64)) + ((if (u5 &&& (1 : Int32)) = (0 : Int32) then (u2 &&& (2147483647 : Int32)) else (u2 &&& (255 : Int32))).toInt64))), .second, .val (.long ((if (u5 &&& (2 : Int32)) = (0 : Int32) then (u4 &&& (576460752303423487 : Int64)) else (u4 &&& (31 : Int64))) / (((1 : Int32) <<< (((u3 &&& (2147483647 : Int32)) % (29 : Int32)) &&& 31)).toInt64))), .second, .val (.int (if ((((if (u5 &&& (2 : Int32)) = (0 : Int32) then (u4 &&& (576460752303423487 : Int64)) else (u4 &&& (31 : Int64))) / (((1 : Int32) <<< (((u3 &&& (2147483647 : Int32)) % (29 : Int32)) &&& 31)).toInt64)) * (((1 : Int32) <<< (((u3 &&& (2147483647 : Int32)) % (29 : Int32)) &&& 31)).toInt64)) * (8 : Int64)) < (((((u0 &&& (9223372036854775807 : Int64)) % (((1 : Int32) <<< (((u3 &&& (2147483647 : Int32)) % (29 : Int32)) &&& 31)).toInt64)) * (8 : Int64)) + ((u1 &&& (7 : Int32)).toInt64)) + ((if (u5 &&& (1 : Int32)) = (0 : Int32) then (u2 &&& (2147483647 : Int32)) else (u2 &&& (255 : Int32))).toInt64)) then (0 : Int32) else (1 : Int32)))]) rfl (pc' := 155) rfl ?_
  refine own_iload X6 hx (hb hby at_155) rfl (pc' := 157) rfl ?_
  refine own_iload X6 hx (hb hby at_157) rfl (pc' := 159) rfl ?_
  refine own_icmpF X6 hx (hb hby at_159) (teq (own_key (u0 &&& (9223372036854775807 : Int64)) (u1 &&& (7 : Int32)) (if (u5 &&& (1 : Int32)) = (0 : Int32) then (u2 &&& (2147483647 : Int32)) else (u2 &&& (255 : Int32))) ((1 : Int32) <<< (((u3 &&& (2147483647 : Int32)) % (29 : Int32)) &&& 31)) (if (u5 &&& (2 : Int32)) = (0 : Int32) then (u4 &&& (576460752303423487 : Int64)) else (u4 &&& (31 : Int64))) kU hkU hU (own_B u0) (own_bt u1) (own_w _ u2) (own_S _ u4))).2 (pc' := 162) rfl ?_
  refine own_iconst X6 hx (hb hby at_162) (z := (1 : Int32)) rfl (pc' := 163) rfl ?_
  refine own_goto X6 hx (hb hby at_163) (by decide) (pc' := 167) rfl ?_
  exact own_retZ X6 hx hret hlk (Or.inr rfl) (hb hby at_167) ⟨rfl, N6⟩ (by decide) (by decide)
set_option maxRecDepth 65536 in
set_option maxHeartbeats 40000000 in
theorem comes_1 {Post : Tables → Env → Array Value → State → Outcome → State → Prop} (hpost : ∀ tb e args s v u, (limb_1_1.after args s (.returned v) u = true ∧ limb_1_2.after args s (.returned v) u = true ∧ True) → FrameEnd s (.returned v) u (Jvm.fieldLocs frame_1_writes args s ++ Jvm.arrayLocs frame_1_arrays args s ++ Jvm.staticLocs frame_1_statics s) 16 128 → Post tb e args s (.returned v) u) :
    ArmFor flags0 classFile x code maxLocals ret World_1 tables_1 room_1 Calls_1 rest_1 Pre_1 Post := by
  intro l hfl _ _ p e ha hc hk s m args below hf hA hF happ hP
  obtain ⟨hcalls, hrest, hpre⟩ := hP
  obtain ⟨-, -, -, hnamed, -, -, -, hat⟩ := (Spec.applies_iff hf).mp happ
  obtain ⟨hg, hn⟩ := and_e (Cond.before_iff.mp (show (Jvm.Cond.and given_1 narrow_1).before args s = true from hpre))
  obtain ⟨gc, gr0⟩ := and_e hg
  obtain ⟨gk0, gr1⟩ := and_e gr0
  obtain ⟨gk1, gr2⟩ := and_e gr1
  obtain ⟨gk2, gr3⟩ := and_e gr2
  obtain ⟨gk3, gr4⟩ := and_e gr3
  obtain ⟨gk4, gr5⟩ := and_e gr4
  obtain ⟨w0, w1, w2, w3, w4, w5, rfl⟩ : ∃ w0 w1 w2 w3 w4 w5 : Value, args = #[w0, w1, w2, w3, w4, w5] := by
    have hs : args.size = 6 := by simpa [Cond.value, given_1] using gc
    obtain ⟨L⟩ := args
    match L, hs with
    | [w0, w1, w2, w3, w4, w5], _ => exact ⟨w0, w1, w2, w3, w4, w5, rfl⟩
  have hw := fun d (hd : d ∈ tables_1) => atoms_spec (ws := Jvm.Cond.code x code maxLocals ret :: tables_1) hat d (List.mem_cons_of_mem _ hd)
  obtain ⟨i0, ei0⟩ := isL_v gk0
  obtain rfl : w0 = (.long i0) := Option.some.inj ei0
  obtain ⟨i1, ei1⟩ := is_v gk1
  obtain rfl : w1 = (.int i1) := Option.some.inj ei1
  obtain ⟨i2, ei2⟩ := is_v gk2
  obtain rfl : w2 = (.int i2) := Option.some.inj ei2
  obtain ⟨i3, ei3⟩ := is_v gk3
  obtain rfl : w3 = (.int i3) := Option.some.inj ei3
  obtain ⟨i4, ei4⟩ := isL_v gk4
  obtain rfl : w4 = (.long i4) := Option.some.inj ei4
  obtain ⟨i5, ei5⟩ := is_v gr5
  obtain rfl : w5 = (.int i5) := Option.some.inj ei5
  obtain ⟨n, o, h1, h2, h3, _, L, rfl, ⟨rfl, N⟩, hq⟩ := own_law l s _ hw i0 i1 i2 i3 i4 i5 s.heap s.heap.size (Nat.le_refl _) p e ha hc hk s m _ below hf ((Spec.applies_iff_loose hf).mp happ).1 ⟨rfl, State.Warmed39.refl s, rfl⟩ trivial
  refine ⟨n, _, h1, h2, h3, hpost _ _ _ _ _ _ ⟨Cond.after_iff.mpr rfl, Cond.after_iff.mpr (eq_i res_at (Term.int_eval (1)) rfl), trivial⟩ ⟨hq.1, hq.2.1, (hq.2.2.sift fun y hy => Or.inr (N y hy)).mono (by decide) (by decide)⟩⟩
theorem main_1_1 : Claimed_1_1 := comes_1 fun _ _ _ _ _ _ h hF => ⟨h.1, hF⟩
theorem main_1_2 : Claimed_1_2 := comes_1 fun _ _ _ _ _ _ h hF => ⟨h.2.1, hF⟩
end Jvm.Pilot.@@N@@
namespace Jvm.Pilot.@@N@@
open Jvm Jvm.ClassFile Sem Op Lib Jvm.Free Jvm.Stand Jvm.Pilot.@@N@@.Jvm.D
/-! MADE BY PROGRAM (witnessworld.py) out of the Statement's table words and the real class files: 10 classes; the members and pool entries that the words name. The judged class is class 1, her method 1. -/
namespace start1
open Jvm.ClassFile
def u (s : String) : CpInfo := .utf8 (stringToUtf16 s)
/-- a pool by its gaps: so many unusable entries, then the entry; so many at the end -/
def gap : Nat → List CpInfo → List CpInfo
  | 0, r => r
  | n + 1, r => .unusable :: gap n r
def poolList (es : List (Nat × CpInfo)) (last : Nat) : List CpInfo := es.foldr (fun e r => gap e.1 (e.2 :: r)) (gap last [])
def pool (es : List (Nat × CpInfo)) (last : Nat) : Array CpInfo := ⟨poolList es last⟩
def fileOf (pool : Array CpInfo) (this : Nat) (attrs : Array Attribute := #[]) (ms : Array MethodInfo := #[]) (fl : Nat := 33) (sup : Nat := 0) (ifs : Array Nat := #[]) (fds : Array FieldInfo := #[]) : ClassFile where
  minorVersion := 0
  majorVersion := 65
  constantPool := pool
  accessFlags := fl
  thisClass := this
  superClass := sup
  interfaces := ifs
  fields := fds
  methods := ms
  attributes := attrs
def plain (name : String) (sup : Option ClassId) : Class where
  name := name
  kind := .ordinary
  loader := none
  accessFlags := 33
  super := sup
  interfaces := #[]
  cf := none
  fields := #[]
  methods := #[]
  instanceTypes := #[]
  staticTypes := #[]
  resolved := #[]
  callSites := []
  init := .initialized
  statics := none
  mirror := none

def pool0 : Array CpInfo := pool [(5, u "<init>"), (0, u "()V"), (1, .class_ 10), (1, u "java/lang/Object")] 113

def k0c0 : Code := { maxStack := 0, maxLocals := 1, code := object_method_1_code, exceptionTable := #[], attributes := #[] }
def k0m0 : Method := { name := "<init>", desc := "()V", sig := { parameters := [], returnType := none }, accessFlags := 1, code := some k0c0 }
/-- java/lang/Object -/
def k0 : Class := { plain "java/lang/Object" none with
  accessFlags := 33
  interfaces := #[]
  cf := some (fileOf pool0 8 #[] #[{ accessFlags := 1, nameIndex := 5, descriptorIndex := 6, attributes := #[] }] 33 0 #[] #[])
  fields := #[]
  methods := #[k0m0]
  instanceTypes := #[]
  staticTypes := #[]
  resolved := Array.replicate 124 none
  statics := none }

def pool1 : Array CpInfo := pool [(2, .class_ 4), (1, u "java/lang/Object"), (0, u "<init>"), (0, u "()V"), (2, .long 9223372036854775807), (1, .integer 2147483647), (0, .long 31), (1, .long 576460752303423487), (1, .class_ 17), (0, u "com/example/structlane/structlane/model/RecordLayout$Position"), (0, .methodref 16 19), (0, .nameAndType 5 20), (0, u "(JI)V"), (0, .methodref 16 22), (0, .nameAndType 23 24), (0, u "spansNoMoreUnitsThan"), (0, u "(IIJ)Z"), (0, .long 8), (1, .class_ 28), (0, u "com/example/structlane/structlane/model/PositionSpansNoMoreUnitsThanPinLaw"), (2, u "law"), (0, u "(JIIIJI)Z")] 7

def k1m0 : Method := { name := "<init>", desc := "()V", sig := { parameters := [], returnType := none }, accessFlags := 2, code := none }
def k1c1 : Code := { maxStack := 6, maxLocals := 25, code := code, exceptionTable := #[], attributes := #[] }
def k1m1 : Method := { name := "law", desc := "(JIIIJI)Z", sig := { parameters := [.long, .int, .int, .int, .long, .int], returnType := some .boolean }, accessFlags := 9, code := some k1c1 }
/-- com/example/structlane/structlane/model/PositionSpansNoMoreUnitsThanPinLaw -/
def k1 : Class := { plain "com/example/structlane/structlane/model/PositionSpansNoMoreUnitsThanPinLaw" (some 0) with
  accessFlags := 49
  interfaces := #[]
  cf := some (fileOf pool1 27 #[] #[{ accessFlags := 2, nameIndex := 5, descriptorIndex := 6, attributes := #[] }, { accessFlags := 9, nameIndex := 31, descriptorIndex := 32, attributes := #[] }] 49 2 #[] #[])
  fields := #[]
  methods := #[k1m0, k1m1]
  instanceTypes := #[]
  staticTypes := #[]
  resolved := Array.replicate 40 none
  statics := none }

def pool2 : Array CpInfo := pool [(1, .methodref 2 3), (0, .class_ 4), (0, .nameAndType 5 6), (0, u "java/lang/Object"), (0, u "<init>"), (0, u "()V"), (0, .class_ 8), (0, u "java/lang/Record")] 13

def k2c0 : Code := { maxStack := 1, maxLocals := 1, code := jdk_30_method_1_code, exceptionTable := #[], attributes := #[] }
def k2m0 : Method := { name := "<init>", desc := "()V", sig := { parameters := [], returnType := none }, accessFlags := 4, code := some k2c0 }
/-- java/lang/Record -/
def k2 : Class := { plain "java/lang/Record" (some 0) with
  accessFlags := 1057
  interfaces := #[]
  cf := some (fileOf pool2 7 #[] #[{ accessFlags := 4, nameIndex := 5, descriptorIndex := 6, attributes := #[] }] 1057 2 #[] #[])
  fields := #[]
  methods := #[k2m0]
  instanceTypes := #[]
  staticTypes := #[]
  resolved := Array.replicate 22 none
  statics := none }

def pool3 : Array CpInfo := pool [(1, .methodref 2 3), (0, .class_ 4), (0, .nameAndType 5 6), (0, u "java/lang/Record"), (0, u "<init>"), (0, u "()V"), (0, .fieldref 8 9), (0, .class_ 10), (0, .nameAndType 11 12), (0, u "com/example/structlane/structlane/model/RecordLayout$Position"), (0, u "byteIndex"), (0, u "J"), (0, .fieldref 8 14), (0, .nameAndType 15 16), (0, u "bit"), (0, u "I"), (8, u "(JI)V"), (2, .long 8), (15, u "START"), (0, u "Lcom/example/structlane/structlane/model/RecordLayout$Position;"), (16, u "spansNoMoreUnitsThan"), (0, u "(IIJ)Z"), (8, .class_ 73), (0, u "com/example/structlane/structlane/model/RecordLayout")] 20

def k3c0 : Code := { maxStack := 3, maxLocals := 4, code := prog_220_method_1_code, exceptionTable := #[], attributes := #[] }
def k3m0 : Method := { name := "<init>", desc := "(JI)V", sig := { parameters := [.long, .int], returnType := none }, accessFlags := 0, code := some k3c0 }
def k3c1 : Code := { maxStack := 6, maxLocals := 11, code := prog_220_method_9_code, exceptionTable := #[], attributes := #[] }
def k3m1 : Method := { name := "spansNoMoreUnitsThan", desc := "(IIJ)Z", sig := { parameters := [.int, .int, .long], returnType := some .boolean }, accessFlags := 0, code := some k3c1 }
/-- com/example/structlane/structlane/model/RecordLayout$Position -/
def k3 : Class := { plain "com/example/structlane/structlane/model/RecordLayout$Position" (some 2) with
  accessFlags := 48
  interfaces := #[]
  cf := some (fileOf pool3 8 #[.nestHost 72] #[{ accessFlags := 0, nameIndex := 5, descriptorIndex := 25, attributes := #[] }, { accessFlags := 0, nameIndex := 62, descriptorIndex := 63, attributes := #[] }] 48 2 #[] #[{ accessFlags := 18, nameIndex := 11, descriptorIndex := 12, attributes := #[] }, { accessFlags := 18, nameIndex := 15, descriptorIndex := 16, attributes := #[] }, { accessFlags := 24, nameIndex := 44, descriptorIndex := 45, attributes := #[] }])
  fields := #[{ name := "byteIndex", type := .long, accessFlags := 18, slot := 0, constantValue := 0 }, { name := "bit", type := .int, accessFlags := 18, slot := 1, constantValue := 0 }, { name := "START", type := (.object "com/example/structlane/structlane/model/RecordLayout$Position"), accessFlags := 24, slot := 0, constantValue := 0 }]
  methods := #[k3m0, k3m1]
  instanceTypes := #[.long, .int]
  staticTypes := #[(.object "com/example/structlane/structlane/model/RecordLayout$Position")]
  resolved := Array.replicate 94 none
  statics := none }

def pool4 : Array CpInfo := pool [(1, u "java/lang/Cloneable"), (0, .class_ 1), (0, u "java/lang/Object"), (0, .class_ 3)] 3

/-- java/lang/Cloneable -/
def k4 : Class := { plain "java/lang/Cloneable" (some 0) with
  accessFlags := 1537
  interfaces := #[]
  cf := some (fileOf pool4 2 #[] #[] 1537 4 #[] #[])
  fields := #[]
  methods := #[]
  instanceTypes := #[]
  staticTypes := #[]
  resolved := Array.replicate 8 none
  statics := none }

def pool5 : Array CpInfo := pool [(1, u "java/io/Serializable"), (0, .class_ 1), (0, u "java/lang/Object"), (0, .class_ 3)] 3

/-- java/io/Serializable -/
def k5 : Class := { plain "java/io/Serializable" (some 0) with
  accessFlags := 1537
  interfaces := #[]
  cf := some (fileOf pool5 2 #[] #[] 1537 4 #[] #[])
  fields := #[]
  methods := #[]
  instanceTypes := #[]
  staticTypes := #[]
  resolved := Array.replicate 8 none
  statics := none }

/-- the primitive byte -/
def k6 : Class := { plain "byte" none with kind := .primitive 'B', accessFlags := 0x411 }
/-- [B -/
def k7 : Class := { plain "[B" (some 0) with kind := .array 6 .byte, interfaces := #[4, 5], accessFlags := 1041 }

/-- the primitive int -/
def k8 : Class := { plain "int" none with kind := .primitive 'I', accessFlags := 0x411 }
/-- [I -/
def k9 : Class := { plain "[I" (some 0) with kind := .array 8 .int, interfaces := #[4, 5], accessFlags := 1041 }

def heap : Heap := #[]
def classes : Array Class := #[k0, k1, k2, k3, k4, k5, k6, k7, k8, k9]
def interned : List (Array UInt16 × Addr) := []
def slotsUsed : Nat := 0
def theMethod : MethodId := ⟨1, 1⟩
def args0 : Array Value := #[.long 5, .int 3, .int 4, .int 5, .long 6, .int 7]
def aboutOver (below : List Frame) : State where
  vm := { classes := classes, interned := interned.toArray }
  heap := heap
  slotsUsed := slotsUsed
  threads := #[{ frames := .invoking theMethod args0 :: below }]
def below0 : List Frame := [.native { method := ⟨0, 0⟩, args := #[] }]
def about1 : State := aboutOver below0
def p0 : Program := .bare "" "" ""
def e0 : Env := launch0.env 0 0 0
theorem w_frames : about1.frames = Frame.invoking theMethod args0 :: below0 := rfl
set_option maxRecDepth 65536 in
theorem w_args : argsFit about1.vm theMethod args0 = true := by decide +kernel
set_option maxRecDepth 65536 in
theorem w_heap : heapFits about1 = true := by decide +kernel
set_option maxRecDepth 65536 in
theorem w_runnable : about1.curStatus? = some .runnable := by decide +kernel
set_option maxRecDepth 65536 in
theorem w_alone : about1.alone = true := by decide +kernel
set_option maxRecDepth 65536 in
theorem w_named : about1.methodNamed? x = some theMethod := by decide +kernel
set_option maxRecDepth 65536 in
theorem w_hears : about1.hears theMethod below0 = true := by decide +kernel
set_option maxRecDepth 65536 in
theorem w_ripe : about1.ripe theMethod args0 below0 = true := by decide +kernel
theorem w_running : about1.status = .running := rfl
set_option maxRecDepth 65536 in
theorem w_room : about1.hasRoom e0.platform room_1 = true :=
  launch0.hasRoom_least _ room_1 (by decide +kernel) (by decide +kernel) (by decide +kernel) (by decide +kernel) (by decide +kernel) (by decide +kernel)
theorem allAtoms_all (ts : List Jvm.Cond) (a : Array Jvm.Value) (st : Jvm.State) : (allAtoms ts).before a st = ts.all (fun c => c.before a st) := by
  induction ts with
  | nil => rfl
  | cons c t ih =>
    show (Jvm.Cond.and c (allAtoms t)).before a st = _
    rw [Jvm.Cond.before_and, ih, List.all_cons]
def words1 : List Jvm.Cond := Jvm.Cond.code x code maxLocals ret :: tables_1
/-- a 'code' word, met by the world's own term for the bytes: nothing is compared byte by byte -/
theorem code_word {y : MethodName} {bytes : ByteArray} {mx : Nat} {rt : Option FieldType} {a : Array Value} {s : State} {m : MethodId} {meth : Method} {c : Code} (h1 : s.methodNamed? y = some m) (h2 : s.vm.method? m = some meth) (h3 : meth.code = some c) (h4 : c.code = bytes)
    (h5 : (c.maxLocals == mx && c.exceptionTable.isEmpty && decide (c.maxStack ≤ mostOperands) && decide (meth.sig.returnType = rt) && !meth.locks && decide (parseMethodDescriptor y.desc = some meth.sig)) = true) : (Jvm.Cond.code y bytes mx rt).before a s = true := by
  simp only [Bool.and_eq_true, beq_iff_eq, Bool.not_eq_true', decide_eq_true_eq] at h5
  obtain ⟨⟨⟨⟨⟨g1, g2⟩, g3⟩, g4⟩, g5⟩, g6⟩ := h5
  simp [Cond.before, Cond.holds, Cond.value, h1, h2, h3, h4, g1, g2, g3, g4, g5, g6]
def isCode : Jvm.Cond → Bool
  | .code _ _ _ _ => true
  | _ => false
theorem all_split {L : List Jvm.Cond} {P : Jvm.Cond → Bool} (h1 : L.all (fun c => isCode c || P c) = true) (h2 : ∀ c ∈ L.filter isCode, P c = true) : L.all P = true := by
  refine List.all_eq_true.mpr fun c hc => ?_
  have h := List.all_eq_true.mp h1 c hc
  rcases Bool.eq_false_or_eq_true (isCode c) with hi | hi
  · exact h2 c (List.mem_filter.mpr ⟨hc, hi⟩)
  · simpa [hi] using h
set_option maxRecDepth 65536 in
theorem w_c0 : (Jvm.Cond.code x code maxLocals ret).before args0 about1 = true := code_word (m := ⟨1, 1⟩) (meth := k1m1) (c := k1c1) (by decide +kernel) rfl rfl rfl (by decide +kernel)
set_option maxRecDepth 65536 in
theorem w_c1 : (Jvm.Cond.code ({ cls := "com/example/structlane/structlane/model/RecordLayout$Position", name := "<init>", desc := "(JI)V" } : Jvm.MethodName) prog_220_method_1_code (4 : Nat) (Option.none : Option Jvm.ClassFile.FieldType)).before args0 about1 = true := code_word (m := ⟨3, 0⟩) (meth := k3m0) (c := k3c0) (by decide +kernel) rfl rfl rfl (by decide +kernel)
set_option maxRecDepth 65536 in
theorem w_c2 : (Jvm.Cond.code ({ cls := "java/lang/Record", name := "<init>", desc := "()V" } : Jvm.MethodName) jdk_30_method_1_code (1 : Nat) (Option.none : Option Jvm.ClassFile.FieldType)).before args0 about1 = true := code_word (m := ⟨2, 0⟩) (meth := k2m0) (c := k2c0) (by decide +kernel) rfl rfl rfl (by decide +kernel)
set_option maxRecDepth 65536 in
theorem w_c3 : (Jvm.Cond.code ({ cls := "java/lang/Object", name := "<init>", desc := "()V" } : Jvm.MethodName) object_method_1_code (1 : Nat) (Option.none : Option Jvm.ClassFile.FieldType)).before args0 about1 = true := code_word (m := ⟨0, 0⟩) (meth := k0m0) (c := k0c0) (by decide +kernel) rfl rfl rfl (by decide +kernel)
set_option maxRecDepth 65536 in
theorem w_c4 : (Jvm.Cond.code ({ cls := "com/example/structlane/structlane/model/RecordLayout$Position", name := "spansNoMoreUnitsThan", desc := "(IIJ)Z" } : Jvm.MethodName) prog_220_method_9_code (11 : Nat) (Option.some Jvm.ClassFile.FieldType.boolean)).before args0 about1 = true := code_word (m := ⟨3, 1⟩) (meth := k3m1) (c := k3c1) (by decide +kernel) rfl rfl rfl (by decide +kernel)
def codes1 : List Jvm.Cond := [Jvm.Cond.code x code maxLocals ret, Jvm.Cond.code ({ cls := "com/example/structlane/structlane/model/RecordLayout$Position", name := "<init>", desc := "(JI)V" } : Jvm.MethodName) prog_220_method_1_code (4 : Nat) (Option.none : Option Jvm.ClassFile.FieldType), Jvm.Cond.code ({ cls := "java/lang/Record", name := "<init>", desc := "()V" } : Jvm.MethodName) jdk_30_method_1_code (1 : Nat) (Option.none : Option Jvm.ClassFile.FieldType), Jvm.Cond.code ({ cls := "java/lang/Object", name := "<init>", desc := "()V" } : Jvm.MethodName) object_method_1_code (1 : Nat) (Option.none : Option Jvm.ClassFile.FieldType), Jvm.Cond.code ({ cls := "com/example/structlane/structlane/model/RecordLayout$Position", name := "spansNoMoreUnitsThan", desc := "(IIJ)Z" } : Jvm.MethodName) prog_220_method_9_code (11 : Nat) (Option.some Jvm.ClassFile.FieldType.boolean)]
set_option maxRecDepth 65536 in
theorem codes_eq : words1.filter isCode = codes1 := rfl
theorem w_codes : ∀ c ∈ words1.filter isCode, c.before args0 about1 = true := by
  rw [codes_eq]
  intro c hc
  simp only [codes1, List.mem_cons, List.not_mem_nil, or_false] at hc
  rcases hc with rfl | rfl | rfl | rfl | rfl
  · exact w_c0
  · exact w_c1
  · exact w_c2
  · exact w_c3
  · exact w_c4
set_option maxRecDepth 65536 in
theorem w_t1 : (words1.take 24).all (fun c => isCode c || c.before args0 about1) = true := by decide +kernel
set_option maxRecDepth 65536 in
theorem w_t2 : (words1.drop 24).all (fun c => isCode c || c.before args0 about1) = true := by decide +kernel
theorem w_tables : (allAtoms (Jvm.Cond.code x code maxLocals ret :: tables_1)).before args0 about1 = true := by
  rw [allAtoms_all]
  show words1.all (fun c => c.before args0 about1) = true
  refine all_split ?_ w_codes
  rw [← List.take_append_drop 24 words1, List.all_append, w_t1, w_t2]
  rfl
set_option maxRecDepth 65536 in
theorem w_case : (Jvm.Cond.and given_1 narrow_1).before args0 about1 = true := by decide +kernel
theorem w_applies : (headSpec (Jvm.Cond.code x code maxLocals ret :: tables_1) room_1).applies x e0.platform about1 = true :=
  (Spec.applies_iff w_frames).mpr ⟨w_running, w_runnable, w_alone, w_named, w_hears, w_ripe, w_room, w_tables⟩
theorem atStart : AtStart classFile x code maxLocals ret World_1 tables_1 room_1 Calls_1 rest_1 Pre_1 launch0 p0 e0 about1 theMethod args0 below0 :=
  ⟨lists_1, trivial, launch0.admits_env _ _ _, launch0.least_env, fairChoices_fair.cas, fairChoices_fair.clock, w_frames, w_args, w_heap, w_applies, trivial, trivial, w_case⟩
end start1
theorem witness_1 : WitnessClaimed_1 := ⟨start1.p0, start1.e0, start1.about1, start1.theMethod, start1.args0, start1.below0, start1.atStart⟩
end Jvm.Pilot.@@N@@
