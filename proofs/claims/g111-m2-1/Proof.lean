import JvmDerived
import JvmDerived.Pilot.@@N@@Statement
import JvmDerived.Pilot.@@N@@Code
set_option linter.unusedVariables false
set_option linter.unusedSimpArgs false
namespace Jvm.Pilot.@@N@@
open Jvm Jvm.ClassFile Sem Op Lib Jvm.Free Jvm.Stand Jvm.LawKit Jvm.RoadKit Bundle Jvm.Pilot.@@N@@.Jvm.D
section OwnHead
variable {p : Program} {l : Launch} {e : Env} {R : Room} {s : State} {m : MethodId} {args : Array Value} {below : List Frame} {meth : Method} {c : Code} {T : State} {locs : List Loc} {cells slots : Nat} {Z : State} {a0 : Array Value} {h : Heap} {Q : Option Value → Heap → List Loc → Prop} {ce sl : Nat} {pc pc' : Nat} {Ls : Array Slot} {st : List Value}
def own_G (p : Program) (e : Env) (below : List Frame) (s : State) (Q : Option Value → Heap → List Loc → Prop) (ce sl : Nat) (S : State) : Prop := ∃ s₂ o, Steps p.tables e below S s₂ ∧ s₂.status = .running ∧ Ended s₂ below o ∧ ∃ v L, o = .returned v ∧ Q v s₂.heap L ∧ FrameEnd s o s₂ L ce sl
theorem own_fw {S S' : State} (h : ∀ t, Steps p.tables e below S' t → Steps p.tables e below S t) (g : own_G p e below s Q ce sl S') : own_G p e below s Q ce sl S := by
  obtain ⟨s₂, o, h1, r⟩ := g; exact ⟨s₂, o, h _ h1, r⟩
theorem own_via {S S' : State} (h : own_G p e below s Q ce sl S' → own_G p e below s Q ce sl S) (g : own_G p e below s Q ce sl S') : own_G p e below s Q ce sl S := h g
theorem own_cast {S S' : State} (h : S = S') (g : own_G p e below s Q ce sl S') : own_G p e below s Q ce sl S := h ▸ g
abbrev own_M (l : Launch) (Z : State) (y : MethodName) (bytes : ByteArray) (maxL : Nat) (ret : Option FieldType) (ws : List Jvm.Cond) (rm : Room) (as' : Array Value) (h0 : Heap) (Q : Option Value → Heap → List Loc → Prop) (ce sl : Nat) : Prop := MetFree l y (head1 (Jvm.Cond.code y bytes maxL ret :: ws) rm) (fun a U => a = as' ∧ Z.Warmed39 U.vm ∧ U.heap = h0) (fun _ _ _ _ _ => True) (fun _ U o U' => ∃ v L, o = .returned v ∧ Q v U'.heap L ∧ FrameEnd U o U' L ce sl)
theorem own_body {y : MethodName} {bytes : ByteArray} {maxL : Nat} {ret : Option FieldType} {ws : List Jvm.Cond} {rm : Room} {as' : Array Value} {h0 : Heap} (hp : plainFor y = true)
    (body : ∀ (p : Program) (e : Env) (s : State) (m : MethodId) (below : List Frame) (meth : Method) (c : Code) (s₁ : State), p.tables.exec = Jvm.exec → c.code = bytes → c.maxLocals = maxL → s.vm.findClass y.cls = some m.cls → meth.name = y.name → meth.sig.returnType = ret → meth.locks = false → Z.Warmed39 s.vm → Stand p l e rm s m as' below meth c s₁ [] 0 0 → s₁.heap = h0 → own_G p e below s Q ce sl (s₁.setTop (entryFrame m as' maxL))) : own_M l Z y bytes maxL ret ws rm as' h0 Q ce sl := by
  refine MetFree.of_bodySF hp hisR ?_
  intro p e s m args below meth c s₁ Bd hml hP hK
  obtain ⟨rfl, hZ, hh⟩ := hP
  exact body p e s m below meth c s₁ Bd.exec Bd.bytes hml (findClass_of_methodNamed Bd.named) (name_of_methodNamed Bd.named Bd.method).1 Bd.returns Bd.notSynchronized hZ (Stand.of_body Bd) (by rw [← hh, Bd.state]; rfl)
theorem own_ret (X : Stand p l e R s m args below meth c T locs cells slots) (hx : p.tables.exec = Jvm.exec) {w : Value} {t : FieldType} {i : Instr} (hret : meth.sig.returnType = some t) (hlk : meth.locks = false) (hn : narrow t w = w)
    (hi : (i = .ireturn ∧ (t = .int ∨ t = .boolean ∨ t = .byte ∨ t = .char ∨ t = .short) ∧ ∃ z, w = .int z) ∨ (i = .lreturn ∧ t = .long ∧ ∃ z, w = .long z) ∨ (i = .dreturn ∧ t = .double ∧ ∃ z, w = .double z) ∨ (i = .freturn ∧ t = .float ∧ ∃ z, w = .float z) ∨ (i = .areturn ∧ t.isReference = true ∧ w.isRef = true))
    (hd : decode c.code pc = .ok (i, 1)) (hQ : Q (some w) T.heap locs) (hce : cells ≤ ce) (hsl : slots ≤ sl) : own_G p e below s Q ce sl (T.setTop (mkF m pc Ls (w :: st))) := by
  obtain ⟨fs, hr, hrun, hended, hW, hsame⟩ := X.leave (v := some w) (fun h => by rw [hret] at h; cases h) hlk
  exact ⟨_, _, retOut X hx hret hn hi hd hr, hrun, hended, _, _, rfl, hQ, ⟨_, rfl⟩, hW, hsame.mono hce hsl⟩
theorem own_retI (X : Stand p l e R s m args below meth c T locs cells slots) (hx : p.tables.exec = Jvm.exec) {z : Int32} (hret : meth.sig.returnType = some .int) (hlk : meth.locks = false) (hd : decode c.code pc = .ok (.ireturn, 1)) (hQ : Q (some (.int z)) T.heap locs) (hce : cells ≤ ce) (hsl : slots ≤ sl) : own_G p e below s Q ce sl (T.setTop (mkF m pc Ls (.int z :: st))) := own_ret X hx hret hlk rfl (Or.inl ⟨rfl, Or.inl rfl, z, rfl⟩) hd hQ hce hsl
theorem own_retZ (X : Stand p l e R s m args below meth c T locs cells slots) (hx : p.tables.exec = Jvm.exec) {z : Int32} (hret : meth.sig.returnType = some .boolean) (hlk : meth.locks = false) (hz : z = 0 ∨ z = 1) (hd : decode c.code pc = .ok (.ireturn, 1)) (hQ : Q (some (.int z)) T.heap locs) (hce : cells ≤ ce) (hsl : slots ≤ sl) : own_G p e below s Q ce sl (T.setTop (mkF m pc Ls (.int z :: st))) := own_ret X hx hret hlk (by rcases hz with rfl | rfl <;> rfl) (Or.inl ⟨rfl, Or.inr (Or.inl rfl), z, rfl⟩) hd hQ hce hsl
theorem own_retB (X : Stand p l e R s m args below meth c T locs cells slots) (hx : p.tables.exec = Jvm.exec) {z : Int32} (hret : meth.sig.returnType = some .byte) (hlk : meth.locks = false) (hz : narrow .byte (.int z) = .int z) (hd : decode c.code pc = .ok (.ireturn, 1)) (hQ : Q (some (.int z)) T.heap locs) (hce : cells ≤ ce) (hsl : slots ≤ sl) : own_G p e below s Q ce sl (T.setTop (mkF m pc Ls (.int z :: st))) := own_ret X hx hret hlk hz (Or.inl ⟨rfl, Or.inr (Or.inr (Or.inl rfl)), z, rfl⟩) hd hQ hce hsl
theorem own_retL (X : Stand p l e R s m args below meth c T locs cells slots) (hx : p.tables.exec = Jvm.exec) {z : Int64} (hret : meth.sig.returnType = some .long) (hlk : meth.locks = false) (hd : decode c.code pc = .ok (.lreturn, 1)) (hQ : Q (some (.long z)) T.heap locs) (hce : cells ≤ ce) (hsl : slots ≤ sl) : own_G p e below s Q ce sl (T.setTop (mkF m pc Ls (.long z :: st))) := own_ret X hx hret hlk rfl (Or.inr (Or.inl ⟨rfl, rfl, z, rfl⟩)) hd hQ hce hsl
theorem own_retA (X : Stand p l e R s m args below meth c T locs cells slots) (hx : p.tables.exec = Jvm.exec) {v : Value} {t : FieldType} (hret : meth.sig.returnType = some t) (hlk : meth.locks = false) (ht : t.isReference = true) (hn : narrow t v = v) (hv : v.isRef = true) (hd : decode c.code pc = .ok (.areturn, 1)) (hQ : Q (some v) T.heap locs) (hce : cells ≤ ce) (hsl : slots ≤ sl) : own_G p e below s Q ce sl (T.setTop (mkF m pc Ls (v :: st))) := own_ret X hx hret hlk hn (Or.inr (Or.inr (Or.inr (Or.inr ⟨rfl, ht, hv⟩)))) hd hQ hce hsl
theorem own_retV (X : Stand p l e R s m args below meth c T locs cells slots) (hx : p.tables.exec = Jvm.exec) (hret : meth.sig.returnType = none) (hlk : meth.locks = false) (hd : decode c.code pc = .ok (.return_, 1)) (hQ : Q none T.heap locs) (hce : cells ≤ ce) (hsl : slots ≤ sl) : own_G p e below s Q ce sl (T.setTop (mkF m pc Ls [])) := by
  obtain ⟨fs, hr, hrun, hended, hW, hsame⟩ := X.leave (v := none) (fun _ => rfl) hlk
  exact ⟨_, _, X.returnOut hx hret hd hr, hrun, hended, _, _, rfl, hQ, ⟨_, rfl⟩, hW, hsame.mono hce hsl⟩
theorem own_iloadN {i : Fin 4} {v : Int32} (X : Stand p l e R s m args below meth c T locs cells slots) (hx : p.tables.exec = Jvm.exec) (hd : decode c.code pc = .ok (.iload_n i, 1)) (hl : Ls[i.val]? = some (.val (.int v))) (hp : pc + 1 = pc') (k : own_G p e below s Q ce sl (T.setTop (mkF m pc' Ls (.int v :: st)))) : own_G p e below s Q ce sl (T.setTop (mkF m pc Ls st)) := by
  subst hp; exact own_fw (fun t q => XS.iloadN X.here hx rfl hd hl q) k
theorem own_iload {i : Nat} {v : Int32} (X : Stand p l e R s m args below meth c T locs cells slots) (hx : p.tables.exec = Jvm.exec) (hd : decode c.code pc = .ok (.iload i, 2)) (hl : Ls[i]? = some (.val (.int v))) (hp : pc + 2 = pc') (k : own_G p e below s Q ce sl (T.setTop (mkF m pc' Ls (.int v :: st)))) : own_G p e below s Q ce sl (T.setTop (mkF m pc Ls st)) := by
  subst hp; exact own_fw (fun t q => XS.iload X.here hx rfl hd hl q) k
theorem own_lloadN {i : Fin 4} {v : Int64} (X : Stand p l e R s m args below meth c T locs cells slots) (hx : p.tables.exec = Jvm.exec) (hd : decode c.code pc = .ok (.lload_n i, 1)) (hl : Ls[i.val]? = some (.val (.long v))) (hp : pc + 1 = pc') (k : own_G p e below s Q ce sl (T.setTop (mkF m pc' Ls (.long v :: st)))) : own_G p e below s Q ce sl (T.setTop (mkF m pc Ls st)) := by
  subst hp; exact own_fw (fun t q => XS.lloadN X.here hx rfl hd hl q) k
theorem own_lload {i : Nat} {v : Int64} (X : Stand p l e R s m args below meth c T locs cells slots) (hx : p.tables.exec = Jvm.exec) (hd : decode c.code pc = .ok (.lload i, 2)) (hl : Ls[i]? = some (.val (.long v))) (hp : pc + 2 = pc') (k : own_G p e below s Q ce sl (T.setTop (mkF m pc' Ls (.long v :: st)))) : own_G p e below s Q ce sl (T.setTop (mkF m pc Ls st)) := by
  subst hp; exact own_fw (fun t q => XS.lload X.here hx rfl hd hl q) k
theorem own_aloadN {i : Fin 4} {v : Value} (X : Stand p l e R s m args below meth c T locs cells slots) (hx : p.tables.exec = Jvm.exec) (hd : decode c.code pc = .ok (.aload_n i, 1)) (hl : Ls[i.val]? = some (.val v)) (hv : v.isRef = true) (hp : pc + 1 = pc') (k : own_G p e below s Q ce sl (T.setTop (mkF m pc' Ls (v :: st)))) : own_G p e below s Q ce sl (T.setTop (mkF m pc Ls st)) := by
  subst hp; exact own_fw (fun t q => XS.aloadN X.here hx rfl hd hl hv q) k
theorem own_aload {i : Nat} {v : Value} (X : Stand p l e R s m args below meth c T locs cells slots) (hx : p.tables.exec = Jvm.exec) (hd : decode c.code pc = .ok (.aload i, 2)) (hl : Ls[i]? = some (.val v)) (hv : v.isRef = true) (hp : pc + 2 = pc') (k : own_G p e below s Q ce sl (T.setTop (mkF m pc' Ls (v :: st)))) : own_G p e below s Q ce sl (T.setTop (mkF m pc Ls st)) := by
  subst hp; exact own_fw (fun t q => XS.aload X.here hx rfl hd hl hv q) k
theorem own_istoreN {i : Fin 4} {v : Int32} (X : Stand p l e R s m args below meth c T locs cells slots) (hx : p.tables.exec = Jvm.exec) (hd : decode c.code pc = .ok (.istore_n i, 1)) {l' : Array Slot} (hl : storeLocals Ls i.val (.int v) = some l') (hp : pc + 1 = pc') (k : own_G p e below s Q ce sl (T.setTop (mkF m pc' l' st))) : own_G p e below s Q ce sl (T.setTop (mkF m pc Ls (.int v :: st))) := by
  subst hp; exact own_fw (fun t q => XS.istoreN X.here hx rfl hd rfl hl q) k
theorem own_istore {i : Nat} {v : Int32} (X : Stand p l e R s m args below meth c T locs cells slots) (hx : p.tables.exec = Jvm.exec) (hd : decode c.code pc = .ok (.istore i, 2)) {l' : Array Slot} (hl : storeLocals Ls i (.int v) = some l') (hp : pc + 2 = pc') (k : own_G p e below s Q ce sl (T.setTop (mkF m pc' l' st))) : own_G p e below s Q ce sl (T.setTop (mkF m pc Ls (.int v :: st))) := by
  subst hp; exact own_fw (fun t q => XS.istore X.here hx rfl hd rfl hl q) k
theorem own_lstoreN {i : Fin 4} {v : Int64} (X : Stand p l e R s m args below meth c T locs cells slots) (hx : p.tables.exec = Jvm.exec) (hd : decode c.code pc = .ok (.lstore_n i, 1)) {l' : Array Slot} (hl : storeLocals Ls i.val (.long v) = some l') (hp : pc + 1 = pc') (k : own_G p e below s Q ce sl (T.setTop (mkF m pc' l' st))) : own_G p e below s Q ce sl (T.setTop (mkF m pc Ls (.long v :: st))) := by
  subst hp; exact own_fw (fun t q => XS.lstoreN X.here hx rfl hd rfl hl q) k
theorem own_lstore {i : Nat} {v : Int64} (X : Stand p l e R s m args below meth c T locs cells slots) (hx : p.tables.exec = Jvm.exec) (hd : decode c.code pc = .ok (.lstore i, 2)) {l' : Array Slot} (hl : storeLocals Ls i (.long v) = some l') (hp : pc + 2 = pc') (k : own_G p e below s Q ce sl (T.setTop (mkF m pc' l' st))) : own_G p e below s Q ce sl (T.setTop (mkF m pc Ls (.long v :: st))) := by
  subst hp; exact own_fw (fun t q => XS.lstore X.here hx rfl hd rfl hl q) k
theorem own_astoreN {i : Fin 4} {v : Value} (X : Stand p l e R s m args below meth c T locs cells slots) (hx : p.tables.exec = Jvm.exec) (hd : decode c.code pc = .ok (.astore_n i, 1)) (hv : v.isRef = true) {l' : Array Slot} (hl : storeLocals Ls i.val v = some l') (hp : pc + 1 = pc') (k : own_G p e below s Q ce sl (T.setTop (mkF m pc' l' st))) : own_G p e below s Q ce sl (T.setTop (mkF m pc Ls (v :: st))) := by
  subst hp; exact own_fw (fun t q => XS.astoreN X.here hx rfl hd rfl hv hl q) k
theorem own_astore {i : Nat} {v : Value} (X : Stand p l e R s m args below meth c T locs cells slots) (hx : p.tables.exec = Jvm.exec) (hd : decode c.code pc = .ok (.astore i, 2)) (hv : v.isRef = true) {l' : Array Slot} (hl : storeLocals Ls i v = some l') (hp : pc + 2 = pc') (k : own_G p e below s Q ce sl (T.setTop (mkF m pc' l' st))) : own_G p e below s Q ce sl (T.setTop (mkF m pc Ls (v :: st))) := by
  subst hp; exact own_fw (fun t q => XS.astore X.here hx rfl hd rfl hv hl q) k
theorem own_iconst {i : Int} {z : Int32} (X : Stand p l e R s m args below meth c T locs cells slots) (hx : p.tables.exec = Jvm.exec) (hd : decode c.code pc = .ok (.iconst i, 1)) (hz : Int32.ofInt i = z) (hp : pc + 1 = pc') (k : own_G p e below s Q ce sl (T.setTop (mkF m pc' Ls (.int z :: st)))) : own_G p e below s Q ce sl (T.setTop (mkF m pc Ls st)) := by
  subst hp hz; exact own_fw (fun t q => XS.iconst X.here hx rfl hd q) k
theorem own_bipush {i : Int} {z : Int32} (X : Stand p l e R s m args below meth c T locs cells slots) (hx : p.tables.exec = Jvm.exec) (hd : decode c.code pc = .ok (.bipush i, 2)) (hz : (Int8.ofInt i).toInt32 = z) (hp : pc + 2 = pc') (k : own_G p e below s Q ce sl (T.setTop (mkF m pc' Ls (.int z :: st)))) : own_G p e below s Q ce sl (T.setTop (mkF m pc Ls st)) := by
  subst hp hz; exact own_fw (fun t q => XS.bipush X.here hx rfl hd q) k
theorem own_sipush {i : Int} {z : Int32} (X : Stand p l e R s m args below meth c T locs cells slots) (hx : p.tables.exec = Jvm.exec) (hd : decode c.code pc = .ok (.sipush i, 3)) (hz : (Int16.ofInt i).toInt32 = z) (hp : pc + 3 = pc') (k : own_G p e below s Q ce sl (T.setTop (mkF m pc' Ls (.int z :: st)))) : own_G p e below s Q ce sl (T.setTop (mkF m pc Ls st)) := by
  subst hp hz; exact own_fw (fun t q => XS.sipush X.here hx rfl hd q) k
theorem own_lconst {i : Fin 2} {z : Int64} (X : Stand p l e R s m args below meth c T locs cells slots) (hx : p.tables.exec = Jvm.exec) (hd : decode c.code pc = .ok (.lconst i, 1)) (hz : Int64.ofNat i = z) (hp : pc + 1 = pc') (k : own_G p e below s Q ce sl (T.setTop (mkF m pc' Ls (.long z :: st)))) : own_G p e below s Q ce sl (T.setTop (mkF m pc Ls st)) := by
  subst hp hz; exact own_fw (fun t q => XS.lconst X.here hx rfl hd q) k
theorem own_aconstNull (X : Stand p l e R s m args below meth c T locs cells slots) (hx : p.tables.exec = Jvm.exec) (hd : decode c.code pc = .ok (.aconst_null, 1)) (hp : pc + 1 = pc') (k : own_G p e below s Q ce sl (T.setTop (mkF m pc' Ls (.null :: st)))) : own_G p e below s Q ce sl (T.setTop (mkF m pc Ls st)) := by
  subst hp; exact own_fw (fun t q => XS.aconstNull X.here hx rfl hd q) k
theorem own_ldc (X : Stand p l e R s m args below meth c T locs cells slots) (hx : p.tables.exec = Jvm.exec) (hZ : Z.Warmed39 s.vm) {own : String} {index : Nat} {v : Int32} (hown : s.vm.findClass own = some m.cls) (w1 : (Jvm.Cond.constant own index v).before a0 Z = true) (hd : decode c.code pc = .ok (.ldc index, 2)) (hp : pc + 2 = pc') (k : own_G p e below s Q ce sl (T.setTop (mkF m pc' Ls (.int v :: st)))) : own_G p e below s Q ce sl (T.setTop (mkF m pc Ls st)) := by
  subst hp; exact own_fw (X.ldcInt hx hown (mvT hZ w1) (g := mkF m pc Ls st) rfl hd) k
theorem own_ldc2 (X : Stand p l e R s m args below meth c T locs cells slots) (hx : p.tables.exec = Jvm.exec) (hZ : Z.Warmed39 s.vm) {own : String} {index : Nat} {v : Int64} (hown : s.vm.findClass own = some m.cls) (w1 : (Jvm.Cond.constantLong own index v).before a0 Z = true) (hd : decode c.code pc = .ok (.ldc2_w index, 3)) (hp : pc + 3 = pc') (k : own_G p e below s Q ce sl (T.setTop (mkF m pc' Ls (.long v :: st)))) : own_G p e below s Q ce sl (T.setTop (mkF m pc Ls st)) := by
  subst hp; exact own_fw (X.ldc2Long hx hown (mvT hZ w1) (g := mkF m pc Ls st) rfl hd) k
theorem own_iadd {x y : Int32} (X : Stand p l e R s m args below meth c T locs cells slots) (hx : p.tables.exec = Jvm.exec) (hd : decode c.code pc = .ok (.iadd, 1)) (hp : pc + 1 = pc') (k : own_G p e below s Q ce sl (T.setTop (mkF m pc' Ls (.int (x + y) :: st)))) : own_G p e below s Q ce sl (T.setTop (mkF m pc Ls (.int y :: .int x :: st))) := by
  subst hp; exact own_fw (fun t q => XS.iadd X.here hx rfl hd rfl q) k
theorem own_isub {x y : Int32} (X : Stand p l e R s m args below meth c T locs cells slots) (hx : p.tables.exec = Jvm.exec) (hd : decode c.code pc = .ok (.isub, 1)) (hp : pc + 1 = pc') (k : own_G p e below s Q ce sl (T.setTop (mkF m pc' Ls (.int (x - y) :: st)))) : own_G p e below s Q ce sl (T.setTop (mkF m pc Ls (.int y :: .int x :: st))) := by
  subst hp; exact own_fw (fun t q => XS.isub X.here hx rfl hd rfl q) k
theorem own_imul {x y : Int32} (X : Stand p l e R s m args below meth c T locs cells slots) (hx : p.tables.exec = Jvm.exec) (hd : decode c.code pc = .ok (.imul, 1)) (hp : pc + 1 = pc') (k : own_G p e below s Q ce sl (T.setTop (mkF m pc' Ls (.int (x * y) :: st)))) : own_G p e below s Q ce sl (T.setTop (mkF m pc Ls (.int y :: .int x :: st))) := by
  subst hp; exact own_fw (fun t q => XS.imul X.here hx rfl hd rfl q) k
theorem own_iand {x y : Int32} (X : Stand p l e R s m args below meth c T locs cells slots) (hx : p.tables.exec = Jvm.exec) (hd : decode c.code pc = .ok (.iand, 1)) (hp : pc + 1 = pc') (k : own_G p e below s Q ce sl (T.setTop (mkF m pc' Ls (.int (x &&& y) :: st)))) : own_G p e below s Q ce sl (T.setTop (mkF m pc Ls (.int y :: .int x :: st))) := by
  subst hp; exact own_fw (fun t q => XS.iand X.here hx rfl hd rfl q) k
theorem own_ior {x y : Int32} (X : Stand p l e R s m args below meth c T locs cells slots) (hx : p.tables.exec = Jvm.exec) (hd : decode c.code pc = .ok (.ior, 1)) (hp : pc + 1 = pc') (k : own_G p e below s Q ce sl (T.setTop (mkF m pc' Ls (.int (x ||| y) :: st)))) : own_G p e below s Q ce sl (T.setTop (mkF m pc Ls (.int y :: .int x :: st))) := by
  subst hp; exact own_fw (fun t q => XS.ior X.here hx rfl hd rfl q) k
theorem own_ixor {x y : Int32} (X : Stand p l e R s m args below meth c T locs cells slots) (hx : p.tables.exec = Jvm.exec) (hd : decode c.code pc = .ok (.ixor, 1)) (hp : pc + 1 = pc') (k : own_G p e below s Q ce sl (T.setTop (mkF m pc' Ls (.int (x ^^^ y) :: st)))) : own_G p e below s Q ce sl (T.setTop (mkF m pc Ls (.int y :: .int x :: st))) := by
  subst hp; exact own_fw (fun t q => XS.ixor X.here hx rfl hd rfl q) k
theorem own_ishl {x y : Int32} (X : Stand p l e R s m args below meth c T locs cells slots) (hx : p.tables.exec = Jvm.exec) (hd : decode c.code pc = .ok (.ishl, 1)) (hp : pc + 1 = pc') (k : own_G p e below s Q ce sl (T.setTop (mkF m pc' Ls (.int (x <<< (y &&& 31)) :: st)))) : own_G p e below s Q ce sl (T.setTop (mkF m pc Ls (.int y :: .int x :: st))) := by
  subst hp; exact own_fw (fun t q => XS.ishl X.here hx rfl hd rfl q) k
theorem own_ishr {x y : Int32} (X : Stand p l e R s m args below meth c T locs cells slots) (hx : p.tables.exec = Jvm.exec) (hd : decode c.code pc = .ok (.ishr, 1)) (hp : pc + 1 = pc') (k : own_G p e below s Q ce sl (T.setTop (mkF m pc' Ls (.int (x >>> (y &&& 31)) :: st)))) : own_G p e below s Q ce sl (T.setTop (mkF m pc Ls (.int y :: .int x :: st))) := by
  subst hp; exact own_fw (fun t q => XS.ishr X.here hx rfl hd rfl q) k
theorem own_iushr {x y : Int32} (X : Stand p l e R s m args below meth c T locs cells slots) (hx : p.tables.exec = Jvm.exec) (hd : decode c.code pc = .ok (.iushr, 1)) (hp : pc + 1 = pc') (k : own_G p e below s Q ce sl (T.setTop (mkF m pc' Ls (.int ((x.toUInt32 >>> (y &&& 31).toUInt32).toInt32) :: st)))) : own_G p e below s Q ce sl (T.setTop (mkF m pc Ls (.int y :: .int x :: st))) := by
  subst hp; exact own_fw (fun t q => XS.iushr X.here hx rfl hd rfl q) k
theorem own_ladd {x y : Int64} (X : Stand p l e R s m args below meth c T locs cells slots) (hx : p.tables.exec = Jvm.exec) (hd : decode c.code pc = .ok (.ladd, 1)) (hp : pc + 1 = pc') (k : own_G p e below s Q ce sl (T.setTop (mkF m pc' Ls (.long (x + y) :: st)))) : own_G p e below s Q ce sl (T.setTop (mkF m pc Ls (.long y :: .long x :: st))) := by
  subst hp; exact own_fw (fun t q => XS.ladd X.here hx rfl hd rfl q) k
theorem own_lsub {x y : Int64} (X : Stand p l e R s m args below meth c T locs cells slots) (hx : p.tables.exec = Jvm.exec) (hd : decode c.code pc = .ok (.lsub, 1)) (hp : pc + 1 = pc') (k : own_G p e below s Q ce sl (T.setTop (mkF m pc' Ls (.long (x - y) :: st)))) : own_G p e below s Q ce sl (T.setTop (mkF m pc Ls (.long y :: .long x :: st))) := by
  subst hp; exact own_fw (fun t q => XS.lsub X.here hx rfl hd rfl q) k
theorem own_lmul {x y : Int64} (X : Stand p l e R s m args below meth c T locs cells slots) (hx : p.tables.exec = Jvm.exec) (hd : decode c.code pc = .ok (.lmul, 1)) (hp : pc + 1 = pc') (k : own_G p e below s Q ce sl (T.setTop (mkF m pc' Ls (.long (x * y) :: st)))) : own_G p e below s Q ce sl (T.setTop (mkF m pc Ls (.long y :: .long x :: st))) := by
  subst hp; exact own_fw (fun t q => XS.lmul X.here hx rfl hd rfl q) k
theorem own_land {x y : Int64} (X : Stand p l e R s m args below meth c T locs cells slots) (hx : p.tables.exec = Jvm.exec) (hd : decode c.code pc = .ok (.land, 1)) (hp : pc + 1 = pc') (k : own_G p e below s Q ce sl (T.setTop (mkF m pc' Ls (.long (x &&& y) :: st)))) : own_G p e below s Q ce sl (T.setTop (mkF m pc Ls (.long y :: .long x :: st))) := by
  subst hp; exact own_fw (fun t q => XS.land X.here hx rfl hd rfl q) k
theorem own_lor {x y : Int64} (X : Stand p l e R s m args below meth c T locs cells slots) (hx : p.tables.exec = Jvm.exec) (hd : decode c.code pc = .ok (.lor, 1)) (hp : pc + 1 = pc') (k : own_G p e below s Q ce sl (T.setTop (mkF m pc' Ls (.long (x ||| y) :: st)))) : own_G p e below s Q ce sl (T.setTop (mkF m pc Ls (.long y :: .long x :: st))) := by
  subst hp; exact own_fw (fun t q => XS.lor X.here hx rfl hd rfl q) k
theorem own_lxor {x y : Int64} (X : Stand p l e R s m args below meth c T locs cells slots) (hx : p.tables.exec = Jvm.exec) (hd : decode c.code pc = .ok (.lxor, 1)) (hp : pc + 1 = pc') (k : own_G p e below s Q ce sl (T.setTop (mkF m pc' Ls (.long (x ^^^ y) :: st)))) : own_G p e below s Q ce sl (T.setTop (mkF m pc Ls (.long y :: .long x :: st))) := by
  subst hp; exact own_fw (fun t q => XS.lxor X.here hx rfl hd rfl q) k
theorem own_lshl {x : Int64} {y : Int32} (X : Stand p l e R s m args below meth c T locs cells slots) (hx : p.tables.exec = Jvm.exec) (hd : decode c.code pc = .ok (.lshl, 1)) (hp : pc + 1 = pc') (k : own_G p e below s Q ce sl (T.setTop (mkF m pc' Ls (.long (x <<< (y &&& 0x3f).toInt64) :: st)))) : own_G p e below s Q ce sl (T.setTop (mkF m pc Ls (.int y :: .long x :: st))) := by
  subst hp; exact own_fw (fun t q => XS.lshl X.here hx rfl hd rfl q) k
theorem own_lshr {x : Int64} {y : Int32} (X : Stand p l e R s m args below meth c T locs cells slots) (hx : p.tables.exec = Jvm.exec) (hd : decode c.code pc = .ok (.lshr, 1)) (hp : pc + 1 = pc') (k : own_G p e below s Q ce sl (T.setTop (mkF m pc' Ls (.long (x >>> (y &&& 0x3f).toInt64) :: st)))) : own_G p e below s Q ce sl (T.setTop (mkF m pc Ls (.int y :: .long x :: st))) := by
  subst hp; exact own_fw (fun t q => XS.lshr X.here hx rfl hd rfl q) k
theorem own_lushr {x : Int64} {y : Int32} (X : Stand p l e R s m args below meth c T locs cells slots) (hx : p.tables.exec = Jvm.exec) (hd : decode c.code pc = .ok (.lushr, 1)) (hp : pc + 1 = pc') (k : own_G p e below s Q ce sl (T.setTop (mkF m pc' Ls (.long ((x.toUInt64 >>> (y &&& 0x3f).toInt64.toUInt64).toInt64) :: st)))) : own_G p e below s Q ce sl (T.setTop (mkF m pc Ls (.int y :: .long x :: st))) := by
  subst hp; exact own_fw (fun t q => XS.lushr X.here hx rfl hd rfl q) k
theorem own_idiv {x y : Int32} (X : Stand p l e R s m args below meth c T locs cells slots) (hx : p.tables.exec = Jvm.exec) (hd : decode c.code pc = .ok (.idiv, 1)) (hy : y ≠ 0) (hp : pc + 1 = pc') (k : own_G p e below s Q ce sl (T.setTop (mkF m pc' Ls (.int (x / y) :: st)))) : own_G p e below s Q ce sl (T.setTop (mkF m pc Ls (.int y :: .int x :: st))) := by
  subst hp; exact own_fw (fun t q => XS.idiv X.here hx rfl hd rfl hy q) k
theorem own_ldiv {x y : Int64} (X : Stand p l e R s m args below meth c T locs cells slots) (hx : p.tables.exec = Jvm.exec) (hd : decode c.code pc = .ok (.ldiv, 1)) (hy : y ≠ 0) (hp : pc + 1 = pc') (k : own_G p e below s Q ce sl (T.setTop (mkF m pc' Ls (.long (x / y) :: st)))) : own_G p e below s Q ce sl (T.setTop (mkF m pc Ls (.long y :: .long x :: st))) := by
  subst hp; exact own_fw (fun t q => XS.ldiv X.here hx rfl hd rfl hy q) k
theorem own_irem {x y : Int32} (X : Stand p l e R s m args below meth c T locs cells slots) (hx : p.tables.exec = Jvm.exec) (hd : decode c.code pc = .ok (.irem, 1)) (hy : y ≠ 0) (hp : pc + 1 = pc') (k : own_G p e below s Q ce sl (T.setTop (mkF m pc' Ls (.int (x % y) :: st)))) : own_G p e below s Q ce sl (T.setTop (mkF m pc Ls (.int y :: .int x :: st))) := by
  subst hp; exact own_fw (fun t q => iremM X hx rfl hd rfl hy q) k
theorem own_lrem {x y : Int64} (X : Stand p l e R s m args below meth c T locs cells slots) (hx : p.tables.exec = Jvm.exec) (hd : decode c.code pc = .ok (.lrem, 1)) (hy : y ≠ 0) (hp : pc + 1 = pc') (k : own_G p e below s Q ce sl (T.setTop (mkF m pc' Ls (.long (x % y) :: st)))) : own_G p e below s Q ce sl (T.setTop (mkF m pc Ls (.long y :: .long x :: st))) := by
  subst hp; rw [← lrem_mod] at k; exact own_fw (fun t q => XS.lrem X.here hx rfl hd rfl hy q) k
theorem own_ineg {x : Int32} (X : Stand p l e R s m args below meth c T locs cells slots) (hx : p.tables.exec = Jvm.exec) (hd : decode c.code pc = .ok (.ineg, 1)) (hp : pc + 1 = pc') (k : own_G p e below s Q ce sl (T.setTop (mkF m pc' Ls (.int (-x) :: st)))) : own_G p e below s Q ce sl (T.setTop (mkF m pc Ls (.int x :: st))) := by
  subst hp; exact own_fw (fun t q => XS.ineg X.here hx rfl hd rfl q) k
theorem own_lneg {x : Int64} (X : Stand p l e R s m args below meth c T locs cells slots) (hx : p.tables.exec = Jvm.exec) (hd : decode c.code pc = .ok (.lneg, 1)) (hp : pc + 1 = pc') (k : own_G p e below s Q ce sl (T.setTop (mkF m pc' Ls (.long (-x) :: st)))) : own_G p e below s Q ce sl (T.setTop (mkF m pc Ls (.long x :: st))) := by
  subst hp; exact own_fw (fun t q => XS.lneg X.here hx rfl hd rfl q) k
theorem own_i2l {x : Int32} (X : Stand p l e R s m args below meth c T locs cells slots) (hx : p.tables.exec = Jvm.exec) (hd : decode c.code pc = .ok (.i2l, 1)) (hp : pc + 1 = pc') (k : own_G p e below s Q ce sl (T.setTop (mkF m pc' Ls (.long x.toInt64 :: st)))) : own_G p e below s Q ce sl (T.setTop (mkF m pc Ls (.int x :: st))) := by
  subst hp; exact own_fw (fun t q => XS.i2l X.here hx rfl hd rfl q) k
theorem own_l2i {x : Int64} (X : Stand p l e R s m args below meth c T locs cells slots) (hx : p.tables.exec = Jvm.exec) (hd : decode c.code pc = .ok (.l2i, 1)) (hp : pc + 1 = pc') (k : own_G p e below s Q ce sl (T.setTop (mkF m pc' Ls (.int x.toInt32 :: st)))) : own_G p e below s Q ce sl (T.setTop (mkF m pc Ls (.long x :: st))) := by
  subst hp; exact own_fw (fun t q => XS.l2i X.here hx rfl hd rfl q) k
theorem own_i2b {x : Int32} (X : Stand p l e R s m args below meth c T locs cells slots) (hx : p.tables.exec = Jvm.exec) (hd : decode c.code pc = .ok (.i2b, 1)) (hp : pc + 1 = pc') (k : own_G p e below s Q ce sl (T.setTop (mkF m pc' Ls (.int x.toInt8.toInt32 :: st)))) : own_G p e below s Q ce sl (T.setTop (mkF m pc Ls (.int x :: st))) := by
  subst hp; exact own_fw (fun t q => XS.i2b X.here hx rfl hd rfl q) k
theorem own_lcmp {x y : Int64} (X : Stand p l e R s m args below meth c T locs cells slots) (hx : p.tables.exec = Jvm.exec) (hd : decode c.code pc = .ok (.lcmp, 1)) (hp : pc + 1 = pc') (k : own_G p e below s Q ce sl (T.setTop (mkF m pc' Ls (.int (lcmpW x y) :: st)))) : own_G p e below s Q ce sl (T.setTop (mkF m pc Ls (.long y :: .long x :: st))) := by
  subst hp; exact own_fw (fun t q => XS.lcmp X.here hx rfl hd rfl q) k
theorem own_dup {x : Value} (X : Stand p l e R s m args below meth c T locs cells slots) (hx : p.tables.exec = Jvm.exec) (hd : decode c.code pc = .ok (.dup, 1)) (hc : x.category = 1) (hp : pc + 1 = pc') (k : own_G p e below s Q ce sl (T.setTop (mkF m pc' Ls (x :: x :: st)))) : own_G p e below s Q ce sl (T.setTop (mkF m pc Ls (x :: st))) := by
  subst hp; exact own_fw (fun t q => XS.dup X.here hx rfl hd rfl hc q) k
theorem own_pop {x : Value} (X : Stand p l e R s m args below meth c T locs cells slots) (hx : p.tables.exec = Jvm.exec) (hd : decode c.code pc = .ok (.pop, 1)) (hc : x.category = 1) (hp : pc + 1 = pc') (k : own_G p e below s Q ce sl (T.setTop (mkF m pc' Ls st))) : own_G p e below s Q ce sl (T.setTop (mkF m pc Ls (x :: st))) := by
  subst hp; exact own_fw (fun t q => XS.pop X.here hx rfl hd rfl hc q) k
theorem own_dupX1 {x y : Value} (X : Stand p l e R s m args below meth c T locs cells slots) (hx : p.tables.exec = Jvm.exec) (hd : decode c.code pc = .ok (.dup_x1, 1)) (hc : x.category = 1) (hc' : y.category = 1) (hp : pc + 1 = pc') (k : own_G p e below s Q ce sl (T.setTop (mkF m pc' Ls (x :: y :: x :: st)))) : own_G p e below s Q ce sl (T.setTop (mkF m pc Ls (x :: y :: st))) := by
  subst hp; exact own_fw (fun t q => XS.dupX1 X.here hx rfl hd rfl hc hc' q) k
theorem own_dup2 {x y : Value} (X : Stand p l e R s m args below meth c T locs cells slots) (hx : p.tables.exec = Jvm.exec) (hd : decode c.code pc = .ok (.dup2, 1)) (hc : x.category = 1) (hc' : y.category = 1) (hp : pc + 1 = pc') (k : own_G p e below s Q ce sl (T.setTop (mkF m pc' Ls (x :: y :: x :: y :: st)))) : own_G p e below s Q ce sl (T.setTop (mkF m pc Ls (x :: y :: st))) := by
  subst hp; exact own_fw (fun t q => XT.dup2 X.here hx rfl hd rfl hc hc' q) k
theorem own_iinc {i : Nat} {cst : Int} {x z : Int32} (X : Stand p l e R s m args below meth c T locs cells slots) (hx : p.tables.exec = Jvm.exec) (hd : decode c.code pc = .ok (.iinc i cst, 3)) (hl : Ls[i]? = some (.val (.int x))) (hz : Int32.ofInt cst = z) {l' : Array Slot} (hl' : storeLocals Ls i (.int (x + z)) = some l') (hp : pc + 3 = pc') (k : own_G p e below s Q ce sl (T.setTop (mkF m pc' l' st))) : own_G p e below s Q ce sl (T.setTop (mkF m pc Ls st)) := by
  subst hp hz; exact own_fw (fun t q => XS.iinc X.here hx rfl hd hl hl' q) k
theorem own_goto {o : Int} (X : Stand p l e R s m args below meth c T locs cells slots) (hx : p.tables.exec = Jvm.exec) (hd : decode c.code pc = .ok (.goto o, 3)) (ho : 0 ≤ (pc : Int) + o) (hp : ((pc : Int) + o).toNat = pc') (k : own_G p e below s Q ce sl (T.setTop (mkF m pc' Ls st))) : own_G p e below s Q ce sl (T.setTop (mkF m pc Ls st)) := own_fw (fun t q => XS.goto X.here hx rfl (pc0 := pc) rfl hd ho hp q) k
theorem own_icmpT {o : Int} {cd : ClassFile.Cond} {x y : Int32} (X : Stand p l e R s m args below meth c T locs cells slots) (hx : p.tables.exec = Jvm.exec) (hd : decode c.code pc = .ok (.if_icmp cd o, 3)) (hc : if_icmp.holds cd x y = true) (ho : 0 ≤ (pc : Int) + o) (hp : ((pc : Int) + o).toNat = pc') (k : own_G p e below s Q ce sl (T.setTop (mkF m pc' Ls st))) : own_G p e below s Q ce sl (T.setTop (mkF m pc Ls (.int y :: .int x :: st))) := own_fw (fun t q => XS.icmpYes X.here hx rfl (pc0 := pc) rfl hd rfl hc ho hp q) k
theorem own_icmpF {o : Int} {cd : ClassFile.Cond} {x y : Int32} (X : Stand p l e R s m args below meth c T locs cells slots) (hx : p.tables.exec = Jvm.exec) (hd : decode c.code pc = .ok (.if_icmp cd o, 3)) (hc : if_icmp.holds cd x y = false) (hp : pc + 3 = pc') (k : own_G p e below s Q ce sl (T.setTop (mkF m pc' Ls st))) : own_G p e below s Q ce sl (T.setTop (mkF m pc Ls (.int y :: .int x :: st))) := by
  subst hp; exact own_fw (fun t q => XS.icmpNo X.here hx rfl hd rfl hc q) k
theorem own_ifT {o : Int} {cd : ClassFile.Cond} {x : Int32} (X : Stand p l e R s m args below meth c T locs cells slots) (hx : p.tables.exec = Jvm.exec) (hd : decode c.code pc = .ok (.ifCond cd o, 3)) (hc : if_icmp.holds cd x 0 = true) (ho : 0 ≤ (pc : Int) + o) (hp : ((pc : Int) + o).toNat = pc') (k : own_G p e below s Q ce sl (T.setTop (mkF m pc' Ls st))) : own_G p e below s Q ce sl (T.setTop (mkF m pc Ls (.int x :: st))) := own_fw (fun t q => XS.ifYes X.here hx rfl (pc0 := pc) rfl hd rfl ((if0 cd x).trans hc) ho hp q) k
theorem own_ifF {o : Int} {cd : ClassFile.Cond} {x : Int32} (X : Stand p l e R s m args below meth c T locs cells slots) (hx : p.tables.exec = Jvm.exec) (hd : decode c.code pc = .ok (.ifCond cd o, 3)) (hc : if_icmp.holds cd x 0 = false) (hp : pc + 3 = pc') (k : own_G p e below s Q ce sl (T.setTop (mkF m pc' Ls st))) : own_G p e below s Q ce sl (T.setTop (mkF m pc Ls (.int x :: st))) := by
  subst hp; exact own_fw (fun t q => XS.ifNo X.here hx rfl hd rfl ((if0 cd x).trans hc) q) k
theorem own_ltL {x y : Int64} (h : x < y) : if_icmp.holds .lt (lcmpW x y) 0 = true ∧ if_icmp.holds .ge (lcmpW x y) 0 = false ∧ if_icmp.holds .gt (lcmpW y x) 0 = true ∧ if_icmp.holds .le (lcmpW y x) 0 = false := by
  have h1 := (lw_lt x y).mpr h
  have h2 := (lw_gt y x).mpr h
  exact ⟨(tlt h1).1, (tlt h1).2.1, (tlt h2).2.2.1, (tlt h2).2.2.2⟩
theorem own_geL {x y : Int64} (h : ¬ x < y) : if_icmp.holds .lt (lcmpW x y) 0 = false ∧ if_icmp.holds .ge (lcmpW x y) 0 = true ∧ if_icmp.holds .gt (lcmpW y x) 0 = false ∧ if_icmp.holds .le (lcmpW y x) 0 = true := by
  have h1 : ¬ lcmpW x y < 0 := fun q => h ((lw_lt x y).mp q)
  have h2 : ¬ 0 < lcmpW y x := fun q => h ((lw_gt y x).mp q)
  exact ⟨(flt h1).1, (flt h1).2.1, (flt h2).2.2.1, (flt h2).2.2.2⟩
theorem own_eqL {x y : Int64} (h : x = y) : if_icmp.holds .eq (lcmpW x y) 0 = true ∧ if_icmp.holds .ne (lcmpW x y) 0 = false := teq ((lw_eq x y).mpr h)
theorem own_neL {x y : Int64} (h : ¬ x = y) : if_icmp.holds .eq (lcmpW x y) 0 = false ∧ if_icmp.holds .ne (lcmpW x y) 0 = true := feq (fun q => h ((lw_eq x y).mp q))
theorem own_bT {P : Prop} [Decidable P] (h : P) : if_icmp.holds .eq (if P then (1 : Int32) else 0) 0 = false ∧ if_icmp.holds .ne (if P then (1 : Int32) else 0) 0 = true := by rw [if_pos h]; exact ⟨rfl, rfl⟩
theorem own_bF {P : Prop} [Decidable P] (h : ¬ P) : if_icmp.holds .eq (if P then (1 : Int32) else 0) 0 = true ∧ if_icmp.holds .ne (if P then (1 : Int32) else 0) 0 = false := by rw [if_neg h]; exact ⟨rfl, rfl⟩
theorem own_b01 {P : Prop} [Decidable P] : (if P then (1 : Int32) else 0) = 0 ∨ (if P then (1 : Int32) else 0) = 1 := by by_cases h : P <;> simp [h]
theorem own_ifnonnullT {o : Int} {b : Addr} (X : Stand p l e R s m args below meth c T locs cells slots) (hx : p.tables.exec = Jvm.exec) (hd : decode c.code pc = .ok (.ifnonnull o, 3)) (ho : 0 ≤ (pc : Int) + o) (hp : ((pc : Int) + o).toNat = pc') (k : own_G p e below s Q ce sl (T.setTop (mkF m pc' Ls st))) : own_G p e below s Q ce sl (T.setTop (mkF m pc Ls (.ref b :: st))) := own_fw (fun t q => XS.ifnonnullYes X.here hx rfl (pc0 := pc) rfl hd rfl ho hp q) k
theorem own_ifnonnullF {o : Int} (X : Stand p l e R s m args below meth c T locs cells slots) (hx : p.tables.exec = Jvm.exec) (hd : decode c.code pc = .ok (.ifnonnull o, 3)) (hp : pc + 3 = pc') (k : own_G p e below s Q ce sl (T.setTop (mkF m pc' Ls st))) : own_G p e below s Q ce sl (T.setTop (mkF m pc Ls (.null :: st))) := by
  subst hp; exact own_fw (fun t q => XS.ifnonnullNo X.here hx rfl hd rfl q) k
theorem own_ifnullT {o : Int} (X : Stand p l e R s m args below meth c T locs cells slots) (hx : p.tables.exec = Jvm.exec) (hd : decode c.code pc = .ok (.ifnull o, 3)) (ho : 0 ≤ (pc : Int) + o) (hp : ((pc : Int) + o).toNat = pc') (k : own_G p e below s Q ce sl (T.setTop (mkF m pc' Ls st))) : own_G p e below s Q ce sl (T.setTop (mkF m pc Ls (.null :: st))) := own_fw (fun t q => XS.ifnullYes X.here hx rfl (pc0 := pc) rfl hd rfl ho hp q) k
theorem own_ifnullF {o : Int} {b : Addr} (X : Stand p l e R s m args below meth c T locs cells slots) (hx : p.tables.exec = Jvm.exec) (hd : decode c.code pc = .ok (.ifnull o, 3)) (hp : pc + 3 = pc') (k : own_G p e below s Q ce sl (T.setTop (mkF m pc' Ls st))) : own_G p e below s Q ce sl (T.setTop (mkF m pc Ls (.ref b :: st))) := by
  subst hp; exact own_fw (fun t q => XS.ifnullNo X.here hx rfl hd rfl q) k
theorem own_acmpT {o : Int} {cd : ACond} {x y : Value} (X : Stand p l e R s m args below meth c T locs cells slots) (hx : p.tables.exec = Jvm.exec) (hd : decode c.code pc = .ok (.if_acmp cd o, 3)) (h1 : x.isRef = true) (h2 : y.isRef = true) (hc : XT.acmp cd x y = true) (ho : 0 ≤ (pc : Int) + o) (hp : ((pc : Int) + o).toNat = pc') (k : own_G p e below s Q ce sl (T.setTop (mkF m pc' Ls st))) : own_G p e below s Q ce sl (T.setTop (mkF m pc Ls (y :: x :: st))) := own_fw (fun t q => XT.acmpYes X.here hx rfl (pc0 := pc) rfl hd rfl h1 h2 hc ho hp q) k
theorem own_acmpF {o : Int} {cd : ACond} {x y : Value} (X : Stand p l e R s m args below meth c T locs cells slots) (hx : p.tables.exec = Jvm.exec) (hd : decode c.code pc = .ok (.if_acmp cd o, 3)) (h1 : x.isRef = true) (h2 : y.isRef = true) (hc : XT.acmp cd x y = false) (hp : pc + 3 = pc') (k : own_G p e below s Q ce sl (T.setTop (mkF m pc' Ls st))) : own_G p e below s Q ce sl (T.setTop (mkF m pc Ls (y :: x :: st))) := by
  subst hp; exact own_fw (fun t q => XT.acmpNo X.here hx rfl hd rfl h1 h2 hc q) k
theorem own_getF (X : Stand p l e R s m args below meth c T locs cells slots) (hx : p.tables.exec = Jvm.exec) (hZ : Z.Warmed39 s.vm) {own O n d : String} {index : Nat} (hown : s.vm.findClass own = some m.cls) (w1 : (Jvm.Cond.fieldLink own index O n d).before a0 Z = true) (eT : T.heap = h) {a : Addr} {v : Value} (F : Fld Z h a O n d v) (hd : decode c.code pc = .ok (.getfield index, 3)) (hp : pc + 3 = pc')
    (k : ∀ T' : State, Stand p l e R s m args below meth c T' locs cells slots → T'.heap = h → own_G p e below s Q ce sl (T'.setTop (mkF m pc' Ls (v :: st)))) : own_G p e below s Q ce sl (T.setTop (mkF m pc Ls (.ref a :: st))) := by
  subst hp
  obtain ⟨T', X', e', st'⟩ := getF X hx hZ hown (host := "") (Or.inl w1) Via.refl eT F (g := mkF m pc Ls (.ref a :: st)) rfl rfl hd
  exact own_fw st' (k T' X' e')
theorem own_putF (X : Stand p l e R s m args below meth c T locs cells slots) (hx : p.tables.exec = Jvm.exec) (hZ : Z.Warmed39 s.vm) {own O n d C : String} {index kk : Nat} {ty : FieldType} (hown : s.vm.findClass own = some m.cls) (w1 : (Jvm.Cond.fieldLink own index O n d).before a0 Z = true) (eT : T.heap = h) {a : Addr} {v old : Value} (F : Fld Z h a O n d old) (E : Exa Z h a C) (L : (Jvm.Cond.lays C O n d).before a0 Z = true ∨ ((Jvm.Cond.laysFinal C O n d).before a0 Z = true ∧ own = O ∧ meth.name = "<init>")) (wi : (Jvm.Cond.instantiable C kk).before a0 Z = true) (hty : parseFieldDescriptor d = some ty) (hn : narrow ty v = v) (hf : fits ty v = true) (hd : decode c.code pc = .ok (.putfield index, 3)) (hp : pc + 3 = pc')
    (k : ∀ (T' : State) (h' : Heap), Stand p l e R s m args below meth c T' (locs ++ [⟨a, RoadKit.slotOf Z O n d⟩]) cells slots → T'.heap = h' → Wr h h' a (RoadKit.slotOf Z O n d) v → own_G p e below s Q ce sl (T'.setTop (mkF m pc' Ls st))) : own_G p e below s Q ce sl (T.setTop (mkF m pc Ls (v :: .ref a :: st))) := by
  subst hp
  obtain ⟨T', h', X', e', W', st'⟩ := putF X hx hZ hown (host := "") (Or.inl w1) Via.refl eT F E L wi hty hn hf (g := mkF m pc Ls (v :: .ref a :: st)) rfl rfl hd
  exact own_fw st' (k T' h' X' e' W')
theorem own_new (X : Stand p l e R s m args below meth c T locs cells slots) (hx : p.tables.exec = Jvm.exec) (hZ : Z.Warmed39 s.vm) {own C : String} {index n : Nat} (hown : s.vm.findClass own = some m.cls) (w1 : (Jvm.Cond.classLink own index C).before a0 Z = true) (wi : (Jvm.Cond.instantiable C n).before a0 Z = true) (wz : (Jvm.Cond.initialized C).before a0 Z = true) (eT : T.heap = h) (hd : decode c.code pc = .ok (.new index, 3)) (hp : pc + 3 = pc') (hc : cells + 1 ≤ R.cells) (hl : slots + n ≤ R.slots)
    (k : ∀ (T' : State) (h' : Heap) (a : Addr), a = h.size → Stand p l e R s m args below meth c T' locs (cells + 1) (slots + n) → T'.heap = h' → Ext h h' → Exa Z h' a C → (∀ {O nm d : String} {ty : FieldType}, Laid Z a0 C O nm d → parseFieldDescriptor d = some ty → Fld Z h' a O nm d (defaultValue ty)) → own_G p e below s Q ce sl (T'.setTop (mkF m pc' Ls (.ref a :: st)))) : own_G p e below s Q ce sl (T.setTop (mkF m pc Ls st)) := by
  subst hp
  obtain ⟨T', h', X', e', E', A', D', -, st'⟩ := newO X hx hZ hown w1 wi wz eT (g := mkF m pc Ls st) rfl hd hc hl
  exact own_fw st' (k T' h' h.size rfl X' e' E' A' D')
theorem own_initO (X : Stand p l e R s m args below meth c T locs cells slots) (hx : p.tables.exec = Jvm.exec) (hZ : Z.Warmed39 s.vm) {own : String} {idx : Nat} (hown : s.vm.findClass own = some m.cls) (w1 : (Jvm.Cond.methodLink own idx Lib.objectInit).before a0 Z = true) (w2 : (Jvm.Cond.instanceMethod Lib.objectInit).before a0 Z = true) (w3 : (Jvm.Cond.code Lib.objectInit object_method_1_code 1 none).before a0 Z = true) (eT : T.heap = h) (hsize : Ls.size = c.maxLocals) {a : Addr} (hd : decode c.code pc = .ok (.invokespecial idx, 3)) (hf : 1 ≤ R.frames) {W : Nat} (hW : (st.map fun v => v.category).sum ≤ W) (hl : W + 12 ≤ R.locals) (hp : pc + 3 = pc')
    (k : ∀ T' : State, Stand p l e R s m args below meth c T' locs cells slots → T'.heap = h → own_G p e below s Q ce sl (T'.setTop (mkF m pc' Ls st))) : own_G p e below s Q ce sl (T.setTop (mkF m pc Ls (.ref a :: st))) := by
  subst hp
  obtain ⟨T', X', e', st'⟩ := initO X hx hZ hown w1 w2 w3 eT (g := mkF m pc Ls (.ref a :: st)) rfl hsize rfl hd hf (W := W) (by show 2 * 0 + _ ≤ _; omega) hl
  exact own_fw st' (k T' X' e')
theorem own_callS (X : Stand p l e R s m args below meth c T locs cells slots) (hx : p.tables.exec = Jvm.exec) (hZ : Z.Warmed39 s.vm) {own : String} {index : Nat} {y : MethodName} {bytes : ByteArray} {maxL : Nat} {ret : Option FieldType} (hown : s.vm.findClass own = some m.cls) (w1 : (Jvm.Cond.methodLink own index y).before a0 Z = true) (w2 : (Jvm.Cond.static y).before a0 Z = true) (w3 : (Jvm.Cond.initialized y.cls).before a0 Z = true) (w4 : (Jvm.Cond.code y bytes maxL ret).before a0 Z = true) (hy : y.cls ≠ "java/lang/invoke/MethodHandle" ∧ y.cls ≠ "java/lang/invoke/VarHandle") {rm : Room} {as' : List Value} {Q' : Option Value → Heap → List Loc → Prop} (hM : own_M l Z y bytes maxL ret [] rm as'.toArray h Q' rm.cells rm.slots) (eT : T.heap = h) {W : Nat} (hf : rm.frames + 1 ≤ R.frames) (hl : W + (maxL + 11) + rm.locals ≤ R.locals) {ps : List FieldType} {r : Option FieldType} (pd : parseMethodDescriptor y.desc = some ⟨ps, r⟩) (hlen : as'.length = ps.length) {stk rest : List Value} (hstk : stk = as'.reverse ++ rest) (hd : decode c.code pc = .ok (.invokestatic index, 3)) (hW : (rest.map fun v => v.category).sum ≤ W) (hsize : Ls.size = c.maxLocals) (hc : cells + rm.cells ≤ R.cells) (hs : slots + rm.slots ≤ R.slots) (hp : pc + 3 = pc')
    (k : ∀ (v : Option Value) (T' : State) (L : List Loc), Stand p l e R s m args below meth c T' (locs ++ L) (cells + rm.cells) (slots + rm.slots) → Q' v T'.heap L → own_G p e below s Q ce sl (T'.setTop (mkF m pc' Ls (v.toList ++ rest)))) : own_G p e below s Q ce sl (T.setTop (mkF m pc Ls stk)) := by
  subst hp hstk
  obtain ⟨v, vm1, ⟨T', L', k', n'⟩, hWm, X', ⟨Lc, hQ', l', y', z'⟩, st'⟩ := Jvm.LawKit.callS X hx (y := y) hown (mvT hZ w1) (mvT hZ w2) (mvT hZ w3) (mvT hZ w4) hy (backOf (W := W) hM hZ w4 w3 hf hl) (g := mkF m pc Ls (as'.reverse ++ rest)) rfl hsize (argsL := as') (rest := rest) (lenOf pd hlen) rfl (by show 2 * 0 + _ ≤ _; omega) hd (fun _ _ => ⟨rfl, eT, hc, hs⟩)
  dsimp only [Pt.U, Pt.locs, Pt.cells, Pt.slots] at X' l' y' z' hQ'
  subst l' y' z'
  exact own_fw st' (k v T' Lc X' hQ')
theorem own_callC (X : Stand p l e R s m args below meth c T locs cells slots) (hx : p.tables.exec = Jvm.exec) (hZ : Z.Warmed39 s.vm) {own : String} {index : Nat} {y : MethodName} {bytes : ByteArray} {maxL : Nat} (hy1 : y.name = "<init>") (hown : s.vm.findClass own = some m.cls) (w1 : (Jvm.Cond.methodLink own index y).before a0 Z = true) (w2 : (Jvm.Cond.instanceMethod y).before a0 Z = true) (w3 : (Jvm.Cond.initialized y.cls).before a0 Z = true) (w4 : (Jvm.Cond.code y bytes maxL none).before a0 Z = true) (hy : y.cls ≠ "java/lang/invoke/MethodHandle" ∧ y.cls ≠ "java/lang/invoke/VarHandle") {a : Addr} {rm : Room} {as' : List Value} {Q' : Option Value → Heap → List Loc → Prop} (hM : own_M l Z y bytes maxL none [] rm (.ref a :: as').toArray h Q' rm.cells rm.slots) (eT : T.heap = h) {W : Nat} (hf : rm.frames + 1 ≤ R.frames) (hl : W + (maxL + 11) + rm.locals ≤ R.locals) {ps : List FieldType} {r : Option FieldType} (pd : parseMethodDescriptor y.desc = some ⟨ps, r⟩) (hlen : as'.length = ps.length) {stk rest : List Value} (hstk : stk = as'.reverse ++ .ref a :: rest) (hd : decode c.code pc = .ok (.invokespecial index, 3)) (hW : (rest.map fun v => v.category).sum ≤ W) (hsize : Ls.size = c.maxLocals) (hc : cells + rm.cells ≤ R.cells) (hs : slots + rm.slots ≤ R.slots) (hp : pc + 3 = pc')
    (k : ∀ (v : Option Value) (T' : State) (L : List Loc), Stand p l e R s m args below meth c T' (locs ++ L) (cells + rm.cells) (slots + rm.slots) → Q' v T'.heap L → own_G p e below s Q ce sl (T'.setTop (mkF m pc' Ls (v.toList ++ rest)))) : own_G p e below s Q ce sl (T.setTop (mkF m pc Ls stk)) := by
  subst hp hstk
  obtain ⟨v, vm1, ⟨T', L', k', n'⟩, hWm, X', ⟨Lc, hQ', l', y', z'⟩, st'⟩ := X.specialBack hx (y := y) hy1 hown (mvT hZ w1) (mvT hZ w2) (mvT hZ w4) hy (backOf (W := W) hM hZ w4 w3 hf hl) (g := mkF m pc Ls (as'.reverse ++ .ref a :: rest)) rfl hsize (Steps.refl _) (a := a) (argsL := as') (rest := rest) (lenOf pd hlen) rfl (by show 2 * 0 + _ ≤ _; omega) hd (fun _ _ => ⟨rfl, eT, hc, hs⟩)
  dsimp only [Pt.U, Pt.locs, Pt.cells, Pt.slots] at X' l' y' z' hQ'
  subst l' y' z'
  exact own_fw (fun t q => st'.trans q) (k v T' Lc X' hQ')
theorem own_callV (X : Stand p l e R s m args below meth c T locs cells slots) (hx : p.tables.exec = Jvm.exec) (hZ : Z.Warmed39 s.vm) {own C : String} {index : Nat} {y : MethodName} {bytes : ByteArray} {maxL : Nat} {ret : Option FieldType} (hown : s.vm.findClass own = some m.cls) (w1 : (Jvm.Cond.methodLink own index y).before a0 Z = true) (w2 : (Jvm.Cond.declares y).before a0 Z = true) (w3 : (Jvm.Cond.selects C y y).before a0 Z = true) (w4 : (Jvm.Cond.instanceMethod y).before a0 Z = true) (w5 : (Jvm.Cond.initialized y.cls).before a0 Z = true) (w6 : (Jvm.Cond.code y bytes maxL ret).before a0 Z = true) (hy : y.cls ≠ "java/lang/invoke/MethodHandle" ∧ y.cls ≠ "java/lang/invoke/VarHandle") {a : Addr} (E : Exa Z h a C) {rm : Room} {as' : List Value} {Q' : Option Value → Heap → List Loc → Prop} (hM : own_M l Z y bytes maxL ret [] rm (.ref a :: as').toArray h Q' rm.cells rm.slots) (eT : T.heap = h) {W : Nat} (hf : rm.frames + 1 ≤ R.frames) (hl : W + (maxL + 11) + rm.locals ≤ R.locals) {ps : List FieldType} {r : Option FieldType} (pd : parseMethodDescriptor y.desc = some ⟨ps, r⟩) (hlen : as'.length = ps.length) {stk rest : List Value} (hstk : stk = as'.reverse ++ .ref a :: rest) (hd : decode c.code pc = .ok (.invokevirtual index, 3)) (hW : (rest.map fun v => v.category).sum ≤ W) (hsize : Ls.size = c.maxLocals) (hc : cells + rm.cells ≤ R.cells) (hs : slots + rm.slots ≤ R.slots) (hp : pc + 3 = pc')
    (k : ∀ (v : Option Value) (T' : State) (L : List Loc), Stand p l e R s m args below meth c T' (locs ++ L) (cells + rm.cells) (slots + rm.slots) → Q' v T'.heap L → own_G p e below s Q ce sl (T'.setTop (mkF m pc' Ls (v.toList ++ rest)))) : own_G p e below s Q ce sl (T.setTop (mkF m pc Ls stk)) := by
  subst hp hstk
  obtain ⟨cq, kq, qa, qb, qc⟩ := isOf hZ eT E
  obtain ⟨v, vm1, ⟨T', L', k', n'⟩, hWm, X', ⟨Lc, hQ', l', y', z'⟩, st'⟩ := X.virtualBack hx (y := y) (z := y) hown (mvT hZ w1) (mvT hZ w2) (notFace_of_selects (args := #[]) (mvT hZ w3)) (mvT hZ w3) (mvT hZ w4) hy (backOf (W := W) hM hZ w6 w5 hf hl) qa qc (g := mkF m pc Ls (as'.reverse ++ .ref a :: rest)) rfl hsize (Steps.refl _) (argsL := as') (rest := rest) (lenOf pd hlen) rfl (by show 2 * 0 + _ ≤ _; omega) hd (fun _ _ => ⟨rfl, eT, hc, hs⟩)
  dsimp only [Pt.U, Pt.locs, Pt.cells, Pt.slots] at X' l' y' z' hQ'
  subst l' y' z'
  exact own_fw (fun t q => st'.trans q) (k v T' Lc X' hQ')
end OwnHead
theorem od_prog_11_method_1_0 : decode prog_11_method_1_code 0 = .ok (.aload_n 0, 1) := by decide +kernel
theorem od_prog_11_method_1_1 : decode prog_11_method_1_code 1 = .ok (.invokespecial 1, 3) := by decide +kernel
theorem ow_6 {Z : State} {a0 : Array Value} (hw : ∀ d ∈ tables_1, d.before a0 Z = true) : (Jvm.Cond.methodLink "com/example/slot3/slot3/frame/PostChain" (1 : Nat) ({ cls := "java/lang/Object", name := "<init>", desc := "()V" } : Jvm.MethodName)).before a0 Z = true := hw _ (List.mem_of_getElem? (i := 6) rfl)
theorem ow_7 {Z : State} {a0 : Array Value} (hw : ∀ d ∈ tables_1, d.before a0 Z = true) : (Jvm.Cond.instanceMethod ({ cls := "java/lang/Object", name := "<init>", desc := "()V" } : Jvm.MethodName)).before a0 Z = true := hw _ (List.mem_of_getElem? (i := 7) rfl)
theorem ow_8 {Z : State} {a0 : Array Value} (hw : ∀ d ∈ tables_1, d.before a0 Z = true) : (Jvm.Cond.code ({ cls := "java/lang/Object", name := "<init>", desc := "()V" } : Jvm.MethodName) object_method_1_code (1 : Nat) (Option.none : Option Jvm.ClassFile.FieldType)).before a0 Z = true := hw _ (List.mem_of_getElem? (i := 8) rfl)
theorem od_prog_11_method_1_4 : decode prog_11_method_1_code 4 = .ok (.return_, 1) := by decide +kernel
theorem opn_com_example_slot3_slot3_frame_PostChain : plainName "com/example/slot3/slot3/frame/PostChain" = true := by first | (simp [plainName, overriddenIn]; done) | decide +kernel
theorem oef_rm_pci (m : MethodId) (ra : Addr) : entryFrame m #[(.ref ra)] 1 = mkF m 0 #[.val (.ref ra)] [] := by first | (simp [entryFrame, mkF, argsToLocals, Value.category]; done) | rfl
set_option maxRecDepth 65536 in
set_option maxHeartbeats 40000000 in
theorem rm_pci (l : Launch) (Z : State) (a0 : Array Value) (hw : ∀ d ∈ tables_1, d.before a0 Z = true) (ra : Addr) (h0 : Heap) (n0 : Nat) (Z0 : n0 ≤ h0.size)  :
    own_M l Z (⟨"com/example/slot3/slot3/frame/PostChain", "<init>", "()V"⟩ : MethodName) prog_11_method_1_code 1 none [] ({ frames := 1, cells := 0, slots := 0, locals := 12 } : Room) #[(.ref ra)] h0 (fun v h L => v = none ∧ Fr n0 L ∧ (h = h0)) 0 0 := by
  refine own_body (plainFor_of_name opn_com_example_slot3_slot3_frame_PostChain) ?_
  intro p e s m below meth c s1 hx hby hml hown hnm hret hlk hZ X0 e0
  rw [oef_rm_pci m ra]
  have N0 := Fr.nil n0
  refine own_aloadN X0 hx (hb hby od_prog_11_method_1_0) rfl rfl (pc' := 1) rfl ?_
  refine own_initO X0 hx hZ hown (ow_6 hw) (ow_7 hw) (ow_8 hw) e0 (by rw [hml]; rfl) (hb hby od_prog_11_method_1_1) (by decide) (W := 0) (Nat.le_of_eq rfl) (by decide) (pc' := 4) rfl ?_
  intro T1 X1 e1
  exact own_retV X1 hx hret hlk (hb hby od_prog_11_method_1_4) ⟨rfl, N0, e1⟩ (by decide) (by decide)
theorem od_prog_10_method_1_0 : decode prog_10_method_1_code 0 = .ok (.aload_n 0, 1) := by decide +kernel
theorem od_prog_10_method_1_1 : decode prog_10_method_1_code 1 = .ok (.invokespecial 1, 3) := by decide +kernel
theorem ow_15 {Z : State} {a0 : Array Value} (hw : ∀ d ∈ tables_1, d.before a0 Z = true) : (Jvm.Cond.methodLink "com/example/slot3/slot3/frame/Post" (1 : Nat) ({ cls := "java/lang/Object", name := "<init>", desc := "()V" } : Jvm.MethodName)).before a0 Z = true := hw _ (List.mem_of_getElem? (i := 15) rfl)
theorem od_prog_10_method_1_4 : decode prog_10_method_1_code 4 = .ok (.return_, 1) := by decide +kernel
theorem opn_com_example_slot3_slot3_frame_Post : plainName "com/example/slot3/slot3/frame/Post" = true := by first | (simp [plainName, overriddenIn]; done) | decide +kernel
theorem oef_rm_poi (m : MethodId) (ra : Addr) : entryFrame m #[(.ref ra)] 1 = mkF m 0 #[.val (.ref ra)] [] := by first | (simp [entryFrame, mkF, argsToLocals, Value.category]; done) | rfl
set_option maxRecDepth 65536 in
set_option maxHeartbeats 40000000 in
theorem rm_poi (l : Launch) (Z : State) (a0 : Array Value) (hw : ∀ d ∈ tables_1, d.before a0 Z = true) (ra : Addr) (h0 : Heap) (n0 : Nat) (Z0 : n0 ≤ h0.size)  :
    own_M l Z (⟨"com/example/slot3/slot3/frame/Post", "<init>", "()V"⟩ : MethodName) prog_10_method_1_code 1 none [] ({ frames := 1, cells := 0, slots := 0, locals := 12 } : Room) #[(.ref ra)] h0 (fun v h L => v = none ∧ Fr n0 L ∧ (h = h0)) 0 0 := by
  refine own_body (plainFor_of_name opn_com_example_slot3_slot3_frame_Post) ?_
  intro p e s m below meth c s1 hx hby hml hown hnm hret hlk hZ X0 e0
  rw [oef_rm_poi m ra]
  have N0 := Fr.nil n0
  refine own_aloadN X0 hx (hb hby od_prog_10_method_1_0) rfl rfl (pc' := 1) rfl ?_
  refine own_initO X0 hx hZ hown (ow_15 hw) (ow_7 hw) (ow_8 hw) e0 (by rw [hml]; rfl) (hb hby od_prog_10_method_1_1) (by decide) (W := 0) (Nat.le_of_eq rfl) (by decide) (pc' := 4) rfl ?_
  intro T1 X1 e1
  exact own_retV X1 hx hret hlk (hb hby od_prog_10_method_1_4) ⟨rfl, N0, e1⟩ (by decide) (by decide)
theorem od_prog_11_method_3_0 : decode prog_11_method_3_code 0 = .ok (.aload_n 0, 1) := by decide +kernel
theorem od_prog_11_method_3_1 : decode prog_11_method_3_code 1 = .ok (.getfield 13, 3) := by decide +kernel
theorem ow_28 {Z : State} {a0 : Array Value} (hw : ∀ d ∈ tables_1, d.before a0 Z = true) : (Jvm.Cond.fieldLink "com/example/slot3/slot3/frame/PostChain" (13 : Nat) "com/example/slot3/slot3/frame/PostChain" "last" "Lcom/example/slot3/slot3/frame/Post;").before a0 Z = true := hw _ (List.mem_of_getElem? (i := 28) rfl)
theorem od_prog_11_method_3_4 : decode prog_11_method_3_code 4 = .ok (.ifnonnull 11, 3) := by decide +kernel
theorem od_prog_11_method_3_7 : decode prog_11_method_3_code 7 = .ok (.aload_n 0, 1) := by decide +kernel
theorem od_prog_11_method_3_8 : decode prog_11_method_3_code 8 = .ok (.aload_n 1, 1) := by decide +kernel
theorem od_prog_11_method_3_9 : decode prog_11_method_3_code 9 = .ok (.putfield 7, 3) := by decide +kernel
theorem ow_27 {Z : State} {a0 : Array Value} (hw : ∀ d ∈ tables_1, d.before a0 Z = true) : (Jvm.Cond.fieldLink "com/example/slot3/slot3/frame/PostChain" (7 : Nat) "com/example/slot3/slot3/frame/PostChain" "first" "Lcom/example/slot3/slot3/frame/Post;").before a0 Z = true := hw _ (List.mem_of_getElem? (i := 27) rfl)
theorem ow_17 {Z : State} {a0 : Array Value} (hw : ∀ d ∈ tables_1, d.before a0 Z = true) : (Jvm.Cond.lays "com/example/slot3/slot3/frame/PostChain" "com/example/slot3/slot3/frame/PostChain" "first" "Lcom/example/slot3/slot3/frame/Post;").before a0 Z = true := hw _ (List.mem_of_getElem? (i := 17) rfl)
theorem ow_1 {Z : State} {a0 : Array Value} (hw : ∀ d ∈ tables_1, d.before a0 Z = true) : (Jvm.Cond.instantiable "com/example/slot3/slot3/frame/PostChain" (3 : Nat)).before a0 Z = true := hw _ (List.mem_of_getElem? (i := 1) rfl)
theorem od_prog_11_method_3_12 : decode prog_11_method_3_code 12 = .ok (.goto 11, 3) := by decide +kernel
theorem od_prog_11_method_3_23 : decode prog_11_method_3_code 23 = .ok (.aload_n 1, 1) := by decide +kernel
theorem od_prog_11_method_3_24 : decode prog_11_method_3_code 24 = .ok (.aload_n 0, 1) := by decide +kernel
theorem od_prog_11_method_3_25 : decode prog_11_method_3_code 25 = .ok (.getfield 13, 3) := by decide +kernel
theorem ow_19 {Z : State} {a0 : Array Value} (hw : ∀ d ∈ tables_1, d.before a0 Z = true) : (Jvm.Cond.lays "com/example/slot3/slot3/frame/PostChain" "com/example/slot3/slot3/frame/PostChain" "last" "Lcom/example/slot3/slot3/frame/Post;").before a0 Z = true := hw _ (List.mem_of_getElem? (i := 19) rfl)
theorem osn_0 {Z : State} {a0 : Array Value} (hw : ∀ d ∈ tables_1, d.before a0 Z = true) : RoadKit.slotOf Z "com/example/slot3/slot3/frame/PostChain" "last" "Lcom/example/slot3/slot3/frame/Post;" ≠ RoadKit.slotOf Z "com/example/slot3/slot3/frame/PostChain" "first" "Lcom/example/slot3/slot3/frame/Post;" := slot_ne (C := "com/example/slot3/slot3/frame/PostChain") (Or.inl (ow_19 hw)) (Or.inl (ow_17 hw)) (by decide) (t := (.object "com/example/slot3/slot3/frame/Post")) (t' := (.object "com/example/slot3/slot3/frame/Post")) (by decide) (by decide)
theorem od_prog_11_method_3_28 : decode prog_11_method_3_code 28 = .ok (.putfield 16, 3) := by decide +kernel
theorem ow_31 {Z : State} {a0 : Array Value} (hw : ∀ d ∈ tables_1, d.before a0 Z = true) : (Jvm.Cond.fieldLink "com/example/slot3/slot3/frame/PostChain" (16 : Nat) "com/example/slot3/slot3/frame/Post" "previous" "Lcom/example/slot3/slot3/frame/Post;").before a0 Z = true := hw _ (List.mem_of_getElem? (i := 31) rfl)
theorem ow_32 {Z : State} {a0 : Array Value} (hw : ∀ d ∈ tables_1, d.before a0 Z = true) : (Jvm.Cond.lays "com/example/slot3/slot3/frame/Post" "com/example/slot3/slot3/frame/Post" "previous" "Lcom/example/slot3/slot3/frame/Post;").before a0 Z = true := hw _ (List.mem_of_getElem? (i := 32) rfl)
theorem ow_10 {Z : State} {a0 : Array Value} (hw : ∀ d ∈ tables_1, d.before a0 Z = true) : (Jvm.Cond.instantiable "com/example/slot3/slot3/frame/Post" (20 : Nat)).before a0 Z = true := hw _ (List.mem_of_getElem? (i := 10) rfl)
theorem od_prog_11_method_3_31 : decode prog_11_method_3_code 31 = .ok (.aload_n 0, 1) := by decide +kernel
theorem od_prog_11_method_3_32 : decode prog_11_method_3_code 32 = .ok (.aload_n 1, 1) := by decide +kernel
theorem od_prog_11_method_3_33 : decode prog_11_method_3_code 33 = .ok (.putfield 13, 3) := by decide +kernel
theorem od_prog_11_method_3_36 : decode prog_11_method_3_code 36 = .ok (.aload_n 1, 1) := by decide +kernel
theorem od_prog_11_method_3_37 : decode prog_11_method_3_code 37 = .ok (.aload_n 0, 1) := by decide +kernel
theorem od_prog_11_method_3_38 : decode prog_11_method_3_code 38 = .ok (.putfield 24, 3) := by decide +kernel
theorem ow_33 {Z : State} {a0 : Array Value} (hw : ∀ d ∈ tables_1, d.before a0 Z = true) : (Jvm.Cond.fieldLink "com/example/slot3/slot3/frame/PostChain" (24 : Nat) "com/example/slot3/slot3/frame/Post" "chain" "Lcom/example/slot3/slot3/frame/PostChain;").before a0 Z = true := hw _ (List.mem_of_getElem? (i := 33) rfl)
theorem ow_34 {Z : State} {a0 : Array Value} (hw : ∀ d ∈ tables_1, d.before a0 Z = true) : (Jvm.Cond.lays "com/example/slot3/slot3/frame/Post" "com/example/slot3/slot3/frame/Post" "chain" "Lcom/example/slot3/slot3/frame/PostChain;").before a0 Z = true := hw _ (List.mem_of_getElem? (i := 34) rfl)
theorem osn_1 {Z : State} {a0 : Array Value} (hw : ∀ d ∈ tables_1, d.before a0 Z = true) : RoadKit.slotOf Z "com/example/slot3/slot3/frame/Post" "chain" "Lcom/example/slot3/slot3/frame/PostChain;" ≠ RoadKit.slotOf Z "com/example/slot3/slot3/frame/Post" "previous" "Lcom/example/slot3/slot3/frame/Post;" := slot_ne (C := "com/example/slot3/slot3/frame/Post") (Or.inl (ow_34 hw)) (Or.inl (ow_32 hw)) (by decide) (t := (.object "com/example/slot3/slot3/frame/PostChain")) (t' := (.object "com/example/slot3/slot3/frame/Post")) (by decide) (by decide)
theorem od_prog_11_method_3_41 : decode prog_11_method_3_code 41 = .ok (.aload_n 0, 1) := by decide +kernel
theorem od_prog_11_method_3_42 : decode prog_11_method_3_code 42 = .ok (.dup, 1) := by decide +kernel
theorem od_prog_11_method_3_43 : decode prog_11_method_3_code 43 = .ok (.getfield 28, 3) := by decide +kernel
theorem ow_35 {Z : State} {a0 : Array Value} (hw : ∀ d ∈ tables_1, d.before a0 Z = true) : (Jvm.Cond.fieldLink "com/example/slot3/slot3/frame/PostChain" (28 : Nat) "com/example/slot3/slot3/frame/PostChain" "count" "I").before a0 Z = true := hw _ (List.mem_of_getElem? (i := 35) rfl)
theorem ow_21 {Z : State} {a0 : Array Value} (hw : ∀ d ∈ tables_1, d.before a0 Z = true) : (Jvm.Cond.lays "com/example/slot3/slot3/frame/PostChain" "com/example/slot3/slot3/frame/PostChain" "count" "I").before a0 Z = true := hw _ (List.mem_of_getElem? (i := 21) rfl)
theorem osn_2 {Z : State} {a0 : Array Value} (hw : ∀ d ∈ tables_1, d.before a0 Z = true) : RoadKit.slotOf Z "com/example/slot3/slot3/frame/PostChain" "count" "I" ≠ RoadKit.slotOf Z "com/example/slot3/slot3/frame/PostChain" "first" "Lcom/example/slot3/slot3/frame/Post;" := slot_ne (C := "com/example/slot3/slot3/frame/PostChain") (Or.inl (ow_21 hw)) (Or.inl (ow_17 hw)) (by decide) (t := .int) (t' := (.object "com/example/slot3/slot3/frame/Post")) (by decide) (by decide)
theorem osn_3 {Z : State} {a0 : Array Value} (hw : ∀ d ∈ tables_1, d.before a0 Z = true) : RoadKit.slotOf Z "com/example/slot3/slot3/frame/PostChain" "count" "I" ≠ RoadKit.slotOf Z "com/example/slot3/slot3/frame/PostChain" "last" "Lcom/example/slot3/slot3/frame/Post;" := slot_ne (C := "com/example/slot3/slot3/frame/PostChain") (Or.inl (ow_21 hw)) (Or.inl (ow_19 hw)) (by decide) (t := .int) (t' := (.object "com/example/slot3/slot3/frame/Post")) (by decide) (by decide)
theorem od_prog_11_method_3_46 : decode prog_11_method_3_code 46 = .ok (.iconst 1, 1) := by decide +kernel
theorem od_prog_11_method_3_47 : decode prog_11_method_3_code 47 = .ok (.iadd, 1) := by decide +kernel
theorem od_prog_11_method_3_48 : decode prog_11_method_3_code 48 = .ok (.putfield 28, 3) := by decide +kernel
theorem od_prog_11_method_3_51 : decode prog_11_method_3_code 51 = .ok (.return_, 1) := by decide +kernel
theorem osn_4 {Z : State} {a0 : Array Value} (hw : ∀ d ∈ tables_1, d.before a0 Z = true) : RoadKit.slotOf Z "com/example/slot3/slot3/frame/PostChain" "first" "Lcom/example/slot3/slot3/frame/Post;" ≠ RoadKit.slotOf Z "com/example/slot3/slot3/frame/PostChain" "last" "Lcom/example/slot3/slot3/frame/Post;" := slot_ne (C := "com/example/slot3/slot3/frame/PostChain") (Or.inl (ow_17 hw)) (Or.inl (ow_19 hw)) (by decide) (t := (.object "com/example/slot3/slot3/frame/Post")) (t' := (.object "com/example/slot3/slot3/frame/Post")) (by decide) (by decide)
theorem osn_5 {Z : State} {a0 : Array Value} (hw : ∀ d ∈ tables_1, d.before a0 Z = true) : RoadKit.slotOf Z "com/example/slot3/slot3/frame/PostChain" "first" "Lcom/example/slot3/slot3/frame/Post;" ≠ RoadKit.slotOf Z "com/example/slot3/slot3/frame/PostChain" "count" "I" := slot_ne (C := "com/example/slot3/slot3/frame/PostChain") (Or.inl (ow_17 hw)) (Or.inl (ow_21 hw)) (by decide) (t := (.object "com/example/slot3/slot3/frame/Post")) (t' := .int) (by decide) (by decide)
theorem osn_6 {Z : State} {a0 : Array Value} (hw : ∀ d ∈ tables_1, d.before a0 Z = true) : RoadKit.slotOf Z "com/example/slot3/slot3/frame/PostChain" "last" "Lcom/example/slot3/slot3/frame/Post;" ≠ RoadKit.slotOf Z "com/example/slot3/slot3/frame/PostChain" "count" "I" := slot_ne (C := "com/example/slot3/slot3/frame/PostChain") (Or.inl (ow_19 hw)) (Or.inl (ow_21 hw)) (by decide) (t := (.object "com/example/slot3/slot3/frame/Post")) (t' := .int) (by decide) (by decide)
theorem ow_30 {Z : State} {a0 : Array Value} (hw : ∀ d ∈ tables_1, d.before a0 Z = true) : (Jvm.Cond.lays "com/example/slot3/slot3/frame/Post" "com/example/slot3/slot3/frame/Post" "following" "Lcom/example/slot3/slot3/frame/Post;").before a0 Z = true := hw _ (List.mem_of_getElem? (i := 30) rfl)
theorem osn_7 {Z : State} {a0 : Array Value} (hw : ∀ d ∈ tables_1, d.before a0 Z = true) : RoadKit.slotOf Z "com/example/slot3/slot3/frame/Post" "following" "Lcom/example/slot3/slot3/frame/Post;" ≠ RoadKit.slotOf Z "com/example/slot3/slot3/frame/Post" "previous" "Lcom/example/slot3/slot3/frame/Post;" := slot_ne (C := "com/example/slot3/slot3/frame/Post") (Or.inl (ow_30 hw)) (Or.inl (ow_32 hw)) (by decide) (t := (.object "com/example/slot3/slot3/frame/Post")) (t' := (.object "com/example/slot3/slot3/frame/Post")) (by decide) (by decide)
theorem osn_8 {Z : State} {a0 : Array Value} (hw : ∀ d ∈ tables_1, d.before a0 Z = true) : RoadKit.slotOf Z "com/example/slot3/slot3/frame/Post" "following" "Lcom/example/slot3/slot3/frame/Post;" ≠ RoadKit.slotOf Z "com/example/slot3/slot3/frame/Post" "chain" "Lcom/example/slot3/slot3/frame/PostChain;" := slot_ne (C := "com/example/slot3/slot3/frame/Post") (Or.inl (ow_30 hw)) (Or.inl (ow_34 hw)) (by decide) (t := (.object "com/example/slot3/slot3/frame/Post")) (t' := (.object "com/example/slot3/slot3/frame/PostChain")) (by decide) (by decide)
theorem osn_9 {Z : State} {a0 : Array Value} (hw : ∀ d ∈ tables_1, d.before a0 Z = true) : RoadKit.slotOf Z "com/example/slot3/slot3/frame/Post" "previous" "Lcom/example/slot3/slot3/frame/Post;" ≠ RoadKit.slotOf Z "com/example/slot3/slot3/frame/Post" "chain" "Lcom/example/slot3/slot3/frame/PostChain;" := slot_ne (C := "com/example/slot3/slot3/frame/Post") (Or.inl (ow_32 hw)) (Or.inl (ow_34 hw)) (by decide) (t := (.object "com/example/slot3/slot3/frame/Post")) (t' := (.object "com/example/slot3/slot3/frame/PostChain")) (by decide) (by decide)
theorem oef_rm_ap1 (m : MethodId) (rc : Addr) (rp : Addr) : entryFrame m #[(.ref rc), (.ref rp)] 2 = mkF m 0 #[.val (.ref rc), .val (.ref rp)] [] := by first | (simp [entryFrame, mkF, argsToLocals, Value.category]; done) | rfl
set_option maxRecDepth 65536 in
set_option maxHeartbeats 40000000 in
theorem rm_ap1 (l : Launch) (Z : State) (a0 : Array Value) (hw : ∀ d ∈ tables_1, d.before a0 Z = true) (rc : Addr) (rp : Addr) (u0 : Int32) (w0 : Value) (w1 : Value) (w2 : Value) (w3 : Value) (h0 : Heap) (n0 : Nat) (Z0 : n0 ≤ h0.size) (P0 : Exa Z h0 rc "com/example/slot3/slot3/frame/PostChain") (P1 : Exa Z h0 rp "com/example/slot3/slot3/frame/Post") (P2 : Fld Z h0 rc "com/example/slot3/slot3/frame/PostChain" "first" "Lcom/example/slot3/slot3/frame/Post;" (w0)) (P3 : Fld Z h0 rc "com/example/slot3/slot3/frame/PostChain" "last" "Lcom/example/slot3/slot3/frame/Post;" (.null)) (P4 : Fld Z h0 rc "com/example/slot3/slot3/frame/PostChain" "count" "I" (.int u0)) (P5 : Fld Z h0 rp "com/example/slot3/slot3/frame/Post" "following" "Lcom/example/slot3/slot3/frame/Post;" (w1)) (P6 : Fld Z h0 rp "com/example/slot3/slot3/frame/Post" "previous" "Lcom/example/slot3/slot3/frame/Post;" (w2)) (P7 : Fld Z h0 rp "com/example/slot3/slot3/frame/Post" "chain" "Lcom/example/slot3/slot3/frame/PostChain;" (w3)) (g_rc : n0 ≤ rc) (g_rp : n0 ≤ rp) (ne_rc_rp : rc ≠ rp) :
    own_M l Z (⟨"com/example/slot3/slot3/frame/PostChain", "append", "(Lcom/example/slot3/slot3/frame/Post;)V"⟩ : MethodName) prog_11_method_3_code 2 none [] ({ frames := 0, cells := 0, slots := 0, locals := 0 } : Room) #[(.ref rc), (.ref rp)] h0 (fun v h L => v = none ∧ Fr n0 L ∧ (Keep h0 h [rc, rp]) ∧ (Fld Z h rc "com/example/slot3/slot3/frame/PostChain" "first" "Lcom/example/slot3/slot3/frame/Post;" (.ref rp)) ∧ (Fld Z h rc "com/example/slot3/slot3/frame/PostChain" "last" "Lcom/example/slot3/slot3/frame/Post;" (.ref rp)) ∧ (Fld Z h rc "com/example/slot3/slot3/frame/PostChain" "count" "I" (.int (u0 + (1 : Int32)))) ∧ (Fld Z h rp "com/example/slot3/slot3/frame/Post" "following" "Lcom/example/slot3/slot3/frame/Post;" (w1)) ∧ (Fld Z h rp "com/example/slot3/slot3/frame/Post" "previous" "Lcom/example/slot3/slot3/frame/Post;" (.null)) ∧ (Fld Z h rp "com/example/slot3/slot3/frame/Post" "chain" "Lcom/example/slot3/slot3/frame/PostChain;" (.ref rc))) 0 0 := by
  refine own_body (plainFor_of_name opn_com_example_slot3_slot3_frame_PostChain) ?_
  intro p e s m below meth c s1 hx hby hml hown hnm hret hlk hZ X0 e0
  rw [oef_rm_ap1 m rc rp]
  have N0 := Fr.nil n0
  refine own_aloadN X0 hx (hb hby od_prog_11_method_3_0) rfl rfl (pc' := 1) rfl ?_
  refine own_getF X0 hx hZ hown (ow_28 hw) e0 P3 (hb hby od_prog_11_method_3_1) (pc' := 4) rfl ?_
  intro T1 X1 e1
  refine own_ifnonnullF X1 hx (hb hby od_prog_11_method_3_4) (pc' := 7) rfl ?_
  refine own_aloadN X1 hx (hb hby od_prog_11_method_3_7) rfl rfl (pc' := 8) rfl ?_
  refine own_aloadN X1 hx (hb hby od_prog_11_method_3_8) rfl rfl (pc' := 9) rfl ?_
  refine own_putF X1 hx hZ hown (ow_27 hw) e1 P2 P0 (Or.inl (ow_17 hw)) (ow_1 hw) (ty := (.object "com/example/slot3/slot3/frame/Post")) (by decide) rfl rfl (hb hby od_prog_11_method_3_9) (pc' := 12) rfl ?_
  intro T2 h2 X2 e2 W2
  have N2 := Fr.snoc X2 N0 g_rc
  refine own_goto X2 hx (hb hby od_prog_11_method_3_12) (by decide) (pc' := 23) rfl ?_
  refine own_aloadN X2 hx (hb hby od_prog_11_method_3_23) rfl rfl (pc' := 24) rfl ?_
  refine own_aloadN X2 hx (hb hby od_prog_11_method_3_24) rfl rfl (pc' := 25) rfl ?_
  have f3 : Fld Z h2 rc "com/example/slot3/slot3/frame/PostChain" "last" "Lcom/example/slot3/slot3/frame/Post;" (.null) := (P3.other W2 (Or.inr (osn_0 hw)))
  refine own_getF X2 hx hZ hown (ow_28 hw) e2 f3 (hb hby od_prog_11_method_3_25) (pc' := 28) rfl ?_
  intro T4 X4 e4
  have f5 : Fld Z h2 rp "com/example/slot3/slot3/frame/Post" "previous" "Lcom/example/slot3/slot3/frame/Post;" (w2) := (P6.other W2 (Or.inl (Ne.symm ne_rc_rp)))
  have f6 : Exa Z h2 rp "com/example/slot3/slot3/frame/Post" := (P1.wr W2)
  refine own_putF X4 hx hZ hown (ow_31 hw) e4 f5 f6 (Or.inl (ow_32 hw)) (ow_10 hw) (ty := (.object "com/example/slot3/slot3/frame/Post")) (by decide) rfl rfl (hb hby od_prog_11_method_3_28) (pc' := 31) rfl ?_
  intro T7 h7 X7 e7 W7
  have N7 := Fr.snoc X7 N2 g_rp
  refine own_aloadN X7 hx (hb hby od_prog_11_method_3_31) rfl rfl (pc' := 32) rfl ?_
  refine own_aloadN X7 hx (hb hby od_prog_11_method_3_32) rfl rfl (pc' := 33) rfl ?_
  have f8 : Fld Z h7 rc "com/example/slot3/slot3/frame/PostChain" "last" "Lcom/example/slot3/slot3/frame/Post;" (.null) := (f3.other W7 (Or.inl ne_rc_rp))
  have f9 : Exa Z h7 rc "com/example/slot3/slot3/frame/PostChain" := ((P0.wr W2).wr W7)
  refine own_putF X7 hx hZ hown (ow_28 hw) e7 f8 f9 (Or.inl (ow_19 hw)) (ow_1 hw) (ty := (.object "com/example/slot3/slot3/frame/Post")) (by decide) rfl rfl (hb hby od_prog_11_method_3_33) (pc' := 36) rfl ?_
  intro T10 h10 X10 e10 W10
  have N10 := Fr.snoc X10 N7 g_rc
  refine own_aloadN X10 hx (hb hby od_prog_11_method_3_36) rfl rfl (pc' := 37) rfl ?_
  refine own_aloadN X10 hx (hb hby od_prog_11_method_3_37) rfl rfl (pc' := 38) rfl ?_
  have f11 : Fld Z h10 rp "com/example/slot3/slot3/frame/Post" "chain" "Lcom/example/slot3/slot3/frame/PostChain;" (w3) := (((P7.other W2 (Or.inl (Ne.symm ne_rc_rp))).other W7 (Or.inr (osn_1 hw))).other W10 (Or.inl (Ne.symm ne_rc_rp)))
  have f12 : Exa Z h10 rp "com/example/slot3/slot3/frame/Post" := ((f6.wr W7).wr W10)
  refine own_putF X10 hx hZ hown (ow_33 hw) e10 f11 f12 (Or.inl (ow_34 hw)) (ow_10 hw) (ty := (.object "com/example/slot3/slot3/frame/PostChain")) (by decide) rfl rfl (hb hby od_prog_11_method_3_38) (pc' := 41) rfl ?_
  intro T13 h13 X13 e13 W13
  have N13 := Fr.snoc X13 N10 g_rp
  refine own_aloadN X13 hx (hb hby od_prog_11_method_3_41) rfl rfl (pc' := 42) rfl ?_
  refine own_dup X13 hx (hb hby od_prog_11_method_3_42) rfl (pc' := 43) rfl ?_
  have f14 : Fld Z h13 rc "com/example/slot3/slot3/frame/PostChain" "count" "I" (.int u0) := ((((P4.other W2 (Or.inr (osn_2 hw))).other W7 (Or.inl ne_rc_rp)).other W10 (Or.inr (osn_3 hw))).other W13 (Or.inl ne_rc_rp))
  refine own_getF X13 hx hZ hown (ow_35 hw) e13 f14 (hb hby od_prog_11_method_3_43) (pc' := 46) rfl ?_
  intro T15 X15 e15
  refine own_iconst X15 hx (hb hby od_prog_11_method_3_46) (z := (1 : Int32)) rfl (pc' := 47) rfl ?_
  refine own_iadd X15 hx (hb hby od_prog_11_method_3_47) (pc' := 48) rfl ?_
  have f16 : Exa Z h13 rc "com/example/slot3/slot3/frame/PostChain" := ((f9.wr W10).wr W13)
  refine own_putF X15 hx hZ hown (ow_35 hw) e15 f14 f16 (Or.inl (ow_21 hw)) (ow_1 hw) (ty := .int) (by decide) rfl rfl (hb hby od_prog_11_method_3_48) (pc' := 51) rfl ?_
  intro T17 h17 X17 e17 W17
  have N17 := Fr.snoc X17 N13 g_rc
  have k23 : Keep h0 h17 [rc, rp] := (Keep.wr (Keep.wr (Keep.wr (Keep.wr (Keep.wr (Keep.refl _ _) W2 (Or.inl (List.mem_of_getElem? (i := 0) rfl))) W7 (Or.inl (List.mem_of_getElem? (i := 1) rfl))) W10 (Or.inl (List.mem_of_getElem? (i := 0) rfl))) W13 (Or.inl (List.mem_of_getElem? (i := 1) rfl))) W17 (Or.inl (List.mem_of_getElem? (i := 0) rfl)))
  have f24 : Fld Z h17 rc "com/example/slot3/slot3/frame/PostChain" "first" "Lcom/example/slot3/slot3/frame/Post;" (.ref rp) := (((((P2.same W2).other W7 (Or.inl ne_rc_rp)).other W10 (Or.inr (osn_4 hw))).other W13 (Or.inl ne_rc_rp)).other W17 (Or.inr (osn_5 hw)))
  have f25 : Fld Z h17 rc "com/example/slot3/slot3/frame/PostChain" "last" "Lcom/example/slot3/slot3/frame/Post;" (.ref rp) := (((f8.same W10).other W13 (Or.inl ne_rc_rp)).other W17 (Or.inr (osn_6 hw)))
  have f26 : Fld Z h17 rp "com/example/slot3/slot3/frame/Post" "following" "Lcom/example/slot3/slot3/frame/Post;" (w1) := (((((P5.other W2 (Or.inl (Ne.symm ne_rc_rp))).other W7 (Or.inr (osn_7 hw))).other W10 (Or.inl (Ne.symm ne_rc_rp))).other W13 (Or.inr (osn_8 hw))).other W17 (Or.inl (Ne.symm ne_rc_rp)))
  have f27 : Fld Z h17 rp "com/example/slot3/slot3/frame/Post" "previous" "Lcom/example/slot3/slot3/frame/Post;" (.null) := ((((f5.same W7).other W10 (Or.inl (Ne.symm ne_rc_rp))).other W13 (Or.inr (osn_9 hw))).other W17 (Or.inl (Ne.symm ne_rc_rp)))
  have f28 : Fld Z h17 rp "com/example/slot3/slot3/frame/Post" "chain" "Lcom/example/slot3/slot3/frame/PostChain;" (.ref rc) := ((f11.same W13).other W17 (Or.inl (Ne.symm ne_rc_rp)))
  exact own_retV X17 hx hret hlk (hb hby od_prog_11_method_3_51) ⟨rfl, N17, (by rw [e17]; exact k23), (by rw [e17]; exact f24), (by rw [e17]; exact f25), (by rw [e17]; exact (f14.same W17)), (by rw [e17]; exact f26), (by rw [e17]; exact f27), (by rw [e17]; exact f28)⟩ (by decide) (by decide)
theorem od_prog_11_method_3_15 : decode prog_11_method_3_code 15 = .ok (.aload_n 0, 1) := by decide +kernel
theorem od_prog_11_method_3_16 : decode prog_11_method_3_code 16 = .ok (.getfield 13, 3) := by decide +kernel
theorem od_prog_11_method_3_19 : decode prog_11_method_3_code 19 = .ok (.aload_n 1, 1) := by decide +kernel
theorem od_prog_11_method_3_20 : decode prog_11_method_3_code 20 = .ok (.putfield 21, 3) := by decide +kernel
theorem ow_29 {Z : State} {a0 : Array Value} (hw : ∀ d ∈ tables_1, d.before a0 Z = true) : (Jvm.Cond.fieldLink "com/example/slot3/slot3/frame/PostChain" (21 : Nat) "com/example/slot3/slot3/frame/Post" "following" "Lcom/example/slot3/slot3/frame/Post;").before a0 Z = true := hw _ (List.mem_of_getElem? (i := 29) rfl)
theorem osn_10 {Z : State} {a0 : Array Value} (hw : ∀ d ∈ tables_1, d.before a0 Z = true) : RoadKit.slotOf Z "com/example/slot3/slot3/frame/Post" "previous" "Lcom/example/slot3/slot3/frame/Post;" ≠ RoadKit.slotOf Z "com/example/slot3/slot3/frame/Post" "following" "Lcom/example/slot3/slot3/frame/Post;" := slot_ne (C := "com/example/slot3/slot3/frame/Post") (Or.inl (ow_32 hw)) (Or.inl (ow_30 hw)) (by decide) (t := (.object "com/example/slot3/slot3/frame/Post")) (t' := (.object "com/example/slot3/slot3/frame/Post")) (by decide) (by decide)
theorem osn_11 {Z : State} {a0 : Array Value} (hw : ∀ d ∈ tables_1, d.before a0 Z = true) : RoadKit.slotOf Z "com/example/slot3/slot3/frame/Post" "chain" "Lcom/example/slot3/slot3/frame/PostChain;" ≠ RoadKit.slotOf Z "com/example/slot3/slot3/frame/Post" "following" "Lcom/example/slot3/slot3/frame/Post;" := slot_ne (C := "com/example/slot3/slot3/frame/Post") (Or.inl (ow_34 hw)) (Or.inl (ow_30 hw)) (by decide) (t := (.object "com/example/slot3/slot3/frame/PostChain")) (t' := (.object "com/example/slot3/slot3/frame/Post")) (by decide) (by decide)
theorem oef_rm_ap2 (m : MethodId) (rc : Addr) (rp : Addr) : entryFrame m #[(.ref rc), (.ref rp)] 2 = mkF m 0 #[.val (.ref rc), .val (.ref rp)] [] := by first | (simp [entryFrame, mkF, argsToLocals, Value.category]; done) | rfl
set_option maxRecDepth 65536 in
set_option maxHeartbeats 40000000 in
theorem rm_ap2 (l : Launch) (Z : State) (a0 : Array Value) (hw : ∀ d ∈ tables_1, d.before a0 Z = true) (rc : Addr) (rp : Addr) (rq : Addr) (u0 : Int32) (w0 : Value) (w1 : Value) (w2 : Value) (w3 : Value) (w4 : Value) (w5 : Value) (w6 : Value) (h0 : Heap) (n0 : Nat) (Z0 : n0 ≤ h0.size) (P0 : Exa Z h0 rc "com/example/slot3/slot3/frame/PostChain") (P1 : Exa Z h0 rp "com/example/slot3/slot3/frame/Post") (P2 : Fld Z h0 rc "com/example/slot3/slot3/frame/PostChain" "first" "Lcom/example/slot3/slot3/frame/Post;" (w0)) (P3 : Fld Z h0 rc "com/example/slot3/slot3/frame/PostChain" "last" "Lcom/example/slot3/slot3/frame/Post;" (.ref rq)) (P4 : Fld Z h0 rc "com/example/slot3/slot3/frame/PostChain" "count" "I" (.int u0)) (P5 : Exa Z h0 rq "com/example/slot3/slot3/frame/Post") (P6 : Fld Z h0 rp "com/example/slot3/slot3/frame/Post" "following" "Lcom/example/slot3/slot3/frame/Post;" (w1)) (P7 : Fld Z h0 rp "com/example/slot3/slot3/frame/Post" "previous" "Lcom/example/slot3/slot3/frame/Post;" (w2)) (P8 : Fld Z h0 rp "com/example/slot3/slot3/frame/Post" "chain" "Lcom/example/slot3/slot3/frame/PostChain;" (w3)) (P9 : Fld Z h0 rq "com/example/slot3/slot3/frame/Post" "following" "Lcom/example/slot3/slot3/frame/Post;" (w4)) (P10 : Fld Z h0 rq "com/example/slot3/slot3/frame/Post" "previous" "Lcom/example/slot3/slot3/frame/Post;" (w5)) (P11 : Fld Z h0 rq "com/example/slot3/slot3/frame/Post" "chain" "Lcom/example/slot3/slot3/frame/PostChain;" (w6)) (g_rc : n0 ≤ rc) (g_rp : n0 ≤ rp) (g_rq : n0 ≤ rq) (ne_rc_rp : rc ≠ rp) (ne_rc_rq : rc ≠ rq) (ne_rp_rq : rp ≠ rq) :
    own_M l Z (⟨"com/example/slot3/slot3/frame/PostChain", "append", "(Lcom/example/slot3/slot3/frame/Post;)V"⟩ : MethodName) prog_11_method_3_code 2 none [] ({ frames := 0, cells := 0, slots := 0, locals := 0 } : Room) #[(.ref rc), (.ref rp)] h0 (fun v h L => v = none ∧ Fr n0 L ∧ (Keep h0 h [rc, rp, rq]) ∧ (Fld Z h rc "com/example/slot3/slot3/frame/PostChain" "first" "Lcom/example/slot3/slot3/frame/Post;" (w0)) ∧ (Fld Z h rc "com/example/slot3/slot3/frame/PostChain" "last" "Lcom/example/slot3/slot3/frame/Post;" (.ref rp)) ∧ (Fld Z h rc "com/example/slot3/slot3/frame/PostChain" "count" "I" (.int (u0 + (1 : Int32)))) ∧ (Fld Z h rp "com/example/slot3/slot3/frame/Post" "following" "Lcom/example/slot3/slot3/frame/Post;" (w1)) ∧ (Fld Z h rp "com/example/slot3/slot3/frame/Post" "previous" "Lcom/example/slot3/slot3/frame/Post;" (.ref rq)) ∧ (Fld Z h rp "com/example/slot3/slot3/frame/Post" "chain" "Lcom/example/slot3/slot3/frame/PostChain;" (.ref rc)) ∧ (Fld Z h rq "com/example/slot3/slot3/frame/Post" "following" "Lcom/example/slot3/slot3/frame/Post;" (.ref rp)) ∧ (Fld Z h rq "com/example/slot3/slot3/frame/Post" "previous" "Lcom/example/slot3/slot3/frame/Post;" (w5)) ∧ (Fld Z h rq "com/example/slot3/slot3/frame/Post" "chain" "Lcom/example/slot3/slot3/frame/PostChain;" (w6))) 0 0 := by
  refine own_body (plainFor_of_name opn_com_example_slot3_slot3_frame_PostChain) ?_
  intro p e s m below meth c s1 hx hby hml hown hnm hret hlk hZ X0 e0
  rw [oef_rm_ap2 m rc rp]
  have N0 := Fr.nil n0
  refine own_aloadN X0 hx (hb hby od_prog_11_method_3_0) rfl rfl (pc' := 1) rfl ?_
  refine own_getF X0 hx hZ hown (ow_28 hw) e0 P3 (hb hby od_prog_11_method_3_1) (pc' := 4) rfl ?_
  intro T1 X1 e1
  refine own_ifnonnullT X1 hx (hb hby od_prog_11_method_3_4) (by decide) (pc' := 15) rfl ?_
  refine own_aloadN X1 hx (hb hby od_prog_11_method_3_15) rfl rfl (pc' := 16) rfl ?_
  refine own_getF X1 hx hZ hown (ow_28 hw) e1 P3 (hb hby od_prog_11_method_3_16) (pc' := 19) rfl ?_
  intro T2 X2 e2
  refine own_aloadN X2 hx (hb hby od_prog_11_method_3_19) rfl rfl (pc' := 20) rfl ?_
  refine own_putF X2 hx hZ hown (ow_29 hw) e2 P9 P5 (Or.inl (ow_30 hw)) (ow_10 hw) (ty := (.object "com/example/slot3/slot3/frame/Post")) (by decide) rfl rfl (hb hby od_prog_11_method_3_20) (pc' := 23) rfl ?_
  intro T3 h3 X3 e3 W3
  have N3 := Fr.snoc X3 N0 g_rq
  refine own_aloadN X3 hx (hb hby od_prog_11_method_3_23) rfl rfl (pc' := 24) rfl ?_
  refine own_aloadN X3 hx (hb hby od_prog_11_method_3_24) rfl rfl (pc' := 25) rfl ?_
  have f4 : Fld Z h3 rc "com/example/slot3/slot3/frame/PostChain" "last" "Lcom/example/slot3/slot3/frame/Post;" (.ref rq) := (P3.other W3 (Or.inl ne_rc_rq))
  refine own_getF X3 hx hZ hown (ow_28 hw) e3 f4 (hb hby od_prog_11_method_3_25) (pc' := 28) rfl ?_
  intro T5 X5 e5
  have f6 : Fld Z h3 rp "com/example/slot3/slot3/frame/Post" "previous" "Lcom/example/slot3/slot3/frame/Post;" (w2) := (P7.other W3 (Or.inl ne_rp_rq))
  have f7 : Exa Z h3 rp "com/example/slot3/slot3/frame/Post" := (P1.wr W3)
  refine own_putF X5 hx hZ hown (ow_31 hw) e5 f6 f7 (Or.inl (ow_32 hw)) (ow_10 hw) (ty := (.object "com/example/slot3/slot3/frame/Post")) (by decide) rfl rfl (hb hby od_prog_11_method_3_28) (pc' := 31) rfl ?_
  intro T8 h8 X8 e8 W8
  have N8 := Fr.snoc X8 N3 g_rp
  refine own_aloadN X8 hx (hb hby od_prog_11_method_3_31) rfl rfl (pc' := 32) rfl ?_
  refine own_aloadN X8 hx (hb hby od_prog_11_method_3_32) rfl rfl (pc' := 33) rfl ?_
  have f9 : Fld Z h8 rc "com/example/slot3/slot3/frame/PostChain" "last" "Lcom/example/slot3/slot3/frame/Post;" (.ref rq) := (f4.other W8 (Or.inl ne_rc_rp))
  have f10 : Exa Z h8 rc "com/example/slot3/slot3/frame/PostChain" := ((P0.wr W3).wr W8)
  refine own_putF X8 hx hZ hown (ow_28 hw) e8 f9 f10 (Or.inl (ow_19 hw)) (ow_1 hw) (ty := (.object "com/example/slot3/slot3/frame/Post")) (by decide) rfl rfl (hb hby od_prog_11_method_3_33) (pc' := 36) rfl ?_
  intro T11 h11 X11 e11 W11
  have N11 := Fr.snoc X11 N8 g_rc
  refine own_aloadN X11 hx (hb hby od_prog_11_method_3_36) rfl rfl (pc' := 37) rfl ?_
  refine own_aloadN X11 hx (hb hby od_prog_11_method_3_37) rfl rfl (pc' := 38) rfl ?_
  have f12 : Fld Z h11 rp "com/example/slot3/slot3/frame/Post" "chain" "Lcom/example/slot3/slot3/frame/PostChain;" (w3) := (((P8.other W3 (Or.inl ne_rp_rq)).other W8 (Or.inr (osn_1 hw))).other W11 (Or.inl (Ne.symm ne_rc_rp)))
  have f13 : Exa Z h11 rp "com/example/slot3/slot3/frame/Post" := ((f7.wr W8).wr W11)
  refine own_putF X11 hx hZ hown (ow_33 hw) e11 f12 f13 (Or.inl (ow_34 hw)) (ow_10 hw) (ty := (.object "com/example/slot3/slot3/frame/PostChain")) (by decide) rfl rfl (hb hby od_prog_11_method_3_38) (pc' := 41) rfl ?_
  intro T14 h14 X14 e14 W14
  have N14 := Fr.snoc X14 N11 g_rp
  refine own_aloadN X14 hx (hb hby od_prog_11_method_3_41) rfl rfl (pc' := 42) rfl ?_
  refine own_dup X14 hx (hb hby od_prog_11_method_3_42) rfl (pc' := 43) rfl ?_
  have f15 : Fld Z h14 rc "com/example/slot3/slot3/frame/PostChain" "count" "I" (.int u0) := ((((P4.other W3 (Or.inl ne_rc_rq)).other W8 (Or.inl ne_rc_rp)).other W11 (Or.inr (osn_3 hw))).other W14 (Or.inl ne_rc_rp))
  refine own_getF X14 hx hZ hown (ow_35 hw) e14 f15 (hb hby od_prog_11_method_3_43) (pc' := 46) rfl ?_
  intro T16 X16 e16
  refine own_iconst X16 hx (hb hby od_prog_11_method_3_46) (z := (1 : Int32)) rfl (pc' := 47) rfl ?_
  refine own_iadd X16 hx (hb hby od_prog_11_method_3_47) (pc' := 48) rfl ?_
  have f17 : Exa Z h14 rc "com/example/slot3/slot3/frame/PostChain" := ((f10.wr W11).wr W14)
  refine own_putF X16 hx hZ hown (ow_35 hw) e16 f15 f17 (Or.inl (ow_21 hw)) (ow_1 hw) (ty := .int) (by decide) rfl rfl (hb hby od_prog_11_method_3_48) (pc' := 51) rfl ?_
  intro T18 h18 X18 e18 W18
  have N18 := Fr.snoc X18 N14 g_rc
  have k24 : Keep h0 h18 [rc, rp, rq] := (Keep.wr (Keep.wr (Keep.wr (Keep.wr (Keep.wr (Keep.refl _ _) W3 (Or.inl (List.mem_of_getElem? (i := 2) rfl))) W8 (Or.inl (List.mem_of_getElem? (i := 1) rfl))) W11 (Or.inl (List.mem_of_getElem? (i := 0) rfl))) W14 (Or.inl (List.mem_of_getElem? (i := 1) rfl))) W18 (Or.inl (List.mem_of_getElem? (i := 0) rfl)))
  have f25 : Fld Z h18 rc "com/example/slot3/slot3/frame/PostChain" "first" "Lcom/example/slot3/slot3/frame/Post;" (w0) := (((((P2.other W3 (Or.inl ne_rc_rq)).other W8 (Or.inl ne_rc_rp)).other W11 (Or.inr (osn_4 hw))).other W14 (Or.inl ne_rc_rp)).other W18 (Or.inr (osn_5 hw)))
  have f26 : Fld Z h18 rc "com/example/slot3/slot3/frame/PostChain" "last" "Lcom/example/slot3/slot3/frame/Post;" (.ref rp) := (((f9.same W11).other W14 (Or.inl ne_rc_rp)).other W18 (Or.inr (osn_6 hw)))
  have f27 : Fld Z h18 rp "com/example/slot3/slot3/frame/Post" "following" "Lcom/example/slot3/slot3/frame/Post;" (w1) := (((((P6.other W3 (Or.inl ne_rp_rq)).other W8 (Or.inr (osn_7 hw))).other W11 (Or.inl (Ne.symm ne_rc_rp))).other W14 (Or.inr (osn_8 hw))).other W18 (Or.inl (Ne.symm ne_rc_rp)))
  have f28 : Fld Z h18 rp "com/example/slot3/slot3/frame/Post" "previous" "Lcom/example/slot3/slot3/frame/Post;" (.ref rq) := ((((f6.same W8).other W11 (Or.inl (Ne.symm ne_rc_rp))).other W14 (Or.inr (osn_9 hw))).other W18 (Or.inl (Ne.symm ne_rc_rp)))
  have f29 : Fld Z h18 rp "com/example/slot3/slot3/frame/Post" "chain" "Lcom/example/slot3/slot3/frame/PostChain;" (.ref rc) := ((f12.same W14).other W18 (Or.inl (Ne.symm ne_rc_rp)))
  have f30 : Fld Z h18 rq "com/example/slot3/slot3/frame/Post" "following" "Lcom/example/slot3/slot3/frame/Post;" (.ref rp) := (((((P9.same W3).other W8 (Or.inl (Ne.symm ne_rp_rq))).other W11 (Or.inl (Ne.symm ne_rc_rq))).other W14 (Or.inl (Ne.symm ne_rp_rq))).other W18 (Or.inl (Ne.symm ne_rc_rq)))
  have f31 : Fld Z h18 rq "com/example/slot3/slot3/frame/Post" "previous" "Lcom/example/slot3/slot3/frame/Post;" (w5) := (((((P10.other W3 (Or.inr (osn_10 hw))).other W8 (Or.inl (Ne.symm ne_rp_rq))).other W11 (Or.inl (Ne.symm ne_rc_rq))).other W14 (Or.inl (Ne.symm ne_rp_rq))).other W18 (Or.inl (Ne.symm ne_rc_rq)))
  have f32 : Fld Z h18 rq "com/example/slot3/slot3/frame/Post" "chain" "Lcom/example/slot3/slot3/frame/PostChain;" (w6) := (((((P11.other W3 (Or.inr (osn_11 hw))).other W8 (Or.inl (Ne.symm ne_rp_rq))).other W11 (Or.inl (Ne.symm ne_rc_rq))).other W14 (Or.inl (Ne.symm ne_rp_rq))).other W18 (Or.inl (Ne.symm ne_rc_rq)))
  exact own_retV X18 hx hret hlk (hb hby od_prog_11_method_3_51) ⟨rfl, N18, (by rw [e18]; exact k24), (by rw [e18]; exact f25), (by rw [e18]; exact f26), (by rw [e18]; exact (f15.same W18)), (by rw [e18]; exact f27), (by rw [e18]; exact f28), (by rw [e18]; exact f29), (by rw [e18]; exact f30), (by rw [e18]; exact f31), (by rw [e18]; exact f32)⟩ (by decide) (by decide)
theorem od_prog_11_method_2_0 : decode prog_11_method_2_code 0 = .ok (.aload_n 0, 1) := by decide +kernel
theorem od_prog_11_method_2_1 : decode prog_11_method_2_code 1 = .ok (.getfield 7, 3) := by decide +kernel
theorem od_prog_11_method_2_4 : decode prog_11_method_2_code 4 = .ok (.ifnonnull 11, 3) := by decide +kernel
theorem od_prog_11_method_2_7 : decode prog_11_method_2_code 7 = .ok (.aload_n 0, 1) := by decide +kernel
theorem od_prog_11_method_2_8 : decode prog_11_method_2_code 8 = .ok (.aload_n 1, 1) := by decide +kernel
theorem od_prog_11_method_2_9 : decode prog_11_method_2_code 9 = .ok (.putfield 13, 3) := by decide +kernel
theorem od_prog_11_method_2_12 : decode prog_11_method_2_code 12 = .ok (.goto 11, 3) := by decide +kernel
theorem od_prog_11_method_2_23 : decode prog_11_method_2_code 23 = .ok (.aload_n 1, 1) := by decide +kernel
theorem od_prog_11_method_2_24 : decode prog_11_method_2_code 24 = .ok (.aload_n 0, 1) := by decide +kernel
theorem od_prog_11_method_2_25 : decode prog_11_method_2_code 25 = .ok (.getfield 7, 3) := by decide +kernel
theorem od_prog_11_method_2_28 : decode prog_11_method_2_code 28 = .ok (.putfield 21, 3) := by decide +kernel
theorem od_prog_11_method_2_31 : decode prog_11_method_2_code 31 = .ok (.aload_n 1, 1) := by decide +kernel
theorem od_prog_11_method_2_32 : decode prog_11_method_2_code 32 = .ok (.aconst_null, 1) := by decide +kernel
theorem od_prog_11_method_2_33 : decode prog_11_method_2_code 33 = .ok (.putfield 16, 3) := by decide +kernel
theorem od_prog_11_method_2_36 : decode prog_11_method_2_code 36 = .ok (.aload_n 0, 1) := by decide +kernel
theorem od_prog_11_method_2_37 : decode prog_11_method_2_code 37 = .ok (.aload_n 1, 1) := by decide +kernel
theorem od_prog_11_method_2_38 : decode prog_11_method_2_code 38 = .ok (.putfield 7, 3) := by decide +kernel
theorem od_prog_11_method_2_41 : decode prog_11_method_2_code 41 = .ok (.aload_n 1, 1) := by decide +kernel
theorem od_prog_11_method_2_42 : decode prog_11_method_2_code 42 = .ok (.aload_n 0, 1) := by decide +kernel
theorem od_prog_11_method_2_43 : decode prog_11_method_2_code 43 = .ok (.putfield 24, 3) := by decide +kernel
theorem od_prog_11_method_2_46 : decode prog_11_method_2_code 46 = .ok (.aload_n 0, 1) := by decide +kernel
theorem od_prog_11_method_2_47 : decode prog_11_method_2_code 47 = .ok (.dup, 1) := by decide +kernel
theorem od_prog_11_method_2_48 : decode prog_11_method_2_code 48 = .ok (.getfield 28, 3) := by decide +kernel
theorem od_prog_11_method_2_51 : decode prog_11_method_2_code 51 = .ok (.iconst 1, 1) := by decide +kernel
theorem od_prog_11_method_2_52 : decode prog_11_method_2_code 52 = .ok (.iadd, 1) := by decide +kernel
theorem od_prog_11_method_2_53 : decode prog_11_method_2_code 53 = .ok (.putfield 28, 3) := by decide +kernel
theorem od_prog_11_method_2_56 : decode prog_11_method_2_code 56 = .ok (.return_, 1) := by decide +kernel
theorem oef_rm_pu1 (m : MethodId) (rc : Addr) (rp : Addr) : entryFrame m #[(.ref rc), (.ref rp)] 2 = mkF m 0 #[.val (.ref rc), .val (.ref rp)] [] := by first | (simp [entryFrame, mkF, argsToLocals, Value.category]; done) | rfl
set_option maxRecDepth 65536 in
set_option maxHeartbeats 40000000 in
theorem rm_pu1 (l : Launch) (Z : State) (a0 : Array Value) (hw : ∀ d ∈ tables_1, d.before a0 Z = true) (rc : Addr) (rp : Addr) (u0 : Int32) (w0 : Value) (w1 : Value) (w2 : Value) (w3 : Value) (h0 : Heap) (n0 : Nat) (Z0 : n0 ≤ h0.size) (P0 : Exa Z h0 rc "com/example/slot3/slot3/frame/PostChain") (P1 : Exa Z h0 rp "com/example/slot3/slot3/frame/Post") (P2 : Fld Z h0 rc "com/example/slot3/slot3/frame/PostChain" "first" "Lcom/example/slot3/slot3/frame/Post;" (.null)) (P3 : Fld Z h0 rc "com/example/slot3/slot3/frame/PostChain" "last" "Lcom/example/slot3/slot3/frame/Post;" (w0)) (P4 : Fld Z h0 rc "com/example/slot3/slot3/frame/PostChain" "count" "I" (.int u0)) (P5 : Fld Z h0 rp "com/example/slot3/slot3/frame/Post" "following" "Lcom/example/slot3/slot3/frame/Post;" (w1)) (P6 : Fld Z h0 rp "com/example/slot3/slot3/frame/Post" "previous" "Lcom/example/slot3/slot3/frame/Post;" (w2)) (P7 : Fld Z h0 rp "com/example/slot3/slot3/frame/Post" "chain" "Lcom/example/slot3/slot3/frame/PostChain;" (w3)) (g_rc : n0 ≤ rc) (g_rp : n0 ≤ rp) (ne_rc_rp : rc ≠ rp) :
    own_M l Z (⟨"com/example/slot3/slot3/frame/PostChain", "push", "(Lcom/example/slot3/slot3/frame/Post;)V"⟩ : MethodName) prog_11_method_2_code 2 none [] ({ frames := 0, cells := 0, slots := 0, locals := 0 } : Room) #[(.ref rc), (.ref rp)] h0 (fun v h L => v = none ∧ Fr n0 L ∧ (Keep h0 h [rc, rp]) ∧ (Fld Z h rc "com/example/slot3/slot3/frame/PostChain" "first" "Lcom/example/slot3/slot3/frame/Post;" (.ref rp)) ∧ (Fld Z h rc "com/example/slot3/slot3/frame/PostChain" "last" "Lcom/example/slot3/slot3/frame/Post;" (.ref rp)) ∧ (Fld Z h rc "com/example/slot3/slot3/frame/PostChain" "count" "I" (.int (u0 + (1 : Int32)))) ∧ (Fld Z h rp "com/example/slot3/slot3/frame/Post" "following" "Lcom/example/slot3/slot3/frame/Post;" (.null)) ∧ (Fld Z h rp "com/example/slot3/slot3/frame/Post" "previous" "Lcom/example/slot3/slot3/frame/Post;" (.null)) ∧ (Fld Z h rp "com/example/slot3/slot3/frame/Post" "chain" "Lcom/example/slot3/slot3/frame/PostChain;" (.ref rc))) 0 0 := by
  refine own_body (plainFor_of_name opn_com_example_slot3_slot3_frame_PostChain) ?_
  intro p e s m below meth c s1 hx hby hml hown hnm hret hlk hZ X0 e0
  rw [oef_rm_pu1 m rc rp]
  have N0 := Fr.nil n0
  refine own_aloadN X0 hx (hb hby od_prog_11_method_2_0) rfl rfl (pc' := 1) rfl ?_
  refine own_getF X0 hx hZ hown (ow_27 hw) e0 P2 (hb hby od_prog_11_method_2_1) (pc' := 4) rfl ?_
  intro T1 X1 e1
  refine own_ifnonnullF X1 hx (hb hby od_prog_11_method_2_4) (pc' := 7) rfl ?_
  refine own_aloadN X1 hx (hb hby od_prog_11_method_2_7) rfl rfl (pc' := 8) rfl ?_
  refine own_aloadN X1 hx (hb hby od_prog_11_method_2_8) rfl rfl (pc' := 9) rfl ?_
  refine own_putF X1 hx hZ hown (ow_28 hw) e1 P3 P0 (Or.inl (ow_19 hw)) (ow_1 hw) (ty := (.object "com/example/slot3/slot3/frame/Post")) (by decide) rfl rfl (hb hby od_prog_11_method_2_9) (pc' := 12) rfl ?_
  intro T2 h2 X2 e2 W2
  have N2 := Fr.snoc X2 N0 g_rc
  refine own_goto X2 hx (hb hby od_prog_11_method_2_12) (by decide) (pc' := 23) rfl ?_
  refine own_aloadN X2 hx (hb hby od_prog_11_method_2_23) rfl rfl (pc' := 24) rfl ?_
  refine own_aloadN X2 hx (hb hby od_prog_11_method_2_24) rfl rfl (pc' := 25) rfl ?_
  have f3 : Fld Z h2 rc "com/example/slot3/slot3/frame/PostChain" "first" "Lcom/example/slot3/slot3/frame/Post;" (.null) := (P2.other W2 (Or.inr (osn_4 hw)))
  refine own_getF X2 hx hZ hown (ow_27 hw) e2 f3 (hb hby od_prog_11_method_2_25) (pc' := 28) rfl ?_
  intro T4 X4 e4
  have f5 : Fld Z h2 rp "com/example/slot3/slot3/frame/Post" "following" "Lcom/example/slot3/slot3/frame/Post;" (w1) := (P5.other W2 (Or.inl (Ne.symm ne_rc_rp)))
  have f6 : Exa Z h2 rp "com/example/slot3/slot3/frame/Post" := (P1.wr W2)
  refine own_putF X4 hx hZ hown (ow_29 hw) e4 f5 f6 (Or.inl (ow_30 hw)) (ow_10 hw) (ty := (.object "com/example/slot3/slot3/frame/Post")) (by decide) rfl rfl (hb hby od_prog_11_method_2_28) (pc' := 31) rfl ?_
  intro T7 h7 X7 e7 W7
  have N7 := Fr.snoc X7 N2 g_rp
  refine own_aloadN X7 hx (hb hby od_prog_11_method_2_31) rfl rfl (pc' := 32) rfl ?_
  refine own_aconstNull X7 hx (hb hby od_prog_11_method_2_32) (pc' := 33) rfl ?_
  have f8 : Fld Z h7 rp "com/example/slot3/slot3/frame/Post" "previous" "Lcom/example/slot3/slot3/frame/Post;" (w2) := ((P6.other W2 (Or.inl (Ne.symm ne_rc_rp))).other W7 (Or.inr (osn_10 hw)))
  have f9 : Exa Z h7 rp "com/example/slot3/slot3/frame/Post" := (f6.wr W7)
  refine own_putF X7 hx hZ hown (ow_31 hw) e7 f8 f9 (Or.inl (ow_32 hw)) (ow_10 hw) (ty := (.object "com/example/slot3/slot3/frame/Post")) (by decide) rfl rfl (hb hby od_prog_11_method_2_33) (pc' := 36) rfl ?_
  intro T10 h10 X10 e10 W10
  have N10 := Fr.snoc X10 N7 g_rp
  refine own_aloadN X10 hx (hb hby od_prog_11_method_2_36) rfl rfl (pc' := 37) rfl ?_
  refine own_aloadN X10 hx (hb hby od_prog_11_method_2_37) rfl rfl (pc' := 38) rfl ?_
  have f11 : Fld Z h10 rc "com/example/slot3/slot3/frame/PostChain" "first" "Lcom/example/slot3/slot3/frame/Post;" (.null) := ((f3.other W7 (Or.inl ne_rc_rp)).other W10 (Or.inl ne_rc_rp))
  have f12 : Exa Z h10 rc "com/example/slot3/slot3/frame/PostChain" := (((P0.wr W2).wr W7).wr W10)
  refine own_putF X10 hx hZ hown (ow_27 hw) e10 f11 f12 (Or.inl (ow_17 hw)) (ow_1 hw) (ty := (.object "com/example/slot3/slot3/frame/Post")) (by decide) rfl rfl (hb hby od_prog_11_method_2_38) (pc' := 41) rfl ?_
  intro T13 h13 X13 e13 W13
  have N13 := Fr.snoc X13 N10 g_rc
  refine own_aloadN X13 hx (hb hby od_prog_11_method_2_41) rfl rfl (pc' := 42) rfl ?_
  refine own_aloadN X13 hx (hb hby od_prog_11_method_2_42) rfl rfl (pc' := 43) rfl ?_
  have f14 : Fld Z h13 rp "com/example/slot3/slot3/frame/Post" "chain" "Lcom/example/slot3/slot3/frame/PostChain;" (w3) := ((((P7.other W2 (Or.inl (Ne.symm ne_rc_rp))).other W7 (Or.inr (osn_11 hw))).other W10 (Or.inr (osn_1 hw))).other W13 (Or.inl (Ne.symm ne_rc_rp)))
  have f15 : Exa Z h13 rp "com/example/slot3/slot3/frame/Post" := ((f9.wr W10).wr W13)
  refine own_putF X13 hx hZ hown (ow_33 hw) e13 f14 f15 (Or.inl (ow_34 hw)) (ow_10 hw) (ty := (.object "com/example/slot3/slot3/frame/PostChain")) (by decide) rfl rfl (hb hby od_prog_11_method_2_43) (pc' := 46) rfl ?_
  intro T16 h16 X16 e16 W16
  have N16 := Fr.snoc X16 N13 g_rp
  refine own_aloadN X16 hx (hb hby od_prog_11_method_2_46) rfl rfl (pc' := 47) rfl ?_
  refine own_dup X16 hx (hb hby od_prog_11_method_2_47) rfl (pc' := 48) rfl ?_
  have f17 : Fld Z h16 rc "com/example/slot3/slot3/frame/PostChain" "count" "I" (.int u0) := (((((P4.other W2 (Or.inr (osn_3 hw))).other W7 (Or.inl ne_rc_rp)).other W10 (Or.inl ne_rc_rp)).other W13 (Or.inr (osn_2 hw))).other W16 (Or.inl ne_rc_rp))
  refine own_getF X16 hx hZ hown (ow_35 hw) e16 f17 (hb hby od_prog_11_method_2_48) (pc' := 51) rfl ?_
  intro T18 X18 e18
  refine own_iconst X18 hx (hb hby od_prog_11_method_2_51) (z := (1 : Int32)) rfl (pc' := 52) rfl ?_
  refine own_iadd X18 hx (hb hby od_prog_11_method_2_52) (pc' := 53) rfl ?_
  have f19 : Exa Z h16 rc "com/example/slot3/slot3/frame/PostChain" := ((f12.wr W13).wr W16)
  refine own_putF X18 hx hZ hown (ow_35 hw) e18 f17 f19 (Or.inl (ow_21 hw)) (ow_1 hw) (ty := .int) (by decide) rfl rfl (hb hby od_prog_11_method_2_53) (pc' := 56) rfl ?_
  intro T20 h20 X20 e20 W20
  have N20 := Fr.snoc X20 N16 g_rc
  have k27 : Keep h0 h20 [rc, rp] := (Keep.wr (Keep.wr (Keep.wr (Keep.wr (Keep.wr (Keep.wr (Keep.refl _ _) W2 (Or.inl (List.mem_of_getElem? (i := 0) rfl))) W7 (Or.inl (List.mem_of_getElem? (i := 1) rfl))) W10 (Or.inl (List.mem_of_getElem? (i := 1) rfl))) W13 (Or.inl (List.mem_of_getElem? (i := 0) rfl))) W16 (Or.inl (List.mem_of_getElem? (i := 1) rfl))) W20 (Or.inl (List.mem_of_getElem? (i := 0) rfl)))
  have f28 : Fld Z h20 rc "com/example/slot3/slot3/frame/PostChain" "first" "Lcom/example/slot3/slot3/frame/Post;" (.ref rp) := (((f11.same W13).other W16 (Or.inl ne_rc_rp)).other W20 (Or.inr (osn_5 hw)))
  have f29 : Fld Z h20 rc "com/example/slot3/slot3/frame/PostChain" "last" "Lcom/example/slot3/slot3/frame/Post;" (.ref rp) := ((((((P3.same W2).other W7 (Or.inl ne_rc_rp)).other W10 (Or.inl ne_rc_rp)).other W13 (Or.inr (osn_0 hw))).other W16 (Or.inl ne_rc_rp)).other W20 (Or.inr (osn_6 hw)))
  have f30 : Fld Z h20 rp "com/example/slot3/slot3/frame/Post" "following" "Lcom/example/slot3/slot3/frame/Post;" (.null) := (((((f5.same W7).other W10 (Or.inr (osn_7 hw))).other W13 (Or.inl (Ne.symm ne_rc_rp))).other W16 (Or.inr (osn_8 hw))).other W20 (Or.inl (Ne.symm ne_rc_rp)))
  have f31 : Fld Z h20 rp "com/example/slot3/slot3/frame/Post" "previous" "Lcom/example/slot3/slot3/frame/Post;" (.null) := ((((f8.same W10).other W13 (Or.inl (Ne.symm ne_rc_rp))).other W16 (Or.inr (osn_9 hw))).other W20 (Or.inl (Ne.symm ne_rc_rp)))
  have f32 : Fld Z h20 rp "com/example/slot3/slot3/frame/Post" "chain" "Lcom/example/slot3/slot3/frame/PostChain;" (.ref rc) := ((f14.same W16).other W20 (Or.inl (Ne.symm ne_rc_rp)))
  exact own_retV X20 hx hret hlk (hb hby od_prog_11_method_2_56) ⟨rfl, N20, (by rw [e20]; exact k27), (by rw [e20]; exact f28), (by rw [e20]; exact f29), (by rw [e20]; exact (f17.same W20)), (by rw [e20]; exact f30), (by rw [e20]; exact f31), (by rw [e20]; exact f32)⟩ (by decide) (by decide)
theorem od_prog_11_method_2_15 : decode prog_11_method_2_code 15 = .ok (.aload_n 0, 1) := by decide +kernel
theorem od_prog_11_method_2_16 : decode prog_11_method_2_code 16 = .ok (.getfield 7, 3) := by decide +kernel
theorem od_prog_11_method_2_19 : decode prog_11_method_2_code 19 = .ok (.aload_n 1, 1) := by decide +kernel
theorem od_prog_11_method_2_20 : decode prog_11_method_2_code 20 = .ok (.putfield 16, 3) := by decide +kernel
theorem oef_rm_pu2 (m : MethodId) (rc : Addr) (rp : Addr) : entryFrame m #[(.ref rc), (.ref rp)] 2 = mkF m 0 #[.val (.ref rc), .val (.ref rp)] [] := by first | (simp [entryFrame, mkF, argsToLocals, Value.category]; done) | rfl
set_option maxRecDepth 65536 in
set_option maxHeartbeats 40000000 in
theorem rm_pu2 (l : Launch) (Z : State) (a0 : Array Value) (hw : ∀ d ∈ tables_1, d.before a0 Z = true) (rc : Addr) (rp : Addr) (rq : Addr) (u0 : Int32) (w0 : Value) (w1 : Value) (w2 : Value) (w3 : Value) (w4 : Value) (w5 : Value) (w6 : Value) (h0 : Heap) (n0 : Nat) (Z0 : n0 ≤ h0.size) (P0 : Exa Z h0 rc "com/example/slot3/slot3/frame/PostChain") (P1 : Exa Z h0 rp "com/example/slot3/slot3/frame/Post") (P2 : Fld Z h0 rc "com/example/slot3/slot3/frame/PostChain" "first" "Lcom/example/slot3/slot3/frame/Post;" (.ref rq)) (P3 : Fld Z h0 rc "com/example/slot3/slot3/frame/PostChain" "last" "Lcom/example/slot3/slot3/frame/Post;" (w0)) (P4 : Fld Z h0 rc "com/example/slot3/slot3/frame/PostChain" "count" "I" (.int u0)) (P5 : Exa Z h0 rq "com/example/slot3/slot3/frame/Post") (P6 : Fld Z h0 rp "com/example/slot3/slot3/frame/Post" "following" "Lcom/example/slot3/slot3/frame/Post;" (w1)) (P7 : Fld Z h0 rp "com/example/slot3/slot3/frame/Post" "previous" "Lcom/example/slot3/slot3/frame/Post;" (w2)) (P8 : Fld Z h0 rp "com/example/slot3/slot3/frame/Post" "chain" "Lcom/example/slot3/slot3/frame/PostChain;" (w3)) (P9 : Fld Z h0 rq "com/example/slot3/slot3/frame/Post" "following" "Lcom/example/slot3/slot3/frame/Post;" (w4)) (P10 : Fld Z h0 rq "com/example/slot3/slot3/frame/Post" "previous" "Lcom/example/slot3/slot3/frame/Post;" (w5)) (P11 : Fld Z h0 rq "com/example/slot3/slot3/frame/Post" "chain" "Lcom/example/slot3/slot3/frame/PostChain;" (w6)) (g_rc : n0 ≤ rc) (g_rp : n0 ≤ rp) (g_rq : n0 ≤ rq) (ne_rc_rp : rc ≠ rp) (ne_rc_rq : rc ≠ rq) (ne_rp_rq : rp ≠ rq) :
    own_M l Z (⟨"com/example/slot3/slot3/frame/PostChain", "push", "(Lcom/example/slot3/slot3/frame/Post;)V"⟩ : MethodName) prog_11_method_2_code 2 none [] ({ frames := 0, cells := 0, slots := 0, locals := 0 } : Room) #[(.ref rc), (.ref rp)] h0 (fun v h L => v = none ∧ Fr n0 L ∧ (Keep h0 h [rc, rp, rq]) ∧ (Fld Z h rc "com/example/slot3/slot3/frame/PostChain" "first" "Lcom/example/slot3/slot3/frame/Post;" (.ref rp)) ∧ (Fld Z h rc "com/example/slot3/slot3/frame/PostChain" "last" "Lcom/example/slot3/slot3/frame/Post;" (w0)) ∧ (Fld Z h rc "com/example/slot3/slot3/frame/PostChain" "count" "I" (.int (u0 + (1 : Int32)))) ∧ (Fld Z h rp "com/example/slot3/slot3/frame/Post" "following" "Lcom/example/slot3/slot3/frame/Post;" (.ref rq)) ∧ (Fld Z h rp "com/example/slot3/slot3/frame/Post" "previous" "Lcom/example/slot3/slot3/frame/Post;" (.null)) ∧ (Fld Z h rp "com/example/slot3/slot3/frame/Post" "chain" "Lcom/example/slot3/slot3/frame/PostChain;" (.ref rc)) ∧ (Fld Z h rq "com/example/slot3/slot3/frame/Post" "following" "Lcom/example/slot3/slot3/frame/Post;" (w4)) ∧ (Fld Z h rq "com/example/slot3/slot3/frame/Post" "previous" "Lcom/example/slot3/slot3/frame/Post;" (.ref rp)) ∧ (Fld Z h rq "com/example/slot3/slot3/frame/Post" "chain" "Lcom/example/slot3/slot3/frame/PostChain;" (w6))) 0 0 := by
  refine own_body (plainFor_of_name opn_com_example_slot3_slot3_frame_PostChain) ?_
  intro p e s m below meth c s1 hx hby hml hown hnm hret hlk hZ X0 e0
  rw [oef_rm_pu2 m rc rp]
  have N0 := Fr.nil n0
  refine own_aloadN X0 hx (hb hby od_prog_11_method_2_0) rfl rfl (pc' := 1) rfl ?_
  refine own_getF X0 hx hZ hown (ow_27 hw) e0 P2 (hb hby od_prog_11_method_2_1) (pc' := 4) rfl ?_
  intro T1 X1 e1
  refine own_ifnonnullT X1 hx (hb hby od_prog_11_method_2_4) (by decide) (pc' := 15) rfl ?_
  refine own_aloadN X1 hx (hb hby od_prog_11_method_2_15) rfl rfl (pc' := 16) rfl ?_
  refine own_getF X1 hx hZ hown (ow_27 hw) e1 P2 (hb hby od_prog_11_method_2_16) (pc' := 19) rfl ?_
  intro T2 X2 e2
  refine own_aloadN X2 hx (hb hby od_prog_11_method_2_19) rfl rfl (pc' := 20) rfl ?_
  refine own_putF X2 hx hZ hown (ow_31 hw) e2 P10 P5 (Or.inl (ow_32 hw)) (ow_10 hw) (ty := (.object "com/example/slot3/slot3/frame/Post")) (by decide) rfl rfl (hb hby od_prog_11_method_2_20) (pc' := 23) rfl ?_
  intro T3 h3 X3 e3 W3
  have N3 := Fr.snoc X3 N0 g_rq
  refine own_aloadN X3 hx (hb hby od_prog_11_method_2_23) rfl rfl (pc' := 24) rfl ?_
  refine own_aloadN X3 hx (hb hby od_prog_11_method_2_24) rfl rfl (pc' := 25) rfl ?_
  have f4 : Fld Z h3 rc "com/example/slot3/slot3/frame/PostChain" "first" "Lcom/example/slot3/slot3/frame/Post;" (.ref rq) := (P2.other W3 (Or.inl ne_rc_rq))
  refine own_getF X3 hx hZ hown (ow_27 hw) e3 f4 (hb hby od_prog_11_method_2_25) (pc' := 28) rfl ?_
  intro T5 X5 e5
  have f6 : Fld Z h3 rp "com/example/slot3/slot3/frame/Post" "following" "Lcom/example/slot3/slot3/frame/Post;" (w1) := (P6.other W3 (Or.inl ne_rp_rq))
  have f7 : Exa Z h3 rp "com/example/slot3/slot3/frame/Post" := (P1.wr W3)
  refine own_putF X5 hx hZ hown (ow_29 hw) e5 f6 f7 (Or.inl (ow_30 hw)) (ow_10 hw) (ty := (.object "com/example/slot3/slot3/frame/Post")) (by decide) rfl rfl (hb hby od_prog_11_method_2_28) (pc' := 31) rfl ?_
  intro T8 h8 X8 e8 W8
  have N8 := Fr.snoc X8 N3 g_rp
  refine own_aloadN X8 hx (hb hby od_prog_11_method_2_31) rfl rfl (pc' := 32) rfl ?_
  refine own_aconstNull X8 hx (hb hby od_prog_11_method_2_32) (pc' := 33) rfl ?_
  have f9 : Fld Z h8 rp "com/example/slot3/slot3/frame/Post" "previous" "Lcom/example/slot3/slot3/frame/Post;" (w2) := ((P7.other W3 (Or.inl ne_rp_rq)).other W8 (Or.inr (osn_10 hw)))
  have f10 : Exa Z h8 rp "com/example/slot3/slot3/frame/Post" := (f7.wr W8)
  refine own_putF X8 hx hZ hown (ow_31 hw) e8 f9 f10 (Or.inl (ow_32 hw)) (ow_10 hw) (ty := (.object "com/example/slot3/slot3/frame/Post")) (by decide) rfl rfl (hb hby od_prog_11_method_2_33) (pc' := 36) rfl ?_
  intro T11 h11 X11 e11 W11
  have N11 := Fr.snoc X11 N8 g_rp
  refine own_aloadN X11 hx (hb hby od_prog_11_method_2_36) rfl rfl (pc' := 37) rfl ?_
  refine own_aloadN X11 hx (hb hby od_prog_11_method_2_37) rfl rfl (pc' := 38) rfl ?_
  have f12 : Fld Z h11 rc "com/example/slot3/slot3/frame/PostChain" "first" "Lcom/example/slot3/slot3/frame/Post;" (.ref rq) := ((f4.other W8 (Or.inl ne_rc_rp)).other W11 (Or.inl ne_rc_rp))
  have f13 : Exa Z h11 rc "com/example/slot3/slot3/frame/PostChain" := (((P0.wr W3).wr W8).wr W11)
  refine own_putF X11 hx hZ hown (ow_27 hw) e11 f12 f13 (Or.inl (ow_17 hw)) (ow_1 hw) (ty := (.object "com/example/slot3/slot3/frame/Post")) (by decide) rfl rfl (hb hby od_prog_11_method_2_38) (pc' := 41) rfl ?_
  intro T14 h14 X14 e14 W14
  have N14 := Fr.snoc X14 N11 g_rc
  refine own_aloadN X14 hx (hb hby od_prog_11_method_2_41) rfl rfl (pc' := 42) rfl ?_
  refine own_aloadN X14 hx (hb hby od_prog_11_method_2_42) rfl rfl (pc' := 43) rfl ?_
  have f15 : Fld Z h14 rp "com/example/slot3/slot3/frame/Post" "chain" "Lcom/example/slot3/slot3/frame/PostChain;" (w3) := ((((P8.other W3 (Or.inl ne_rp_rq)).other W8 (Or.inr (osn_11 hw))).other W11 (Or.inr (osn_1 hw))).other W14 (Or.inl (Ne.symm ne_rc_rp)))
  have f16 : Exa Z h14 rp "com/example/slot3/slot3/frame/Post" := ((f10.wr W11).wr W14)
  refine own_putF X14 hx hZ hown (ow_33 hw) e14 f15 f16 (Or.inl (ow_34 hw)) (ow_10 hw) (ty := (.object "com/example/slot3/slot3/frame/PostChain")) (by decide) rfl rfl (hb hby od_prog_11_method_2_43) (pc' := 46) rfl ?_
  intro T17 h17 X17 e17 W17
  have N17 := Fr.snoc X17 N14 g_rp
  refine own_aloadN X17 hx (hb hby od_prog_11_method_2_46) rfl rfl (pc' := 47) rfl ?_
  refine own_dup X17 hx (hb hby od_prog_11_method_2_47) rfl (pc' := 48) rfl ?_
  have f18 : Fld Z h17 rc "com/example/slot3/slot3/frame/PostChain" "count" "I" (.int u0) := (((((P4.other W3 (Or.inl ne_rc_rq)).other W8 (Or.inl ne_rc_rp)).other W11 (Or.inl ne_rc_rp)).other W14 (Or.inr (osn_2 hw))).other W17 (Or.inl ne_rc_rp))
  refine own_getF X17 hx hZ hown (ow_35 hw) e17 f18 (hb hby od_prog_11_method_2_48) (pc' := 51) rfl ?_
  intro T19 X19 e19
  refine own_iconst X19 hx (hb hby od_prog_11_method_2_51) (z := (1 : Int32)) rfl (pc' := 52) rfl ?_
  refine own_iadd X19 hx (hb hby od_prog_11_method_2_52) (pc' := 53) rfl ?_
  have f20 : Exa Z h17 rc "com/example/slot3/slot3/frame/PostChain" := ((f13.wr W14).wr W17)
  refine own_putF X19 hx hZ hown (ow_35 hw) e19 f18 f20 (Or.inl (ow_21 hw)) (ow_1 hw) (ty := .int) (by decide) rfl rfl (hb hby od_prog_11_method_2_53) (pc' := 56) rfl ?_
  intro T21 h21 X21 e21 W21
  have N21 := Fr.snoc X21 N17 g_rc
  have k28 : Keep h0 h21 [rc, rp, rq] := (Keep.wr (Keep.wr (Keep.wr (Keep.wr (Keep.wr (Keep.wr (Keep.refl _ _) W3 (Or.inl (List.mem_of_getElem? (i := 2) rfl))) W8 (Or.inl (List.mem_of_getElem? (i := 1) rfl))) W11 (Or.inl (List.mem_of_getElem? (i := 1) rfl))) W14 (Or.inl (List.mem_of_getElem? (i := 0) rfl))) W17 (Or.inl (List.mem_of_getElem? (i := 1) rfl))) W21 (Or.inl (List.mem_of_getElem? (i := 0) rfl)))
  have f29 : Fld Z h21 rc "com/example/slot3/slot3/frame/PostChain" "first" "Lcom/example/slot3/slot3/frame/Post;" (.ref rp) := (((f12.same W14).other W17 (Or.inl ne_rc_rp)).other W21 (Or.inr (osn_5 hw)))
  have f30 : Fld Z h21 rc "com/example/slot3/slot3/frame/PostChain" "last" "Lcom/example/slot3/slot3/frame/Post;" (w0) := ((((((P3.other W3 (Or.inl ne_rc_rq)).other W8 (Or.inl ne_rc_rp)).other W11 (Or.inl ne_rc_rp)).other W14 (Or.inr (osn_0 hw))).other W17 (Or.inl ne_rc_rp)).other W21 (Or.inr (osn_6 hw)))
  have f31 : Fld Z h21 rp "com/example/slot3/slot3/frame/Post" "following" "Lcom/example/slot3/slot3/frame/Post;" (.ref rq) := (((((f6.same W8).other W11 (Or.inr (osn_7 hw))).other W14 (Or.inl (Ne.symm ne_rc_rp))).other W17 (Or.inr (osn_8 hw))).other W21 (Or.inl (Ne.symm ne_rc_rp)))
  have f32 : Fld Z h21 rp "com/example/slot3/slot3/frame/Post" "previous" "Lcom/example/slot3/slot3/frame/Post;" (.null) := ((((f9.same W11).other W14 (Or.inl (Ne.symm ne_rc_rp))).other W17 (Or.inr (osn_9 hw))).other W21 (Or.inl (Ne.symm ne_rc_rp)))
  have f33 : Fld Z h21 rp "com/example/slot3/slot3/frame/Post" "chain" "Lcom/example/slot3/slot3/frame/PostChain;" (.ref rc) := ((f15.same W17).other W21 (Or.inl (Ne.symm ne_rc_rp)))
  have f34 : Fld Z h21 rq "com/example/slot3/slot3/frame/Post" "following" "Lcom/example/slot3/slot3/frame/Post;" (w4) := ((((((P9.other W3 (Or.inr (osn_7 hw))).other W8 (Or.inl (Ne.symm ne_rp_rq))).other W11 (Or.inl (Ne.symm ne_rp_rq))).other W14 (Or.inl (Ne.symm ne_rc_rq))).other W17 (Or.inl (Ne.symm ne_rp_rq))).other W21 (Or.inl (Ne.symm ne_rc_rq)))
  have f35 : Fld Z h21 rq "com/example/slot3/slot3/frame/Post" "previous" "Lcom/example/slot3/slot3/frame/Post;" (.ref rp) := ((((((P10.same W3).other W8 (Or.inl (Ne.symm ne_rp_rq))).other W11 (Or.inl (Ne.symm ne_rp_rq))).other W14 (Or.inl (Ne.symm ne_rc_rq))).other W17 (Or.inl (Ne.symm ne_rp_rq))).other W21 (Or.inl (Ne.symm ne_rc_rq)))
  have f36 : Fld Z h21 rq "com/example/slot3/slot3/frame/Post" "chain" "Lcom/example/slot3/slot3/frame/PostChain;" (w6) := ((((((P11.other W3 (Or.inr (osn_1 hw))).other W8 (Or.inl (Ne.symm ne_rp_rq))).other W11 (Or.inl (Ne.symm ne_rp_rq))).other W14 (Or.inl (Ne.symm ne_rc_rq))).other W17 (Or.inl (Ne.symm ne_rp_rq))).other W21 (Or.inl (Ne.symm ne_rc_rq)))
  exact own_retV X21 hx hret hlk (hb hby od_prog_11_method_2_56) ⟨rfl, N21, (by rw [e21]; exact k28), (by rw [e21]; exact f29), (by rw [e21]; exact f30), (by rw [e21]; exact (f18.same W21)), (by rw [e21]; exact f31), (by rw [e21]; exact f32), (by rw [e21]; exact f33), (by rw [e21]; exact f34), (by rw [e21]; exact f35), (by rw [e21]; exact f36)⟩ (by decide) (by decide)
theorem ow_0 {Z : State} {a0 : Array Value} (hw : ∀ d ∈ tables_1, d.before a0 Z = true) : (Jvm.Cond.classLink "com/example/slot3/slot3/frame/PostChainPushPinLaw" (7 : Nat) "com/example/slot3/slot3/frame/PostChain").before a0 Z = true := hw _ (List.mem_of_getElem? (i := 0) rfl)
theorem ow_2 {Z : State} {a0 : Array Value} (hw : ∀ d ∈ tables_1, d.before a0 Z = true) : (Jvm.Cond.initialized "com/example/slot3/slot3/frame/PostChain").before a0 Z = true := hw _ (List.mem_of_getElem? (i := 2) rfl)
theorem ow_3 {Z : State} {a0 : Array Value} (hw : ∀ d ∈ tables_1, d.before a0 Z = true) : (Jvm.Cond.methodLink "com/example/slot3/slot3/frame/PostChainPushPinLaw" (9 : Nat) ({ cls := "com/example/slot3/slot3/frame/PostChain", name := "<init>", desc := "()V" } : Jvm.MethodName)).before a0 Z = true := hw _ (List.mem_of_getElem? (i := 3) rfl)
theorem opd___V : parseMethodDescriptor "()V" = some ⟨[], none⟩ := by decide +kernel
theorem ow_4 {Z : State} {a0 : Array Value} (hw : ∀ d ∈ tables_1, d.before a0 Z = true) : (Jvm.Cond.instanceMethod ({ cls := "com/example/slot3/slot3/frame/PostChain", name := "<init>", desc := "()V" } : Jvm.MethodName)).before a0 Z = true := hw _ (List.mem_of_getElem? (i := 4) rfl)
theorem ow_5 {Z : State} {a0 : Array Value} (hw : ∀ d ∈ tables_1, d.before a0 Z = true) : (Jvm.Cond.code ({ cls := "com/example/slot3/slot3/frame/PostChain", name := "<init>", desc := "()V" } : Jvm.MethodName) prog_11_method_1_code (1 : Nat) (Option.none : Option Jvm.ClassFile.FieldType)).before a0 Z = true := hw _ (List.mem_of_getElem? (i := 5) rfl)
theorem ow_9 {Z : State} {a0 : Array Value} (hw : ∀ d ∈ tables_1, d.before a0 Z = true) : (Jvm.Cond.classLink "com/example/slot3/slot3/frame/PostChainPushPinLaw" (10 : Nat) "com/example/slot3/slot3/frame/Post").before a0 Z = true := hw _ (List.mem_of_getElem? (i := 9) rfl)
theorem ow_11 {Z : State} {a0 : Array Value} (hw : ∀ d ∈ tables_1, d.before a0 Z = true) : (Jvm.Cond.initialized "com/example/slot3/slot3/frame/Post").before a0 Z = true := hw _ (List.mem_of_getElem? (i := 11) rfl)
theorem ow_12 {Z : State} {a0 : Array Value} (hw : ∀ d ∈ tables_1, d.before a0 Z = true) : (Jvm.Cond.methodLink "com/example/slot3/slot3/frame/PostChainPushPinLaw" (12 : Nat) ({ cls := "com/example/slot3/slot3/frame/Post", name := "<init>", desc := "()V" } : Jvm.MethodName)).before a0 Z = true := hw _ (List.mem_of_getElem? (i := 12) rfl)
theorem ow_13 {Z : State} {a0 : Array Value} (hw : ∀ d ∈ tables_1, d.before a0 Z = true) : (Jvm.Cond.instanceMethod ({ cls := "com/example/slot3/slot3/frame/Post", name := "<init>", desc := "()V" } : Jvm.MethodName)).before a0 Z = true := hw _ (List.mem_of_getElem? (i := 13) rfl)
theorem ow_14 {Z : State} {a0 : Array Value} (hw : ∀ d ∈ tables_1, d.before a0 Z = true) : (Jvm.Cond.code ({ cls := "com/example/slot3/slot3/frame/Post", name := "<init>", desc := "()V" } : Jvm.MethodName) prog_10_method_1_code (1 : Nat) (Option.none : Option Jvm.ClassFile.FieldType)).before a0 Z = true := hw _ (List.mem_of_getElem? (i := 14) rfl)
theorem ow_16 {Z : State} {a0 : Array Value} (hw : ∀ d ∈ tables_1, d.before a0 Z = true) : (Jvm.Cond.fieldLink "com/example/slot3/slot3/frame/PostChainPushPinLaw" (27 : Nat) "com/example/slot3/slot3/frame/PostChain" "first" "Lcom/example/slot3/slot3/frame/Post;").before a0 Z = true := hw _ (List.mem_of_getElem? (i := 16) rfl)
theorem ow_18 {Z : State} {a0 : Array Value} (hw : ∀ d ∈ tables_1, d.before a0 Z = true) : (Jvm.Cond.fieldLink "com/example/slot3/slot3/frame/PostChainPushPinLaw" (30 : Nat) "com/example/slot3/slot3/frame/PostChain" "last" "Lcom/example/slot3/slot3/frame/Post;").before a0 Z = true := hw _ (List.mem_of_getElem? (i := 18) rfl)
theorem ow_20 {Z : State} {a0 : Array Value} (hw : ∀ d ∈ tables_1, d.before a0 Z = true) : (Jvm.Cond.fieldLink "com/example/slot3/slot3/frame/PostChainPushPinLaw" (33 : Nat) "com/example/slot3/slot3/frame/PostChain" "count" "I").before a0 Z = true := hw _ (List.mem_of_getElem? (i := 20) rfl)
theorem ow_22 {Z : State} {a0 : Array Value} (hw : ∀ d ∈ tables_1, d.before a0 Z = true) : (Jvm.Cond.methodLink "com/example/slot3/slot3/frame/PostChainPushPinLaw" (13 : Nat) ({ cls := "com/example/slot3/slot3/frame/PostChain", name := "push", desc := "(Lcom/example/slot3/slot3/frame/Post;)V" } : Jvm.MethodName)).before a0 Z = true := hw _ (List.mem_of_getElem? (i := 22) rfl)
theorem ow_25 {Z : State} {a0 : Array Value} (hw : ∀ d ∈ tables_1, d.before a0 Z = true) : (Jvm.Cond.selects "com/example/slot3/slot3/frame/PostChain" ({ cls := "com/example/slot3/slot3/frame/PostChain", name := "push", desc := "(Lcom/example/slot3/slot3/frame/Post;)V" } : Jvm.MethodName) ({ cls := "com/example/slot3/slot3/frame/PostChain", name := "push", desc := "(Lcom/example/slot3/slot3/frame/Post;)V" } : Jvm.MethodName)).before a0 Z = true := hw _ (List.mem_of_getElem? (i := 25) rfl)
theorem opd__Lcom_example_slot3_slot3_frame_Post__V : parseMethodDescriptor "(Lcom/example/slot3/slot3/frame/Post;)V" = some ⟨[(.object "com/example/slot3/slot3/frame/Post")], none⟩ := by decide +kernel
theorem ow_23 {Z : State} {a0 : Array Value} (hw : ∀ d ∈ tables_1, d.before a0 Z = true) : (Jvm.Cond.declares ({ cls := "com/example/slot3/slot3/frame/PostChain", name := "push", desc := "(Lcom/example/slot3/slot3/frame/Post;)V" } : Jvm.MethodName)).before a0 Z = true := hw _ (List.mem_of_getElem? (i := 23) rfl)
theorem ow_24 {Z : State} {a0 : Array Value} (hw : ∀ d ∈ tables_1, d.before a0 Z = true) : (Jvm.Cond.instanceMethod ({ cls := "com/example/slot3/slot3/frame/PostChain", name := "push", desc := "(Lcom/example/slot3/slot3/frame/Post;)V" } : Jvm.MethodName)).before a0 Z = true := hw _ (List.mem_of_getElem? (i := 24) rfl)
theorem ow_26 {Z : State} {a0 : Array Value} (hw : ∀ d ∈ tables_1, d.before a0 Z = true) : (Jvm.Cond.code ({ cls := "com/example/slot3/slot3/frame/PostChain", name := "push", desc := "(Lcom/example/slot3/slot3/frame/Post;)V" } : Jvm.MethodName) prog_11_method_2_code (2 : Nat) (Option.none : Option Jvm.ClassFile.FieldType)).before a0 Z = true := hw _ (List.mem_of_getElem? (i := 26) rfl)
theorem ow_36 {Z : State} {a0 : Array Value} (hw : ∀ d ∈ tables_1, d.before a0 Z = true) : (Jvm.Cond.fieldLink "com/example/slot3/slot3/frame/PostChainPushPinLaw" (20 : Nat) "com/example/slot3/slot3/frame/Post" "previous" "Lcom/example/slot3/slot3/frame/Post;").before a0 Z = true := hw _ (List.mem_of_getElem? (i := 36) rfl)
theorem ow_37 {Z : State} {a0 : Array Value} (hw : ∀ d ∈ tables_1, d.before a0 Z = true) : (Jvm.Cond.fieldLink "com/example/slot3/slot3/frame/PostChainPushPinLaw" (24 : Nat) "com/example/slot3/slot3/frame/Post" "following" "Lcom/example/slot3/slot3/frame/Post;").before a0 Z = true := hw _ (List.mem_of_getElem? (i := 37) rfl)
theorem ow_38 {Z : State} {a0 : Array Value} (hw : ∀ d ∈ tables_1, d.before a0 Z = true) : (Jvm.Cond.fieldLink "com/example/slot3/slot3/frame/PostChainPushPinLaw" (37 : Nat) "com/example/slot3/slot3/frame/Post" "chain" "Lcom/example/slot3/slot3/frame/PostChain;").before a0 Z = true := hw _ (List.mem_of_getElem? (i := 38) rfl)
theorem ow_39 {Z : State} {a0 : Array Value} (hw : ∀ d ∈ tables_1, d.before a0 Z = true) : (Jvm.Cond.methodLink "com/example/slot3/slot3/frame/PostChainPushPinLaw" (17 : Nat) ({ cls := "com/example/slot3/slot3/frame/PostChain", name := "append", desc := "(Lcom/example/slot3/slot3/frame/Post;)V" } : Jvm.MethodName)).before a0 Z = true := hw _ (List.mem_of_getElem? (i := 39) rfl)
theorem ow_42 {Z : State} {a0 : Array Value} (hw : ∀ d ∈ tables_1, d.before a0 Z = true) : (Jvm.Cond.selects "com/example/slot3/slot3/frame/PostChain" ({ cls := "com/example/slot3/slot3/frame/PostChain", name := "append", desc := "(Lcom/example/slot3/slot3/frame/Post;)V" } : Jvm.MethodName) ({ cls := "com/example/slot3/slot3/frame/PostChain", name := "append", desc := "(Lcom/example/slot3/slot3/frame/Post;)V" } : Jvm.MethodName)).before a0 Z = true := hw _ (List.mem_of_getElem? (i := 42) rfl)
theorem ow_40 {Z : State} {a0 : Array Value} (hw : ∀ d ∈ tables_1, d.before a0 Z = true) : (Jvm.Cond.declares ({ cls := "com/example/slot3/slot3/frame/PostChain", name := "append", desc := "(Lcom/example/slot3/slot3/frame/Post;)V" } : Jvm.MethodName)).before a0 Z = true := hw _ (List.mem_of_getElem? (i := 40) rfl)
theorem ow_41 {Z : State} {a0 : Array Value} (hw : ∀ d ∈ tables_1, d.before a0 Z = true) : (Jvm.Cond.instanceMethod ({ cls := "com/example/slot3/slot3/frame/PostChain", name := "append", desc := "(Lcom/example/slot3/slot3/frame/Post;)V" } : Jvm.MethodName)).before a0 Z = true := hw _ (List.mem_of_getElem? (i := 41) rfl)
theorem ow_43 {Z : State} {a0 : Array Value} (hw : ∀ d ∈ tables_1, d.before a0 Z = true) : (Jvm.Cond.code ({ cls := "com/example/slot3/slot3/frame/PostChain", name := "append", desc := "(Lcom/example/slot3/slot3/frame/Post;)V" } : Jvm.MethodName) prog_11_method_3_code (2 : Nat) (Option.none : Option Jvm.ClassFile.FieldType)).before a0 Z = true := hw _ (List.mem_of_getElem? (i := 43) rfl)
theorem opn_com_example_slot3_slot3_frame_PostChainPushPinLaw : plainName "com/example/slot3/slot3/frame/PostChainPushPinLaw" = true := by first | (simp [plainName, overriddenIn]; done) | decide +kernel
theorem oef_law (m : MethodId) (u0 : Int32) : entryFrame m #[(.int u0)] maxLocals = mkF m 0 #[.val (.int u0), .unset, .unset, .unset, .unset, .unset, .unset, .unset, .unset, .unset, .unset, .unset] [] := by first | (simp [entryFrame, mkF, argsToLocals, Value.category, maxLocals]; done) | rfl
set_option maxRecDepth 65536 in
set_option maxHeartbeats 40000000 in
theorem own_law (l : Launch) (Z : State) (a0 : Array Value) (hw : ∀ d ∈ tables_1, d.before a0 Z = true) (u0 : Int32) (h0 : Heap) (n0 : Nat) (Z0 : n0 ≤ h0.size) :
    own_M l Z x code maxLocals ret tables_1 room_1 #[(.int u0)] h0 (fun v h L => v = some (.int 1) ∧ Fr n0 L) 5 83 := by
  refine own_body (plainFor_of_name opn_com_example_slot3_slot3_frame_PostChainPushPinLaw) ?_
  intro p e s m below meth c s1 hx hby hml' hown hnm hret hlk hZ X0 e0
  have hml : c.maxLocals = 12 := hml'
  rw [oef_law m u0]
  have N0 := Fr.nil n0
  refine own_new X0 hx hZ hown (ow_0 hw) (ow_1 hw) (ow_2 hw) e0 (hb hby at_0) (pc' := 3) rfl (by decide) (by decide) ?_
  intro T1 h1 a1 g1 X1 e1 E1 A1 D1
  have ge_a1 : n0 ≤ a1 := by rw [g1]; exact Z0
  have F1_first : Fld Z h1 a1 "com/example/slot3/slot3/frame/PostChain" "first" "Lcom/example/slot3/slot3/frame/Post;" (.null) := D1 (Or.inl (ow_17 hw)) (ty := (.object "com/example/slot3/slot3/frame/Post")) (by decide)
  have F1_last : Fld Z h1 a1 "com/example/slot3/slot3/frame/PostChain" "last" "Lcom/example/slot3/slot3/frame/Post;" (.null) := D1 (Or.inl (ow_19 hw)) (ty := (.object "com/example/slot3/slot3/frame/Post")) (by decide)
  have F1_count : Fld Z h1 a1 "com/example/slot3/slot3/frame/PostChain" "count" "I" (.int (0 : Int32)) := D1 (Or.inl (ow_21 hw)) (ty := .int) (by decide)
  refine own_dup X1 hx (hb hby at_3) rfl (pc' := 4) rfl ?_
  have z3 : n0 ≤ h1.size := (Nat.le_trans Z0 E1.1)
  refine own_callC X1 hx hZ rfl hown (ow_3 hw) (ow_4 hw) (ow_2 hw) (ow_5 hw) (by decide) (rm_pci l Z a0 hw a1 h1 n0 z3) e1 (W := 1) (by decide) (by decide) opd___V rfl (rest := [(.ref a1)]) rfl (hb hby at_4) (Nat.le_of_eq rfl) (by rw [hml]; rfl) (by decide) (by decide) (pc' := 7) rfl ?_
  intro v2 T2 L2 X2 q2
  obtain ⟨rfl, Nq2, eh2⟩ := q2
  have N2 := Fr.app N0 Nq2
  show own_G p e below s _ _ _ (T2.setTop (mkF m 7 #[.val (.int u0), .unset, .unset, .unset, .unset, .unset, .unset, .unset, .unset, .unset, .unset, .unset] [(.ref a1)]))
  refine own_astoreN X2 hx (hb hby at_7) rfl (l' := #[.val (.int u0), .val (.ref a1), .unset, .unset, .unset, .unset, .unset, .unset, .unset, .unset, .unset, .unset]) rfl (pc' := 8) rfl ?_
  refine own_new X2 hx hZ hown (ow_9 hw) (ow_10 hw) (ow_11 hw) eh2 (hb hby at_8) (pc' := 11) rfl (by decide) (by decide) ?_
  intro T4 h4 a4 g4 X4 e4 E4 A4 D4
  have lt_a1_a4 : a1 < a4 := by rw [g4]; exact A1.lt
  have ge_a4 : n0 ≤ a4 := by rw [g4]; exact z3
  have F4_following : Fld Z h4 a4 "com/example/slot3/slot3/frame/Post" "following" "Lcom/example/slot3/slot3/frame/Post;" (.null) := D4 (Or.inl (ow_30 hw)) (ty := (.object "com/example/slot3/slot3/frame/Post")) (by decide)
  have F4_previous : Fld Z h4 a4 "com/example/slot3/slot3/frame/Post" "previous" "Lcom/example/slot3/slot3/frame/Post;" (.null) := D4 (Or.inl (ow_32 hw)) (ty := (.object "com/example/slot3/slot3/frame/Post")) (by decide)
  have F4_chain : Fld Z h4 a4 "com/example/slot3/slot3/frame/Post" "chain" "Lcom/example/slot3/slot3/frame/PostChain;" (.null) := D4 (Or.inl (ow_34 hw)) (ty := (.object "com/example/slot3/slot3/frame/PostChain")) (by decide)
  refine own_dup X4 hx (hb hby at_11) rfl (pc' := 12) rfl ?_
  have z6 : n0 ≤ h4.size := (Nat.le_trans z3 E4.1)
  refine own_callC X4 hx hZ rfl hown (ow_12 hw) (ow_13 hw) (ow_11 hw) (ow_14 hw) (by decide) (rm_poi l Z a0 hw a4 h4 n0 z6) e4 (W := 1) (by decide) (by decide) opd___V rfl (rest := [(.ref a4)]) rfl (hb hby at_12) (Nat.le_of_eq rfl) (by rw [hml]; rfl) (by decide) (by decide) (pc' := 15) rfl ?_
  intro v5 T5 L5 X5 q5
  obtain ⟨rfl, Nq5, eh5⟩ := q5
  have N5 := Fr.app N2 Nq5
  show own_G p e below s _ _ _ (T5.setTop (mkF m 15 #[.val (.int u0), .val (.ref a1), .unset, .unset, .unset, .unset, .unset, .unset, .unset, .unset, .unset, .unset] [(.ref a4)]))
  refine own_astoreN X5 hx (hb hby at_15) rfl (l' := #[.val (.int u0), .val (.ref a1), .val (.ref a4), .unset, .unset, .unset, .unset, .unset, .unset, .unset, .unset, .unset]) rfl (pc' := 16) rfl ?_
  have f8 : Exa Z h4 a1 "com/example/slot3/slot3/frame/PostChain" := (A1.ext E4)
  refine own_new X5 hx hZ hown (ow_9 hw) (ow_10 hw) (ow_11 hw) eh5 (hb hby at_16) (pc' := 19) rfl (by decide) (by decide) ?_
  intro T7 h7 a7 g7 X7 e7 E7 A7 D7
  have lt_a1_a7 : a1 < a7 := by rw [g7]; exact f8.lt
  have lt_a4_a7 : a4 < a7 := by rw [g7]; exact A4.lt
  have ge_a7 : n0 ≤ a7 := by rw [g7]; exact z6
  have F7_following : Fld Z h7 a7 "com/example/slot3/slot3/frame/Post" "following" "Lcom/example/slot3/slot3/frame/Post;" (.null) := D7 (Or.inl (ow_30 hw)) (ty := (.object "com/example/slot3/slot3/frame/Post")) (by decide)
  have F7_previous : Fld Z h7 a7 "com/example/slot3/slot3/frame/Post" "previous" "Lcom/example/slot3/slot3/frame/Post;" (.null) := D7 (Or.inl (ow_32 hw)) (ty := (.object "com/example/slot3/slot3/frame/Post")) (by decide)
  have F7_chain : Fld Z h7 a7 "com/example/slot3/slot3/frame/Post" "chain" "Lcom/example/slot3/slot3/frame/PostChain;" (.null) := D7 (Or.inl (ow_34 hw)) (ty := (.object "com/example/slot3/slot3/frame/PostChain")) (by decide)
  refine own_dup X7 hx (hb hby at_19) rfl (pc' := 20) rfl ?_
  have z10 : n0 ≤ h7.size := (Nat.le_trans z6 E7.1)
  refine own_callC X7 hx hZ rfl hown (ow_12 hw) (ow_13 hw) (ow_11 hw) (ow_14 hw) (by decide) (rm_poi l Z a0 hw a7 h7 n0 z10) e7 (W := 1) (by decide) (by decide) opd___V rfl (rest := [(.ref a7)]) rfl (hb hby at_20) (Nat.le_of_eq rfl) (by rw [hml]; rfl) (by decide) (by decide) (pc' := 23) rfl ?_
  intro v9 T9 L9 X9 q9
  obtain ⟨rfl, Nq9, eh9⟩ := q9
  have N9 := Fr.app N5 Nq9
  show own_G p e below s _ _ _ (T9.setTop (mkF m 23 #[.val (.int u0), .val (.ref a1), .val (.ref a4), .unset, .unset, .unset, .unset, .unset, .unset, .unset, .unset, .unset] [(.ref a7)]))
  refine own_astoreN X9 hx (hb hby at_23) rfl (l' := #[.val (.int u0), .val (.ref a1), .val (.ref a4), .val (.ref a7), .unset, .unset, .unset, .unset, .unset, .unset, .unset, .unset]) rfl (pc' := 24) rfl ?_
  have f12 : Exa Z h7 a1 "com/example/slot3/slot3/frame/PostChain" := (f8.ext E7)
  have f13 : Exa Z h7 a4 "com/example/slot3/slot3/frame/Post" := (A4.ext E7)
  refine own_new X9 hx hZ hown (ow_9 hw) (ow_10 hw) (ow_11 hw) eh9 (hb hby at_24) (pc' := 27) rfl (by decide) (by decide) ?_
  intro T11 h11 a11 g11 X11 e11 E11 A11 D11
  have lt_a1_a11 : a1 < a11 := by rw [g11]; exact f12.lt
  have lt_a4_a11 : a4 < a11 := by rw [g11]; exact f13.lt
  have lt_a7_a11 : a7 < a11 := by rw [g11]; exact A7.lt
  have ge_a11 : n0 ≤ a11 := by rw [g11]; exact z10
  have F11_following : Fld Z h11 a11 "com/example/slot3/slot3/frame/Post" "following" "Lcom/example/slot3/slot3/frame/Post;" (.null) := D11 (Or.inl (ow_30 hw)) (ty := (.object "com/example/slot3/slot3/frame/Post")) (by decide)
  have F11_previous : Fld Z h11 a11 "com/example/slot3/slot3/frame/Post" "previous" "Lcom/example/slot3/slot3/frame/Post;" (.null) := D11 (Or.inl (ow_32 hw)) (ty := (.object "com/example/slot3/slot3/frame/Post")) (by decide)
  have F11_chain : Fld Z h11 a11 "com/example/slot3/slot3/frame/Post" "chain" "Lcom/example/slot3/slot3/frame/PostChain;" (.null) := D11 (Or.inl (ow_34 hw)) (ty := (.object "com/example/slot3/slot3/frame/PostChain")) (by decide)
  refine own_dup X11 hx (hb hby at_27) rfl (pc' := 28) rfl ?_
  have z15 : n0 ≤ h11.size := (Nat.le_trans z10 E11.1)
  refine own_callC X11 hx hZ rfl hown (ow_12 hw) (ow_13 hw) (ow_11 hw) (ow_14 hw) (by decide) (rm_poi l Z a0 hw a11 h11 n0 z15) e11 (W := 1) (by decide) (by decide) opd___V rfl (rest := [(.ref a11)]) rfl (hb hby at_28) (Nat.le_of_eq rfl) (by rw [hml]; rfl) (by decide) (by decide) (pc' := 31) rfl ?_
  intro v14 T14 L14 X14 q14
  obtain ⟨rfl, Nq14, eh14⟩ := q14
  have N14 := Fr.app N9 Nq14
  show own_G p e below s _ _ _ (T14.setTop (mkF m 31 #[.val (.int u0), .val (.ref a1), .val (.ref a4), .val (.ref a7), .unset, .unset, .unset, .unset, .unset, .unset, .unset, .unset] [(.ref a11)]))
  refine own_astore X14 hx (hb hby at_31) rfl (l' := #[.val (.int u0), .val (.ref a1), .val (.ref a4), .val (.ref a7), .val (.ref a11), .unset, .unset, .unset, .unset, .unset, .unset, .unset]) rfl (pc' := 33) rfl ?_
  have f17 : Exa Z h11 a1 "com/example/slot3/slot3/frame/PostChain" := (f12.ext E11)
  have f18 : Exa Z h11 a4 "com/example/slot3/slot3/frame/Post" := (f13.ext E11)
  have f19 : Exa Z h11 a7 "com/example/slot3/slot3/frame/Post" := (A7.ext E11)
  refine own_new X14 hx hZ hown (ow_9 hw) (ow_10 hw) (ow_11 hw) eh14 (hb hby at_33) (pc' := 36) rfl (by decide) (by decide) ?_
  intro T16 h16 a16 g16 X16 e16 E16 A16 D16
  have lt_a1_a16 : a1 < a16 := by rw [g16]; exact f17.lt
  have lt_a11_a16 : a11 < a16 := by rw [g16]; exact A11.lt
  have lt_a4_a16 : a4 < a16 := by rw [g16]; exact f18.lt
  have lt_a7_a16 : a7 < a16 := by rw [g16]; exact f19.lt
  have ge_a16 : n0 ≤ a16 := by rw [g16]; exact z15
  have F16_following : Fld Z h16 a16 "com/example/slot3/slot3/frame/Post" "following" "Lcom/example/slot3/slot3/frame/Post;" (.null) := D16 (Or.inl (ow_30 hw)) (ty := (.object "com/example/slot3/slot3/frame/Post")) (by decide)
  have F16_previous : Fld Z h16 a16 "com/example/slot3/slot3/frame/Post" "previous" "Lcom/example/slot3/slot3/frame/Post;" (.null) := D16 (Or.inl (ow_32 hw)) (ty := (.object "com/example/slot3/slot3/frame/Post")) (by decide)
  have F16_chain : Fld Z h16 a16 "com/example/slot3/slot3/frame/Post" "chain" "Lcom/example/slot3/slot3/frame/PostChain;" (.null) := D16 (Or.inl (ow_34 hw)) (ty := (.object "com/example/slot3/slot3/frame/PostChain")) (by decide)
  refine own_dup X16 hx (hb hby at_36) rfl (pc' := 37) rfl ?_
  have z21 : n0 ≤ h16.size := (Nat.le_trans z15 E16.1)
  refine own_callC X16 hx hZ rfl hown (ow_12 hw) (ow_13 hw) (ow_11 hw) (ow_14 hw) (by decide) (rm_poi l Z a0 hw a16 h16 n0 z21) e16 (W := 1) (by decide) (by decide) opd___V rfl (rest := [(.ref a16)]) rfl (hb hby at_37) (Nat.le_of_eq rfl) (by rw [hml]; rfl) (by decide) (by decide) (pc' := 40) rfl ?_
  intro v20 T20 L20 X20 q20
  obtain ⟨rfl, Nq20, eh20⟩ := q20
  have N20 := Fr.app N14 Nq20
  show own_G p e below s _ _ _ (T20.setTop (mkF m 40 #[.val (.int u0), .val (.ref a1), .val (.ref a4), .val (.ref a7), .val (.ref a11), .unset, .unset, .unset, .unset, .unset, .unset, .unset] [(.ref a16)]))
  refine own_astore X20 hx (hb hby at_40) rfl (l' := #[.val (.int u0), .val (.ref a1), .val (.ref a4), .val (.ref a7), .val (.ref a11), .val (.ref a16), .unset, .unset, .unset, .unset, .unset, .unset]) rfl (pc' := 42) rfl ?_
  refine own_iloadN X20 hx (hb hby at_42) rfl (pc' := 43) rfl ?_
  refine own_iconst X20 hx (hb hby at_43) (z := (1 : Int32)) rfl (pc' := 44) rfl ?_
  refine own_iand X20 hx (hb hby at_44) (pc' := 45) rfl ?_
  by_cases c22 : (u0 &&& (1 : Int32)) = (0 : Int32)
  · refine own_ifT X20 hx (hb hby at_45) (teq c22).1 (by decide) (pc' := 67) rfl ?_
    refine own_iloadN X20 hx (hb hby at_67) rfl (pc' := 68) rfl ?_
    refine own_iconst X20 hx (hb hby at_68) (z := (2 : Int32)) rfl (pc' := 69) rfl ?_
    refine own_iand X20 hx (hb hby at_69) (pc' := 70) rfl ?_
    by_cases c23 : (u0 &&& (2 : Int32)) = (0 : Int32)
    · refine own_ifT X20 hx (hb hby at_70) (teq c23).1 (by decide) (pc' := 93) rfl ?_
      refine own_iloadN X20 hx (hb hby at_93) rfl (pc' := 94) rfl ?_
      refine own_bipush X20 hx (hb hby at_94) (z := (16 : Int32)) (by decide) (pc' := 96) rfl ?_
      refine own_iand X20 hx (hb hby at_96) (pc' := 97) rfl ?_
      by_cases c24 : (u0 &&& (16 : Int32)) = (0 : Int32)
      · refine own_ifT X20 hx (hb hby at_97) (teq c24).1 (by decide) (pc' := 114) rfl ?_
        refine own_aloadN X20 hx (hb hby at_114) rfl rfl (pc' := 115) rfl ?_
        have f25 : Fld Z h16 a1 "com/example/slot3/slot3/frame/PostChain" "first" "Lcom/example/slot3/slot3/frame/Post;" (.null) := ((((F1_first.ext E4).ext E7).ext E11).ext E16)
        refine own_getF X20 hx hZ hown (ow_16 hw) eh20 f25 (hb hby at_115) (pc' := 118) rfl ?_
        intro T26 X26 e26
        refine own_astore X26 hx (hb hby at_118) rfl (l' := #[.val (.int u0), .val (.ref a1), .val (.ref a4), .val (.ref a7), .val (.ref a11), .val (.ref a16), .val (.null), .unset, .unset, .unset, .unset, .unset]) rfl (pc' := 120) rfl ?_
        refine own_aloadN X26 hx (hb hby at_120) rfl rfl (pc' := 121) rfl ?_
        have f27 : Fld Z h16 a1 "com/example/slot3/slot3/frame/PostChain" "last" "Lcom/example/slot3/slot3/frame/Post;" (.null) := ((((F1_last.ext E4).ext E7).ext E11).ext E16)
        refine own_getF X26 hx hZ hown (ow_18 hw) e26 f27 (hb hby at_121) (pc' := 124) rfl ?_
        intro T28 X28 e28
        refine own_astore X28 hx (hb hby at_124) rfl (l' := #[.val (.int u0), .val (.ref a1), .val (.ref a4), .val (.ref a7), .val (.ref a11), .val (.ref a16), .val (.null), .val (.null), .unset, .unset, .unset, .unset]) rfl (pc' := 126) rfl ?_
        refine own_aloadN X28 hx (hb hby at_126) rfl rfl (pc' := 127) rfl ?_
        have f29 : Fld Z h16 a1 "com/example/slot3/slot3/frame/PostChain" "count" "I" (.int (0 : Int32)) := ((((F1_count.ext E4).ext E7).ext E11).ext E16)
        refine own_getF X28 hx hZ hown (ow_20 hw) e28 f29 (hb hby at_127) (pc' := 130) rfl ?_
        intro T30 X30 e30
        refine own_istore X30 hx (hb hby at_130) (l' := #[.val (.int u0), .val (.ref a1), .val (.ref a4), .val (.ref a7), .val (.ref a11), .val (.ref a16), .val (.null), .val (.null), .val (.int (0 : Int32)), .unset, .unset, .unset]) rfl (pc' := 132) rfl ?_
        refine own_aload X30 hx (hb hby at_132) rfl rfl (pc' := 134) rfl ?_
        refine own_ifnonnullF X30 hx (hb hby at_134) (pc' := 137) rfl ?_
        refine own_aconstNull X30 hx (hb hby at_137) (pc' := 138) rfl ?_
        refine own_goto X30 hx (hb hby at_138) (by decide) (pc' := 146) rfl ?_
        refine own_astore X30 hx (hb hby at_146) rfl (l' := #[.val (.int u0), .val (.ref a1), .val (.ref a4), .val (.ref a7), .val (.ref a11), .val (.ref a16), .val (.null), .val (.null), .val (.int (0 : Int32)), .val (.null), .unset, .unset]) rfl (pc' := 148) rfl ?_
        refine own_aload X30 hx (hb hby at_148) rfl rfl (pc' := 150) rfl ?_
        refine own_ifnonnullF X30 hx (hb hby at_150) (pc' := 153) rfl ?_
        refine own_aconstNull X30 hx (hb hby at_153) (pc' := 154) rfl ?_
        refine own_goto X30 hx (hb hby at_154) (by decide) (pc' := 162) rfl ?_
        refine own_astore X30 hx (hb hby at_162) rfl (l' := #[.val (.int u0), .val (.ref a1), .val (.ref a4), .val (.ref a7), .val (.ref a11), .val (.ref a16), .val (.null), .val (.null), .val (.int (0 : Int32)), .val (.null), .val (.null), .unset]) rfl (pc' := 164) rfl ?_
        refine own_aloadN X30 hx (hb hby at_164) rfl rfl (pc' := 165) rfl ?_
        refine own_aload X30 hx (hb hby at_165) rfl rfl (pc' := 167) rfl ?_
        have f32 : Exa Z h16 a1 "com/example/slot3/slot3/frame/PostChain" := (f17.ext E16)
        have f33 : Exa Z h16 a11 "com/example/slot3/slot3/frame/Post" := (A11.ext E16)
        have f34 : Fld Z h16 a11 "com/example/slot3/slot3/frame/Post" "following" "Lcom/example/slot3/slot3/frame/Post;" (.null) := (F11_following.ext E16)
        have f35 : Fld Z h16 a11 "com/example/slot3/slot3/frame/Post" "previous" "Lcom/example/slot3/slot3/frame/Post;" (.null) := (F11_previous.ext E16)
        have f36 : Fld Z h16 a11 "com/example/slot3/slot3/frame/Post" "chain" "Lcom/example/slot3/slot3/frame/PostChain;" (.null) := (F11_chain.ext E16)
        refine own_callV X30 hx hZ hown (ow_22 hw) (ow_23 hw) (ow_25 hw) (ow_24 hw) (ow_2 hw) (ow_26 hw) (by decide) f32 (rm_pu1 l Z a0 hw a1 a11 (0 : Int32) .null .null .null .null h16 n0 z21 f32 f33 f25 f27 f29 f34 f35 f36 ge_a1 ge_a11 (Nat.ne_of_lt lt_a1_a11)) e30 (W := 0) (by decide) (by decide) opd__Lcom_example_slot3_slot3_frame_Post__V rfl (rest := []) rfl (hb hby at_167) (Nat.le_of_eq rfl) (by rw [hml]; rfl) (by decide) (by decide) (pc' := 170) rfl ?_
        intro v31 T31 L31 X31 q31
        obtain ⟨rfl, Nq31, K31, p31_0, p31_1, p31_2, p31_3, p31_4, p31_5⟩ := q31
        have N31 := Fr.app N20 Nq31
        show own_G p e below s _ _ _ (T31.setTop (mkF m 170 #[.val (.int u0), .val (.ref a1), .val (.ref a4), .val (.ref a7), .val (.ref a11), .val (.ref a16), .val (.null), .val (.null), .val (.int (0 : Int32)), .val (.null), .val (.null), .unset] []))
        refine own_aloadN X31 hx (hb hby at_170) rfl rfl (pc' := 171) rfl ?_
        refine own_getF X31 hx hZ hown (ow_16 hw) rfl p31_0 (hb hby at_171) (pc' := 174) rfl ?_
        intro T37 X37 e37
        refine own_aload X37 hx (hb hby at_174) rfl rfl (pc' := 176) rfl ?_
        refine own_acmpF X37 hx (hb hby at_176) rfl rfl (by simp [XT.acmp]) (pc' := 179) rfl ?_
        refine own_aload X37 hx (hb hby at_179) rfl rfl (pc' := 181) rfl ?_
        refine own_getF X37 hx hZ hown (ow_36 hw) e37 p31_4 (hb hby at_181) (pc' := 184) rfl ?_
        intro T38 X38 e38
        refine own_ifnonnullF X38 hx (hb hby at_184) (pc' := 187) rfl ?_
        refine own_aload X38 hx (hb hby at_187) rfl rfl (pc' := 189) rfl ?_
        refine own_getF X38 hx hZ hown (ow_37 hw) e38 p31_3 (hb hby at_189) (pc' := 192) rfl ?_
        intro T39 X39 e39
        refine own_aload X39 hx (hb hby at_192) rfl rfl (pc' := 194) rfl ?_
        refine own_acmpF X39 hx (hb hby at_194) rfl rfl (by simp [XT.acmp]) (pc' := 197) rfl ?_
        refine own_aload X39 hx (hb hby at_197) rfl rfl (pc' := 199) rfl ?_
        refine own_getF X39 hx hZ hown (ow_38 hw) e39 p31_5 (hb hby at_199) (pc' := 202) rfl ?_
        intro T40 X40 e40
        refine own_aloadN X40 hx (hb hby at_202) rfl rfl (pc' := 203) rfl ?_
        refine own_acmpF X40 hx (hb hby at_203) rfl rfl (by simp [XT.acmp]) (pc' := 206) rfl ?_
        refine own_aloadN X40 hx (hb hby at_206) rfl rfl (pc' := 207) rfl ?_
        refine own_getF X40 hx hZ hown (ow_20 hw) e40 p31_2 (hb hby at_207) (pc' := 210) rfl ?_
        intro T41 X41 e41
        refine own_iload X41 hx (hb hby at_210) rfl (pc' := 212) rfl ?_
        refine own_iconst X41 hx (hb hby at_212) (z := (1 : Int32)) rfl (pc' := 213) rfl ?_
        refine own_iadd X41 hx (hb hby at_213) (pc' := 214) rfl ?_
        refine own_icmpF X41 hx (hb hby at_214) (by decide) (pc' := 217) rfl ?_
        refine own_iconst X41 hx (hb hby at_217) (z := (1 : Int32)) rfl (pc' := 218) rfl ?_
        refine own_goto X41 hx (hb hby at_218) (by decide) (pc' := 222) rfl ?_
        refine own_istore X41 hx (hb hby at_222) (l' := #[.val (.int u0), .val (.ref a1), .val (.ref a4), .val (.ref a7), .val (.ref a11), .val (.ref a16), .val (.null), .val (.null), .val (.int (0 : Int32)), .val (.null), .val (.null), .val (.int (1 : Int32))]) rfl (pc' := 224) rfl ?_
        refine own_aload X41 hx (hb hby at_224) rfl rfl (pc' := 226) rfl ?_
        refine own_ifnonnullF X41 hx (hb hby at_226) (pc' := 229) rfl ?_
        refine own_iload X41 hx (hb hby at_229) rfl (pc' := 231) rfl ?_
        refine own_ifF X41 hx (hb hby at_231) (by decide) (pc' := 234) rfl ?_
        refine own_aloadN X41 hx (hb hby at_234) rfl rfl (pc' := 235) rfl ?_
        refine own_getF X41 hx hZ hown (ow_18 hw) e41 p31_1 (hb hby at_235) (pc' := 238) rfl ?_
        intro T42 X42 e42
        refine own_aload X42 hx (hb hby at_238) rfl rfl (pc' := 240) rfl ?_
        refine own_acmpF X42 hx (hb hby at_240) rfl rfl (by simp [XT.acmp]) (pc' := 243) rfl ?_
        refine own_iconst X42 hx (hb hby at_243) (z := (1 : Int32)) rfl (pc' := 244) rfl ?_
        refine own_goto X42 hx (hb hby at_244) (by decide) (pc' := 248) rfl ?_
        refine own_istore X42 hx (hb hby at_248) (l' := #[.val (.int u0), .val (.ref a1), .val (.ref a4), .val (.ref a7), .val (.ref a11), .val (.ref a16), .val (.null), .val (.null), .val (.int (0 : Int32)), .val (.null), .val (.null), .val (.int (1 : Int32))]) rfl (pc' := 250) rfl ?_
        refine own_goto X42 hx (hb hby at_250) (by decide) (pc' := 330) rfl ?_
        refine own_iload X42 hx (hb hby at_330) rfl (pc' := 332) rfl ?_
        refine own_ifF X42 hx (hb hby at_332) (by decide) (pc' := 335) rfl ?_
        refine own_aload X42 hx (hb hby at_335) rfl rfl (pc' := 337) rfl ?_
        have f43 : Fld Z T31.heap a16 "com/example/slot3/slot3/frame/Post" "following" "Lcom/example/slot3/slot3/frame/Post;" (.null) := (F16_following.keep K31 (ninS (Nat.ne_of_gt lt_a1_a16) (ninS (Nat.ne_of_gt lt_a11_a16) nin0)))
        refine own_getF X42 hx hZ hown (ow_37 hw) e42 f43 (hb hby at_337) (pc' := 340) rfl ?_
        intro T44 X44 e44
        refine own_ifnonnullF X44 hx (hb hby at_340) (pc' := 343) rfl ?_
        refine own_aload X44 hx (hb hby at_343) rfl rfl (pc' := 345) rfl ?_
        have f45 : Fld Z T31.heap a16 "com/example/slot3/slot3/frame/Post" "previous" "Lcom/example/slot3/slot3/frame/Post;" (.null) := (F16_previous.keep K31 (ninS (Nat.ne_of_gt lt_a1_a16) (ninS (Nat.ne_of_gt lt_a11_a16) nin0)))
        refine own_getF X44 hx hZ hown (ow_36 hw) e44 f45 (hb hby at_345) (pc' := 348) rfl ?_
        intro T46 X46 e46
        refine own_ifnonnullF X46 hx (hb hby at_348) (pc' := 351) rfl ?_
        refine own_aload X46 hx (hb hby at_351) rfl rfl (pc' := 353) rfl ?_
        have f47 : Fld Z T31.heap a16 "com/example/slot3/slot3/frame/Post" "chain" "Lcom/example/slot3/slot3/frame/PostChain;" (.null) := (F16_chain.keep K31 (ninS (Nat.ne_of_gt lt_a1_a16) (ninS (Nat.ne_of_gt lt_a11_a16) nin0)))
        refine own_getF X46 hx hZ hown (ow_38 hw) e46 f47 (hb hby at_353) (pc' := 356) rfl ?_
        intro T48 X48 e48
        refine own_ifnonnullF X48 hx (hb hby at_356) (pc' := 359) rfl ?_
        refine own_iconst X48 hx (hb hby at_359) (z := (1 : Int32)) rfl (pc' := 360) rfl ?_
        refine own_goto X48 hx (hb hby at_360) (by decide) (pc' := 364) rfl ?_
        refine own_istore X48 hx (hb hby at_364) (l' := #[.val (.int u0), .val (.ref a1), .val (.ref a4), .val (.ref a7), .val (.ref a11), .val (.ref a16), .val (.null), .val (.null), .val (.int (0 : Int32)), .val (.null), .val (.null), .val (.int (1 : Int32))]) rfl (pc' := 366) rfl ?_
        refine own_iload X48 hx (hb hby at_366) rfl (pc' := 368) rfl ?_
        exact own_retZ X48 hx hret hlk (Or.inr rfl) (hb hby at_368) ⟨rfl, N31⟩ (by decide) (by decide)
      · refine own_ifF X20 hx (hb hby at_97) (feq c24).1 (pc' := 100) rfl ?_
        refine own_aload X20 hx (hb hby at_100) rfl rfl (pc' := 102) rfl ?_
        refine own_aload X20 hx (hb hby at_102) rfl rfl (pc' := 104) rfl ?_
        have f49 : Fld Z h16 a11 "com/example/slot3/slot3/frame/Post" "previous" "Lcom/example/slot3/slot3/frame/Post;" (.null) := (F11_previous.ext E16)
        have f50 : Exa Z h16 a11 "com/example/slot3/slot3/frame/Post" := (A11.ext E16)
        refine own_putF X20 hx hZ hown (ow_36 hw) eh20 f49 f50 (Or.inl (ow_32 hw)) (ow_10 hw) (ty := (.object "com/example/slot3/slot3/frame/Post")) (by decide) rfl rfl (hb hby at_104) (pc' := 107) rfl ?_
        intro T51 h51 X51 e51 W51
        have N51 := Fr.snoc X51 N20 ge_a11
        refine own_aload X51 hx (hb hby at_107) rfl rfl (pc' := 109) rfl ?_
        refine own_aload X51 hx (hb hby at_109) rfl rfl (pc' := 111) rfl ?_
        have f52 : Fld Z h51 a11 "com/example/slot3/slot3/frame/Post" "following" "Lcom/example/slot3/slot3/frame/Post;" (.null) := ((F11_following.ext E16).other W51 (Or.inr (osn_7 hw)))
        have f53 : Exa Z h51 a11 "com/example/slot3/slot3/frame/Post" := (f50.wr W51)
        refine own_putF X51 hx hZ hown (ow_37 hw) e51 f52 f53 (Or.inl (ow_30 hw)) (ow_10 hw) (ty := (.object "com/example/slot3/slot3/frame/Post")) (by decide) rfl rfl (hb hby at_111) (pc' := 114) rfl ?_
        intro T54 h54 X54 e54 W54
        have N54 := Fr.snoc X54 N51 ge_a11
        refine own_aloadN X54 hx (hb hby at_114) rfl rfl (pc' := 115) rfl ?_
        have f55 : Fld Z h54 a1 "com/example/slot3/slot3/frame/PostChain" "first" "Lcom/example/slot3/slot3/frame/Post;" (.null) := ((((((F1_first.ext E4).ext E7).ext E11).ext E16).other W51 (Or.inl (Nat.ne_of_lt lt_a1_a11))).other W54 (Or.inl (Nat.ne_of_lt lt_a1_a11)))
        refine own_getF X54 hx hZ hown (ow_16 hw) e54 f55 (hb hby at_115) (pc' := 118) rfl ?_
        intro T56 X56 e56
        refine own_astore X56 hx (hb hby at_118) rfl (l' := #[.val (.int u0), .val (.ref a1), .val (.ref a4), .val (.ref a7), .val (.ref a11), .val (.ref a16), .val (.null), .unset, .unset, .unset, .unset, .unset]) rfl (pc' := 120) rfl ?_
        refine own_aloadN X56 hx (hb hby at_120) rfl rfl (pc' := 121) rfl ?_
        have f57 : Fld Z h54 a1 "com/example/slot3/slot3/frame/PostChain" "last" "Lcom/example/slot3/slot3/frame/Post;" (.null) := ((((((F1_last.ext E4).ext E7).ext E11).ext E16).other W51 (Or.inl (Nat.ne_of_lt lt_a1_a11))).other W54 (Or.inl (Nat.ne_of_lt lt_a1_a11)))
        refine own_getF X56 hx hZ hown (ow_18 hw) e56 f57 (hb hby at_121) (pc' := 124) rfl ?_
        intro T58 X58 e58
        refine own_astore X58 hx (hb hby at_124) rfl (l' := #[.val (.int u0), .val (.ref a1), .val (.ref a4), .val (.ref a7), .val (.ref a11), .val (.ref a16), .val (.null), .val (.null), .unset, .unset, .unset, .unset]) rfl (pc' := 126) rfl ?_
        refine own_aloadN X58 hx (hb hby at_126) rfl rfl (pc' := 127) rfl ?_
        have f59 : Fld Z h54 a1 "com/example/slot3/slot3/frame/PostChain" "count" "I" (.int (0 : Int32)) := ((((((F1_count.ext E4).ext E7).ext E11).ext E16).other W51 (Or.inl (Nat.ne_of_lt lt_a1_a11))).other W54 (Or.inl (Nat.ne_of_lt lt_a1_a11)))
        refine own_getF X58 hx hZ hown (ow_20 hw) e58 f59 (hb hby at_127) (pc' := 130) rfl ?_
        intro T60 X60 e60
        refine own_istore X60 hx (hb hby at_130) (l' := #[.val (.int u0), .val (.ref a1), .val (.ref a4), .val (.ref a7), .val (.ref a11), .val (.ref a16), .val (.null), .val (.null), .val (.int (0 : Int32)), .unset, .unset, .unset]) rfl (pc' := 132) rfl ?_
        refine own_aload X60 hx (hb hby at_132) rfl rfl (pc' := 134) rfl ?_
        refine own_ifnonnullF X60 hx (hb hby at_134) (pc' := 137) rfl ?_
        refine own_aconstNull X60 hx (hb hby at_137) (pc' := 138) rfl ?_
        refine own_goto X60 hx (hb hby at_138) (by decide) (pc' := 146) rfl ?_
        refine own_astore X60 hx (hb hby at_146) rfl (l' := #[.val (.int u0), .val (.ref a1), .val (.ref a4), .val (.ref a7), .val (.ref a11), .val (.ref a16), .val (.null), .val (.null), .val (.int (0 : Int32)), .val (.null), .unset, .unset]) rfl (pc' := 148) rfl ?_
        refine own_aload X60 hx (hb hby at_148) rfl rfl (pc' := 150) rfl ?_
        refine own_ifnonnullF X60 hx (hb hby at_150) (pc' := 153) rfl ?_
        refine own_aconstNull X60 hx (hb hby at_153) (pc' := 154) rfl ?_
        refine own_goto X60 hx (hb hby at_154) (by decide) (pc' := 162) rfl ?_
        refine own_astore X60 hx (hb hby at_162) rfl (l' := #[.val (.int u0), .val (.ref a1), .val (.ref a4), .val (.ref a7), .val (.ref a11), .val (.ref a16), .val (.null), .val (.null), .val (.int (0 : Int32)), .val (.null), .val (.null), .unset]) rfl (pc' := 164) rfl ?_
        refine own_aloadN X60 hx (hb hby at_164) rfl rfl (pc' := 165) rfl ?_
        refine own_aload X60 hx (hb hby at_165) rfl rfl (pc' := 167) rfl ?_
        have f62 : Exa Z h54 a1 "com/example/slot3/slot3/frame/PostChain" := (((f17.ext E16).wr W51).wr W54)
        have f63 : Exa Z h54 a11 "com/example/slot3/slot3/frame/Post" := (f53.wr W54)
        have f64 : Fld Z h54 a11 "com/example/slot3/slot3/frame/Post" "previous" "Lcom/example/slot3/slot3/frame/Post;" (.ref a16) := ((f49.same W51).other W54 (Or.inr (osn_10 hw)))
        have f65 : Fld Z h54 a11 "com/example/slot3/slot3/frame/Post" "chain" "Lcom/example/slot3/slot3/frame/PostChain;" (.null) := (((F11_chain.ext E16).other W51 (Or.inr (osn_1 hw))).other W54 (Or.inr (osn_11 hw)))
        have z66 : n0 ≤ h54.size := (Nat.le_trans (Nat.le_trans z21 (Nat.le_of_eq (Wr.size W51).symm)) (Nat.le_of_eq (Wr.size W54).symm))
        refine own_callV X60 hx hZ hown (ow_22 hw) (ow_23 hw) (ow_25 hw) (ow_24 hw) (ow_2 hw) (ow_26 hw) (by decide) f62 (rm_pu1 l Z a0 hw a1 a11 (0 : Int32) .null (.ref a16) (.ref a16) .null h54 n0 z66 f62 f63 f55 f57 f59 (f52.same W54) f64 f65 ge_a1 ge_a11 (Nat.ne_of_lt lt_a1_a11)) e60 (W := 0) (by decide) (by decide) opd__Lcom_example_slot3_slot3_frame_Post__V rfl (rest := []) rfl (hb hby at_167) (Nat.le_of_eq rfl) (by rw [hml]; rfl) (by decide) (by decide) (pc' := 170) rfl ?_
        intro v61 T61 L61 X61 q61
        obtain ⟨rfl, Nq61, K61, p61_0, p61_1, p61_2, p61_3, p61_4, p61_5⟩ := q61
        have N61 := Fr.app N54 Nq61
        show own_G p e below s _ _ _ (T61.setTop (mkF m 170 #[.val (.int u0), .val (.ref a1), .val (.ref a4), .val (.ref a7), .val (.ref a11), .val (.ref a16), .val (.null), .val (.null), .val (.int (0 : Int32)), .val (.null), .val (.null), .unset] []))
        refine own_aloadN X61 hx (hb hby at_170) rfl rfl (pc' := 171) rfl ?_
        refine own_getF X61 hx hZ hown (ow_16 hw) rfl p61_0 (hb hby at_171) (pc' := 174) rfl ?_
        intro T67 X67 e67
        refine own_aload X67 hx (hb hby at_174) rfl rfl (pc' := 176) rfl ?_
        refine own_acmpF X67 hx (hb hby at_176) rfl rfl (by simp [XT.acmp]) (pc' := 179) rfl ?_
        refine own_aload X67 hx (hb hby at_179) rfl rfl (pc' := 181) rfl ?_
        refine own_getF X67 hx hZ hown (ow_36 hw) e67 p61_4 (hb hby at_181) (pc' := 184) rfl ?_
        intro T68 X68 e68
        refine own_ifnonnullF X68 hx (hb hby at_184) (pc' := 187) rfl ?_
        refine own_aload X68 hx (hb hby at_187) rfl rfl (pc' := 189) rfl ?_
        refine own_getF X68 hx hZ hown (ow_37 hw) e68 p61_3 (hb hby at_189) (pc' := 192) rfl ?_
        intro T69 X69 e69
        refine own_aload X69 hx (hb hby at_192) rfl rfl (pc' := 194) rfl ?_
        refine own_acmpF X69 hx (hb hby at_194) rfl rfl (by simp [XT.acmp]) (pc' := 197) rfl ?_
        refine own_aload X69 hx (hb hby at_197) rfl rfl (pc' := 199) rfl ?_
        refine own_getF X69 hx hZ hown (ow_38 hw) e69 p61_5 (hb hby at_199) (pc' := 202) rfl ?_
        intro T70 X70 e70
        refine own_aloadN X70 hx (hb hby at_202) rfl rfl (pc' := 203) rfl ?_
        refine own_acmpF X70 hx (hb hby at_203) rfl rfl (by simp [XT.acmp]) (pc' := 206) rfl ?_
        refine own_aloadN X70 hx (hb hby at_206) rfl rfl (pc' := 207) rfl ?_
        refine own_getF X70 hx hZ hown (ow_20 hw) e70 p61_2 (hb hby at_207) (pc' := 210) rfl ?_
        intro T71 X71 e71
        refine own_iload X71 hx (hb hby at_210) rfl (pc' := 212) rfl ?_
        refine own_iconst X71 hx (hb hby at_212) (z := (1 : Int32)) rfl (pc' := 213) rfl ?_
        refine own_iadd X71 hx (hb hby at_213) (pc' := 214) rfl ?_
        refine own_icmpF X71 hx (hb hby at_214) (by decide) (pc' := 217) rfl ?_
        refine own_iconst X71 hx (hb hby at_217) (z := (1 : Int32)) rfl (pc' := 218) rfl ?_
        refine own_goto X71 hx (hb hby at_218) (by decide) (pc' := 222) rfl ?_
        refine own_istore X71 hx (hb hby at_222) (l' := #[.val (.int u0), .val (.ref a1), .val (.ref a4), .val (.ref a7), .val (.ref a11), .val (.ref a16), .val (.null), .val (.null), .val (.int (0 : Int32)), .val (.null), .val (.null), .val (.int (1 : Int32))]) rfl (pc' := 224) rfl ?_
        refine own_aload X71 hx (hb hby at_224) rfl rfl (pc' := 226) rfl ?_
        refine own_ifnonnullF X71 hx (hb hby at_226) (pc' := 229) rfl ?_
        refine own_iload X71 hx (hb hby at_229) rfl (pc' := 231) rfl ?_
        refine own_ifF X71 hx (hb hby at_231) (by decide) (pc' := 234) rfl ?_
        refine own_aloadN X71 hx (hb hby at_234) rfl rfl (pc' := 235) rfl ?_
        refine own_getF X71 hx hZ hown (ow_18 hw) e71 p61_1 (hb hby at_235) (pc' := 238) rfl ?_
        intro T72 X72 e72
        refine own_aload X72 hx (hb hby at_238) rfl rfl (pc' := 240) rfl ?_
        refine own_acmpF X72 hx (hb hby at_240) rfl rfl (by simp [XT.acmp]) (pc' := 243) rfl ?_
        refine own_iconst X72 hx (hb hby at_243) (z := (1 : Int32)) rfl (pc' := 244) rfl ?_
        refine own_goto X72 hx (hb hby at_244) (by decide) (pc' := 248) rfl ?_
        refine own_istore X72 hx (hb hby at_248) (l' := #[.val (.int u0), .val (.ref a1), .val (.ref a4), .val (.ref a7), .val (.ref a11), .val (.ref a16), .val (.null), .val (.null), .val (.int (0 : Int32)), .val (.null), .val (.null), .val (.int (1 : Int32))]) rfl (pc' := 250) rfl ?_
        refine own_goto X72 hx (hb hby at_250) (by decide) (pc' := 330) rfl ?_
        refine own_iload X72 hx (hb hby at_330) rfl (pc' := 332) rfl ?_
        refine own_ifF X72 hx (hb hby at_332) (by decide) (pc' := 335) rfl ?_
        refine own_aload X72 hx (hb hby at_335) rfl rfl (pc' := 337) rfl ?_
        have f73 : Fld Z T61.heap a16 "com/example/slot3/slot3/frame/Post" "following" "Lcom/example/slot3/slot3/frame/Post;" (.null) := (((F16_following.other W51 (Or.inl (Nat.ne_of_gt lt_a11_a16))).other W54 (Or.inl (Nat.ne_of_gt lt_a11_a16))).keep K61 (ninS (Nat.ne_of_gt lt_a1_a16) (ninS (Nat.ne_of_gt lt_a11_a16) nin0)))
        refine own_getF X72 hx hZ hown (ow_37 hw) e72 f73 (hb hby at_337) (pc' := 340) rfl ?_
        intro T74 X74 e74
        refine own_ifnonnullF X74 hx (hb hby at_340) (pc' := 343) rfl ?_
        refine own_aload X74 hx (hb hby at_343) rfl rfl (pc' := 345) rfl ?_
        have f75 : Fld Z T61.heap a16 "com/example/slot3/slot3/frame/Post" "previous" "Lcom/example/slot3/slot3/frame/Post;" (.null) := (((F16_previous.other W51 (Or.inl (Nat.ne_of_gt lt_a11_a16))).other W54 (Or.inl (Nat.ne_of_gt lt_a11_a16))).keep K61 (ninS (Nat.ne_of_gt lt_a1_a16) (ninS (Nat.ne_of_gt lt_a11_a16) nin0)))
        refine own_getF X74 hx hZ hown (ow_36 hw) e74 f75 (hb hby at_345) (pc' := 348) rfl ?_
        intro T76 X76 e76
        refine own_ifnonnullF X76 hx (hb hby at_348) (pc' := 351) rfl ?_
        refine own_aload X76 hx (hb hby at_351) rfl rfl (pc' := 353) rfl ?_
        have f77 : Fld Z T61.heap a16 "com/example/slot3/slot3/frame/Post" "chain" "Lcom/example/slot3/slot3/frame/PostChain;" (.null) := (((F16_chain.other W51 (Or.inl (Nat.ne_of_gt lt_a11_a16))).other W54 (Or.inl (Nat.ne_of_gt lt_a11_a16))).keep K61 (ninS (Nat.ne_of_gt lt_a1_a16) (ninS (Nat.ne_of_gt lt_a11_a16) nin0)))
        refine own_getF X76 hx hZ hown (ow_38 hw) e76 f77 (hb hby at_353) (pc' := 356) rfl ?_
        intro T78 X78 e78
        refine own_ifnonnullF X78 hx (hb hby at_356) (pc' := 359) rfl ?_
        refine own_iconst X78 hx (hb hby at_359) (z := (1 : Int32)) rfl (pc' := 360) rfl ?_
        refine own_goto X78 hx (hb hby at_360) (by decide) (pc' := 364) rfl ?_
        refine own_istore X78 hx (hb hby at_364) (l' := #[.val (.int u0), .val (.ref a1), .val (.ref a4), .val (.ref a7), .val (.ref a11), .val (.ref a16), .val (.null), .val (.null), .val (.int (0 : Int32)), .val (.null), .val (.null), .val (.int (1 : Int32))]) rfl (pc' := 366) rfl ?_
        refine own_iload X78 hx (hb hby at_366) rfl (pc' := 368) rfl ?_
        exact own_retZ X78 hx hret hlk (Or.inr rfl) (hb hby at_368) ⟨rfl, N61⟩ (by decide) (by decide)
    · refine own_ifF X20 hx (hb hby at_70) (feq c23).1 (pc' := 73) rfl ?_
      refine own_iloadN X20 hx (hb hby at_73) rfl (pc' := 74) rfl ?_
      refine own_bipush X20 hx (hb hby at_74) (z := (8 : Int32)) (by decide) (pc' := 76) rfl ?_
      refine own_iand X20 hx (hb hby at_76) (pc' := 77) rfl ?_
      by_cases c79 : (u0 &&& (8 : Int32)) = (0 : Int32)
      · refine own_ifT X20 hx (hb hby at_77) (teq c79).1 (by decide) (pc' := 88) rfl ?_
        refine own_aloadN X20 hx (hb hby at_88) rfl rfl (pc' := 89) rfl ?_
        refine own_aloadN X20 hx (hb hby at_89) rfl rfl (pc' := 90) rfl ?_
        have f81 : Exa Z h16 a1 "com/example/slot3/slot3/frame/PostChain" := (f17.ext E16)
        have f82 : Exa Z h16 a7 "com/example/slot3/slot3/frame/Post" := (f19.ext E16)
        have f83 : Fld Z h16 a1 "com/example/slot3/slot3/frame/PostChain" "first" "Lcom/example/slot3/slot3/frame/Post;" (.null) := ((((F1_first.ext E4).ext E7).ext E11).ext E16)
        have f84 : Fld Z h16 a1 "com/example/slot3/slot3/frame/PostChain" "last" "Lcom/example/slot3/slot3/frame/Post;" (.null) := ((((F1_last.ext E4).ext E7).ext E11).ext E16)
        have f85 : Fld Z h16 a1 "com/example/slot3/slot3/frame/PostChain" "count" "I" (.int (0 : Int32)) := ((((F1_count.ext E4).ext E7).ext E11).ext E16)
        have f86 : Fld Z h16 a7 "com/example/slot3/slot3/frame/Post" "following" "Lcom/example/slot3/slot3/frame/Post;" (.null) := ((F7_following.ext E11).ext E16)
        have f87 : Fld Z h16 a7 "com/example/slot3/slot3/frame/Post" "previous" "Lcom/example/slot3/slot3/frame/Post;" (.null) := ((F7_previous.ext E11).ext E16)
        have f88 : Fld Z h16 a7 "com/example/slot3/slot3/frame/Post" "chain" "Lcom/example/slot3/slot3/frame/PostChain;" (.null) := ((F7_chain.ext E11).ext E16)
        refine own_callV X20 hx hZ hown (ow_39 hw) (ow_40 hw) (ow_42 hw) (ow_41 hw) (ow_2 hw) (ow_43 hw) (by decide) f81 (rm_ap1 l Z a0 hw a1 a7 (0 : Int32) .null .null .null .null h16 n0 z21 f81 f82 f83 f84 f85 f86 f87 f88 ge_a1 ge_a7 (Nat.ne_of_lt lt_a1_a7)) eh20 (W := 0) (by decide) (by decide) opd__Lcom_example_slot3_slot3_frame_Post__V rfl (rest := []) rfl (hb hby at_90) (Nat.le_of_eq rfl) (by rw [hml]; rfl) (by decide) (by decide) (pc' := 93) rfl ?_
        intro v80 T80 L80 X80 q80
        obtain ⟨rfl, Nq80, K80, p80_0, p80_1, p80_2, p80_3, p80_4, p80_5⟩ := q80
        have N80 := Fr.app N20 Nq80
        show own_G p e below s _ _ _ (T80.setTop (mkF m 93 #[.val (.int u0), .val (.ref a1), .val (.ref a4), .val (.ref a7), .val (.ref a11), .val (.ref a16), .unset, .unset, .unset, .unset, .unset, .unset] []))
        refine own_iloadN X80 hx (hb hby at_93) rfl (pc' := 94) rfl ?_
        refine own_bipush X80 hx (hb hby at_94) (z := (16 : Int32)) (by decide) (pc' := 96) rfl ?_
        refine own_iand X80 hx (hb hby at_96) (pc' := 97) rfl ?_
        by_cases c89 : (u0 &&& (16 : Int32)) = (0 : Int32)
        · refine own_ifT X80 hx (hb hby at_97) (teq c89).1 (by decide) (pc' := 114) rfl ?_
          refine own_aloadN X80 hx (hb hby at_114) rfl rfl (pc' := 115) rfl ?_
          refine own_getF X80 hx hZ hown (ow_16 hw) rfl p80_0 (hb hby at_115) (pc' := 118) rfl ?_
          intro T90 X90 e90
          refine own_astore X90 hx (hb hby at_118) rfl (l' := #[.val (.int u0), .val (.ref a1), .val (.ref a4), .val (.ref a7), .val (.ref a11), .val (.ref a16), .val (.ref a7), .unset, .unset, .unset, .unset, .unset]) rfl (pc' := 120) rfl ?_
          refine own_aloadN X90 hx (hb hby at_120) rfl rfl (pc' := 121) rfl ?_
          refine own_getF X90 hx hZ hown (ow_18 hw) e90 p80_1 (hb hby at_121) (pc' := 124) rfl ?_
          intro T91 X91 e91
          refine own_astore X91 hx (hb hby at_124) rfl (l' := #[.val (.int u0), .val (.ref a1), .val (.ref a4), .val (.ref a7), .val (.ref a11), .val (.ref a16), .val (.ref a7), .val (.ref a7), .unset, .unset, .unset, .unset]) rfl (pc' := 126) rfl ?_
          refine own_aloadN X91 hx (hb hby at_126) rfl rfl (pc' := 127) rfl ?_
          refine own_getF X91 hx hZ hown (ow_20 hw) e91 p80_2 (hb hby at_127) (pc' := 130) rfl ?_
          intro T92 X92 e92
          refine own_istore X92 hx (hb hby at_130) (l' := #[.val (.int u0), .val (.ref a1), .val (.ref a4), .val (.ref a7), .val (.ref a11), .val (.ref a16), .val (.ref a7), .val (.ref a7), .val (.int ((0 : Int32) + (1 : Int32))), .unset, .unset, .unset]) rfl (pc' := 132) rfl ?_
          refine own_aload X92 hx (hb hby at_132) rfl rfl (pc' := 134) rfl ?_
          refine own_ifnonnullT X92 hx (hb hby at_134) (by decide) (pc' := 141) rfl ?_
          refine own_aload X92 hx (hb hby at_141) rfl rfl (pc' := 143) rfl ?_
          refine own_getF X92 hx hZ hown (ow_37 hw) e92 p80_3 (hb hby at_143) (pc' := 146) rfl ?_
          intro T93 X93 e93
          refine own_astore X93 hx (hb hby at_146) rfl (l' := #[.val (.int u0), .val (.ref a1), .val (.ref a4), .val (.ref a7), .val (.ref a11), .val (.ref a16), .val (.ref a7), .val (.ref a7), .val (.int ((0 : Int32) + (1 : Int32))), .val (.null), .unset, .unset]) rfl (pc' := 148) rfl ?_
          refine own_aload X93 hx (hb hby at_148) rfl rfl (pc' := 150) rfl ?_
          refine own_ifnonnullT X93 hx (hb hby at_150) (by decide) (pc' := 157) rfl ?_
          refine own_aload X93 hx (hb hby at_157) rfl rfl (pc' := 159) rfl ?_
          refine own_getF X93 hx hZ hown (ow_37 hw) e93 p80_3 (hb hby at_159) (pc' := 162) rfl ?_
          intro T94 X94 e94
          refine own_astore X94 hx (hb hby at_162) rfl (l' := #[.val (.int u0), .val (.ref a1), .val (.ref a4), .val (.ref a7), .val (.ref a11), .val (.ref a16), .val (.ref a7), .val (.ref a7), .val (.int ((0 : Int32) + (1 : Int32))), .val (.null), .val (.null), .unset]) rfl (pc' := 164) rfl ?_
          refine own_aloadN X94 hx (hb hby at_164) rfl rfl (pc' := 165) rfl ?_
          refine own_aload X94 hx (hb hby at_165) rfl rfl (pc' := 167) rfl ?_
          have f96 : Exa Z T80.heap a1 "com/example/slot3/slot3/frame/PostChain" := (f81.keep K80)
          have f97 : Exa Z T80.heap a11 "com/example/slot3/slot3/frame/Post" := ((A11.ext E16).keep K80)
          have f98 : Exa Z T80.heap a7 "com/example/slot3/slot3/frame/Post" := (f82.keep K80)
          have f99 : Fld Z T80.heap a11 "com/example/slot3/slot3/frame/Post" "following" "Lcom/example/slot3/slot3/frame/Post;" (.null) := ((F11_following.ext E16).keep K80 (ninS (Nat.ne_of_gt lt_a1_a11) (ninS (Nat.ne_of_gt lt_a7_a11) nin0)))
          have f100 : Fld Z T80.heap a11 "com/example/slot3/slot3/frame/Post" "previous" "Lcom/example/slot3/slot3/frame/Post;" (.null) := ((F11_previous.ext E16).keep K80 (ninS (Nat.ne_of_gt lt_a1_a11) (ninS (Nat.ne_of_gt lt_a7_a11) nin0)))
          have f101 : Fld Z T80.heap a11 "com/example/slot3/slot3/frame/Post" "chain" "Lcom/example/slot3/slot3/frame/PostChain;" (.null) := ((F11_chain.ext E16).keep K80 (ninS (Nat.ne_of_gt lt_a1_a11) (ninS (Nat.ne_of_gt lt_a7_a11) nin0)))
          have z102 : n0 ≤ T80.heap.size := (Nat.le_trans z21 K80.1)
          refine own_callV X94 hx hZ hown (ow_22 hw) (ow_23 hw) (ow_25 hw) (ow_24 hw) (ow_2 hw) (ow_26 hw) (by decide) f96 (rm_pu2 l Z a0 hw a1 a11 a7 ((0 : Int32) + (1 : Int32)) (.ref a7) .null .null .null .null .null (.ref a1) T80.heap n0 z102 f96 f97 p80_0 p80_1 p80_2 f98 f99 f100 f101 p80_3 p80_4 p80_5 ge_a1 ge_a11 ge_a7 (Nat.ne_of_lt lt_a1_a11) (Nat.ne_of_lt lt_a1_a7) (Nat.ne_of_gt lt_a7_a11)) e94 (W := 0) (by decide) (by decide) opd__Lcom_example_slot3_slot3_frame_Post__V rfl (rest := []) rfl (hb hby at_167) (Nat.le_of_eq rfl) (by rw [hml]; rfl) (by decide) (by decide) (pc' := 170) rfl ?_
          intro v95 T95 L95 X95 q95
          obtain ⟨rfl, Nq95, K95, p95_0, p95_1, p95_2, p95_3, p95_4, p95_5, p95_6, p95_7, p95_8⟩ := q95
          have N95 := Fr.app N80 Nq95
          show own_G p e below s _ _ _ (T95.setTop (mkF m 170 #[.val (.int u0), .val (.ref a1), .val (.ref a4), .val (.ref a7), .val (.ref a11), .val (.ref a16), .val (.ref a7), .val (.ref a7), .val (.int ((0 : Int32) + (1 : Int32))), .val (.null), .val (.null), .unset] []))
          refine own_aloadN X95 hx (hb hby at_170) rfl rfl (pc' := 171) rfl ?_
          refine own_getF X95 hx hZ hown (ow_16 hw) rfl p95_0 (hb hby at_171) (pc' := 174) rfl ?_
          intro T103 X103 e103
          refine own_aload X103 hx (hb hby at_174) rfl rfl (pc' := 176) rfl ?_
          refine own_acmpF X103 hx (hb hby at_176) rfl rfl (by simp [XT.acmp]) (pc' := 179) rfl ?_
          refine own_aload X103 hx (hb hby at_179) rfl rfl (pc' := 181) rfl ?_
          refine own_getF X103 hx hZ hown (ow_36 hw) e103 p95_4 (hb hby at_181) (pc' := 184) rfl ?_
          intro T104 X104 e104
          refine own_ifnonnullF X104 hx (hb hby at_184) (pc' := 187) rfl ?_
          refine own_aload X104 hx (hb hby at_187) rfl rfl (pc' := 189) rfl ?_
          refine own_getF X104 hx hZ hown (ow_37 hw) e104 p95_3 (hb hby at_189) (pc' := 192) rfl ?_
          intro T105 X105 e105
          refine own_aload X105 hx (hb hby at_192) rfl rfl (pc' := 194) rfl ?_
          refine own_acmpF X105 hx (hb hby at_194) rfl rfl (by simp [XT.acmp]) (pc' := 197) rfl ?_
          refine own_aload X105 hx (hb hby at_197) rfl rfl (pc' := 199) rfl ?_
          refine own_getF X105 hx hZ hown (ow_38 hw) e105 p95_5 (hb hby at_199) (pc' := 202) rfl ?_
          intro T106 X106 e106
          refine own_aloadN X106 hx (hb hby at_202) rfl rfl (pc' := 203) rfl ?_
          refine own_acmpF X106 hx (hb hby at_203) rfl rfl (by simp [XT.acmp]) (pc' := 206) rfl ?_
          refine own_aloadN X106 hx (hb hby at_206) rfl rfl (pc' := 207) rfl ?_
          refine own_getF X106 hx hZ hown (ow_20 hw) e106 p95_2 (hb hby at_207) (pc' := 210) rfl ?_
          intro T107 X107 e107
          refine own_iload X107 hx (hb hby at_210) rfl (pc' := 212) rfl ?_
          refine own_iconst X107 hx (hb hby at_212) (z := (1 : Int32)) rfl (pc' := 213) rfl ?_
          refine own_iadd X107 hx (hb hby at_213) (pc' := 214) rfl ?_
          refine own_icmpF X107 hx (hb hby at_214) (by decide) (pc' := 217) rfl ?_
          refine own_iconst X107 hx (hb hby at_217) (z := (1 : Int32)) rfl (pc' := 218) rfl ?_
          refine own_goto X107 hx (hb hby at_218) (by decide) (pc' := 222) rfl ?_
          refine own_istore X107 hx (hb hby at_222) (l' := #[.val (.int u0), .val (.ref a1), .val (.ref a4), .val (.ref a7), .val (.ref a11), .val (.ref a16), .val (.ref a7), .val (.ref a7), .val (.int ((0 : Int32) + (1 : Int32))), .val (.null), .val (.null), .val (.int (1 : Int32))]) rfl (pc' := 224) rfl ?_
          refine own_aload X107 hx (hb hby at_224) rfl rfl (pc' := 226) rfl ?_
          refine own_ifnonnullT X107 hx (hb hby at_226) (by decide) (pc' := 253) rfl ?_
          refine own_iload X107 hx (hb hby at_253) rfl (pc' := 255) rfl ?_
          refine own_ifF X107 hx (hb hby at_255) (by decide) (pc' := 258) rfl ?_
          refine own_aloadN X107 hx (hb hby at_258) rfl rfl (pc' := 259) rfl ?_
          refine own_getF X107 hx hZ hown (ow_18 hw) e107 p95_1 (hb hby at_259) (pc' := 262) rfl ?_
          intro T108 X108 e108
          refine own_aload X108 hx (hb hby at_262) rfl rfl (pc' := 264) rfl ?_
          refine own_acmpF X108 hx (hb hby at_264) rfl rfl (by simp [XT.acmp]) (pc' := 267) rfl ?_
          refine own_aload X108 hx (hb hby at_267) rfl rfl (pc' := 269) rfl ?_
          refine own_getF X108 hx hZ hown (ow_36 hw) e108 p95_7 (hb hby at_269) (pc' := 272) rfl ?_
          intro T109 X109 e109
          refine own_aload X109 hx (hb hby at_272) rfl rfl (pc' := 274) rfl ?_
          refine own_acmpF X109 hx (hb hby at_274) rfl rfl (by simp [XT.acmp]) (pc' := 277) rfl ?_
          refine own_aload X109 hx (hb hby at_277) rfl rfl (pc' := 279) rfl ?_
          refine own_getF X109 hx hZ hown (ow_37 hw) e109 p95_6 (hb hby at_279) (pc' := 282) rfl ?_
          intro T110 X110 e110
          refine own_aload X110 hx (hb hby at_282) rfl rfl (pc' := 284) rfl ?_
          refine own_acmpF X110 hx (hb hby at_284) rfl rfl (by simp [XT.acmp]) (pc' := 287) rfl ?_
          refine own_aload X110 hx (hb hby at_287) rfl rfl (pc' := 289) rfl ?_
          refine own_getF X110 hx hZ hown (ow_38 hw) e110 p95_8 (hb hby at_289) (pc' := 292) rfl ?_
          intro T111 X111 e111
          refine own_aloadN X111 hx (hb hby at_292) rfl rfl (pc' := 293) rfl ?_
          refine own_acmpF X111 hx (hb hby at_293) rfl rfl (by simp [XT.acmp]) (pc' := 296) rfl ?_
          refine own_iconst X111 hx (hb hby at_296) (z := (1 : Int32)) rfl (pc' := 297) rfl ?_
          refine own_goto X111 hx (hb hby at_297) (by decide) (pc' := 301) rfl ?_
          refine own_istore X111 hx (hb hby at_301) (l' := #[.val (.int u0), .val (.ref a1), .val (.ref a4), .val (.ref a7), .val (.ref a11), .val (.ref a16), .val (.ref a7), .val (.ref a7), .val (.int ((0 : Int32) + (1 : Int32))), .val (.null), .val (.null), .val (.int (1 : Int32))]) rfl (pc' := 303) rfl ?_
          refine own_iload X111 hx (hb hby at_303) rfl (pc' := 305) rfl ?_
          refine own_ifF X111 hx (hb hby at_305) (by decide) (pc' := 308) rfl ?_
          refine own_aload X111 hx (hb hby at_308) rfl rfl (pc' := 310) rfl ?_
          refine own_ifnullF X111 hx (hb hby at_310) (pc' := 313) rfl ?_
          refine own_aload X111 hx (hb hby at_313) rfl rfl (pc' := 315) rfl ?_
          refine own_getF X111 hx hZ hown (ow_37 hw) e111 p95_6 (hb hby at_315) (pc' := 318) rfl ?_
          intro T112 X112 e112
          refine own_aload X112 hx (hb hby at_318) rfl rfl (pc' := 320) rfl ?_
          refine own_acmpF X112 hx (hb hby at_320) rfl rfl (by simp [XT.acmp]) (pc' := 323) rfl ?_
          refine own_iconst X112 hx (hb hby at_323) (z := (1 : Int32)) rfl (pc' := 324) rfl ?_
          refine own_goto X112 hx (hb hby at_324) (by decide) (pc' := 328) rfl ?_
          refine own_istore X112 hx (hb hby at_328) (l' := #[.val (.int u0), .val (.ref a1), .val (.ref a4), .val (.ref a7), .val (.ref a11), .val (.ref a16), .val (.ref a7), .val (.ref a7), .val (.int ((0 : Int32) + (1 : Int32))), .val (.null), .val (.null), .val (.int (1 : Int32))]) rfl (pc' := 330) rfl ?_
          refine own_iload X112 hx (hb hby at_330) rfl (pc' := 332) rfl ?_
          refine own_ifF X112 hx (hb hby at_332) (by decide) (pc' := 335) rfl ?_
          refine own_aload X112 hx (hb hby at_335) rfl rfl (pc' := 337) rfl ?_
          have f113 : Fld Z T95.heap a16 "com/example/slot3/slot3/frame/Post" "following" "Lcom/example/slot3/slot3/frame/Post;" (.null) := ((F16_following.keep K80 (ninS (Nat.ne_of_gt lt_a1_a16) (ninS (Nat.ne_of_gt lt_a7_a16) nin0))).keep K95 (ninS (Nat.ne_of_gt lt_a1_a16) (ninS (Nat.ne_of_gt lt_a11_a16) (ninS (Nat.ne_of_gt lt_a7_a16) nin0))))
          refine own_getF X112 hx hZ hown (ow_37 hw) e112 f113 (hb hby at_337) (pc' := 340) rfl ?_
          intro T114 X114 e114
          refine own_ifnonnullF X114 hx (hb hby at_340) (pc' := 343) rfl ?_
          refine own_aload X114 hx (hb hby at_343) rfl rfl (pc' := 345) rfl ?_
          have f115 : Fld Z T95.heap a16 "com/example/slot3/slot3/frame/Post" "previous" "Lcom/example/slot3/slot3/frame/Post;" (.null) := ((F16_previous.keep K80 (ninS (Nat.ne_of_gt lt_a1_a16) (ninS (Nat.ne_of_gt lt_a7_a16) nin0))).keep K95 (ninS (Nat.ne_of_gt lt_a1_a16) (ninS (Nat.ne_of_gt lt_a11_a16) (ninS (Nat.ne_of_gt lt_a7_a16) nin0))))
          refine own_getF X114 hx hZ hown (ow_36 hw) e114 f115 (hb hby at_345) (pc' := 348) rfl ?_
          intro T116 X116 e116
          refine own_ifnonnullF X116 hx (hb hby at_348) (pc' := 351) rfl ?_
          refine own_aload X116 hx (hb hby at_351) rfl rfl (pc' := 353) rfl ?_
          have f117 : Fld Z T95.heap a16 "com/example/slot3/slot3/frame/Post" "chain" "Lcom/example/slot3/slot3/frame/PostChain;" (.null) := ((F16_chain.keep K80 (ninS (Nat.ne_of_gt lt_a1_a16) (ninS (Nat.ne_of_gt lt_a7_a16) nin0))).keep K95 (ninS (Nat.ne_of_gt lt_a1_a16) (ninS (Nat.ne_of_gt lt_a11_a16) (ninS (Nat.ne_of_gt lt_a7_a16) nin0))))
          refine own_getF X116 hx hZ hown (ow_38 hw) e116 f117 (hb hby at_353) (pc' := 356) rfl ?_
          intro T118 X118 e118
          refine own_ifnonnullF X118 hx (hb hby at_356) (pc' := 359) rfl ?_
          refine own_iconst X118 hx (hb hby at_359) (z := (1 : Int32)) rfl (pc' := 360) rfl ?_
          refine own_goto X118 hx (hb hby at_360) (by decide) (pc' := 364) rfl ?_
          refine own_istore X118 hx (hb hby at_364) (l' := #[.val (.int u0), .val (.ref a1), .val (.ref a4), .val (.ref a7), .val (.ref a11), .val (.ref a16), .val (.ref a7), .val (.ref a7), .val (.int ((0 : Int32) + (1 : Int32))), .val (.null), .val (.null), .val (.int (1 : Int32))]) rfl (pc' := 366) rfl ?_
          refine own_iload X118 hx (hb hby at_366) rfl (pc' := 368) rfl ?_
          exact own_retZ X118 hx hret hlk (Or.inr rfl) (hb hby at_368) ⟨rfl, N95⟩ (by decide) (by decide)
        · refine own_ifF X80 hx (hb hby at_97) (feq c89).1 (pc' := 100) rfl ?_
          refine own_aload X80 hx (hb hby at_100) rfl rfl (pc' := 102) rfl ?_
          refine own_aload X80 hx (hb hby at_102) rfl rfl (pc' := 104) rfl ?_
          have f119 : Fld Z T80.heap a11 "com/example/slot3/slot3/frame/Post" "previous" "Lcom/example/slot3/slot3/frame/Post;" (.null) := ((F11_previous.ext E16).keep K80 (ninS (Nat.ne_of_gt lt_a1_a11) (ninS (Nat.ne_of_gt lt_a7_a11) nin0)))
          have f120 : Exa Z T80.heap a11 "com/example/slot3/slot3/frame/Post" := ((A11.ext E16).keep K80)
          refine own_putF X80 hx hZ hown (ow_36 hw) rfl f119 f120 (Or.inl (ow_32 hw)) (ow_10 hw) (ty := (.object "com/example/slot3/slot3/frame/Post")) (by decide) rfl rfl (hb hby at_104) (pc' := 107) rfl ?_
          intro T121 h121 X121 e121 W121
          have N121 := Fr.snoc X121 N80 ge_a11
          refine own_aload X121 hx (hb hby at_107) rfl rfl (pc' := 109) rfl ?_
          refine own_aload X121 hx (hb hby at_109) rfl rfl (pc' := 111) rfl ?_
          have f122 : Fld Z h121 a11 "com/example/slot3/slot3/frame/Post" "following" "Lcom/example/slot3/slot3/frame/Post;" (.null) := (((F11_following.ext E16).keep K80 (ninS (Nat.ne_of_gt lt_a1_a11) (ninS (Nat.ne_of_gt lt_a7_a11) nin0))).other W121 (Or.inr (osn_7 hw)))
          have f123 : Exa Z h121 a11 "com/example/slot3/slot3/frame/Post" := (f120.wr W121)
          refine own_putF X121 hx hZ hown (ow_37 hw) e121 f122 f123 (Or.inl (ow_30 hw)) (ow_10 hw) (ty := (.object "com/example/slot3/slot3/frame/Post")) (by decide) rfl rfl (hb hby at_111) (pc' := 114) rfl ?_
          intro T124 h124 X124 e124 W124
          have N124 := Fr.snoc X124 N121 ge_a11
          refine own_aloadN X124 hx (hb hby at_114) rfl rfl (pc' := 115) rfl ?_
          have f125 : Fld Z h124 a1 "com/example/slot3/slot3/frame/PostChain" "first" "Lcom/example/slot3/slot3/frame/Post;" (.ref a7) := ((p80_0.other W121 (Or.inl (Nat.ne_of_lt lt_a1_a11))).other W124 (Or.inl (Nat.ne_of_lt lt_a1_a11)))
          refine own_getF X124 hx hZ hown (ow_16 hw) e124 f125 (hb hby at_115) (pc' := 118) rfl ?_
          intro T126 X126 e126
          refine own_astore X126 hx (hb hby at_118) rfl (l' := #[.val (.int u0), .val (.ref a1), .val (.ref a4), .val (.ref a7), .val (.ref a11), .val (.ref a16), .val (.ref a7), .unset, .unset, .unset, .unset, .unset]) rfl (pc' := 120) rfl ?_
          refine own_aloadN X126 hx (hb hby at_120) rfl rfl (pc' := 121) rfl ?_
          have f127 : Fld Z h124 a1 "com/example/slot3/slot3/frame/PostChain" "last" "Lcom/example/slot3/slot3/frame/Post;" (.ref a7) := ((p80_1.other W121 (Or.inl (Nat.ne_of_lt lt_a1_a11))).other W124 (Or.inl (Nat.ne_of_lt lt_a1_a11)))
          refine own_getF X126 hx hZ hown (ow_18 hw) e126 f127 (hb hby at_121) (pc' := 124) rfl ?_
          intro T128 X128 e128
          refine own_astore X128 hx (hb hby at_124) rfl (l' := #[.val (.int u0), .val (.ref a1), .val (.ref a4), .val (.ref a7), .val (.ref a11), .val (.ref a16), .val (.ref a7), .val (.ref a7), .unset, .unset, .unset, .unset]) rfl (pc' := 126) rfl ?_
          refine own_aloadN X128 hx (hb hby at_126) rfl rfl (pc' := 127) rfl ?_
          have f129 : Fld Z h124 a1 "com/example/slot3/slot3/frame/PostChain" "count" "I" (.int ((0 : Int32) + (1 : Int32))) := ((p80_2.other W121 (Or.inl (Nat.ne_of_lt lt_a1_a11))).other W124 (Or.inl (Nat.ne_of_lt lt_a1_a11)))
          refine own_getF X128 hx hZ hown (ow_20 hw) e128 f129 (hb hby at_127) (pc' := 130) rfl ?_
          intro T130 X130 e130
          refine own_istore X130 hx (hb hby at_130) (l' := #[.val (.int u0), .val (.ref a1), .val (.ref a4), .val (.ref a7), .val (.ref a11), .val (.ref a16), .val (.ref a7), .val (.ref a7), .val (.int ((0 : Int32) + (1 : Int32))), .unset, .unset, .unset]) rfl (pc' := 132) rfl ?_
          refine own_aload X130 hx (hb hby at_132) rfl rfl (pc' := 134) rfl ?_
          refine own_ifnonnullT X130 hx (hb hby at_134) (by decide) (pc' := 141) rfl ?_
          refine own_aload X130 hx (hb hby at_141) rfl rfl (pc' := 143) rfl ?_
          have f131 : Fld Z h124 a7 "com/example/slot3/slot3/frame/Post" "following" "Lcom/example/slot3/slot3/frame/Post;" (.null) := ((p80_3.other W121 (Or.inl (Nat.ne_of_lt lt_a7_a11))).other W124 (Or.inl (Nat.ne_of_lt lt_a7_a11)))
          refine own_getF X130 hx hZ hown (ow_37 hw) e130 f131 (hb hby at_143) (pc' := 146) rfl ?_
          intro T132 X132 e132
          refine own_astore X132 hx (hb hby at_146) rfl (l' := #[.val (.int u0), .val (.ref a1), .val (.ref a4), .val (.ref a7), .val (.ref a11), .val (.ref a16), .val (.ref a7), .val (.ref a7), .val (.int ((0 : Int32) + (1 : Int32))), .val (.null), .unset, .unset]) rfl (pc' := 148) rfl ?_
          refine own_aload X132 hx (hb hby at_148) rfl rfl (pc' := 150) rfl ?_
          refine own_ifnonnullT X132 hx (hb hby at_150) (by decide) (pc' := 157) rfl ?_
          refine own_aload X132 hx (hb hby at_157) rfl rfl (pc' := 159) rfl ?_
          refine own_getF X132 hx hZ hown (ow_37 hw) e132 f131 (hb hby at_159) (pc' := 162) rfl ?_
          intro T133 X133 e133
          refine own_astore X133 hx (hb hby at_162) rfl (l' := #[.val (.int u0), .val (.ref a1), .val (.ref a4), .val (.ref a7), .val (.ref a11), .val (.ref a16), .val (.ref a7), .val (.ref a7), .val (.int ((0 : Int32) + (1 : Int32))), .val (.null), .val (.null), .unset]) rfl (pc' := 164) rfl ?_
          refine own_aloadN X133 hx (hb hby at_164) rfl rfl (pc' := 165) rfl ?_
          refine own_aload X133 hx (hb hby at_165) rfl rfl (pc' := 167) rfl ?_
          have f135 : Exa Z h124 a1 "com/example/slot3/slot3/frame/PostChain" := (((f81.keep K80).wr W121).wr W124)
          have f136 : Exa Z h124 a11 "com/example/slot3/slot3/frame/Post" := (f123.wr W124)
          have f137 : Exa Z h124 a7 "com/example/slot3/slot3/frame/Post" := (((f82.keep K80).wr W121).wr W124)
          have f138 : Fld Z h124 a11 "com/example/slot3/slot3/frame/Post" "previous" "Lcom/example/slot3/slot3/frame/Post;" (.ref a16) := ((f119.same W121).other W124 (Or.inr (osn_10 hw)))
          have f139 : Fld Z h124 a11 "com/example/slot3/slot3/frame/Post" "chain" "Lcom/example/slot3/slot3/frame/PostChain;" (.null) := ((((F11_chain.ext E16).keep K80 (ninS (Nat.ne_of_gt lt_a1_a11) (ninS (Nat.ne_of_gt lt_a7_a11) nin0))).other W121 (Or.inr (osn_1 hw))).other W124 (Or.inr (osn_11 hw)))
          have f140 : Fld Z h124 a7 "com/example/slot3/slot3/frame/Post" "previous" "Lcom/example/slot3/slot3/frame/Post;" (.null) := ((p80_4.other W121 (Or.inl (Nat.ne_of_lt lt_a7_a11))).other W124 (Or.inl (Nat.ne_of_lt lt_a7_a11)))
          have f141 : Fld Z h124 a7 "com/example/slot3/slot3/frame/Post" "chain" "Lcom/example/slot3/slot3/frame/PostChain;" (.ref a1) := ((p80_5.other W121 (Or.inl (Nat.ne_of_lt lt_a7_a11))).other W124 (Or.inl (Nat.ne_of_lt lt_a7_a11)))
          have z142 : n0 ≤ h124.size := (Nat.le_trans (Nat.le_trans (Nat.le_trans z21 K80.1) (Nat.le_of_eq (Wr.size W121).symm)) (Nat.le_of_eq (Wr.size W124).symm))
          refine own_callV X133 hx hZ hown (ow_22 hw) (ow_23 hw) (ow_25 hw) (ow_24 hw) (ow_2 hw) (ow_26 hw) (by decide) f135 (rm_pu2 l Z a0 hw a1 a11 a7 ((0 : Int32) + (1 : Int32)) (.ref a7) (.ref a16) (.ref a16) .null .null .null (.ref a1) h124 n0 z142 f135 f136 f125 f127 f129 f137 (f122.same W124) f138 f139 f131 f140 f141 ge_a1 ge_a11 ge_a7 (Nat.ne_of_lt lt_a1_a11) (Nat.ne_of_lt lt_a1_a7) (Nat.ne_of_gt lt_a7_a11)) e133 (W := 0) (by decide) (by decide) opd__Lcom_example_slot3_slot3_frame_Post__V rfl (rest := []) rfl (hb hby at_167) (Nat.le_of_eq rfl) (by rw [hml]; rfl) (by decide) (by decide) (pc' := 170) rfl ?_
          intro v134 T134 L134 X134 q134
          obtain ⟨rfl, Nq134, K134, p134_0, p134_1, p134_2, p134_3, p134_4, p134_5, p134_6, p134_7, p134_8⟩ := q134
          have N134 := Fr.app N124 Nq134
          show own_G p e below s _ _ _ (T134.setTop (mkF m 170 #[.val (.int u0), .val (.ref a1), .val (.ref a4), .val (.ref a7), .val (.ref a11), .val (.ref a16), .val (.ref a7), .val (.ref a7), .val (.int ((0 : Int32) + (1 : Int32))), .val (.null), .val (.null), .unset] []))
          refine own_aloadN X134 hx (hb hby at_170) rfl rfl (pc' := 171) rfl ?_
          refine own_getF X134 hx hZ hown (ow_16 hw) rfl p134_0 (hb hby at_171) (pc' := 174) rfl ?_
          intro T143 X143 e143
          refine own_aload X143 hx (hb hby at_174) rfl rfl (pc' := 176) rfl ?_
          refine own_acmpF X143 hx (hb hby at_176) rfl rfl (by simp [XT.acmp]) (pc' := 179) rfl ?_
          refine own_aload X143 hx (hb hby at_179) rfl rfl (pc' := 181) rfl ?_
          refine own_getF X143 hx hZ hown (ow_36 hw) e143 p134_4 (hb hby at_181) (pc' := 184) rfl ?_
          intro T144 X144 e144
          refine own_ifnonnullF X144 hx (hb hby at_184) (pc' := 187) rfl ?_
          refine own_aload X144 hx (hb hby at_187) rfl rfl (pc' := 189) rfl ?_
          refine own_getF X144 hx hZ hown (ow_37 hw) e144 p134_3 (hb hby at_189) (pc' := 192) rfl ?_
          intro T145 X145 e145
          refine own_aload X145 hx (hb hby at_192) rfl rfl (pc' := 194) rfl ?_
          refine own_acmpF X145 hx (hb hby at_194) rfl rfl (by simp [XT.acmp]) (pc' := 197) rfl ?_
          refine own_aload X145 hx (hb hby at_197) rfl rfl (pc' := 199) rfl ?_
          refine own_getF X145 hx hZ hown (ow_38 hw) e145 p134_5 (hb hby at_199) (pc' := 202) rfl ?_
          intro T146 X146 e146
          refine own_aloadN X146 hx (hb hby at_202) rfl rfl (pc' := 203) rfl ?_
          refine own_acmpF X146 hx (hb hby at_203) rfl rfl (by simp [XT.acmp]) (pc' := 206) rfl ?_
          refine own_aloadN X146 hx (hb hby at_206) rfl rfl (pc' := 207) rfl ?_
          refine own_getF X146 hx hZ hown (ow_20 hw) e146 p134_2 (hb hby at_207) (pc' := 210) rfl ?_
          intro T147 X147 e147
          refine own_iload X147 hx (hb hby at_210) rfl (pc' := 212) rfl ?_
          refine own_iconst X147 hx (hb hby at_212) (z := (1 : Int32)) rfl (pc' := 213) rfl ?_
          refine own_iadd X147 hx (hb hby at_213) (pc' := 214) rfl ?_
          refine own_icmpF X147 hx (hb hby at_214) (by decide) (pc' := 217) rfl ?_
          refine own_iconst X147 hx (hb hby at_217) (z := (1 : Int32)) rfl (pc' := 218) rfl ?_
          refine own_goto X147 hx (hb hby at_218) (by decide) (pc' := 222) rfl ?_
          refine own_istore X147 hx (hb hby at_222) (l' := #[.val (.int u0), .val (.ref a1), .val (.ref a4), .val (.ref a7), .val (.ref a11), .val (.ref a16), .val (.ref a7), .val (.ref a7), .val (.int ((0 : Int32) + (1 : Int32))), .val (.null), .val (.null), .val (.int (1 : Int32))]) rfl (pc' := 224) rfl ?_
          refine own_aload X147 hx (hb hby at_224) rfl rfl (pc' := 226) rfl ?_
          refine own_ifnonnullT X147 hx (hb hby at_226) (by decide) (pc' := 253) rfl ?_
          refine own_iload X147 hx (hb hby at_253) rfl (pc' := 255) rfl ?_
          refine own_ifF X147 hx (hb hby at_255) (by decide) (pc' := 258) rfl ?_
          refine own_aloadN X147 hx (hb hby at_258) rfl rfl (pc' := 259) rfl ?_
          refine own_getF X147 hx hZ hown (ow_18 hw) e147 p134_1 (hb hby at_259) (pc' := 262) rfl ?_
          intro T148 X148 e148
          refine own_aload X148 hx (hb hby at_262) rfl rfl (pc' := 264) rfl ?_
          refine own_acmpF X148 hx (hb hby at_264) rfl rfl (by simp [XT.acmp]) (pc' := 267) rfl ?_
          refine own_aload X148 hx (hb hby at_267) rfl rfl (pc' := 269) rfl ?_
          refine own_getF X148 hx hZ hown (ow_36 hw) e148 p134_7 (hb hby at_269) (pc' := 272) rfl ?_
          intro T149 X149 e149
          refine own_aload X149 hx (hb hby at_272) rfl rfl (pc' := 274) rfl ?_
          refine own_acmpF X149 hx (hb hby at_274) rfl rfl (by simp [XT.acmp]) (pc' := 277) rfl ?_
          refine own_aload X149 hx (hb hby at_277) rfl rfl (pc' := 279) rfl ?_
          refine own_getF X149 hx hZ hown (ow_37 hw) e149 p134_6 (hb hby at_279) (pc' := 282) rfl ?_
          intro T150 X150 e150
          refine own_aload X150 hx (hb hby at_282) rfl rfl (pc' := 284) rfl ?_
          refine own_acmpF X150 hx (hb hby at_284) rfl rfl (by simp [XT.acmp]) (pc' := 287) rfl ?_
          refine own_aload X150 hx (hb hby at_287) rfl rfl (pc' := 289) rfl ?_
          refine own_getF X150 hx hZ hown (ow_38 hw) e150 p134_8 (hb hby at_289) (pc' := 292) rfl ?_
          intro T151 X151 e151
          refine own_aloadN X151 hx (hb hby at_292) rfl rfl (pc' := 293) rfl ?_
          refine own_acmpF X151 hx (hb hby at_293) rfl rfl (by simp [XT.acmp]) (pc' := 296) rfl ?_
          refine own_iconst X151 hx (hb hby at_296) (z := (1 : Int32)) rfl (pc' := 297) rfl ?_
          refine own_goto X151 hx (hb hby at_297) (by decide) (pc' := 301) rfl ?_
          refine own_istore X151 hx (hb hby at_301) (l' := #[.val (.int u0), .val (.ref a1), .val (.ref a4), .val (.ref a7), .val (.ref a11), .val (.ref a16), .val (.ref a7), .val (.ref a7), .val (.int ((0 : Int32) + (1 : Int32))), .val (.null), .val (.null), .val (.int (1 : Int32))]) rfl (pc' := 303) rfl ?_
          refine own_iload X151 hx (hb hby at_303) rfl (pc' := 305) rfl ?_
          refine own_ifF X151 hx (hb hby at_305) (by decide) (pc' := 308) rfl ?_
          refine own_aload X151 hx (hb hby at_308) rfl rfl (pc' := 310) rfl ?_
          refine own_ifnullF X151 hx (hb hby at_310) (pc' := 313) rfl ?_
          refine own_aload X151 hx (hb hby at_313) rfl rfl (pc' := 315) rfl ?_
          refine own_getF X151 hx hZ hown (ow_37 hw) e151 p134_6 (hb hby at_315) (pc' := 318) rfl ?_
          intro T152 X152 e152
          refine own_aload X152 hx (hb hby at_318) rfl rfl (pc' := 320) rfl ?_
          refine own_acmpF X152 hx (hb hby at_320) rfl rfl (by simp [XT.acmp]) (pc' := 323) rfl ?_
          refine own_iconst X152 hx (hb hby at_323) (z := (1 : Int32)) rfl (pc' := 324) rfl ?_
          refine own_goto X152 hx (hb hby at_324) (by decide) (pc' := 328) rfl ?_
          refine own_istore X152 hx (hb hby at_328) (l' := #[.val (.int u0), .val (.ref a1), .val (.ref a4), .val (.ref a7), .val (.ref a11), .val (.ref a16), .val (.ref a7), .val (.ref a7), .val (.int ((0 : Int32) + (1 : Int32))), .val (.null), .val (.null), .val (.int (1 : Int32))]) rfl (pc' := 330) rfl ?_
          refine own_iload X152 hx (hb hby at_330) rfl (pc' := 332) rfl ?_
          refine own_ifF X152 hx (hb hby at_332) (by decide) (pc' := 335) rfl ?_
          refine own_aload X152 hx (hb hby at_335) rfl rfl (pc' := 337) rfl ?_
          have f153 : Fld Z T134.heap a16 "com/example/slot3/slot3/frame/Post" "following" "Lcom/example/slot3/slot3/frame/Post;" (.null) := ((((F16_following.keep K80 (ninS (Nat.ne_of_gt lt_a1_a16) (ninS (Nat.ne_of_gt lt_a7_a16) nin0))).other W121 (Or.inl (Nat.ne_of_gt lt_a11_a16))).other W124 (Or.inl (Nat.ne_of_gt lt_a11_a16))).keep K134 (ninS (Nat.ne_of_gt lt_a1_a16) (ninS (Nat.ne_of_gt lt_a11_a16) (ninS (Nat.ne_of_gt lt_a7_a16) nin0))))
          refine own_getF X152 hx hZ hown (ow_37 hw) e152 f153 (hb hby at_337) (pc' := 340) rfl ?_
          intro T154 X154 e154
          refine own_ifnonnullF X154 hx (hb hby at_340) (pc' := 343) rfl ?_
          refine own_aload X154 hx (hb hby at_343) rfl rfl (pc' := 345) rfl ?_
          have f155 : Fld Z T134.heap a16 "com/example/slot3/slot3/frame/Post" "previous" "Lcom/example/slot3/slot3/frame/Post;" (.null) := ((((F16_previous.keep K80 (ninS (Nat.ne_of_gt lt_a1_a16) (ninS (Nat.ne_of_gt lt_a7_a16) nin0))).other W121 (Or.inl (Nat.ne_of_gt lt_a11_a16))).other W124 (Or.inl (Nat.ne_of_gt lt_a11_a16))).keep K134 (ninS (Nat.ne_of_gt lt_a1_a16) (ninS (Nat.ne_of_gt lt_a11_a16) (ninS (Nat.ne_of_gt lt_a7_a16) nin0))))
          refine own_getF X154 hx hZ hown (ow_36 hw) e154 f155 (hb hby at_345) (pc' := 348) rfl ?_
          intro T156 X156 e156
          refine own_ifnonnullF X156 hx (hb hby at_348) (pc' := 351) rfl ?_
          refine own_aload X156 hx (hb hby at_351) rfl rfl (pc' := 353) rfl ?_
          have f157 : Fld Z T134.heap a16 "com/example/slot3/slot3/frame/Post" "chain" "Lcom/example/slot3/slot3/frame/PostChain;" (.null) := ((((F16_chain.keep K80 (ninS (Nat.ne_of_gt lt_a1_a16) (ninS (Nat.ne_of_gt lt_a7_a16) nin0))).other W121 (Or.inl (Nat.ne_of_gt lt_a11_a16))).other W124 (Or.inl (Nat.ne_of_gt lt_a11_a16))).keep K134 (ninS (Nat.ne_of_gt lt_a1_a16) (ninS (Nat.ne_of_gt lt_a11_a16) (ninS (Nat.ne_of_gt lt_a7_a16) nin0))))
          refine own_getF X156 hx hZ hown (ow_38 hw) e156 f157 (hb hby at_353) (pc' := 356) rfl ?_
          intro T158 X158 e158
          refine own_ifnonnullF X158 hx (hb hby at_356) (pc' := 359) rfl ?_
          refine own_iconst X158 hx (hb hby at_359) (z := (1 : Int32)) rfl (pc' := 360) rfl ?_
          refine own_goto X158 hx (hb hby at_360) (by decide) (pc' := 364) rfl ?_
          refine own_istore X158 hx (hb hby at_364) (l' := #[.val (.int u0), .val (.ref a1), .val (.ref a4), .val (.ref a7), .val (.ref a11), .val (.ref a16), .val (.ref a7), .val (.ref a7), .val (.int ((0 : Int32) + (1 : Int32))), .val (.null), .val (.null), .val (.int (1 : Int32))]) rfl (pc' := 366) rfl ?_
          refine own_iload X158 hx (hb hby at_366) rfl (pc' := 368) rfl ?_
          exact own_retZ X158 hx hret hlk (Or.inr rfl) (hb hby at_368) ⟨rfl, N134⟩ (by decide) (by decide)
      · refine own_ifF X20 hx (hb hby at_77) (feq c79).1 (pc' := 80) rfl ?_
        refine own_aloadN X20 hx (hb hby at_80) rfl rfl (pc' := 81) rfl ?_
        refine own_aloadN X20 hx (hb hby at_81) rfl rfl (pc' := 82) rfl ?_
        have f160 : Exa Z h16 a1 "com/example/slot3/slot3/frame/PostChain" := (f17.ext E16)
        have f161 : Exa Z h16 a7 "com/example/slot3/slot3/frame/Post" := (f19.ext E16)
        have f162 : Fld Z h16 a1 "com/example/slot3/slot3/frame/PostChain" "first" "Lcom/example/slot3/slot3/frame/Post;" (.null) := ((((F1_first.ext E4).ext E7).ext E11).ext E16)
        have f163 : Fld Z h16 a1 "com/example/slot3/slot3/frame/PostChain" "last" "Lcom/example/slot3/slot3/frame/Post;" (.null) := ((((F1_last.ext E4).ext E7).ext E11).ext E16)
        have f164 : Fld Z h16 a1 "com/example/slot3/slot3/frame/PostChain" "count" "I" (.int (0 : Int32)) := ((((F1_count.ext E4).ext E7).ext E11).ext E16)
        have f165 : Fld Z h16 a7 "com/example/slot3/slot3/frame/Post" "following" "Lcom/example/slot3/slot3/frame/Post;" (.null) := ((F7_following.ext E11).ext E16)
        have f166 : Fld Z h16 a7 "com/example/slot3/slot3/frame/Post" "previous" "Lcom/example/slot3/slot3/frame/Post;" (.null) := ((F7_previous.ext E11).ext E16)
        have f167 : Fld Z h16 a7 "com/example/slot3/slot3/frame/Post" "chain" "Lcom/example/slot3/slot3/frame/PostChain;" (.null) := ((F7_chain.ext E11).ext E16)
        refine own_callV X20 hx hZ hown (ow_22 hw) (ow_23 hw) (ow_25 hw) (ow_24 hw) (ow_2 hw) (ow_26 hw) (by decide) f160 (rm_pu1 l Z a0 hw a1 a7 (0 : Int32) .null .null .null .null h16 n0 z21 f160 f161 f162 f163 f164 f165 f166 f167 ge_a1 ge_a7 (Nat.ne_of_lt lt_a1_a7)) eh20 (W := 0) (by decide) (by decide) opd__Lcom_example_slot3_slot3_frame_Post__V rfl (rest := []) rfl (hb hby at_82) (Nat.le_of_eq rfl) (by rw [hml]; rfl) (by decide) (by decide) (pc' := 85) rfl ?_
        intro v159 T159 L159 X159 q159
        obtain ⟨rfl, Nq159, K159, p159_0, p159_1, p159_2, p159_3, p159_4, p159_5⟩ := q159
        have N159 := Fr.app N20 Nq159
        show own_G p e below s _ _ _ (T159.setTop (mkF m 85 #[.val (.int u0), .val (.ref a1), .val (.ref a4), .val (.ref a7), .val (.ref a11), .val (.ref a16), .unset, .unset, .unset, .unset, .unset, .unset] []))
        refine own_goto X159 hx (hb hby at_85) (by decide) (pc' := 93) rfl ?_
        refine own_iloadN X159 hx (hb hby at_93) rfl (pc' := 94) rfl ?_
        refine own_bipush X159 hx (hb hby at_94) (z := (16 : Int32)) (by decide) (pc' := 96) rfl ?_
        refine own_iand X159 hx (hb hby at_96) (pc' := 97) rfl ?_
        by_cases c168 : (u0 &&& (16 : Int32)) = (0 : Int32)
        · refine own_ifT X159 hx (hb hby at_97) (teq c168).1 (by decide) (pc' := 114) rfl ?_
          refine own_aloadN X159 hx (hb hby at_114) rfl rfl (pc' := 115) rfl ?_
          refine own_getF X159 hx hZ hown (ow_16 hw) rfl p159_0 (hb hby at_115) (pc' := 118) rfl ?_
          intro T169 X169 e169
          refine own_astore X169 hx (hb hby at_118) rfl (l' := #[.val (.int u0), .val (.ref a1), .val (.ref a4), .val (.ref a7), .val (.ref a11), .val (.ref a16), .val (.ref a7), .unset, .unset, .unset, .unset, .unset]) rfl (pc' := 120) rfl ?_
          refine own_aloadN X169 hx (hb hby at_120) rfl rfl (pc' := 121) rfl ?_
          refine own_getF X169 hx hZ hown (ow_18 hw) e169 p159_1 (hb hby at_121) (pc' := 124) rfl ?_
          intro T170 X170 e170
          refine own_astore X170 hx (hb hby at_124) rfl (l' := #[.val (.int u0), .val (.ref a1), .val (.ref a4), .val (.ref a7), .val (.ref a11), .val (.ref a16), .val (.ref a7), .val (.ref a7), .unset, .unset, .unset, .unset]) rfl (pc' := 126) rfl ?_
          refine own_aloadN X170 hx (hb hby at_126) rfl rfl (pc' := 127) rfl ?_
          refine own_getF X170 hx hZ hown (ow_20 hw) e170 p159_2 (hb hby at_127) (pc' := 130) rfl ?_
          intro T171 X171 e171
          refine own_istore X171 hx (hb hby at_130) (l' := #[.val (.int u0), .val (.ref a1), .val (.ref a4), .val (.ref a7), .val (.ref a11), .val (.ref a16), .val (.ref a7), .val (.ref a7), .val (.int ((0 : Int32) + (1 : Int32))), .unset, .unset, .unset]) rfl (pc' := 132) rfl ?_
          refine own_aload X171 hx (hb hby at_132) rfl rfl (pc' := 134) rfl ?_
          refine own_ifnonnullT X171 hx (hb hby at_134) (by decide) (pc' := 141) rfl ?_
          refine own_aload X171 hx (hb hby at_141) rfl rfl (pc' := 143) rfl ?_
          refine own_getF X171 hx hZ hown (ow_37 hw) e171 p159_3 (hb hby at_143) (pc' := 146) rfl ?_
          intro T172 X172 e172
          refine own_astore X172 hx (hb hby at_146) rfl (l' := #[.val (.int u0), .val (.ref a1), .val (.ref a4), .val (.ref a7), .val (.ref a11), .val (.ref a16), .val (.ref a7), .val (.ref a7), .val (.int ((0 : Int32) + (1 : Int32))), .val (.null), .unset, .unset]) rfl (pc' := 148) rfl ?_
          refine own_aload X172 hx (hb hby at_148) rfl rfl (pc' := 150) rfl ?_
          refine own_ifnonnullT X172 hx (hb hby at_150) (by decide) (pc' := 157) rfl ?_
          refine own_aload X172 hx (hb hby at_157) rfl rfl (pc' := 159) rfl ?_
          refine own_getF X172 hx hZ hown (ow_37 hw) e172 p159_3 (hb hby at_159) (pc' := 162) rfl ?_
          intro T173 X173 e173
          refine own_astore X173 hx (hb hby at_162) rfl (l' := #[.val (.int u0), .val (.ref a1), .val (.ref a4), .val (.ref a7), .val (.ref a11), .val (.ref a16), .val (.ref a7), .val (.ref a7), .val (.int ((0 : Int32) + (1 : Int32))), .val (.null), .val (.null), .unset]) rfl (pc' := 164) rfl ?_
          refine own_aloadN X173 hx (hb hby at_164) rfl rfl (pc' := 165) rfl ?_
          refine own_aload X173 hx (hb hby at_165) rfl rfl (pc' := 167) rfl ?_
          have f175 : Exa Z T159.heap a1 "com/example/slot3/slot3/frame/PostChain" := (f160.keep K159)
          have f176 : Exa Z T159.heap a11 "com/example/slot3/slot3/frame/Post" := ((A11.ext E16).keep K159)
          have f177 : Exa Z T159.heap a7 "com/example/slot3/slot3/frame/Post" := (f161.keep K159)
          have f178 : Fld Z T159.heap a11 "com/example/slot3/slot3/frame/Post" "following" "Lcom/example/slot3/slot3/frame/Post;" (.null) := ((F11_following.ext E16).keep K159 (ninS (Nat.ne_of_gt lt_a1_a11) (ninS (Nat.ne_of_gt lt_a7_a11) nin0)))
          have f179 : Fld Z T159.heap a11 "com/example/slot3/slot3/frame/Post" "previous" "Lcom/example/slot3/slot3/frame/Post;" (.null) := ((F11_previous.ext E16).keep K159 (ninS (Nat.ne_of_gt lt_a1_a11) (ninS (Nat.ne_of_gt lt_a7_a11) nin0)))
          have f180 : Fld Z T159.heap a11 "com/example/slot3/slot3/frame/Post" "chain" "Lcom/example/slot3/slot3/frame/PostChain;" (.null) := ((F11_chain.ext E16).keep K159 (ninS (Nat.ne_of_gt lt_a1_a11) (ninS (Nat.ne_of_gt lt_a7_a11) nin0)))
          have z181 : n0 ≤ T159.heap.size := (Nat.le_trans z21 K159.1)
          refine own_callV X173 hx hZ hown (ow_22 hw) (ow_23 hw) (ow_25 hw) (ow_24 hw) (ow_2 hw) (ow_26 hw) (by decide) f175 (rm_pu2 l Z a0 hw a1 a11 a7 ((0 : Int32) + (1 : Int32)) (.ref a7) .null .null .null .null .null (.ref a1) T159.heap n0 z181 f175 f176 p159_0 p159_1 p159_2 f177 f178 f179 f180 p159_3 p159_4 p159_5 ge_a1 ge_a11 ge_a7 (Nat.ne_of_lt lt_a1_a11) (Nat.ne_of_lt lt_a1_a7) (Nat.ne_of_gt lt_a7_a11)) e173 (W := 0) (by decide) (by decide) opd__Lcom_example_slot3_slot3_frame_Post__V rfl (rest := []) rfl (hb hby at_167) (Nat.le_of_eq rfl) (by rw [hml]; rfl) (by decide) (by decide) (pc' := 170) rfl ?_
          intro v174 T174 L174 X174 q174
          obtain ⟨rfl, Nq174, K174, p174_0, p174_1, p174_2, p174_3, p174_4, p174_5, p174_6, p174_7, p174_8⟩ := q174
          have N174 := Fr.app N159 Nq174
          show own_G p e below s _ _ _ (T174.setTop (mkF m 170 #[.val (.int u0), .val (.ref a1), .val (.ref a4), .val (.ref a7), .val (.ref a11), .val (.ref a16), .val (.ref a7), .val (.ref a7), .val (.int ((0 : Int32) + (1 : Int32))), .val (.null), .val (.null), .unset] []))
          refine own_aloadN X174 hx (hb hby at_170) rfl rfl (pc' := 171) rfl ?_
          refine own_getF X174 hx hZ hown (ow_16 hw) rfl p174_0 (hb hby at_171) (pc' := 174) rfl ?_
          intro T182 X182 e182
          refine own_aload X182 hx (hb hby at_174) rfl rfl (pc' := 176) rfl ?_
          refine own_acmpF X182 hx (hb hby at_176) rfl rfl (by simp [XT.acmp]) (pc' := 179) rfl ?_
          refine own_aload X182 hx (hb hby at_179) rfl rfl (pc' := 181) rfl ?_
          refine own_getF X182 hx hZ hown (ow_36 hw) e182 p174_4 (hb hby at_181) (pc' := 184) rfl ?_
          intro T183 X183 e183
          refine own_ifnonnullF X183 hx (hb hby at_184) (pc' := 187) rfl ?_
          refine own_aload X183 hx (hb hby at_187) rfl rfl (pc' := 189) rfl ?_
          refine own_getF X183 hx hZ hown (ow_37 hw) e183 p174_3 (hb hby at_189) (pc' := 192) rfl ?_
          intro T184 X184 e184
          refine own_aload X184 hx (hb hby at_192) rfl rfl (pc' := 194) rfl ?_
          refine own_acmpF X184 hx (hb hby at_194) rfl rfl (by simp [XT.acmp]) (pc' := 197) rfl ?_
          refine own_aload X184 hx (hb hby at_197) rfl rfl (pc' := 199) rfl ?_
          refine own_getF X184 hx hZ hown (ow_38 hw) e184 p174_5 (hb hby at_199) (pc' := 202) rfl ?_
          intro T185 X185 e185
          refine own_aloadN X185 hx (hb hby at_202) rfl rfl (pc' := 203) rfl ?_
          refine own_acmpF X185 hx (hb hby at_203) rfl rfl (by simp [XT.acmp]) (pc' := 206) rfl ?_
          refine own_aloadN X185 hx (hb hby at_206) rfl rfl (pc' := 207) rfl ?_
          refine own_getF X185 hx hZ hown (ow_20 hw) e185 p174_2 (hb hby at_207) (pc' := 210) rfl ?_
          intro T186 X186 e186
          refine own_iload X186 hx (hb hby at_210) rfl (pc' := 212) rfl ?_
          refine own_iconst X186 hx (hb hby at_212) (z := (1 : Int32)) rfl (pc' := 213) rfl ?_
          refine own_iadd X186 hx (hb hby at_213) (pc' := 214) rfl ?_
          refine own_icmpF X186 hx (hb hby at_214) (by decide) (pc' := 217) rfl ?_
          refine own_iconst X186 hx (hb hby at_217) (z := (1 : Int32)) rfl (pc' := 218) rfl ?_
          refine own_goto X186 hx (hb hby at_218) (by decide) (pc' := 222) rfl ?_
          refine own_istore X186 hx (hb hby at_222) (l' := #[.val (.int u0), .val (.ref a1), .val (.ref a4), .val (.ref a7), .val (.ref a11), .val (.ref a16), .val (.ref a7), .val (.ref a7), .val (.int ((0 : Int32) + (1 : Int32))), .val (.null), .val (.null), .val (.int (1 : Int32))]) rfl (pc' := 224) rfl ?_
          refine own_aload X186 hx (hb hby at_224) rfl rfl (pc' := 226) rfl ?_
          refine own_ifnonnullT X186 hx (hb hby at_226) (by decide) (pc' := 253) rfl ?_
          refine own_iload X186 hx (hb hby at_253) rfl (pc' := 255) rfl ?_
          refine own_ifF X186 hx (hb hby at_255) (by decide) (pc' := 258) rfl ?_
          refine own_aloadN X186 hx (hb hby at_258) rfl rfl (pc' := 259) rfl ?_
          refine own_getF X186 hx hZ hown (ow_18 hw) e186 p174_1 (hb hby at_259) (pc' := 262) rfl ?_
          intro T187 X187 e187
          refine own_aload X187 hx (hb hby at_262) rfl rfl (pc' := 264) rfl ?_
          refine own_acmpF X187 hx (hb hby at_264) rfl rfl (by simp [XT.acmp]) (pc' := 267) rfl ?_
          refine own_aload X187 hx (hb hby at_267) rfl rfl (pc' := 269) rfl ?_
          refine own_getF X187 hx hZ hown (ow_36 hw) e187 p174_7 (hb hby at_269) (pc' := 272) rfl ?_
          intro T188 X188 e188
          refine own_aload X188 hx (hb hby at_272) rfl rfl (pc' := 274) rfl ?_
          refine own_acmpF X188 hx (hb hby at_274) rfl rfl (by simp [XT.acmp]) (pc' := 277) rfl ?_
          refine own_aload X188 hx (hb hby at_277) rfl rfl (pc' := 279) rfl ?_
          refine own_getF X188 hx hZ hown (ow_37 hw) e188 p174_6 (hb hby at_279) (pc' := 282) rfl ?_
          intro T189 X189 e189
          refine own_aload X189 hx (hb hby at_282) rfl rfl (pc' := 284) rfl ?_
          refine own_acmpF X189 hx (hb hby at_284) rfl rfl (by simp [XT.acmp]) (pc' := 287) rfl ?_
          refine own_aload X189 hx (hb hby at_287) rfl rfl (pc' := 289) rfl ?_
          refine own_getF X189 hx hZ hown (ow_38 hw) e189 p174_8 (hb hby at_289) (pc' := 292) rfl ?_
          intro T190 X190 e190
          refine own_aloadN X190 hx (hb hby at_292) rfl rfl (pc' := 293) rfl ?_
          refine own_acmpF X190 hx (hb hby at_293) rfl rfl (by simp [XT.acmp]) (pc' := 296) rfl ?_
          refine own_iconst X190 hx (hb hby at_296) (z := (1 : Int32)) rfl (pc' := 297) rfl ?_
          refine own_goto X190 hx (hb hby at_297) (by decide) (pc' := 301) rfl ?_
          refine own_istore X190 hx (hb hby at_301) (l' := #[.val (.int u0), .val (.ref a1), .val (.ref a4), .val (.ref a7), .val (.ref a11), .val (.ref a16), .val (.ref a7), .val (.ref a7), .val (.int ((0 : Int32) + (1 : Int32))), .val (.null), .val (.null), .val (.int (1 : Int32))]) rfl (pc' := 303) rfl ?_
          refine own_iload X190 hx (hb hby at_303) rfl (pc' := 305) rfl ?_
          refine own_ifF X190 hx (hb hby at_305) (by decide) (pc' := 308) rfl ?_
          refine own_aload X190 hx (hb hby at_308) rfl rfl (pc' := 310) rfl ?_
          refine own_ifnullF X190 hx (hb hby at_310) (pc' := 313) rfl ?_
          refine own_aload X190 hx (hb hby at_313) rfl rfl (pc' := 315) rfl ?_
          refine own_getF X190 hx hZ hown (ow_37 hw) e190 p174_6 (hb hby at_315) (pc' := 318) rfl ?_
          intro T191 X191 e191
          refine own_aload X191 hx (hb hby at_318) rfl rfl (pc' := 320) rfl ?_
          refine own_acmpF X191 hx (hb hby at_320) rfl rfl (by simp [XT.acmp]) (pc' := 323) rfl ?_
          refine own_iconst X191 hx (hb hby at_323) (z := (1 : Int32)) rfl (pc' := 324) rfl ?_
          refine own_goto X191 hx (hb hby at_324) (by decide) (pc' := 328) rfl ?_
          refine own_istore X191 hx (hb hby at_328) (l' := #[.val (.int u0), .val (.ref a1), .val (.ref a4), .val (.ref a7), .val (.ref a11), .val (.ref a16), .val (.ref a7), .val (.ref a7), .val (.int ((0 : Int32) + (1 : Int32))), .val (.null), .val (.null), .val (.int (1 : Int32))]) rfl (pc' := 330) rfl ?_
          refine own_iload X191 hx (hb hby at_330) rfl (pc' := 332) rfl ?_
          refine own_ifF X191 hx (hb hby at_332) (by decide) (pc' := 335) rfl ?_
          refine own_aload X191 hx (hb hby at_335) rfl rfl (pc' := 337) rfl ?_
          have f192 : Fld Z T174.heap a16 "com/example/slot3/slot3/frame/Post" "following" "Lcom/example/slot3/slot3/frame/Post;" (.null) := ((F16_following.keep K159 (ninS (Nat.ne_of_gt lt_a1_a16) (ninS (Nat.ne_of_gt lt_a7_a16) nin0))).keep K174 (ninS (Nat.ne_of_gt lt_a1_a16) (ninS (Nat.ne_of_gt lt_a11_a16) (ninS (Nat.ne_of_gt lt_a7_a16) nin0))))
          refine own_getF X191 hx hZ hown (ow_37 hw) e191 f192 (hb hby at_337) (pc' := 340) rfl ?_
          intro T193 X193 e193
          refine own_ifnonnullF X193 hx (hb hby at_340) (pc' := 343) rfl ?_
          refine own_aload X193 hx (hb hby at_343) rfl rfl (pc' := 345) rfl ?_
          have f194 : Fld Z T174.heap a16 "com/example/slot3/slot3/frame/Post" "previous" "Lcom/example/slot3/slot3/frame/Post;" (.null) := ((F16_previous.keep K159 (ninS (Nat.ne_of_gt lt_a1_a16) (ninS (Nat.ne_of_gt lt_a7_a16) nin0))).keep K174 (ninS (Nat.ne_of_gt lt_a1_a16) (ninS (Nat.ne_of_gt lt_a11_a16) (ninS (Nat.ne_of_gt lt_a7_a16) nin0))))
          refine own_getF X193 hx hZ hown (ow_36 hw) e193 f194 (hb hby at_345) (pc' := 348) rfl ?_
          intro T195 X195 e195
          refine own_ifnonnullF X195 hx (hb hby at_348) (pc' := 351) rfl ?_
          refine own_aload X195 hx (hb hby at_351) rfl rfl (pc' := 353) rfl ?_
          have f196 : Fld Z T174.heap a16 "com/example/slot3/slot3/frame/Post" "chain" "Lcom/example/slot3/slot3/frame/PostChain;" (.null) := ((F16_chain.keep K159 (ninS (Nat.ne_of_gt lt_a1_a16) (ninS (Nat.ne_of_gt lt_a7_a16) nin0))).keep K174 (ninS (Nat.ne_of_gt lt_a1_a16) (ninS (Nat.ne_of_gt lt_a11_a16) (ninS (Nat.ne_of_gt lt_a7_a16) nin0))))
          refine own_getF X195 hx hZ hown (ow_38 hw) e195 f196 (hb hby at_353) (pc' := 356) rfl ?_
          intro T197 X197 e197
          refine own_ifnonnullF X197 hx (hb hby at_356) (pc' := 359) rfl ?_
          refine own_iconst X197 hx (hb hby at_359) (z := (1 : Int32)) rfl (pc' := 360) rfl ?_
          refine own_goto X197 hx (hb hby at_360) (by decide) (pc' := 364) rfl ?_
          refine own_istore X197 hx (hb hby at_364) (l' := #[.val (.int u0), .val (.ref a1), .val (.ref a4), .val (.ref a7), .val (.ref a11), .val (.ref a16), .val (.ref a7), .val (.ref a7), .val (.int ((0 : Int32) + (1 : Int32))), .val (.null), .val (.null), .val (.int (1 : Int32))]) rfl (pc' := 366) rfl ?_
          refine own_iload X197 hx (hb hby at_366) rfl (pc' := 368) rfl ?_
          exact own_retZ X197 hx hret hlk (Or.inr rfl) (hb hby at_368) ⟨rfl, N174⟩ (by decide) (by decide)
        · refine own_ifF X159 hx (hb hby at_97) (feq c168).1 (pc' := 100) rfl ?_
          refine own_aload X159 hx (hb hby at_100) rfl rfl (pc' := 102) rfl ?_
          refine own_aload X159 hx (hb hby at_102) rfl rfl (pc' := 104) rfl ?_
          have f198 : Fld Z T159.heap a11 "com/example/slot3/slot3/frame/Post" "previous" "Lcom/example/slot3/slot3/frame/Post;" (.null) := ((F11_previous.ext E16).keep K159 (ninS (Nat.ne_of_gt lt_a1_a11) (ninS (Nat.ne_of_gt lt_a7_a11) nin0)))
          have f199 : Exa Z T159.heap a11 "com/example/slot3/slot3/frame/Post" := ((A11.ext E16).keep K159)
          refine own_putF X159 hx hZ hown (ow_36 hw) rfl f198 f199 (Or.inl (ow_32 hw)) (ow_10 hw) (ty := (.object "com/example/slot3/slot3/frame/Post")) (by decide) rfl rfl (hb hby at_104) (pc' := 107) rfl ?_
          intro T200 h200 X200 e200 W200
          have N200 := Fr.snoc X200 N159 ge_a11
          refine own_aload X200 hx (hb hby at_107) rfl rfl (pc' := 109) rfl ?_
          refine own_aload X200 hx (hb hby at_109) rfl rfl (pc' := 111) rfl ?_
          have f201 : Fld Z h200 a11 "com/example/slot3/slot3/frame/Post" "following" "Lcom/example/slot3/slot3/frame/Post;" (.null) := (((F11_following.ext E16).keep K159 (ninS (Nat.ne_of_gt lt_a1_a11) (ninS (Nat.ne_of_gt lt_a7_a11) nin0))).other W200 (Or.inr (osn_7 hw)))
          have f202 : Exa Z h200 a11 "com/example/slot3/slot3/frame/Post" := (f199.wr W200)
          refine own_putF X200 hx hZ hown (ow_37 hw) e200 f201 f202 (Or.inl (ow_30 hw)) (ow_10 hw) (ty := (.object "com/example/slot3/slot3/frame/Post")) (by decide) rfl rfl (hb hby at_111) (pc' := 114) rfl ?_
          intro T203 h203 X203 e203 W203
          have N203 := Fr.snoc X203 N200 ge_a11
          refine own_aloadN X203 hx (hb hby at_114) rfl rfl (pc' := 115) rfl ?_
          have f204 : Fld Z h203 a1 "com/example/slot3/slot3/frame/PostChain" "first" "Lcom/example/slot3/slot3/frame/Post;" (.ref a7) := ((p159_0.other W200 (Or.inl (Nat.ne_of_lt lt_a1_a11))).other W203 (Or.inl (Nat.ne_of_lt lt_a1_a11)))
          refine own_getF X203 hx hZ hown (ow_16 hw) e203 f204 (hb hby at_115) (pc' := 118) rfl ?_
          intro T205 X205 e205
          refine own_astore X205 hx (hb hby at_118) rfl (l' := #[.val (.int u0), .val (.ref a1), .val (.ref a4), .val (.ref a7), .val (.ref a11), .val (.ref a16), .val (.ref a7), .unset, .unset, .unset, .unset, .unset]) rfl (pc' := 120) rfl ?_
          refine own_aloadN X205 hx (hb hby at_120) rfl rfl (pc' := 121) rfl ?_
          have f206 : Fld Z h203 a1 "com/example/slot3/slot3/frame/PostChain" "last" "Lcom/example/slot3/slot3/frame/Post;" (.ref a7) := ((p159_1.other W200 (Or.inl (Nat.ne_of_lt lt_a1_a11))).other W203 (Or.inl (Nat.ne_of_lt lt_a1_a11)))
          refine own_getF X205 hx hZ hown (ow_18 hw) e205 f206 (hb hby at_121) (pc' := 124) rfl ?_
          intro T207 X207 e207
          refine own_astore X207 hx (hb hby at_124) rfl (l' := #[.val (.int u0), .val (.ref a1), .val (.ref a4), .val (.ref a7), .val (.ref a11), .val (.ref a16), .val (.ref a7), .val (.ref a7), .unset, .unset, .unset, .unset]) rfl (pc' := 126) rfl ?_
          refine own_aloadN X207 hx (hb hby at_126) rfl rfl (pc' := 127) rfl ?_
          have f208 : Fld Z h203 a1 "com/example/slot3/slot3/frame/PostChain" "count" "I" (.int ((0 : Int32) + (1 : Int32))) := ((p159_2.other W200 (Or.inl (Nat.ne_of_lt lt_a1_a11))).other W203 (Or.inl (Nat.ne_of_lt lt_a1_a11)))
          refine own_getF X207 hx hZ hown (ow_20 hw) e207 f208 (hb hby at_127) (pc' := 130) rfl ?_
          intro T209 X209 e209
          refine own_istore X209 hx (hb hby at_130) (l' := #[.val (.int u0), .val (.ref a1), .val (.ref a4), .val (.ref a7), .val (.ref a11), .val (.ref a16), .val (.ref a7), .val (.ref a7), .val (.int ((0 : Int32) + (1 : Int32))), .unset, .unset, .unset]) rfl (pc' := 132) rfl ?_
          refine own_aload X209 hx (hb hby at_132) rfl rfl (pc' := 134) rfl ?_
          refine own_ifnonnullT X209 hx (hb hby at_134) (by decide) (pc' := 141) rfl ?_
          refine own_aload X209 hx (hb hby at_141) rfl rfl (pc' := 143) rfl ?_
          have f210 : Fld Z h203 a7 "com/example/slot3/slot3/frame/Post" "following" "Lcom/example/slot3/slot3/frame/Post;" (.null) := ((p159_3.other W200 (Or.inl (Nat.ne_of_lt lt_a7_a11))).other W203 (Or.inl (Nat.ne_of_lt lt_a7_a11)))
          refine own_getF X209 hx hZ hown (ow_37 hw) e209 f210 (hb hby at_143) (pc' := 146) rfl ?_
          intro T211 X211 e211
          refine own_astore X211 hx (hb hby at_146) rfl (l' := #[.val (.int u0), .val (.ref a1), .val (.ref a4), .val (.ref a7), .val (.ref a11), .val (.ref a16), .val (.ref a7), .val (.ref a7), .val (.int ((0 : Int32) + (1 : Int32))), .val (.null), .unset, .unset]) rfl (pc' := 148) rfl ?_
          refine own_aload X211 hx (hb hby at_148) rfl rfl (pc' := 150) rfl ?_
          refine own_ifnonnullT X211 hx (hb hby at_150) (by decide) (pc' := 157) rfl ?_
          refine own_aload X211 hx (hb hby at_157) rfl rfl (pc' := 159) rfl ?_
          refine own_getF X211 hx hZ hown (ow_37 hw) e211 f210 (hb hby at_159) (pc' := 162) rfl ?_
          intro T212 X212 e212
          refine own_astore X212 hx (hb hby at_162) rfl (l' := #[.val (.int u0), .val (.ref a1), .val (.ref a4), .val (.ref a7), .val (.ref a11), .val (.ref a16), .val (.ref a7), .val (.ref a7), .val (.int ((0 : Int32) + (1 : Int32))), .val (.null), .val (.null), .unset]) rfl (pc' := 164) rfl ?_
          refine own_aloadN X212 hx (hb hby at_164) rfl rfl (pc' := 165) rfl ?_
          refine own_aload X212 hx (hb hby at_165) rfl rfl (pc' := 167) rfl ?_
          have f214 : Exa Z h203 a1 "com/example/slot3/slot3/frame/PostChain" := (((f160.keep K159).wr W200).wr W203)
          have f215 : Exa Z h203 a11 "com/example/slot3/slot3/frame/Post" := (f202.wr W203)
          have f216 : Exa Z h203 a7 "com/example/slot3/slot3/frame/Post" := (((f161.keep K159).wr W200).wr W203)
          have f217 : Fld Z h203 a11 "com/example/slot3/slot3/frame/Post" "previous" "Lcom/example/slot3/slot3/frame/Post;" (.ref a16) := ((f198.same W200).other W203 (Or.inr (osn_10 hw)))
          have f218 : Fld Z h203 a11 "com/example/slot3/slot3/frame/Post" "chain" "Lcom/example/slot3/slot3/frame/PostChain;" (.null) := ((((F11_chain.ext E16).keep K159 (ninS (Nat.ne_of_gt lt_a1_a11) (ninS (Nat.ne_of_gt lt_a7_a11) nin0))).other W200 (Or.inr (osn_1 hw))).other W203 (Or.inr (osn_11 hw)))
          have f219 : Fld Z h203 a7 "com/example/slot3/slot3/frame/Post" "previous" "Lcom/example/slot3/slot3/frame/Post;" (.null) := ((p159_4.other W200 (Or.inl (Nat.ne_of_lt lt_a7_a11))).other W203 (Or.inl (Nat.ne_of_lt lt_a7_a11)))
          have f220 : Fld Z h203 a7 "com/example/slot3/slot3/frame/Post" "chain" "Lcom/example/slot3/slot3/frame/PostChain;" (.ref a1) := ((p159_5.other W200 (Or.inl (Nat.ne_of_lt lt_a7_a11))).other W203 (Or.inl (Nat.ne_of_lt lt_a7_a11)))
          have z221 : n0 ≤ h203.size := (Nat.le_trans (Nat.le_trans (Nat.le_trans z21 K159.1) (Nat.le_of_eq (Wr.size W200).symm)) (Nat.le_of_eq (Wr.size W203).symm))
          refine own_callV X212 hx hZ hown (ow_22 hw) (ow_23 hw) (ow_25 hw) (ow_24 hw) (ow_2 hw) (ow_26 hw) (by decide) f214 (rm_pu2 l Z a0 hw a1 a11 a7 ((0 : Int32) + (1 : Int32)) (.ref a7) (.ref a16) (.ref a16) .null .null .null (.ref a1) h203 n0 z221 f214 f215 f204 f206 f208 f216 (f201.same W203) f217 f218 f210 f219 f220 ge_a1 ge_a11 ge_a7 (Nat.ne_of_lt lt_a1_a11) (Nat.ne_of_lt lt_a1_a7) (Nat.ne_of_gt lt_a7_a11)) e212 (W := 0) (by decide) (by decide) opd__Lcom_example_slot3_slot3_frame_Post__V rfl (rest := []) rfl (hb hby at_167) (Nat.le_of_eq rfl) (by rw [hml]; rfl) (by decide) (by decide) (pc' := 170) rfl ?_
          intro v213 T213 L213 X213 q213
          obtain ⟨rfl, Nq213, K213, p213_0, p213_1, p213_2, p213_3, p213_4, p213_5, p213_6, p213_7, p213_8⟩ := q213
          have N213 := Fr.app N203 Nq213
          show own_G p e below s _ _ _ (T213.setTop (mkF m 170 #[.val (.int u0), .val (.ref a1), .val (.ref a4), .val (.ref a7), .val (.ref a11), .val (.ref a16), .val (.ref a7), .val (.ref a7), .val (.int ((0 : Int32) + (1 : Int32))), .val (.null), .val (.null), .unset] []))
          refine own_aloadN X213 hx (hb hby at_170) rfl rfl (pc' := 171) rfl ?_
          refine own_getF X213 hx hZ hown (ow_16 hw) rfl p213_0 (hb hby at_171) (pc' := 174) rfl ?_
          intro T222 X222 e222
          refine own_aload X222 hx (hb hby at_174) rfl rfl (pc' := 176) rfl ?_
          refine own_acmpF X222 hx (hb hby at_176) rfl rfl (by simp [XT.acmp]) (pc' := 179) rfl ?_
          refine own_aload X222 hx (hb hby at_179) rfl rfl (pc' := 181) rfl ?_
          refine own_getF X222 hx hZ hown (ow_36 hw) e222 p213_4 (hb hby at_181) (pc' := 184) rfl ?_
          intro T223 X223 e223
          refine own_ifnonnullF X223 hx (hb hby at_184) (pc' := 187) rfl ?_
          refine own_aload X223 hx (hb hby at_187) rfl rfl (pc' := 189) rfl ?_
          refine own_getF X223 hx hZ hown (ow_37 hw) e223 p213_3 (hb hby at_189) (pc' := 192) rfl ?_
          intro T224 X224 e224
          refine own_aload X224 hx (hb hby at_192) rfl rfl (pc' := 194) rfl ?_
          refine own_acmpF X224 hx (hb hby at_194) rfl rfl (by simp [XT.acmp]) (pc' := 197) rfl ?_
          refine own_aload X224 hx (hb hby at_197) rfl rfl (pc' := 199) rfl ?_
          refine own_getF X224 hx hZ hown (ow_38 hw) e224 p213_5 (hb hby at_199) (pc' := 202) rfl ?_
          intro T225 X225 e225
          refine own_aloadN X225 hx (hb hby at_202) rfl rfl (pc' := 203) rfl ?_
          refine own_acmpF X225 hx (hb hby at_203) rfl rfl (by simp [XT.acmp]) (pc' := 206) rfl ?_
          refine own_aloadN X225 hx (hb hby at_206) rfl rfl (pc' := 207) rfl ?_
          refine own_getF X225 hx hZ hown (ow_20 hw) e225 p213_2 (hb hby at_207) (pc' := 210) rfl ?_
          intro T226 X226 e226
          refine own_iload X226 hx (hb hby at_210) rfl (pc' := 212) rfl ?_
          refine own_iconst X226 hx (hb hby at_212) (z := (1 : Int32)) rfl (pc' := 213) rfl ?_
          refine own_iadd X226 hx (hb hby at_213) (pc' := 214) rfl ?_
          refine own_icmpF X226 hx (hb hby at_214) (by decide) (pc' := 217) rfl ?_
          refine own_iconst X226 hx (hb hby at_217) (z := (1 : Int32)) rfl (pc' := 218) rfl ?_
          refine own_goto X226 hx (hb hby at_218) (by decide) (pc' := 222) rfl ?_
          refine own_istore X226 hx (hb hby at_222) (l' := #[.val (.int u0), .val (.ref a1), .val (.ref a4), .val (.ref a7), .val (.ref a11), .val (.ref a16), .val (.ref a7), .val (.ref a7), .val (.int ((0 : Int32) + (1 : Int32))), .val (.null), .val (.null), .val (.int (1 : Int32))]) rfl (pc' := 224) rfl ?_
          refine own_aload X226 hx (hb hby at_224) rfl rfl (pc' := 226) rfl ?_
          refine own_ifnonnullT X226 hx (hb hby at_226) (by decide) (pc' := 253) rfl ?_
          refine own_iload X226 hx (hb hby at_253) rfl (pc' := 255) rfl ?_
          refine own_ifF X226 hx (hb hby at_255) (by decide) (pc' := 258) rfl ?_
          refine own_aloadN X226 hx (hb hby at_258) rfl rfl (pc' := 259) rfl ?_
          refine own_getF X226 hx hZ hown (ow_18 hw) e226 p213_1 (hb hby at_259) (pc' := 262) rfl ?_
          intro T227 X227 e227
          refine own_aload X227 hx (hb hby at_262) rfl rfl (pc' := 264) rfl ?_
          refine own_acmpF X227 hx (hb hby at_264) rfl rfl (by simp [XT.acmp]) (pc' := 267) rfl ?_
          refine own_aload X227 hx (hb hby at_267) rfl rfl (pc' := 269) rfl ?_
          refine own_getF X227 hx hZ hown (ow_36 hw) e227 p213_7 (hb hby at_269) (pc' := 272) rfl ?_
          intro T228 X228 e228
          refine own_aload X228 hx (hb hby at_272) rfl rfl (pc' := 274) rfl ?_
          refine own_acmpF X228 hx (hb hby at_274) rfl rfl (by simp [XT.acmp]) (pc' := 277) rfl ?_
          refine own_aload X228 hx (hb hby at_277) rfl rfl (pc' := 279) rfl ?_
          refine own_getF X228 hx hZ hown (ow_37 hw) e228 p213_6 (hb hby at_279) (pc' := 282) rfl ?_
          intro T229 X229 e229
          refine own_aload X229 hx (hb hby at_282) rfl rfl (pc' := 284) rfl ?_
          refine own_acmpF X229 hx (hb hby at_284) rfl rfl (by simp [XT.acmp]) (pc' := 287) rfl ?_
          refine own_aload X229 hx (hb hby at_287) rfl rfl (pc' := 289) rfl ?_
          refine own_getF X229 hx hZ hown (ow_38 hw) e229 p213_8 (hb hby at_289) (pc' := 292) rfl ?_
          intro T230 X230 e230
          refine own_aloadN X230 hx (hb hby at_292) rfl rfl (pc' := 293) rfl ?_
          refine own_acmpF X230 hx (hb hby at_293) rfl rfl (by simp [XT.acmp]) (pc' := 296) rfl ?_
          refine own_iconst X230 hx (hb hby at_296) (z := (1 : Int32)) rfl (pc' := 297) rfl ?_
          refine own_goto X230 hx (hb hby at_297) (by decide) (pc' := 301) rfl ?_
          refine own_istore X230 hx (hb hby at_301) (l' := #[.val (.int u0), .val (.ref a1), .val (.ref a4), .val (.ref a7), .val (.ref a11), .val (.ref a16), .val (.ref a7), .val (.ref a7), .val (.int ((0 : Int32) + (1 : Int32))), .val (.null), .val (.null), .val (.int (1 : Int32))]) rfl (pc' := 303) rfl ?_
          refine own_iload X230 hx (hb hby at_303) rfl (pc' := 305) rfl ?_
          refine own_ifF X230 hx (hb hby at_305) (by decide) (pc' := 308) rfl ?_
          refine own_aload X230 hx (hb hby at_308) rfl rfl (pc' := 310) rfl ?_
          refine own_ifnullF X230 hx (hb hby at_310) (pc' := 313) rfl ?_
          refine own_aload X230 hx (hb hby at_313) rfl rfl (pc' := 315) rfl ?_
          refine own_getF X230 hx hZ hown (ow_37 hw) e230 p213_6 (hb hby at_315) (pc' := 318) rfl ?_
          intro T231 X231 e231
          refine own_aload X231 hx (hb hby at_318) rfl rfl (pc' := 320) rfl ?_
          refine own_acmpF X231 hx (hb hby at_320) rfl rfl (by simp [XT.acmp]) (pc' := 323) rfl ?_
          refine own_iconst X231 hx (hb hby at_323) (z := (1 : Int32)) rfl (pc' := 324) rfl ?_
          refine own_goto X231 hx (hb hby at_324) (by decide) (pc' := 328) rfl ?_
          refine own_istore X231 hx (hb hby at_328) (l' := #[.val (.int u0), .val (.ref a1), .val (.ref a4), .val (.ref a7), .val (.ref a11), .val (.ref a16), .val (.ref a7), .val (.ref a7), .val (.int ((0 : Int32) + (1 : Int32))), .val (.null), .val (.null), .val (.int (1 : Int32))]) rfl (pc' := 330) rfl ?_
          refine own_iload X231 hx (hb hby at_330) rfl (pc' := 332) rfl ?_
          refine own_ifF X231 hx (hb hby at_332) (by decide) (pc' := 335) rfl ?_
          refine own_aload X231 hx (hb hby at_335) rfl rfl (pc' := 337) rfl ?_
          have f232 : Fld Z T213.heap a16 "com/example/slot3/slot3/frame/Post" "following" "Lcom/example/slot3/slot3/frame/Post;" (.null) := ((((F16_following.keep K159 (ninS (Nat.ne_of_gt lt_a1_a16) (ninS (Nat.ne_of_gt lt_a7_a16) nin0))).other W200 (Or.inl (Nat.ne_of_gt lt_a11_a16))).other W203 (Or.inl (Nat.ne_of_gt lt_a11_a16))).keep K213 (ninS (Nat.ne_of_gt lt_a1_a16) (ninS (Nat.ne_of_gt lt_a11_a16) (ninS (Nat.ne_of_gt lt_a7_a16) nin0))))
          refine own_getF X231 hx hZ hown (ow_37 hw) e231 f232 (hb hby at_337) (pc' := 340) rfl ?_
          intro T233 X233 e233
          refine own_ifnonnullF X233 hx (hb hby at_340) (pc' := 343) rfl ?_
          refine own_aload X233 hx (hb hby at_343) rfl rfl (pc' := 345) rfl ?_
          have f234 : Fld Z T213.heap a16 "com/example/slot3/slot3/frame/Post" "previous" "Lcom/example/slot3/slot3/frame/Post;" (.null) := ((((F16_previous.keep K159 (ninS (Nat.ne_of_gt lt_a1_a16) (ninS (Nat.ne_of_gt lt_a7_a16) nin0))).other W200 (Or.inl (Nat.ne_of_gt lt_a11_a16))).other W203 (Or.inl (Nat.ne_of_gt lt_a11_a16))).keep K213 (ninS (Nat.ne_of_gt lt_a1_a16) (ninS (Nat.ne_of_gt lt_a11_a16) (ninS (Nat.ne_of_gt lt_a7_a16) nin0))))
          refine own_getF X233 hx hZ hown (ow_36 hw) e233 f234 (hb hby at_345) (pc' := 348) rfl ?_
          intro T235 X235 e235
          refine own_ifnonnullF X235 hx (hb hby at_348) (pc' := 351) rfl ?_
          refine own_aload X235 hx (hb hby at_351) rfl rfl (pc' := 353) rfl ?_
          have f236 : Fld Z T213.heap a16 "com/example/slot3/slot3/frame/Post" "chain" "Lcom/example/slot3/slot3/frame/PostChain;" (.null) := ((((F16_chain.keep K159 (ninS (Nat.ne_of_gt lt_a1_a16) (ninS (Nat.ne_of_gt lt_a7_a16) nin0))).other W200 (Or.inl (Nat.ne_of_gt lt_a11_a16))).other W203 (Or.inl (Nat.ne_of_gt lt_a11_a16))).keep K213 (ninS (Nat.ne_of_gt lt_a1_a16) (ninS (Nat.ne_of_gt lt_a11_a16) (ninS (Nat.ne_of_gt lt_a7_a16) nin0))))
          refine own_getF X235 hx hZ hown (ow_38 hw) e235 f236 (hb hby at_353) (pc' := 356) rfl ?_
          intro T237 X237 e237
          refine own_ifnonnullF X237 hx (hb hby at_356) (pc' := 359) rfl ?_
          refine own_iconst X237 hx (hb hby at_359) (z := (1 : Int32)) rfl (pc' := 360) rfl ?_
          refine own_goto X237 hx (hb hby at_360) (by decide) (pc' := 364) rfl ?_
          refine own_istore X237 hx (hb hby at_364) (l' := #[.val (.int u0), .val (.ref a1), .val (.ref a4), .val (.ref a7), .val (.ref a11), .val (.ref a16), .val (.ref a7), .val (.ref a7), .val (.int ((0 : Int32) + (1 : Int32))), .val (.null), .val (.null), .val (.int (1 : Int32))]) rfl (pc' := 366) rfl ?_
          refine own_iload X237 hx (hb hby at_366) rfl (pc' := 368) rfl ?_
          exact own_retZ X237 hx hret hlk (Or.inr rfl) (hb hby at_368) ⟨rfl, N213⟩ (by decide) (by decide)
  · refine own_ifF X20 hx (hb hby at_45) (feq c22).1 (pc' := 48) rfl ?_
    refine own_iloadN X20 hx (hb hby at_48) rfl (pc' := 49) rfl ?_
    refine own_iconst X20 hx (hb hby at_49) (z := (4 : Int32)) rfl (pc' := 50) rfl ?_
    refine own_iand X20 hx (hb hby at_50) (pc' := 51) rfl ?_
    by_cases c238 : (u0 &&& (4 : Int32)) = (0 : Int32)
    · refine own_ifT X20 hx (hb hby at_51) (teq c238).1 (by decide) (pc' := 62) rfl ?_
      refine own_aloadN X20 hx (hb hby at_62) rfl rfl (pc' := 63) rfl ?_
      refine own_aloadN X20 hx (hb hby at_63) rfl rfl (pc' := 64) rfl ?_
      have f240 : Exa Z h16 a1 "com/example/slot3/slot3/frame/PostChain" := (f17.ext E16)
      have f241 : Exa Z h16 a4 "com/example/slot3/slot3/frame/Post" := (f18.ext E16)
      have f242 : Fld Z h16 a1 "com/example/slot3/slot3/frame/PostChain" "first" "Lcom/example/slot3/slot3/frame/Post;" (.null) := ((((F1_first.ext E4).ext E7).ext E11).ext E16)
      have f243 : Fld Z h16 a1 "com/example/slot3/slot3/frame/PostChain" "last" "Lcom/example/slot3/slot3/frame/Post;" (.null) := ((((F1_last.ext E4).ext E7).ext E11).ext E16)
      have f244 : Fld Z h16 a1 "com/example/slot3/slot3/frame/PostChain" "count" "I" (.int (0 : Int32)) := ((((F1_count.ext E4).ext E7).ext E11).ext E16)
      have f245 : Fld Z h16 a4 "com/example/slot3/slot3/frame/Post" "following" "Lcom/example/slot3/slot3/frame/Post;" (.null) := (((F4_following.ext E7).ext E11).ext E16)
      have f246 : Fld Z h16 a4 "com/example/slot3/slot3/frame/Post" "previous" "Lcom/example/slot3/slot3/frame/Post;" (.null) := (((F4_previous.ext E7).ext E11).ext E16)
      have f247 : Fld Z h16 a4 "com/example/slot3/slot3/frame/Post" "chain" "Lcom/example/slot3/slot3/frame/PostChain;" (.null) := (((F4_chain.ext E7).ext E11).ext E16)
      refine own_callV X20 hx hZ hown (ow_39 hw) (ow_40 hw) (ow_42 hw) (ow_41 hw) (ow_2 hw) (ow_43 hw) (by decide) f240 (rm_ap1 l Z a0 hw a1 a4 (0 : Int32) .null .null .null .null h16 n0 z21 f240 f241 f242 f243 f244 f245 f246 f247 ge_a1 ge_a4 (Nat.ne_of_lt lt_a1_a4)) eh20 (W := 0) (by decide) (by decide) opd__Lcom_example_slot3_slot3_frame_Post__V rfl (rest := []) rfl (hb hby at_64) (Nat.le_of_eq rfl) (by rw [hml]; rfl) (by decide) (by decide) (pc' := 67) rfl ?_
      intro v239 T239 L239 X239 q239
      obtain ⟨rfl, Nq239, K239, p239_0, p239_1, p239_2, p239_3, p239_4, p239_5⟩ := q239
      have N239 := Fr.app N20 Nq239
      show own_G p e below s _ _ _ (T239.setTop (mkF m 67 #[.val (.int u0), .val (.ref a1), .val (.ref a4), .val (.ref a7), .val (.ref a11), .val (.ref a16), .unset, .unset, .unset, .unset, .unset, .unset] []))
      refine own_iloadN X239 hx (hb hby at_67) rfl (pc' := 68) rfl ?_
      refine own_iconst X239 hx (hb hby at_68) (z := (2 : Int32)) rfl (pc' := 69) rfl ?_
      refine own_iand X239 hx (hb hby at_69) (pc' := 70) rfl ?_
      by_cases c248 : (u0 &&& (2 : Int32)) = (0 : Int32)
      · refine own_ifT X239 hx (hb hby at_70) (teq c248).1 (by decide) (pc' := 93) rfl ?_
        refine own_iloadN X239 hx (hb hby at_93) rfl (pc' := 94) rfl ?_
        refine own_bipush X239 hx (hb hby at_94) (z := (16 : Int32)) (by decide) (pc' := 96) rfl ?_
        refine own_iand X239 hx (hb hby at_96) (pc' := 97) rfl ?_
        by_cases c249 : (u0 &&& (16 : Int32)) = (0 : Int32)
        · refine own_ifT X239 hx (hb hby at_97) (teq c249).1 (by decide) (pc' := 114) rfl ?_
          refine own_aloadN X239 hx (hb hby at_114) rfl rfl (pc' := 115) rfl ?_
          refine own_getF X239 hx hZ hown (ow_16 hw) rfl p239_0 (hb hby at_115) (pc' := 118) rfl ?_
          intro T250 X250 e250
          refine own_astore X250 hx (hb hby at_118) rfl (l' := #[.val (.int u0), .val (.ref a1), .val (.ref a4), .val (.ref a7), .val (.ref a11), .val (.ref a16), .val (.ref a4), .unset, .unset, .unset, .unset, .unset]) rfl (pc' := 120) rfl ?_
          refine own_aloadN X250 hx (hb hby at_120) rfl rfl (pc' := 121) rfl ?_
          refine own_getF X250 hx hZ hown (ow_18 hw) e250 p239_1 (hb hby at_121) (pc' := 124) rfl ?_
          intro T251 X251 e251
          refine own_astore X251 hx (hb hby at_124) rfl (l' := #[.val (.int u0), .val (.ref a1), .val (.ref a4), .val (.ref a7), .val (.ref a11), .val (.ref a16), .val (.ref a4), .val (.ref a4), .unset, .unset, .unset, .unset]) rfl (pc' := 126) rfl ?_
          refine own_aloadN X251 hx (hb hby at_126) rfl rfl (pc' := 127) rfl ?_
          refine own_getF X251 hx hZ hown (ow_20 hw) e251 p239_2 (hb hby at_127) (pc' := 130) rfl ?_
          intro T252 X252 e252
          refine own_istore X252 hx (hb hby at_130) (l' := #[.val (.int u0), .val (.ref a1), .val (.ref a4), .val (.ref a7), .val (.ref a11), .val (.ref a16), .val (.ref a4), .val (.ref a4), .val (.int ((0 : Int32) + (1 : Int32))), .unset, .unset, .unset]) rfl (pc' := 132) rfl ?_
          refine own_aload X252 hx (hb hby at_132) rfl rfl (pc' := 134) rfl ?_
          refine own_ifnonnullT X252 hx (hb hby at_134) (by decide) (pc' := 141) rfl ?_
          refine own_aload X252 hx (hb hby at_141) rfl rfl (pc' := 143) rfl ?_
          refine own_getF X252 hx hZ hown (ow_37 hw) e252 p239_3 (hb hby at_143) (pc' := 146) rfl ?_
          intro T253 X253 e253
          refine own_astore X253 hx (hb hby at_146) rfl (l' := #[.val (.int u0), .val (.ref a1), .val (.ref a4), .val (.ref a7), .val (.ref a11), .val (.ref a16), .val (.ref a4), .val (.ref a4), .val (.int ((0 : Int32) + (1 : Int32))), .val (.null), .unset, .unset]) rfl (pc' := 148) rfl ?_
          refine own_aload X253 hx (hb hby at_148) rfl rfl (pc' := 150) rfl ?_
          refine own_ifnonnullT X253 hx (hb hby at_150) (by decide) (pc' := 157) rfl ?_
          refine own_aload X253 hx (hb hby at_157) rfl rfl (pc' := 159) rfl ?_
          refine own_getF X253 hx hZ hown (ow_37 hw) e253 p239_3 (hb hby at_159) (pc' := 162) rfl ?_
          intro T254 X254 e254
          refine own_astore X254 hx (hb hby at_162) rfl (l' := #[.val (.int u0), .val (.ref a1), .val (.ref a4), .val (.ref a7), .val (.ref a11), .val (.ref a16), .val (.ref a4), .val (.ref a4), .val (.int ((0 : Int32) + (1 : Int32))), .val (.null), .val (.null), .unset]) rfl (pc' := 164) rfl ?_
          refine own_aloadN X254 hx (hb hby at_164) rfl rfl (pc' := 165) rfl ?_
          refine own_aload X254 hx (hb hby at_165) rfl rfl (pc' := 167) rfl ?_
          have f256 : Exa Z T239.heap a1 "com/example/slot3/slot3/frame/PostChain" := (f240.keep K239)
          have f257 : Exa Z T239.heap a11 "com/example/slot3/slot3/frame/Post" := ((A11.ext E16).keep K239)
          have f258 : Exa Z T239.heap a4 "com/example/slot3/slot3/frame/Post" := (f241.keep K239)
          have f259 : Fld Z T239.heap a11 "com/example/slot3/slot3/frame/Post" "following" "Lcom/example/slot3/slot3/frame/Post;" (.null) := ((F11_following.ext E16).keep K239 (ninS (Nat.ne_of_gt lt_a1_a11) (ninS (Nat.ne_of_gt lt_a4_a11) nin0)))
          have f260 : Fld Z T239.heap a11 "com/example/slot3/slot3/frame/Post" "previous" "Lcom/example/slot3/slot3/frame/Post;" (.null) := ((F11_previous.ext E16).keep K239 (ninS (Nat.ne_of_gt lt_a1_a11) (ninS (Nat.ne_of_gt lt_a4_a11) nin0)))
          have f261 : Fld Z T239.heap a11 "com/example/slot3/slot3/frame/Post" "chain" "Lcom/example/slot3/slot3/frame/PostChain;" (.null) := ((F11_chain.ext E16).keep K239 (ninS (Nat.ne_of_gt lt_a1_a11) (ninS (Nat.ne_of_gt lt_a4_a11) nin0)))
          have z262 : n0 ≤ T239.heap.size := (Nat.le_trans z21 K239.1)
          refine own_callV X254 hx hZ hown (ow_22 hw) (ow_23 hw) (ow_25 hw) (ow_24 hw) (ow_2 hw) (ow_26 hw) (by decide) f256 (rm_pu2 l Z a0 hw a1 a11 a4 ((0 : Int32) + (1 : Int32)) (.ref a4) .null .null .null .null .null (.ref a1) T239.heap n0 z262 f256 f257 p239_0 p239_1 p239_2 f258 f259 f260 f261 p239_3 p239_4 p239_5 ge_a1 ge_a11 ge_a4 (Nat.ne_of_lt lt_a1_a11) (Nat.ne_of_lt lt_a1_a4) (Nat.ne_of_gt lt_a4_a11)) e254 (W := 0) (by decide) (by decide) opd__Lcom_example_slot3_slot3_frame_Post__V rfl (rest := []) rfl (hb hby at_167) (Nat.le_of_eq rfl) (by rw [hml]; rfl) (by decide) (by decide) (pc' := 170) rfl ?_
          intro v255 T255 L255 X255 q255
          obtain ⟨rfl, Nq255, K255, p255_0, p255_1, p255_2, p255_3, p255_4, p255_5, p255_6, p255_7, p255_8⟩ := q255
          have N255 := Fr.app N239 Nq255
          show own_G p e below s _ _ _ (T255.setTop (mkF m 170 #[.val (.int u0), .val (.ref a1), .val (.ref a4), .val (.ref a7), .val (.ref a11), .val (.ref a16), .val (.ref a4), .val (.ref a4), .val (.int ((0 : Int32) + (1 : Int32))), .val (.null), .val (.null), .unset] []))
          refine own_aloadN X255 hx (hb hby at_170) rfl rfl (pc' := 171) rfl ?_
          refine own_getF X255 hx hZ hown (ow_16 hw) rfl p255_0 (hb hby at_171) (pc' := 174) rfl ?_
          intro T263 X263 e263
          refine own_aload X263 hx (hb hby at_174) rfl rfl (pc' := 176) rfl ?_
          refine own_acmpF X263 hx (hb hby at_176) rfl rfl (by simp [XT.acmp]) (pc' := 179) rfl ?_
          refine own_aload X263 hx (hb hby at_179) rfl rfl (pc' := 181) rfl ?_
          refine own_getF X263 hx hZ hown (ow_36 hw) e263 p255_4 (hb hby at_181) (pc' := 184) rfl ?_
          intro T264 X264 e264
          refine own_ifnonnullF X264 hx (hb hby at_184) (pc' := 187) rfl ?_
          refine own_aload X264 hx (hb hby at_187) rfl rfl (pc' := 189) rfl ?_
          refine own_getF X264 hx hZ hown (ow_37 hw) e264 p255_3 (hb hby at_189) (pc' := 192) rfl ?_
          intro T265 X265 e265
          refine own_aload X265 hx (hb hby at_192) rfl rfl (pc' := 194) rfl ?_
          refine own_acmpF X265 hx (hb hby at_194) rfl rfl (by simp [XT.acmp]) (pc' := 197) rfl ?_
          refine own_aload X265 hx (hb hby at_197) rfl rfl (pc' := 199) rfl ?_
          refine own_getF X265 hx hZ hown (ow_38 hw) e265 p255_5 (hb hby at_199) (pc' := 202) rfl ?_
          intro T266 X266 e266
          refine own_aloadN X266 hx (hb hby at_202) rfl rfl (pc' := 203) rfl ?_
          refine own_acmpF X266 hx (hb hby at_203) rfl rfl (by simp [XT.acmp]) (pc' := 206) rfl ?_
          refine own_aloadN X266 hx (hb hby at_206) rfl rfl (pc' := 207) rfl ?_
          refine own_getF X266 hx hZ hown (ow_20 hw) e266 p255_2 (hb hby at_207) (pc' := 210) rfl ?_
          intro T267 X267 e267
          refine own_iload X267 hx (hb hby at_210) rfl (pc' := 212) rfl ?_
          refine own_iconst X267 hx (hb hby at_212) (z := (1 : Int32)) rfl (pc' := 213) rfl ?_
          refine own_iadd X267 hx (hb hby at_213) (pc' := 214) rfl ?_
          refine own_icmpF X267 hx (hb hby at_214) (by decide) (pc' := 217) rfl ?_
          refine own_iconst X267 hx (hb hby at_217) (z := (1 : Int32)) rfl (pc' := 218) rfl ?_
          refine own_goto X267 hx (hb hby at_218) (by decide) (pc' := 222) rfl ?_
          refine own_istore X267 hx (hb hby at_222) (l' := #[.val (.int u0), .val (.ref a1), .val (.ref a4), .val (.ref a7), .val (.ref a11), .val (.ref a16), .val (.ref a4), .val (.ref a4), .val (.int ((0 : Int32) + (1 : Int32))), .val (.null), .val (.null), .val (.int (1 : Int32))]) rfl (pc' := 224) rfl ?_
          refine own_aload X267 hx (hb hby at_224) rfl rfl (pc' := 226) rfl ?_
          refine own_ifnonnullT X267 hx (hb hby at_226) (by decide) (pc' := 253) rfl ?_
          refine own_iload X267 hx (hb hby at_253) rfl (pc' := 255) rfl ?_
          refine own_ifF X267 hx (hb hby at_255) (by decide) (pc' := 258) rfl ?_
          refine own_aloadN X267 hx (hb hby at_258) rfl rfl (pc' := 259) rfl ?_
          refine own_getF X267 hx hZ hown (ow_18 hw) e267 p255_1 (hb hby at_259) (pc' := 262) rfl ?_
          intro T268 X268 e268
          refine own_aload X268 hx (hb hby at_262) rfl rfl (pc' := 264) rfl ?_
          refine own_acmpF X268 hx (hb hby at_264) rfl rfl (by simp [XT.acmp]) (pc' := 267) rfl ?_
          refine own_aload X268 hx (hb hby at_267) rfl rfl (pc' := 269) rfl ?_
          refine own_getF X268 hx hZ hown (ow_36 hw) e268 p255_7 (hb hby at_269) (pc' := 272) rfl ?_
          intro T269 X269 e269
          refine own_aload X269 hx (hb hby at_272) rfl rfl (pc' := 274) rfl ?_
          refine own_acmpF X269 hx (hb hby at_274) rfl rfl (by simp [XT.acmp]) (pc' := 277) rfl ?_
          refine own_aload X269 hx (hb hby at_277) rfl rfl (pc' := 279) rfl ?_
          refine own_getF X269 hx hZ hown (ow_37 hw) e269 p255_6 (hb hby at_279) (pc' := 282) rfl ?_
          intro T270 X270 e270
          refine own_aload X270 hx (hb hby at_282) rfl rfl (pc' := 284) rfl ?_
          refine own_acmpF X270 hx (hb hby at_284) rfl rfl (by simp [XT.acmp]) (pc' := 287) rfl ?_
          refine own_aload X270 hx (hb hby at_287) rfl rfl (pc' := 289) rfl ?_
          refine own_getF X270 hx hZ hown (ow_38 hw) e270 p255_8 (hb hby at_289) (pc' := 292) rfl ?_
          intro T271 X271 e271
          refine own_aloadN X271 hx (hb hby at_292) rfl rfl (pc' := 293) rfl ?_
          refine own_acmpF X271 hx (hb hby at_293) rfl rfl (by simp [XT.acmp]) (pc' := 296) rfl ?_
          refine own_iconst X271 hx (hb hby at_296) (z := (1 : Int32)) rfl (pc' := 297) rfl ?_
          refine own_goto X271 hx (hb hby at_297) (by decide) (pc' := 301) rfl ?_
          refine own_istore X271 hx (hb hby at_301) (l' := #[.val (.int u0), .val (.ref a1), .val (.ref a4), .val (.ref a7), .val (.ref a11), .val (.ref a16), .val (.ref a4), .val (.ref a4), .val (.int ((0 : Int32) + (1 : Int32))), .val (.null), .val (.null), .val (.int (1 : Int32))]) rfl (pc' := 303) rfl ?_
          refine own_iload X271 hx (hb hby at_303) rfl (pc' := 305) rfl ?_
          refine own_ifF X271 hx (hb hby at_305) (by decide) (pc' := 308) rfl ?_
          refine own_aload X271 hx (hb hby at_308) rfl rfl (pc' := 310) rfl ?_
          refine own_ifnullF X271 hx (hb hby at_310) (pc' := 313) rfl ?_
          refine own_aload X271 hx (hb hby at_313) rfl rfl (pc' := 315) rfl ?_
          refine own_getF X271 hx hZ hown (ow_37 hw) e271 p255_6 (hb hby at_315) (pc' := 318) rfl ?_
          intro T272 X272 e272
          refine own_aload X272 hx (hb hby at_318) rfl rfl (pc' := 320) rfl ?_
          refine own_acmpF X272 hx (hb hby at_320) rfl rfl (by simp [XT.acmp]) (pc' := 323) rfl ?_
          refine own_iconst X272 hx (hb hby at_323) (z := (1 : Int32)) rfl (pc' := 324) rfl ?_
          refine own_goto X272 hx (hb hby at_324) (by decide) (pc' := 328) rfl ?_
          refine own_istore X272 hx (hb hby at_328) (l' := #[.val (.int u0), .val (.ref a1), .val (.ref a4), .val (.ref a7), .val (.ref a11), .val (.ref a16), .val (.ref a4), .val (.ref a4), .val (.int ((0 : Int32) + (1 : Int32))), .val (.null), .val (.null), .val (.int (1 : Int32))]) rfl (pc' := 330) rfl ?_
          refine own_iload X272 hx (hb hby at_330) rfl (pc' := 332) rfl ?_
          refine own_ifF X272 hx (hb hby at_332) (by decide) (pc' := 335) rfl ?_
          refine own_aload X272 hx (hb hby at_335) rfl rfl (pc' := 337) rfl ?_
          have f273 : Fld Z T255.heap a16 "com/example/slot3/slot3/frame/Post" "following" "Lcom/example/slot3/slot3/frame/Post;" (.null) := ((F16_following.keep K239 (ninS (Nat.ne_of_gt lt_a1_a16) (ninS (Nat.ne_of_gt lt_a4_a16) nin0))).keep K255 (ninS (Nat.ne_of_gt lt_a1_a16) (ninS (Nat.ne_of_gt lt_a11_a16) (ninS (Nat.ne_of_gt lt_a4_a16) nin0))))
          refine own_getF X272 hx hZ hown (ow_37 hw) e272 f273 (hb hby at_337) (pc' := 340) rfl ?_
          intro T274 X274 e274
          refine own_ifnonnullF X274 hx (hb hby at_340) (pc' := 343) rfl ?_
          refine own_aload X274 hx (hb hby at_343) rfl rfl (pc' := 345) rfl ?_
          have f275 : Fld Z T255.heap a16 "com/example/slot3/slot3/frame/Post" "previous" "Lcom/example/slot3/slot3/frame/Post;" (.null) := ((F16_previous.keep K239 (ninS (Nat.ne_of_gt lt_a1_a16) (ninS (Nat.ne_of_gt lt_a4_a16) nin0))).keep K255 (ninS (Nat.ne_of_gt lt_a1_a16) (ninS (Nat.ne_of_gt lt_a11_a16) (ninS (Nat.ne_of_gt lt_a4_a16) nin0))))
          refine own_getF X274 hx hZ hown (ow_36 hw) e274 f275 (hb hby at_345) (pc' := 348) rfl ?_
          intro T276 X276 e276
          refine own_ifnonnullF X276 hx (hb hby at_348) (pc' := 351) rfl ?_
          refine own_aload X276 hx (hb hby at_351) rfl rfl (pc' := 353) rfl ?_
          have f277 : Fld Z T255.heap a16 "com/example/slot3/slot3/frame/Post" "chain" "Lcom/example/slot3/slot3/frame/PostChain;" (.null) := ((F16_chain.keep K239 (ninS (Nat.ne_of_gt lt_a1_a16) (ninS (Nat.ne_of_gt lt_a4_a16) nin0))).keep K255 (ninS (Nat.ne_of_gt lt_a1_a16) (ninS (Nat.ne_of_gt lt_a11_a16) (ninS (Nat.ne_of_gt lt_a4_a16) nin0))))
          refine own_getF X276 hx hZ hown (ow_38 hw) e276 f277 (hb hby at_353) (pc' := 356) rfl ?_
          intro T278 X278 e278
          refine own_ifnonnullF X278 hx (hb hby at_356) (pc' := 359) rfl ?_
          refine own_iconst X278 hx (hb hby at_359) (z := (1 : Int32)) rfl (pc' := 360) rfl ?_
          refine own_goto X278 hx (hb hby at_360) (by decide) (pc' := 364) rfl ?_
          refine own_istore X278 hx (hb hby at_364) (l' := #[.val (.int u0), .val (.ref a1), .val (.ref a4), .val (.ref a7), .val (.ref a11), .val (.ref a16), .val (.ref a4), .val (.ref a4), .val (.int ((0 : Int32) + (1 : Int32))), .val (.null), .val (.null), .val (.int (1 : Int32))]) rfl (pc' := 366) rfl ?_
          refine own_iload X278 hx (hb hby at_366) rfl (pc' := 368) rfl ?_
          exact own_retZ X278 hx hret hlk (Or.inr rfl) (hb hby at_368) ⟨rfl, N255⟩ (by decide) (by decide)
        · refine own_ifF X239 hx (hb hby at_97) (feq c249).1 (pc' := 100) rfl ?_
          refine own_aload X239 hx (hb hby at_100) rfl rfl (pc' := 102) rfl ?_
          refine own_aload X239 hx (hb hby at_102) rfl rfl (pc' := 104) rfl ?_
          have f279 : Fld Z T239.heap a11 "com/example/slot3/slot3/frame/Post" "previous" "Lcom/example/slot3/slot3/frame/Post;" (.null) := ((F11_previous.ext E16).keep K239 (ninS (Nat.ne_of_gt lt_a1_a11) (ninS (Nat.ne_of_gt lt_a4_a11) nin0)))
          have f280 : Exa Z T239.heap a11 "com/example/slot3/slot3/frame/Post" := ((A11.ext E16).keep K239)
          refine own_putF X239 hx hZ hown (ow_36 hw) rfl f279 f280 (Or.inl (ow_32 hw)) (ow_10 hw) (ty := (.object "com/example/slot3/slot3/frame/Post")) (by decide) rfl rfl (hb hby at_104) (pc' := 107) rfl ?_
          intro T281 h281 X281 e281 W281
          have N281 := Fr.snoc X281 N239 ge_a11
          refine own_aload X281 hx (hb hby at_107) rfl rfl (pc' := 109) rfl ?_
          refine own_aload X281 hx (hb hby at_109) rfl rfl (pc' := 111) rfl ?_
          have f282 : Fld Z h281 a11 "com/example/slot3/slot3/frame/Post" "following" "Lcom/example/slot3/slot3/frame/Post;" (.null) := (((F11_following.ext E16).keep K239 (ninS (Nat.ne_of_gt lt_a1_a11) (ninS (Nat.ne_of_gt lt_a4_a11) nin0))).other W281 (Or.inr (osn_7 hw)))
          have f283 : Exa Z h281 a11 "com/example/slot3/slot3/frame/Post" := (f280.wr W281)
          refine own_putF X281 hx hZ hown (ow_37 hw) e281 f282 f283 (Or.inl (ow_30 hw)) (ow_10 hw) (ty := (.object "com/example/slot3/slot3/frame/Post")) (by decide) rfl rfl (hb hby at_111) (pc' := 114) rfl ?_
          intro T284 h284 X284 e284 W284
          have N284 := Fr.snoc X284 N281 ge_a11
          refine own_aloadN X284 hx (hb hby at_114) rfl rfl (pc' := 115) rfl ?_
          have f285 : Fld Z h284 a1 "com/example/slot3/slot3/frame/PostChain" "first" "Lcom/example/slot3/slot3/frame/Post;" (.ref a4) := ((p239_0.other W281 (Or.inl (Nat.ne_of_lt lt_a1_a11))).other W284 (Or.inl (Nat.ne_of_lt lt_a1_a11)))
          refine own_getF X284 hx hZ hown (ow_16 hw) e284 f285 (hb hby at_115) (pc' := 118) rfl ?_
          intro T286 X286 e286
          refine own_astore X286 hx (hb hby at_118) rfl (l' := #[.val (.int u0), .val (.ref a1), .val (.ref a4), .val (.ref a7), .val (.ref a11), .val (.ref a16), .val (.ref a4), .unset, .unset, .unset, .unset, .unset]) rfl (pc' := 120) rfl ?_
          refine own_aloadN X286 hx (hb hby at_120) rfl rfl (pc' := 121) rfl ?_
          have f287 : Fld Z h284 a1 "com/example/slot3/slot3/frame/PostChain" "last" "Lcom/example/slot3/slot3/frame/Post;" (.ref a4) := ((p239_1.other W281 (Or.inl (Nat.ne_of_lt lt_a1_a11))).other W284 (Or.inl (Nat.ne_of_lt lt_a1_a11)))
          refine own_getF X286 hx hZ hown (ow_18 hw) e286 f287 (hb hby at_121) (pc' := 124) rfl ?_
          intro T288 X288 e288
          refine own_astore X288 hx (hb hby at_124) rfl (l' := #[.val (.int u0), .val (.ref a1), .val (.ref a4), .val (.ref a7), .val (.ref a11), .val (.ref a16), .val (.ref a4), .val (.ref a4), .unset, .unset, .unset, .unset]) rfl (pc' := 126) rfl ?_
          refine own_aloadN X288 hx (hb hby at_126) rfl rfl (pc' := 127) rfl ?_
          have f289 : Fld Z h284 a1 "com/example/slot3/slot3/frame/PostChain" "count" "I" (.int ((0 : Int32) + (1 : Int32))) := ((p239_2.other W281 (Or.inl (Nat.ne_of_lt lt_a1_a11))).other W284 (Or.inl (Nat.ne_of_lt lt_a1_a11)))
          refine own_getF X288 hx hZ hown (ow_20 hw) e288 f289 (hb hby at_127) (pc' := 130) rfl ?_
          intro T290 X290 e290
          refine own_istore X290 hx (hb hby at_130) (l' := #[.val (.int u0), .val (.ref a1), .val (.ref a4), .val (.ref a7), .val (.ref a11), .val (.ref a16), .val (.ref a4), .val (.ref a4), .val (.int ((0 : Int32) + (1 : Int32))), .unset, .unset, .unset]) rfl (pc' := 132) rfl ?_
          refine own_aload X290 hx (hb hby at_132) rfl rfl (pc' := 134) rfl ?_
          refine own_ifnonnullT X290 hx (hb hby at_134) (by decide) (pc' := 141) rfl ?_
          refine own_aload X290 hx (hb hby at_141) rfl rfl (pc' := 143) rfl ?_
          have f291 : Fld Z h284 a4 "com/example/slot3/slot3/frame/Post" "following" "Lcom/example/slot3/slot3/frame/Post;" (.null) := ((p239_3.other W281 (Or.inl (Nat.ne_of_lt lt_a4_a11))).other W284 (Or.inl (Nat.ne_of_lt lt_a4_a11)))
          refine own_getF X290 hx hZ hown (ow_37 hw) e290 f291 (hb hby at_143) (pc' := 146) rfl ?_
          intro T292 X292 e292
          refine own_astore X292 hx (hb hby at_146) rfl (l' := #[.val (.int u0), .val (.ref a1), .val (.ref a4), .val (.ref a7), .val (.ref a11), .val (.ref a16), .val (.ref a4), .val (.ref a4), .val (.int ((0 : Int32) + (1 : Int32))), .val (.null), .unset, .unset]) rfl (pc' := 148) rfl ?_
          refine own_aload X292 hx (hb hby at_148) rfl rfl (pc' := 150) rfl ?_
          refine own_ifnonnullT X292 hx (hb hby at_150) (by decide) (pc' := 157) rfl ?_
          refine own_aload X292 hx (hb hby at_157) rfl rfl (pc' := 159) rfl ?_
          refine own_getF X292 hx hZ hown (ow_37 hw) e292 f291 (hb hby at_159) (pc' := 162) rfl ?_
          intro T293 X293 e293
          refine own_astore X293 hx (hb hby at_162) rfl (l' := #[.val (.int u0), .val (.ref a1), .val (.ref a4), .val (.ref a7), .val (.ref a11), .val (.ref a16), .val (.ref a4), .val (.ref a4), .val (.int ((0 : Int32) + (1 : Int32))), .val (.null), .val (.null), .unset]) rfl (pc' := 164) rfl ?_
          refine own_aloadN X293 hx (hb hby at_164) rfl rfl (pc' := 165) rfl ?_
          refine own_aload X293 hx (hb hby at_165) rfl rfl (pc' := 167) rfl ?_
          have f295 : Exa Z h284 a1 "com/example/slot3/slot3/frame/PostChain" := (((f240.keep K239).wr W281).wr W284)
          have f296 : Exa Z h284 a11 "com/example/slot3/slot3/frame/Post" := (f283.wr W284)
          have f297 : Exa Z h284 a4 "com/example/slot3/slot3/frame/Post" := (((f241.keep K239).wr W281).wr W284)
          have f298 : Fld Z h284 a11 "com/example/slot3/slot3/frame/Post" "previous" "Lcom/example/slot3/slot3/frame/Post;" (.ref a16) := ((f279.same W281).other W284 (Or.inr (osn_10 hw)))
          have f299 : Fld Z h284 a11 "com/example/slot3/slot3/frame/Post" "chain" "Lcom/example/slot3/slot3/frame/PostChain;" (.null) := ((((F11_chain.ext E16).keep K239 (ninS (Nat.ne_of_gt lt_a1_a11) (ninS (Nat.ne_of_gt lt_a4_a11) nin0))).other W281 (Or.inr (osn_1 hw))).other W284 (Or.inr (osn_11 hw)))
          have f300 : Fld Z h284 a4 "com/example/slot3/slot3/frame/Post" "previous" "Lcom/example/slot3/slot3/frame/Post;" (.null) := ((p239_4.other W281 (Or.inl (Nat.ne_of_lt lt_a4_a11))).other W284 (Or.inl (Nat.ne_of_lt lt_a4_a11)))
          have f301 : Fld Z h284 a4 "com/example/slot3/slot3/frame/Post" "chain" "Lcom/example/slot3/slot3/frame/PostChain;" (.ref a1) := ((p239_5.other W281 (Or.inl (Nat.ne_of_lt lt_a4_a11))).other W284 (Or.inl (Nat.ne_of_lt lt_a4_a11)))
          have z302 : n0 ≤ h284.size := (Nat.le_trans (Nat.le_trans (Nat.le_trans z21 K239.1) (Nat.le_of_eq (Wr.size W281).symm)) (Nat.le_of_eq (Wr.size W284).symm))
          refine own_callV X293 hx hZ hown (ow_22 hw) (ow_23 hw) (ow_25 hw) (ow_24 hw) (ow_2 hw) (ow_26 hw) (by decide) f295 (rm_pu2 l Z a0 hw a1 a11 a4 ((0 : Int32) + (1 : Int32)) (.ref a4) (.ref a16) (.ref a16) .null .null .null (.ref a1) h284 n0 z302 f295 f296 f285 f287 f289 f297 (f282.same W284) f298 f299 f291 f300 f301 ge_a1 ge_a11 ge_a4 (Nat.ne_of_lt lt_a1_a11) (Nat.ne_of_lt lt_a1_a4) (Nat.ne_of_gt lt_a4_a11)) e293 (W := 0) (by decide) (by decide) opd__Lcom_example_slot3_slot3_frame_Post__V rfl (rest := []) rfl (hb hby at_167) (Nat.le_of_eq rfl) (by rw [hml]; rfl) (by decide) (by decide) (pc' := 170) rfl ?_
          intro v294 T294 L294 X294 q294
          obtain ⟨rfl, Nq294, K294, p294_0, p294_1, p294_2, p294_3, p294_4, p294_5, p294_6, p294_7, p294_8⟩ := q294
          have N294 := Fr.app N284 Nq294
          show own_G p e below s _ _ _ (T294.setTop (mkF m 170 #[.val (.int u0), .val (.ref a1), .val (.ref a4), .val (.ref a7), .val (.ref a11), .val (.ref a16), .val (.ref a4), .val (.ref a4), .val (.int ((0 : Int32) + (1 : Int32))), .val (.null), .val (.null), .unset] []))
          refine own_aloadN X294 hx (hb hby at_170) rfl rfl (pc' := 171) rfl ?_
          refine own_getF X294 hx hZ hown (ow_16 hw) rfl p294_0 (hb hby at_171) (pc' := 174) rfl ?_
          intro T303 X303 e303
          refine own_aload X303 hx (hb hby at_174) rfl rfl (pc' := 176) rfl ?_
          refine own_acmpF X303 hx (hb hby at_176) rfl rfl (by simp [XT.acmp]) (pc' := 179) rfl ?_
          refine own_aload X303 hx (hb hby at_179) rfl rfl (pc' := 181) rfl ?_
          refine own_getF X303 hx hZ hown (ow_36 hw) e303 p294_4 (hb hby at_181) (pc' := 184) rfl ?_
          intro T304 X304 e304
          refine own_ifnonnullF X304 hx (hb hby at_184) (pc' := 187) rfl ?_
          refine own_aload X304 hx (hb hby at_187) rfl rfl (pc' := 189) rfl ?_
          refine own_getF X304 hx hZ hown (ow_37 hw) e304 p294_3 (hb hby at_189) (pc' := 192) rfl ?_
          intro T305 X305 e305
          refine own_aload X305 hx (hb hby at_192) rfl rfl (pc' := 194) rfl ?_
          refine own_acmpF X305 hx (hb hby at_194) rfl rfl (by simp [XT.acmp]) (pc' := 197) rfl ?_
          refine own_aload X305 hx (hb hby at_197) rfl rfl (pc' := 199) rfl ?_
          refine own_getF X305 hx hZ hown (ow_38 hw) e305 p294_5 (hb hby at_199) (pc' := 202) rfl ?_
          intro T306 X306 e306
          refine own_aloadN X306 hx (hb hby at_202) rfl rfl (pc' := 203) rfl ?_
          refine own_acmpF X306 hx (hb hby at_203) rfl rfl (by simp [XT.acmp]) (pc' := 206) rfl ?_
          refine own_aloadN X306 hx (hb hby at_206) rfl rfl (pc' := 207) rfl ?_
          refine own_getF X306 hx hZ hown (ow_20 hw) e306 p294_2 (hb hby at_207) (pc' := 210) rfl ?_
          intro T307 X307 e307
          refine own_iload X307 hx (hb hby at_210) rfl (pc' := 212) rfl ?_
          refine own_iconst X307 hx (hb hby at_212) (z := (1 : Int32)) rfl (pc' := 213) rfl ?_
          refine own_iadd X307 hx (hb hby at_213) (pc' := 214) rfl ?_
          refine own_icmpF X307 hx (hb hby at_214) (by decide) (pc' := 217) rfl ?_
          refine own_iconst X307 hx (hb hby at_217) (z := (1 : Int32)) rfl (pc' := 218) rfl ?_
          refine own_goto X307 hx (hb hby at_218) (by decide) (pc' := 222) rfl ?_
          refine own_istore X307 hx (hb hby at_222) (l' := #[.val (.int u0), .val (.ref a1), .val (.ref a4), .val (.ref a7), .val (.ref a11), .val (.ref a16), .val (.ref a4), .val (.ref a4), .val (.int ((0 : Int32) + (1 : Int32))), .val (.null), .val (.null), .val (.int (1 : Int32))]) rfl (pc' := 224) rfl ?_
          refine own_aload X307 hx (hb hby at_224) rfl rfl (pc' := 226) rfl ?_
          refine own_ifnonnullT X307 hx (hb hby at_226) (by decide) (pc' := 253) rfl ?_
          refine own_iload X307 hx (hb hby at_253) rfl (pc' := 255) rfl ?_
          refine own_ifF X307 hx (hb hby at_255) (by decide) (pc' := 258) rfl ?_
          refine own_aloadN X307 hx (hb hby at_258) rfl rfl (pc' := 259) rfl ?_
          refine own_getF X307 hx hZ hown (ow_18 hw) e307 p294_1 (hb hby at_259) (pc' := 262) rfl ?_
          intro T308 X308 e308
          refine own_aload X308 hx (hb hby at_262) rfl rfl (pc' := 264) rfl ?_
          refine own_acmpF X308 hx (hb hby at_264) rfl rfl (by simp [XT.acmp]) (pc' := 267) rfl ?_
          refine own_aload X308 hx (hb hby at_267) rfl rfl (pc' := 269) rfl ?_
          refine own_getF X308 hx hZ hown (ow_36 hw) e308 p294_7 (hb hby at_269) (pc' := 272) rfl ?_
          intro T309 X309 e309
          refine own_aload X309 hx (hb hby at_272) rfl rfl (pc' := 274) rfl ?_
          refine own_acmpF X309 hx (hb hby at_274) rfl rfl (by simp [XT.acmp]) (pc' := 277) rfl ?_
          refine own_aload X309 hx (hb hby at_277) rfl rfl (pc' := 279) rfl ?_
          refine own_getF X309 hx hZ hown (ow_37 hw) e309 p294_6 (hb hby at_279) (pc' := 282) rfl ?_
          intro T310 X310 e310
          refine own_aload X310 hx (hb hby at_282) rfl rfl (pc' := 284) rfl ?_
          refine own_acmpF X310 hx (hb hby at_284) rfl rfl (by simp [XT.acmp]) (pc' := 287) rfl ?_
          refine own_aload X310 hx (hb hby at_287) rfl rfl (pc' := 289) rfl ?_
          refine own_getF X310 hx hZ hown (ow_38 hw) e310 p294_8 (hb hby at_289) (pc' := 292) rfl ?_
          intro T311 X311 e311
          refine own_aloadN X311 hx (hb hby at_292) rfl rfl (pc' := 293) rfl ?_
          refine own_acmpF X311 hx (hb hby at_293) rfl rfl (by simp [XT.acmp]) (pc' := 296) rfl ?_
          refine own_iconst X311 hx (hb hby at_296) (z := (1 : Int32)) rfl (pc' := 297) rfl ?_
          refine own_goto X311 hx (hb hby at_297) (by decide) (pc' := 301) rfl ?_
          refine own_istore X311 hx (hb hby at_301) (l' := #[.val (.int u0), .val (.ref a1), .val (.ref a4), .val (.ref a7), .val (.ref a11), .val (.ref a16), .val (.ref a4), .val (.ref a4), .val (.int ((0 : Int32) + (1 : Int32))), .val (.null), .val (.null), .val (.int (1 : Int32))]) rfl (pc' := 303) rfl ?_
          refine own_iload X311 hx (hb hby at_303) rfl (pc' := 305) rfl ?_
          refine own_ifF X311 hx (hb hby at_305) (by decide) (pc' := 308) rfl ?_
          refine own_aload X311 hx (hb hby at_308) rfl rfl (pc' := 310) rfl ?_
          refine own_ifnullF X311 hx (hb hby at_310) (pc' := 313) rfl ?_
          refine own_aload X311 hx (hb hby at_313) rfl rfl (pc' := 315) rfl ?_
          refine own_getF X311 hx hZ hown (ow_37 hw) e311 p294_6 (hb hby at_315) (pc' := 318) rfl ?_
          intro T312 X312 e312
          refine own_aload X312 hx (hb hby at_318) rfl rfl (pc' := 320) rfl ?_
          refine own_acmpF X312 hx (hb hby at_320) rfl rfl (by simp [XT.acmp]) (pc' := 323) rfl ?_
          refine own_iconst X312 hx (hb hby at_323) (z := (1 : Int32)) rfl (pc' := 324) rfl ?_
          refine own_goto X312 hx (hb hby at_324) (by decide) (pc' := 328) rfl ?_
          refine own_istore X312 hx (hb hby at_328) (l' := #[.val (.int u0), .val (.ref a1), .val (.ref a4), .val (.ref a7), .val (.ref a11), .val (.ref a16), .val (.ref a4), .val (.ref a4), .val (.int ((0 : Int32) + (1 : Int32))), .val (.null), .val (.null), .val (.int (1 : Int32))]) rfl (pc' := 330) rfl ?_
          refine own_iload X312 hx (hb hby at_330) rfl (pc' := 332) rfl ?_
          refine own_ifF X312 hx (hb hby at_332) (by decide) (pc' := 335) rfl ?_
          refine own_aload X312 hx (hb hby at_335) rfl rfl (pc' := 337) rfl ?_
          have f313 : Fld Z T294.heap a16 "com/example/slot3/slot3/frame/Post" "following" "Lcom/example/slot3/slot3/frame/Post;" (.null) := ((((F16_following.keep K239 (ninS (Nat.ne_of_gt lt_a1_a16) (ninS (Nat.ne_of_gt lt_a4_a16) nin0))).other W281 (Or.inl (Nat.ne_of_gt lt_a11_a16))).other W284 (Or.inl (Nat.ne_of_gt lt_a11_a16))).keep K294 (ninS (Nat.ne_of_gt lt_a1_a16) (ninS (Nat.ne_of_gt lt_a11_a16) (ninS (Nat.ne_of_gt lt_a4_a16) nin0))))
          refine own_getF X312 hx hZ hown (ow_37 hw) e312 f313 (hb hby at_337) (pc' := 340) rfl ?_
          intro T314 X314 e314
          refine own_ifnonnullF X314 hx (hb hby at_340) (pc' := 343) rfl ?_
          refine own_aload X314 hx (hb hby at_343) rfl rfl (pc' := 345) rfl ?_
          have f315 : Fld Z T294.heap a16 "com/example/slot3/slot3/frame/Post" "previous" "Lcom/example/slot3/slot3/frame/Post;" (.null) := ((((F16_previous.keep K239 (ninS (Nat.ne_of_gt lt_a1_a16) (ninS (Nat.ne_of_gt lt_a4_a16) nin0))).other W281 (Or.inl (Nat.ne_of_gt lt_a11_a16))).other W284 (Or.inl (Nat.ne_of_gt lt_a11_a16))).keep K294 (ninS (Nat.ne_of_gt lt_a1_a16) (ninS (Nat.ne_of_gt lt_a11_a16) (ninS (Nat.ne_of_gt lt_a4_a16) nin0))))
          refine own_getF X314 hx hZ hown (ow_36 hw) e314 f315 (hb hby at_345) (pc' := 348) rfl ?_
          intro T316 X316 e316
          refine own_ifnonnullF X316 hx (hb hby at_348) (pc' := 351) rfl ?_
          refine own_aload X316 hx (hb hby at_351) rfl rfl (pc' := 353) rfl ?_
          have f317 : Fld Z T294.heap a16 "com/example/slot3/slot3/frame/Post" "chain" "Lcom/example/slot3/slot3/frame/PostChain;" (.null) := ((((F16_chain.keep K239 (ninS (Nat.ne_of_gt lt_a1_a16) (ninS (Nat.ne_of_gt lt_a4_a16) nin0))).other W281 (Or.inl (Nat.ne_of_gt lt_a11_a16))).other W284 (Or.inl (Nat.ne_of_gt lt_a11_a16))).keep K294 (ninS (Nat.ne_of_gt lt_a1_a16) (ninS (Nat.ne_of_gt lt_a11_a16) (ninS (Nat.ne_of_gt lt_a4_a16) nin0))))
          refine own_getF X316 hx hZ hown (ow_38 hw) e316 f317 (hb hby at_353) (pc' := 356) rfl ?_
          intro T318 X318 e318
          refine own_ifnonnullF X318 hx (hb hby at_356) (pc' := 359) rfl ?_
          refine own_iconst X318 hx (hb hby at_359) (z := (1 : Int32)) rfl (pc' := 360) rfl ?_
          refine own_goto X318 hx (hb hby at_360) (by decide) (pc' := 364) rfl ?_
          refine own_istore X318 hx (hb hby at_364) (l' := #[.val (.int u0), .val (.ref a1), .val (.ref a4), .val (.ref a7), .val (.ref a11), .val (.ref a16), .val (.ref a4), .val (.ref a4), .val (.int ((0 : Int32) + (1 : Int32))), .val (.null), .val (.null), .val (.int (1 : Int32))]) rfl (pc' := 366) rfl ?_
          refine own_iload X318 hx (hb hby at_366) rfl (pc' := 368) rfl ?_
          exact own_retZ X318 hx hret hlk (Or.inr rfl) (hb hby at_368) ⟨rfl, N294⟩ (by decide) (by decide)
      · refine own_ifF X239 hx (hb hby at_70) (feq c248).1 (pc' := 73) rfl ?_
        refine own_iloadN X239 hx (hb hby at_73) rfl (pc' := 74) rfl ?_
        refine own_bipush X239 hx (hb hby at_74) (z := (8 : Int32)) (by decide) (pc' := 76) rfl ?_
        refine own_iand X239 hx (hb hby at_76) (pc' := 77) rfl ?_
        by_cases c319 : (u0 &&& (8 : Int32)) = (0 : Int32)
        · refine own_ifT X239 hx (hb hby at_77) (teq c319).1 (by decide) (pc' := 88) rfl ?_
          refine own_aloadN X239 hx (hb hby at_88) rfl rfl (pc' := 89) rfl ?_
          refine own_aloadN X239 hx (hb hby at_89) rfl rfl (pc' := 90) rfl ?_
          have f321 : Exa Z T239.heap a1 "com/example/slot3/slot3/frame/PostChain" := (f240.keep K239)
          have f322 : Exa Z T239.heap a7 "com/example/slot3/slot3/frame/Post" := ((f19.ext E16).keep K239)
          have f323 : Exa Z T239.heap a4 "com/example/slot3/slot3/frame/Post" := (f241.keep K239)
          have f324 : Fld Z T239.heap a7 "com/example/slot3/slot3/frame/Post" "following" "Lcom/example/slot3/slot3/frame/Post;" (.null) := (((F7_following.ext E11).ext E16).keep K239 (ninS (Nat.ne_of_gt lt_a1_a7) (ninS (Nat.ne_of_gt lt_a4_a7) nin0)))
          have f325 : Fld Z T239.heap a7 "com/example/slot3/slot3/frame/Post" "previous" "Lcom/example/slot3/slot3/frame/Post;" (.null) := (((F7_previous.ext E11).ext E16).keep K239 (ninS (Nat.ne_of_gt lt_a1_a7) (ninS (Nat.ne_of_gt lt_a4_a7) nin0)))
          have f326 : Fld Z T239.heap a7 "com/example/slot3/slot3/frame/Post" "chain" "Lcom/example/slot3/slot3/frame/PostChain;" (.null) := (((F7_chain.ext E11).ext E16).keep K239 (ninS (Nat.ne_of_gt lt_a1_a7) (ninS (Nat.ne_of_gt lt_a4_a7) nin0)))
          have z327 : n0 ≤ T239.heap.size := (Nat.le_trans z21 K239.1)
          refine own_callV X239 hx hZ hown (ow_39 hw) (ow_40 hw) (ow_42 hw) (ow_41 hw) (ow_2 hw) (ow_43 hw) (by decide) f321 (rm_ap2 l Z a0 hw a1 a7 a4 ((0 : Int32) + (1 : Int32)) (.ref a4) .null .null .null .null .null (.ref a1) T239.heap n0 z327 f321 f322 p239_0 p239_1 p239_2 f323 f324 f325 f326 p239_3 p239_4 p239_5 ge_a1 ge_a7 ge_a4 (Nat.ne_of_lt lt_a1_a7) (Nat.ne_of_lt lt_a1_a4) (Nat.ne_of_gt lt_a4_a7)) rfl (W := 0) (by decide) (by decide) opd__Lcom_example_slot3_slot3_frame_Post__V rfl (rest := []) rfl (hb hby at_90) (Nat.le_of_eq rfl) (by rw [hml]; rfl) (by decide) (by decide) (pc' := 93) rfl ?_
          intro v320 T320 L320 X320 q320
          obtain ⟨rfl, Nq320, K320, p320_0, p320_1, p320_2, p320_3, p320_4, p320_5, p320_6, p320_7, p320_8⟩ := q320
          have N320 := Fr.app N239 Nq320
          show own_G p e below s _ _ _ (T320.setTop (mkF m 93 #[.val (.int u0), .val (.ref a1), .val (.ref a4), .val (.ref a7), .val (.ref a11), .val (.ref a16), .unset, .unset, .unset, .unset, .unset, .unset] []))
          refine own_iloadN X320 hx (hb hby at_93) rfl (pc' := 94) rfl ?_
          refine own_bipush X320 hx (hb hby at_94) (z := (16 : Int32)) (by decide) (pc' := 96) rfl ?_
          refine own_iand X320 hx (hb hby at_96) (pc' := 97) rfl ?_
          by_cases c328 : (u0 &&& (16 : Int32)) = (0 : Int32)
          · refine own_ifT X320 hx (hb hby at_97) (teq c328).1 (by decide) (pc' := 114) rfl ?_
            refine own_aloadN X320 hx (hb hby at_114) rfl rfl (pc' := 115) rfl ?_
            refine own_getF X320 hx hZ hown (ow_16 hw) rfl p320_0 (hb hby at_115) (pc' := 118) rfl ?_
            intro T329 X329 e329
            refine own_astore X329 hx (hb hby at_118) rfl (l' := #[.val (.int u0), .val (.ref a1), .val (.ref a4), .val (.ref a7), .val (.ref a11), .val (.ref a16), .val (.ref a4), .unset, .unset, .unset, .unset, .unset]) rfl (pc' := 120) rfl ?_
            refine own_aloadN X329 hx (hb hby at_120) rfl rfl (pc' := 121) rfl ?_
            refine own_getF X329 hx hZ hown (ow_18 hw) e329 p320_1 (hb hby at_121) (pc' := 124) rfl ?_
            intro T330 X330 e330
            refine own_astore X330 hx (hb hby at_124) rfl (l' := #[.val (.int u0), .val (.ref a1), .val (.ref a4), .val (.ref a7), .val (.ref a11), .val (.ref a16), .val (.ref a4), .val (.ref a7), .unset, .unset, .unset, .unset]) rfl (pc' := 126) rfl ?_
            refine own_aloadN X330 hx (hb hby at_126) rfl rfl (pc' := 127) rfl ?_
            refine own_getF X330 hx hZ hown (ow_20 hw) e330 p320_2 (hb hby at_127) (pc' := 130) rfl ?_
            intro T331 X331 e331
            refine own_istore X331 hx (hb hby at_130) (l' := #[.val (.int u0), .val (.ref a1), .val (.ref a4), .val (.ref a7), .val (.ref a11), .val (.ref a16), .val (.ref a4), .val (.ref a7), .val (.int (((0 : Int32) + (1 : Int32)) + (1 : Int32))), .unset, .unset, .unset]) rfl (pc' := 132) rfl ?_
            refine own_aload X331 hx (hb hby at_132) rfl rfl (pc' := 134) rfl ?_
            refine own_ifnonnullT X331 hx (hb hby at_134) (by decide) (pc' := 141) rfl ?_
            refine own_aload X331 hx (hb hby at_141) rfl rfl (pc' := 143) rfl ?_
            refine own_getF X331 hx hZ hown (ow_37 hw) e331 p320_6 (hb hby at_143) (pc' := 146) rfl ?_
            intro T332 X332 e332
            refine own_astore X332 hx (hb hby at_146) rfl (l' := #[.val (.int u0), .val (.ref a1), .val (.ref a4), .val (.ref a7), .val (.ref a11), .val (.ref a16), .val (.ref a4), .val (.ref a7), .val (.int (((0 : Int32) + (1 : Int32)) + (1 : Int32))), .val (.ref a7), .unset, .unset]) rfl (pc' := 148) rfl ?_
            refine own_aload X332 hx (hb hby at_148) rfl rfl (pc' := 150) rfl ?_
            refine own_ifnonnullT X332 hx (hb hby at_150) (by decide) (pc' := 157) rfl ?_
            refine own_aload X332 hx (hb hby at_157) rfl rfl (pc' := 159) rfl ?_
            refine own_getF X332 hx hZ hown (ow_37 hw) e332 p320_3 (hb hby at_159) (pc' := 162) rfl ?_
            intro T333 X333 e333
            refine own_astore X333 hx (hb hby at_162) rfl (l' := #[.val (.int u0), .val (.ref a1), .val (.ref a4), .val (.ref a7), .val (.ref a11), .val (.ref a16), .val (.ref a4), .val (.ref a7), .val (.int (((0 : Int32) + (1 : Int32)) + (1 : Int32))), .val (.ref a7), .val (.null), .unset]) rfl (pc' := 164) rfl ?_
            refine own_aloadN X333 hx (hb hby at_164) rfl rfl (pc' := 165) rfl ?_
            refine own_aload X333 hx (hb hby at_165) rfl rfl (pc' := 167) rfl ?_
            have f335 : Exa Z T320.heap a1 "com/example/slot3/slot3/frame/PostChain" := (f321.keep K320)
            have f336 : Exa Z T320.heap a11 "com/example/slot3/slot3/frame/Post" := (((A11.ext E16).keep K239).keep K320)
            have f337 : Exa Z T320.heap a4 "com/example/slot3/slot3/frame/Post" := (f323.keep K320)
            have f338 : Fld Z T320.heap a11 "com/example/slot3/slot3/frame/Post" "following" "Lcom/example/slot3/slot3/frame/Post;" (.null) := (((F11_following.ext E16).keep K239 (ninS (Nat.ne_of_gt lt_a1_a11) (ninS (Nat.ne_of_gt lt_a4_a11) nin0))).keep K320 (ninS (Nat.ne_of_gt lt_a1_a11) (ninS (Nat.ne_of_gt lt_a7_a11) (ninS (Nat.ne_of_gt lt_a4_a11) nin0))))
            have f339 : Fld Z T320.heap a11 "com/example/slot3/slot3/frame/Post" "previous" "Lcom/example/slot3/slot3/frame/Post;" (.null) := (((F11_previous.ext E16).keep K239 (ninS (Nat.ne_of_gt lt_a1_a11) (ninS (Nat.ne_of_gt lt_a4_a11) nin0))).keep K320 (ninS (Nat.ne_of_gt lt_a1_a11) (ninS (Nat.ne_of_gt lt_a7_a11) (ninS (Nat.ne_of_gt lt_a4_a11) nin0))))
            have f340 : Fld Z T320.heap a11 "com/example/slot3/slot3/frame/Post" "chain" "Lcom/example/slot3/slot3/frame/PostChain;" (.null) := (((F11_chain.ext E16).keep K239 (ninS (Nat.ne_of_gt lt_a1_a11) (ninS (Nat.ne_of_gt lt_a4_a11) nin0))).keep K320 (ninS (Nat.ne_of_gt lt_a1_a11) (ninS (Nat.ne_of_gt lt_a7_a11) (ninS (Nat.ne_of_gt lt_a4_a11) nin0))))
            have z341 : n0 ≤ T320.heap.size := (Nat.le_trans z327 K320.1)
            refine own_callV X333 hx hZ hown (ow_22 hw) (ow_23 hw) (ow_25 hw) (ow_24 hw) (ow_2 hw) (ow_26 hw) (by decide) f335 (rm_pu2 l Z a0 hw a1 a11 a4 (((0 : Int32) + (1 : Int32)) + (1 : Int32)) (.ref a7) .null .null .null (.ref a7) .null (.ref a1) T320.heap n0 z341 f335 f336 p320_0 p320_1 p320_2 f337 f338 f339 f340 p320_6 p320_7 p320_8 ge_a1 ge_a11 ge_a4 (Nat.ne_of_lt lt_a1_a11) (Nat.ne_of_lt lt_a1_a4) (Nat.ne_of_gt lt_a4_a11)) e333 (W := 0) (by decide) (by decide) opd__Lcom_example_slot3_slot3_frame_Post__V rfl (rest := []) rfl (hb hby at_167) (Nat.le_of_eq rfl) (by rw [hml]; rfl) (by decide) (by decide) (pc' := 170) rfl ?_
            intro v334 T334 L334 X334 q334
            obtain ⟨rfl, Nq334, K334, p334_0, p334_1, p334_2, p334_3, p334_4, p334_5, p334_6, p334_7, p334_8⟩ := q334
            have N334 := Fr.app N320 Nq334
            show own_G p e below s _ _ _ (T334.setTop (mkF m 170 #[.val (.int u0), .val (.ref a1), .val (.ref a4), .val (.ref a7), .val (.ref a11), .val (.ref a16), .val (.ref a4), .val (.ref a7), .val (.int (((0 : Int32) + (1 : Int32)) + (1 : Int32))), .val (.ref a7), .val (.null), .unset] []))
            refine own_aloadN X334 hx (hb hby at_170) rfl rfl (pc' := 171) rfl ?_
            refine own_getF X334 hx hZ hown (ow_16 hw) rfl p334_0 (hb hby at_171) (pc' := 174) rfl ?_
            intro T342 X342 e342
            refine own_aload X342 hx (hb hby at_174) rfl rfl (pc' := 176) rfl ?_
            refine own_acmpF X342 hx (hb hby at_176) rfl rfl (by simp [XT.acmp]) (pc' := 179) rfl ?_
            refine own_aload X342 hx (hb hby at_179) rfl rfl (pc' := 181) rfl ?_
            refine own_getF X342 hx hZ hown (ow_36 hw) e342 p334_4 (hb hby at_181) (pc' := 184) rfl ?_
            intro T343 X343 e343
            refine own_ifnonnullF X343 hx (hb hby at_184) (pc' := 187) rfl ?_
            refine own_aload X343 hx (hb hby at_187) rfl rfl (pc' := 189) rfl ?_
            refine own_getF X343 hx hZ hown (ow_37 hw) e343 p334_3 (hb hby at_189) (pc' := 192) rfl ?_
            intro T344 X344 e344
            refine own_aload X344 hx (hb hby at_192) rfl rfl (pc' := 194) rfl ?_
            refine own_acmpF X344 hx (hb hby at_194) rfl rfl (by simp [XT.acmp]) (pc' := 197) rfl ?_
            refine own_aload X344 hx (hb hby at_197) rfl rfl (pc' := 199) rfl ?_
            refine own_getF X344 hx hZ hown (ow_38 hw) e344 p334_5 (hb hby at_199) (pc' := 202) rfl ?_
            intro T345 X345 e345
            refine own_aloadN X345 hx (hb hby at_202) rfl rfl (pc' := 203) rfl ?_
            refine own_acmpF X345 hx (hb hby at_203) rfl rfl (by simp [XT.acmp]) (pc' := 206) rfl ?_
            refine own_aloadN X345 hx (hb hby at_206) rfl rfl (pc' := 207) rfl ?_
            refine own_getF X345 hx hZ hown (ow_20 hw) e345 p334_2 (hb hby at_207) (pc' := 210) rfl ?_
            intro T346 X346 e346
            refine own_iload X346 hx (hb hby at_210) rfl (pc' := 212) rfl ?_
            refine own_iconst X346 hx (hb hby at_212) (z := (1 : Int32)) rfl (pc' := 213) rfl ?_
            refine own_iadd X346 hx (hb hby at_213) (pc' := 214) rfl ?_
            refine own_icmpF X346 hx (hb hby at_214) (by decide) (pc' := 217) rfl ?_
            refine own_iconst X346 hx (hb hby at_217) (z := (1 : Int32)) rfl (pc' := 218) rfl ?_
            refine own_goto X346 hx (hb hby at_218) (by decide) (pc' := 222) rfl ?_
            refine own_istore X346 hx (hb hby at_222) (l' := #[.val (.int u0), .val (.ref a1), .val (.ref a4), .val (.ref a7), .val (.ref a11), .val (.ref a16), .val (.ref a4), .val (.ref a7), .val (.int (((0 : Int32) + (1 : Int32)) + (1 : Int32))), .val (.ref a7), .val (.null), .val (.int (1 : Int32))]) rfl (pc' := 224) rfl ?_
            refine own_aload X346 hx (hb hby at_224) rfl rfl (pc' := 226) rfl ?_
            refine own_ifnonnullT X346 hx (hb hby at_226) (by decide) (pc' := 253) rfl ?_
            refine own_iload X346 hx (hb hby at_253) rfl (pc' := 255) rfl ?_
            refine own_ifF X346 hx (hb hby at_255) (by decide) (pc' := 258) rfl ?_
            refine own_aloadN X346 hx (hb hby at_258) rfl rfl (pc' := 259) rfl ?_
            refine own_getF X346 hx hZ hown (ow_18 hw) e346 p334_1 (hb hby at_259) (pc' := 262) rfl ?_
            intro T347 X347 e347
            refine own_aload X347 hx (hb hby at_262) rfl rfl (pc' := 264) rfl ?_
            refine own_acmpF X347 hx (hb hby at_264) rfl rfl (by simp [XT.acmp]) (pc' := 267) rfl ?_
            refine own_aload X347 hx (hb hby at_267) rfl rfl (pc' := 269) rfl ?_
            refine own_getF X347 hx hZ hown (ow_36 hw) e347 p334_7 (hb hby at_269) (pc' := 272) rfl ?_
            intro T348 X348 e348
            refine own_aload X348 hx (hb hby at_272) rfl rfl (pc' := 274) rfl ?_
            refine own_acmpF X348 hx (hb hby at_274) rfl rfl (by simp [XT.acmp]) (pc' := 277) rfl ?_
            refine own_aload X348 hx (hb hby at_277) rfl rfl (pc' := 279) rfl ?_
            refine own_getF X348 hx hZ hown (ow_37 hw) e348 p334_6 (hb hby at_279) (pc' := 282) rfl ?_
            intro T349 X349 e349
            refine own_aload X349 hx (hb hby at_282) rfl rfl (pc' := 284) rfl ?_
            refine own_acmpF X349 hx (hb hby at_284) rfl rfl (by simp [XT.acmp]) (pc' := 287) rfl ?_
            refine own_aload X349 hx (hb hby at_287) rfl rfl (pc' := 289) rfl ?_
            refine own_getF X349 hx hZ hown (ow_38 hw) e349 p334_8 (hb hby at_289) (pc' := 292) rfl ?_
            intro T350 X350 e350
            refine own_aloadN X350 hx (hb hby at_292) rfl rfl (pc' := 293) rfl ?_
            refine own_acmpF X350 hx (hb hby at_293) rfl rfl (by simp [XT.acmp]) (pc' := 296) rfl ?_
            refine own_iconst X350 hx (hb hby at_296) (z := (1 : Int32)) rfl (pc' := 297) rfl ?_
            refine own_goto X350 hx (hb hby at_297) (by decide) (pc' := 301) rfl ?_
            refine own_istore X350 hx (hb hby at_301) (l' := #[.val (.int u0), .val (.ref a1), .val (.ref a4), .val (.ref a7), .val (.ref a11), .val (.ref a16), .val (.ref a4), .val (.ref a7), .val (.int (((0 : Int32) + (1 : Int32)) + (1 : Int32))), .val (.ref a7), .val (.null), .val (.int (1 : Int32))]) rfl (pc' := 303) rfl ?_
            refine own_iload X350 hx (hb hby at_303) rfl (pc' := 305) rfl ?_
            refine own_ifF X350 hx (hb hby at_305) (by decide) (pc' := 308) rfl ?_
            refine own_aload X350 hx (hb hby at_308) rfl rfl (pc' := 310) rfl ?_
            refine own_ifnullF X350 hx (hb hby at_310) (pc' := 313) rfl ?_
            refine own_aload X350 hx (hb hby at_313) rfl rfl (pc' := 315) rfl ?_
            have f351 : Fld Z T334.heap a7 "com/example/slot3/slot3/frame/Post" "following" "Lcom/example/slot3/slot3/frame/Post;" (.null) := (p320_3.keep K334 (ninS (Nat.ne_of_gt lt_a1_a7) (ninS (Nat.ne_of_lt lt_a7_a11) (ninS (Nat.ne_of_gt lt_a4_a7) nin0))))
            refine own_getF X350 hx hZ hown (ow_37 hw) e350 f351 (hb hby at_315) (pc' := 318) rfl ?_
            intro T352 X352 e352
            refine own_aload X352 hx (hb hby at_318) rfl rfl (pc' := 320) rfl ?_
            refine own_acmpF X352 hx (hb hby at_320) rfl rfl (by simp [XT.acmp]) (pc' := 323) rfl ?_
            refine own_iconst X352 hx (hb hby at_323) (z := (1 : Int32)) rfl (pc' := 324) rfl ?_
            refine own_goto X352 hx (hb hby at_324) (by decide) (pc' := 328) rfl ?_
            refine own_istore X352 hx (hb hby at_328) (l' := #[.val (.int u0), .val (.ref a1), .val (.ref a4), .val (.ref a7), .val (.ref a11), .val (.ref a16), .val (.ref a4), .val (.ref a7), .val (.int (((0 : Int32) + (1 : Int32)) + (1 : Int32))), .val (.ref a7), .val (.null), .val (.int (1 : Int32))]) rfl (pc' := 330) rfl ?_
            refine own_iload X352 hx (hb hby at_330) rfl (pc' := 332) rfl ?_
            refine own_ifF X352 hx (hb hby at_332) (by decide) (pc' := 335) rfl ?_
            refine own_aload X352 hx (hb hby at_335) rfl rfl (pc' := 337) rfl ?_
            have f353 : Fld Z T334.heap a16 "com/example/slot3/slot3/frame/Post" "following" "Lcom/example/slot3/slot3/frame/Post;" (.null) := (((F16_following.keep K239 (ninS (Nat.ne_of_gt lt_a1_a16) (ninS (Nat.ne_of_gt lt_a4_a16) nin0))).keep K320 (ninS (Nat.ne_of_gt lt_a1_a16) (ninS (Nat.ne_of_gt lt_a7_a16) (ninS (Nat.ne_of_gt lt_a4_a16) nin0)))).keep K334 (ninS (Nat.ne_of_gt lt_a1_a16) (ninS (Nat.ne_of_gt lt_a11_a16) (ninS (Nat.ne_of_gt lt_a4_a16) nin0))))
            refine own_getF X352 hx hZ hown (ow_37 hw) e352 f353 (hb hby at_337) (pc' := 340) rfl ?_
            intro T354 X354 e354
            refine own_ifnonnullF X354 hx (hb hby at_340) (pc' := 343) rfl ?_
            refine own_aload X354 hx (hb hby at_343) rfl rfl (pc' := 345) rfl ?_
            have f355 : Fld Z T334.heap a16 "com/example/slot3/slot3/frame/Post" "previous" "Lcom/example/slot3/slot3/frame/Post;" (.null) := (((F16_previous.keep K239 (ninS (Nat.ne_of_gt lt_a1_a16) (ninS (Nat.ne_of_gt lt_a4_a16) nin0))).keep K320 (ninS (Nat.ne_of_gt lt_a1_a16) (ninS (Nat.ne_of_gt lt_a7_a16) (ninS (Nat.ne_of_gt lt_a4_a16) nin0)))).keep K334 (ninS (Nat.ne_of_gt lt_a1_a16) (ninS (Nat.ne_of_gt lt_a11_a16) (ninS (Nat.ne_of_gt lt_a4_a16) nin0))))
            refine own_getF X354 hx hZ hown (ow_36 hw) e354 f355 (hb hby at_345) (pc' := 348) rfl ?_
            intro T356 X356 e356
            refine own_ifnonnullF X356 hx (hb hby at_348) (pc' := 351) rfl ?_
            refine own_aload X356 hx (hb hby at_351) rfl rfl (pc' := 353) rfl ?_
            have f357 : Fld Z T334.heap a16 "com/example/slot3/slot3/frame/Post" "chain" "Lcom/example/slot3/slot3/frame/PostChain;" (.null) := (((F16_chain.keep K239 (ninS (Nat.ne_of_gt lt_a1_a16) (ninS (Nat.ne_of_gt lt_a4_a16) nin0))).keep K320 (ninS (Nat.ne_of_gt lt_a1_a16) (ninS (Nat.ne_of_gt lt_a7_a16) (ninS (Nat.ne_of_gt lt_a4_a16) nin0)))).keep K334 (ninS (Nat.ne_of_gt lt_a1_a16) (ninS (Nat.ne_of_gt lt_a11_a16) (ninS (Nat.ne_of_gt lt_a4_a16) nin0))))
            refine own_getF X356 hx hZ hown (ow_38 hw) e356 f357 (hb hby at_353) (pc' := 356) rfl ?_
            intro T358 X358 e358
            refine own_ifnonnullF X358 hx (hb hby at_356) (pc' := 359) rfl ?_
            refine own_iconst X358 hx (hb hby at_359) (z := (1 : Int32)) rfl (pc' := 360) rfl ?_
            refine own_goto X358 hx (hb hby at_360) (by decide) (pc' := 364) rfl ?_
            refine own_istore X358 hx (hb hby at_364) (l' := #[.val (.int u0), .val (.ref a1), .val (.ref a4), .val (.ref a7), .val (.ref a11), .val (.ref a16), .val (.ref a4), .val (.ref a7), .val (.int (((0 : Int32) + (1 : Int32)) + (1 : Int32))), .val (.ref a7), .val (.null), .val (.int (1 : Int32))]) rfl (pc' := 366) rfl ?_
            refine own_iload X358 hx (hb hby at_366) rfl (pc' := 368) rfl ?_
            exact own_retZ X358 hx hret hlk (Or.inr rfl) (hb hby at_368) ⟨rfl, N334⟩ (by decide) (by decide)
          · refine own_ifF X320 hx (hb hby at_97) (feq c328).1 (pc' := 100) rfl ?_
            refine own_aload X320 hx (hb hby at_100) rfl rfl (pc' := 102) rfl ?_
            refine own_aload X320 hx (hb hby at_102) rfl rfl (pc' := 104) rfl ?_
            have f359 : Fld Z T320.heap a11 "com/example/slot3/slot3/frame/Post" "previous" "Lcom/example/slot3/slot3/frame/Post;" (.null) := (((F11_previous.ext E16).keep K239 (ninS (Nat.ne_of_gt lt_a1_a11) (ninS (Nat.ne_of_gt lt_a4_a11) nin0))).keep K320 (ninS (Nat.ne_of_gt lt_a1_a11) (ninS (Nat.ne_of_gt lt_a7_a11) (ninS (Nat.ne_of_gt lt_a4_a11) nin0))))
            have f360 : Exa Z T320.heap a11 "com/example/slot3/slot3/frame/Post" := (((A11.ext E16).keep K239).keep K320)
            refine own_putF X320 hx hZ hown (ow_36 hw) rfl f359 f360 (Or.inl (ow_32 hw)) (ow_10 hw) (ty := (.object "com/example/slot3/slot3/frame/Post")) (by decide) rfl rfl (hb hby at_104) (pc' := 107) rfl ?_
            intro T361 h361 X361 e361 W361
            have N361 := Fr.snoc X361 N320 ge_a11
            refine own_aload X361 hx (hb hby at_107) rfl rfl (pc' := 109) rfl ?_
            refine own_aload X361 hx (hb hby at_109) rfl rfl (pc' := 111) rfl ?_
            have f362 : Fld Z h361 a11 "com/example/slot3/slot3/frame/Post" "following" "Lcom/example/slot3/slot3/frame/Post;" (.null) := ((((F11_following.ext E16).keep K239 (ninS (Nat.ne_of_gt lt_a1_a11) (ninS (Nat.ne_of_gt lt_a4_a11) nin0))).keep K320 (ninS (Nat.ne_of_gt lt_a1_a11) (ninS (Nat.ne_of_gt lt_a7_a11) (ninS (Nat.ne_of_gt lt_a4_a11) nin0)))).other W361 (Or.inr (osn_7 hw)))
            have f363 : Exa Z h361 a11 "com/example/slot3/slot3/frame/Post" := (f360.wr W361)
            refine own_putF X361 hx hZ hown (ow_37 hw) e361 f362 f363 (Or.inl (ow_30 hw)) (ow_10 hw) (ty := (.object "com/example/slot3/slot3/frame/Post")) (by decide) rfl rfl (hb hby at_111) (pc' := 114) rfl ?_
            intro T364 h364 X364 e364 W364
            have N364 := Fr.snoc X364 N361 ge_a11
            refine own_aloadN X364 hx (hb hby at_114) rfl rfl (pc' := 115) rfl ?_
            have f365 : Fld Z h364 a1 "com/example/slot3/slot3/frame/PostChain" "first" "Lcom/example/slot3/slot3/frame/Post;" (.ref a4) := ((p320_0.other W361 (Or.inl (Nat.ne_of_lt lt_a1_a11))).other W364 (Or.inl (Nat.ne_of_lt lt_a1_a11)))
            refine own_getF X364 hx hZ hown (ow_16 hw) e364 f365 (hb hby at_115) (pc' := 118) rfl ?_
            intro T366 X366 e366
            refine own_astore X366 hx (hb hby at_118) rfl (l' := #[.val (.int u0), .val (.ref a1), .val (.ref a4), .val (.ref a7), .val (.ref a11), .val (.ref a16), .val (.ref a4), .unset, .unset, .unset, .unset, .unset]) rfl (pc' := 120) rfl ?_
            refine own_aloadN X366 hx (hb hby at_120) rfl rfl (pc' := 121) rfl ?_
            have f367 : Fld Z h364 a1 "com/example/slot3/slot3/frame/PostChain" "last" "Lcom/example/slot3/slot3/frame/Post;" (.ref a7) := ((p320_1.other W361 (Or.inl (Nat.ne_of_lt lt_a1_a11))).other W364 (Or.inl (Nat.ne_of_lt lt_a1_a11)))
            refine own_getF X366 hx hZ hown (ow_18 hw) e366 f367 (hb hby at_121) (pc' := 124) rfl ?_
            intro T368 X368 e368
            refine own_astore X368 hx (hb hby at_124) rfl (l' := #[.val (.int u0), .val (.ref a1), .val (.ref a4), .val (.ref a7), .val (.ref a11), .val (.ref a16), .val (.ref a4), .val (.ref a7), .unset, .unset, .unset, .unset]) rfl (pc' := 126) rfl ?_
            refine own_aloadN X368 hx (hb hby at_126) rfl rfl (pc' := 127) rfl ?_
            have f369 : Fld Z h364 a1 "com/example/slot3/slot3/frame/PostChain" "count" "I" (.int (((0 : Int32) + (1 : Int32)) + (1 : Int32))) := ((p320_2.other W361 (Or.inl (Nat.ne_of_lt lt_a1_a11))).other W364 (Or.inl (Nat.ne_of_lt lt_a1_a11)))
            refine own_getF X368 hx hZ hown (ow_20 hw) e368 f369 (hb hby at_127) (pc' := 130) rfl ?_
            intro T370 X370 e370
            refine own_istore X370 hx (hb hby at_130) (l' := #[.val (.int u0), .val (.ref a1), .val (.ref a4), .val (.ref a7), .val (.ref a11), .val (.ref a16), .val (.ref a4), .val (.ref a7), .val (.int (((0 : Int32) + (1 : Int32)) + (1 : Int32))), .unset, .unset, .unset]) rfl (pc' := 132) rfl ?_
            refine own_aload X370 hx (hb hby at_132) rfl rfl (pc' := 134) rfl ?_
            refine own_ifnonnullT X370 hx (hb hby at_134) (by decide) (pc' := 141) rfl ?_
            refine own_aload X370 hx (hb hby at_141) rfl rfl (pc' := 143) rfl ?_
            have f371 : Fld Z h364 a4 "com/example/slot3/slot3/frame/Post" "following" "Lcom/example/slot3/slot3/frame/Post;" (.ref a7) := ((p320_6.other W361 (Or.inl (Nat.ne_of_lt lt_a4_a11))).other W364 (Or.inl (Nat.ne_of_lt lt_a4_a11)))
            refine own_getF X370 hx hZ hown (ow_37 hw) e370 f371 (hb hby at_143) (pc' := 146) rfl ?_
            intro T372 X372 e372
            refine own_astore X372 hx (hb hby at_146) rfl (l' := #[.val (.int u0), .val (.ref a1), .val (.ref a4), .val (.ref a7), .val (.ref a11), .val (.ref a16), .val (.ref a4), .val (.ref a7), .val (.int (((0 : Int32) + (1 : Int32)) + (1 : Int32))), .val (.ref a7), .unset, .unset]) rfl (pc' := 148) rfl ?_
            refine own_aload X372 hx (hb hby at_148) rfl rfl (pc' := 150) rfl ?_
            refine own_ifnonnullT X372 hx (hb hby at_150) (by decide) (pc' := 157) rfl ?_
            refine own_aload X372 hx (hb hby at_157) rfl rfl (pc' := 159) rfl ?_
            have f373 : Fld Z h364 a7 "com/example/slot3/slot3/frame/Post" "following" "Lcom/example/slot3/slot3/frame/Post;" (.null) := ((p320_3.other W361 (Or.inl (Nat.ne_of_lt lt_a7_a11))).other W364 (Or.inl (Nat.ne_of_lt lt_a7_a11)))
            refine own_getF X372 hx hZ hown (ow_37 hw) e372 f373 (hb hby at_159) (pc' := 162) rfl ?_
            intro T374 X374 e374
            refine own_astore X374 hx (hb hby at_162) rfl (l' := #[.val (.int u0), .val (.ref a1), .val (.ref a4), .val (.ref a7), .val (.ref a11), .val (.ref a16), .val (.ref a4), .val (.ref a7), .val (.int (((0 : Int32) + (1 : Int32)) + (1 : Int32))), .val (.ref a7), .val (.null), .unset]) rfl (pc' := 164) rfl ?_
            refine own_aloadN X374 hx (hb hby at_164) rfl rfl (pc' := 165) rfl ?_
            refine own_aload X374 hx (hb hby at_165) rfl rfl (pc' := 167) rfl ?_
            have f376 : Exa Z h364 a1 "com/example/slot3/slot3/frame/PostChain" := (((f321.keep K320).wr W361).wr W364)
            have f377 : Exa Z h364 a11 "com/example/slot3/slot3/frame/Post" := (f363.wr W364)
            have f378 : Exa Z h364 a4 "com/example/slot3/slot3/frame/Post" := (((f323.keep K320).wr W361).wr W364)
            have f379 : Fld Z h364 a11 "com/example/slot3/slot3/frame/Post" "previous" "Lcom/example/slot3/slot3/frame/Post;" (.ref a16) := ((f359.same W361).other W364 (Or.inr (osn_10 hw)))
            have f380 : Fld Z h364 a11 "com/example/slot3/slot3/frame/Post" "chain" "Lcom/example/slot3/slot3/frame/PostChain;" (.null) := (((((F11_chain.ext E16).keep K239 (ninS (Nat.ne_of_gt lt_a1_a11) (ninS (Nat.ne_of_gt lt_a4_a11) nin0))).keep K320 (ninS (Nat.ne_of_gt lt_a1_a11) (ninS (Nat.ne_of_gt lt_a7_a11) (ninS (Nat.ne_of_gt lt_a4_a11) nin0)))).other W361 (Or.inr (osn_1 hw))).other W364 (Or.inr (osn_11 hw)))
            have f381 : Fld Z h364 a4 "com/example/slot3/slot3/frame/Post" "previous" "Lcom/example/slot3/slot3/frame/Post;" (.null) := ((p320_7.other W361 (Or.inl (Nat.ne_of_lt lt_a4_a11))).other W364 (Or.inl (Nat.ne_of_lt lt_a4_a11)))
            have f382 : Fld Z h364 a4 "com/example/slot3/slot3/frame/Post" "chain" "Lcom/example/slot3/slot3/frame/PostChain;" (.ref a1) := ((p320_8.other W361 (Or.inl (Nat.ne_of_lt lt_a4_a11))).other W364 (Or.inl (Nat.ne_of_lt lt_a4_a11)))
            have z383 : n0 ≤ h364.size := (Nat.le_trans (Nat.le_trans (Nat.le_trans z327 K320.1) (Nat.le_of_eq (Wr.size W361).symm)) (Nat.le_of_eq (Wr.size W364).symm))
            refine own_callV X374 hx hZ hown (ow_22 hw) (ow_23 hw) (ow_25 hw) (ow_24 hw) (ow_2 hw) (ow_26 hw) (by decide) f376 (rm_pu2 l Z a0 hw a1 a11 a4 (((0 : Int32) + (1 : Int32)) + (1 : Int32)) (.ref a7) (.ref a16) (.ref a16) .null (.ref a7) .null (.ref a1) h364 n0 z383 f376 f377 f365 f367 f369 f378 (f362.same W364) f379 f380 f371 f381 f382 ge_a1 ge_a11 ge_a4 (Nat.ne_of_lt lt_a1_a11) (Nat.ne_of_lt lt_a1_a4) (Nat.ne_of_gt lt_a4_a11)) e374 (W := 0) (by decide) (by decide) opd__Lcom_example_slot3_slot3_frame_Post__V rfl (rest := []) rfl (hb hby at_167) (Nat.le_of_eq rfl) (by rw [hml]; rfl) (by decide) (by decide) (pc' := 170) rfl ?_
            intro v375 T375 L375 X375 q375
            obtain ⟨rfl, Nq375, K375, p375_0, p375_1, p375_2, p375_3, p375_4, p375_5, p375_6, p375_7, p375_8⟩ := q375
            have N375 := Fr.app N364 Nq375
            show own_G p e below s _ _ _ (T375.setTop (mkF m 170 #[.val (.int u0), .val (.ref a1), .val (.ref a4), .val (.ref a7), .val (.ref a11), .val (.ref a16), .val (.ref a4), .val (.ref a7), .val (.int (((0 : Int32) + (1 : Int32)) + (1 : Int32))), .val (.ref a7), .val (.null), .unset] []))
            refine own_aloadN X375 hx (hb hby at_170) rfl rfl (pc' := 171) rfl ?_
            refine own_getF X375 hx hZ hown (ow_16 hw) rfl p375_0 (hb hby at_171) (pc' := 174) rfl ?_
            intro T384 X384 e384
            refine own_aload X384 hx (hb hby at_174) rfl rfl (pc' := 176) rfl ?_
            refine own_acmpF X384 hx (hb hby at_176) rfl rfl (by simp [XT.acmp]) (pc' := 179) rfl ?_
            refine own_aload X384 hx (hb hby at_179) rfl rfl (pc' := 181) rfl ?_
            refine own_getF X384 hx hZ hown (ow_36 hw) e384 p375_4 (hb hby at_181) (pc' := 184) rfl ?_
            intro T385 X385 e385
            refine own_ifnonnullF X385 hx (hb hby at_184) (pc' := 187) rfl ?_
            refine own_aload X385 hx (hb hby at_187) rfl rfl (pc' := 189) rfl ?_
            refine own_getF X385 hx hZ hown (ow_37 hw) e385 p375_3 (hb hby at_189) (pc' := 192) rfl ?_
            intro T386 X386 e386
            refine own_aload X386 hx (hb hby at_192) rfl rfl (pc' := 194) rfl ?_
            refine own_acmpF X386 hx (hb hby at_194) rfl rfl (by simp [XT.acmp]) (pc' := 197) rfl ?_
            refine own_aload X386 hx (hb hby at_197) rfl rfl (pc' := 199) rfl ?_
            refine own_getF X386 hx hZ hown (ow_38 hw) e386 p375_5 (hb hby at_199) (pc' := 202) rfl ?_
            intro T387 X387 e387
            refine own_aloadN X387 hx (hb hby at_202) rfl rfl (pc' := 203) rfl ?_
            refine own_acmpF X387 hx (hb hby at_203) rfl rfl (by simp [XT.acmp]) (pc' := 206) rfl ?_
            refine own_aloadN X387 hx (hb hby at_206) rfl rfl (pc' := 207) rfl ?_
            refine own_getF X387 hx hZ hown (ow_20 hw) e387 p375_2 (hb hby at_207) (pc' := 210) rfl ?_
            intro T388 X388 e388
            refine own_iload X388 hx (hb hby at_210) rfl (pc' := 212) rfl ?_
            refine own_iconst X388 hx (hb hby at_212) (z := (1 : Int32)) rfl (pc' := 213) rfl ?_
            refine own_iadd X388 hx (hb hby at_213) (pc' := 214) rfl ?_
            refine own_icmpF X388 hx (hb hby at_214) (by decide) (pc' := 217) rfl ?_
            refine own_iconst X388 hx (hb hby at_217) (z := (1 : Int32)) rfl (pc' := 218) rfl ?_
            refine own_goto X388 hx (hb hby at_218) (by decide) (pc' := 222) rfl ?_
            refine own_istore X388 hx (hb hby at_222) (l' := #[.val (.int u0), .val (.ref a1), .val (.ref a4), .val (.ref a7), .val (.ref a11), .val (.ref a16), .val (.ref a4), .val (.ref a7), .val (.int (((0 : Int32) + (1 : Int32)) + (1 : Int32))), .val (.ref a7), .val (.null), .val (.int (1 : Int32))]) rfl (pc' := 224) rfl ?_
            refine own_aload X388 hx (hb hby at_224) rfl rfl (pc' := 226) rfl ?_
            refine own_ifnonnullT X388 hx (hb hby at_226) (by decide) (pc' := 253) rfl ?_
            refine own_iload X388 hx (hb hby at_253) rfl (pc' := 255) rfl ?_
            refine own_ifF X388 hx (hb hby at_255) (by decide) (pc' := 258) rfl ?_
            refine own_aloadN X388 hx (hb hby at_258) rfl rfl (pc' := 259) rfl ?_
            refine own_getF X388 hx hZ hown (ow_18 hw) e388 p375_1 (hb hby at_259) (pc' := 262) rfl ?_
            intro T389 X389 e389
            refine own_aload X389 hx (hb hby at_262) rfl rfl (pc' := 264) rfl ?_
            refine own_acmpF X389 hx (hb hby at_264) rfl rfl (by simp [XT.acmp]) (pc' := 267) rfl ?_
            refine own_aload X389 hx (hb hby at_267) rfl rfl (pc' := 269) rfl ?_
            refine own_getF X389 hx hZ hown (ow_36 hw) e389 p375_7 (hb hby at_269) (pc' := 272) rfl ?_
            intro T390 X390 e390
            refine own_aload X390 hx (hb hby at_272) rfl rfl (pc' := 274) rfl ?_
            refine own_acmpF X390 hx (hb hby at_274) rfl rfl (by simp [XT.acmp]) (pc' := 277) rfl ?_
            refine own_aload X390 hx (hb hby at_277) rfl rfl (pc' := 279) rfl ?_
            refine own_getF X390 hx hZ hown (ow_37 hw) e390 p375_6 (hb hby at_279) (pc' := 282) rfl ?_
            intro T391 X391 e391
            refine own_aload X391 hx (hb hby at_282) rfl rfl (pc' := 284) rfl ?_
            refine own_acmpF X391 hx (hb hby at_284) rfl rfl (by simp [XT.acmp]) (pc' := 287) rfl ?_
            refine own_aload X391 hx (hb hby at_287) rfl rfl (pc' := 289) rfl ?_
            refine own_getF X391 hx hZ hown (ow_38 hw) e391 p375_8 (hb hby at_289) (pc' := 292) rfl ?_
            intro T392 X392 e392
            refine own_aloadN X392 hx (hb hby at_292) rfl rfl (pc' := 293) rfl ?_
            refine own_acmpF X392 hx (hb hby at_293) rfl rfl (by simp [XT.acmp]) (pc' := 296) rfl ?_
            refine own_iconst X392 hx (hb hby at_296) (z := (1 : Int32)) rfl (pc' := 297) rfl ?_
            refine own_goto X392 hx (hb hby at_297) (by decide) (pc' := 301) rfl ?_
            refine own_istore X392 hx (hb hby at_301) (l' := #[.val (.int u0), .val (.ref a1), .val (.ref a4), .val (.ref a7), .val (.ref a11), .val (.ref a16), .val (.ref a4), .val (.ref a7), .val (.int (((0 : Int32) + (1 : Int32)) + (1 : Int32))), .val (.ref a7), .val (.null), .val (.int (1 : Int32))]) rfl (pc' := 303) rfl ?_
            refine own_iload X392 hx (hb hby at_303) rfl (pc' := 305) rfl ?_
            refine own_ifF X392 hx (hb hby at_305) (by decide) (pc' := 308) rfl ?_
            refine own_aload X392 hx (hb hby at_308) rfl rfl (pc' := 310) rfl ?_
            refine own_ifnullF X392 hx (hb hby at_310) (pc' := 313) rfl ?_
            refine own_aload X392 hx (hb hby at_313) rfl rfl (pc' := 315) rfl ?_
            have f393 : Fld Z T375.heap a7 "com/example/slot3/slot3/frame/Post" "following" "Lcom/example/slot3/slot3/frame/Post;" (.null) := (f373.keep K375 (ninS (Nat.ne_of_gt lt_a1_a7) (ninS (Nat.ne_of_lt lt_a7_a11) (ninS (Nat.ne_of_gt lt_a4_a7) nin0))))
            refine own_getF X392 hx hZ hown (ow_37 hw) e392 f393 (hb hby at_315) (pc' := 318) rfl ?_
            intro T394 X394 e394
            refine own_aload X394 hx (hb hby at_318) rfl rfl (pc' := 320) rfl ?_
            refine own_acmpF X394 hx (hb hby at_320) rfl rfl (by simp [XT.acmp]) (pc' := 323) rfl ?_
            refine own_iconst X394 hx (hb hby at_323) (z := (1 : Int32)) rfl (pc' := 324) rfl ?_
            refine own_goto X394 hx (hb hby at_324) (by decide) (pc' := 328) rfl ?_
            refine own_istore X394 hx (hb hby at_328) (l' := #[.val (.int u0), .val (.ref a1), .val (.ref a4), .val (.ref a7), .val (.ref a11), .val (.ref a16), .val (.ref a4), .val (.ref a7), .val (.int (((0 : Int32) + (1 : Int32)) + (1 : Int32))), .val (.ref a7), .val (.null), .val (.int (1 : Int32))]) rfl (pc' := 330) rfl ?_
            refine own_iload X394 hx (hb hby at_330) rfl (pc' := 332) rfl ?_
            refine own_ifF X394 hx (hb hby at_332) (by decide) (pc' := 335) rfl ?_
            refine own_aload X394 hx (hb hby at_335) rfl rfl (pc' := 337) rfl ?_
            have f395 : Fld Z T375.heap a16 "com/example/slot3/slot3/frame/Post" "following" "Lcom/example/slot3/slot3/frame/Post;" (.null) := (((((F16_following.keep K239 (ninS (Nat.ne_of_gt lt_a1_a16) (ninS (Nat.ne_of_gt lt_a4_a16) nin0))).keep K320 (ninS (Nat.ne_of_gt lt_a1_a16) (ninS (Nat.ne_of_gt lt_a7_a16) (ninS (Nat.ne_of_gt lt_a4_a16) nin0)))).other W361 (Or.inl (Nat.ne_of_gt lt_a11_a16))).other W364 (Or.inl (Nat.ne_of_gt lt_a11_a16))).keep K375 (ninS (Nat.ne_of_gt lt_a1_a16) (ninS (Nat.ne_of_gt lt_a11_a16) (ninS (Nat.ne_of_gt lt_a4_a16) nin0))))
            refine own_getF X394 hx hZ hown (ow_37 hw) e394 f395 (hb hby at_337) (pc' := 340) rfl ?_
            intro T396 X396 e396
            refine own_ifnonnullF X396 hx (hb hby at_340) (pc' := 343) rfl ?_
            refine own_aload X396 hx (hb hby at_343) rfl rfl (pc' := 345) rfl ?_
            have f397 : Fld Z T375.heap a16 "com/example/slot3/slot3/frame/Post" "previous" "Lcom/example/slot3/slot3/frame/Post;" (.null) := (((((F16_previous.keep K239 (ninS (Nat.ne_of_gt lt_a1_a16) (ninS (Nat.ne_of_gt lt_a4_a16) nin0))).keep K320 (ninS (Nat.ne_of_gt lt_a1_a16) (ninS (Nat.ne_of_gt lt_a7_a16) (ninS (Nat.ne_of_gt lt_a4_a16) nin0)))).other W361 (Or.inl (Nat.ne_of_gt lt_a11_a16))).other W364 (Or.inl (Nat.ne_of_gt lt_a11_a16))).keep K375 (ninS (Nat.ne_of_gt lt_a1_a16) (ninS (Nat.ne_of_gt lt_a11_a16) (ninS (Nat.ne_of_gt lt_a4_a16) nin0))))
            refine own_getF X396 hx hZ hown (ow_36 hw) e396 f397 (hb hby at_345) (pc' := 348) rfl ?_
            intro T398 X398 e398
            refine own_ifnonnullF X398 hx (hb hby at_348) (pc' := 351) rfl ?_
            refine own_aload X398 hx (hb hby at_351) rfl rfl (pc' := 353) rfl ?_
            have f399 : Fld Z T375.heap a16 "com/example/slot3/slot3/frame/Post" "chain" "Lcom/example/slot3/slot3/frame/PostChain;" (.null) := (((((F16_chain.keep K239 (ninS (Nat.ne_of_gt lt_a1_a16) (ninS (Nat.ne_of_gt lt_a4_a16) nin0))).keep K320 (ninS (Nat.ne_of_gt lt_a1_a16) (ninS (Nat.ne_of_gt lt_a7_a16) (ninS (Nat.ne_of_gt lt_a4_a16) nin0)))).other W361 (Or.inl (Nat.ne_of_gt lt_a11_a16))).other W364 (Or.inl (Nat.ne_of_gt lt_a11_a16))).keep K375 (ninS (Nat.ne_of_gt lt_a1_a16) (ninS (Nat.ne_of_gt lt_a11_a16) (ninS (Nat.ne_of_gt lt_a4_a16) nin0))))
            refine own_getF X398 hx hZ hown (ow_38 hw) e398 f399 (hb hby at_353) (pc' := 356) rfl ?_
            intro T400 X400 e400
            refine own_ifnonnullF X400 hx (hb hby at_356) (pc' := 359) rfl ?_
            refine own_iconst X400 hx (hb hby at_359) (z := (1 : Int32)) rfl (pc' := 360) rfl ?_
            refine own_goto X400 hx (hb hby at_360) (by decide) (pc' := 364) rfl ?_
            refine own_istore X400 hx (hb hby at_364) (l' := #[.val (.int u0), .val (.ref a1), .val (.ref a4), .val (.ref a7), .val (.ref a11), .val (.ref a16), .val (.ref a4), .val (.ref a7), .val (.int (((0 : Int32) + (1 : Int32)) + (1 : Int32))), .val (.ref a7), .val (.null), .val (.int (1 : Int32))]) rfl (pc' := 366) rfl ?_
            refine own_iload X400 hx (hb hby at_366) rfl (pc' := 368) rfl ?_
            exact own_retZ X400 hx hret hlk (Or.inr rfl) (hb hby at_368) ⟨rfl, N375⟩ (by decide) (by decide)
        · refine own_ifF X239 hx (hb hby at_77) (feq c319).1 (pc' := 80) rfl ?_
          refine own_aloadN X239 hx (hb hby at_80) rfl rfl (pc' := 81) rfl ?_
          refine own_aloadN X239 hx (hb hby at_81) rfl rfl (pc' := 82) rfl ?_
          have f402 : Exa Z T239.heap a1 "com/example/slot3/slot3/frame/PostChain" := (f240.keep K239)
          have f403 : Exa Z T239.heap a7 "com/example/slot3/slot3/frame/Post" := ((f19.ext E16).keep K239)
          have f404 : Exa Z T239.heap a4 "com/example/slot3/slot3/frame/Post" := (f241.keep K239)
          have f405 : Fld Z T239.heap a7 "com/example/slot3/slot3/frame/Post" "following" "Lcom/example/slot3/slot3/frame/Post;" (.null) := (((F7_following.ext E11).ext E16).keep K239 (ninS (Nat.ne_of_gt lt_a1_a7) (ninS (Nat.ne_of_gt lt_a4_a7) nin0)))
          have f406 : Fld Z T239.heap a7 "com/example/slot3/slot3/frame/Post" "previous" "Lcom/example/slot3/slot3/frame/Post;" (.null) := (((F7_previous.ext E11).ext E16).keep K239 (ninS (Nat.ne_of_gt lt_a1_a7) (ninS (Nat.ne_of_gt lt_a4_a7) nin0)))
          have f407 : Fld Z T239.heap a7 "com/example/slot3/slot3/frame/Post" "chain" "Lcom/example/slot3/slot3/frame/PostChain;" (.null) := (((F7_chain.ext E11).ext E16).keep K239 (ninS (Nat.ne_of_gt lt_a1_a7) (ninS (Nat.ne_of_gt lt_a4_a7) nin0)))
          have z408 : n0 ≤ T239.heap.size := (Nat.le_trans z21 K239.1)
          refine own_callV X239 hx hZ hown (ow_22 hw) (ow_23 hw) (ow_25 hw) (ow_24 hw) (ow_2 hw) (ow_26 hw) (by decide) f402 (rm_pu2 l Z a0 hw a1 a7 a4 ((0 : Int32) + (1 : Int32)) (.ref a4) .null .null .null .null .null (.ref a1) T239.heap n0 z408 f402 f403 p239_0 p239_1 p239_2 f404 f405 f406 f407 p239_3 p239_4 p239_5 ge_a1 ge_a7 ge_a4 (Nat.ne_of_lt lt_a1_a7) (Nat.ne_of_lt lt_a1_a4) (Nat.ne_of_gt lt_a4_a7)) rfl (W := 0) (by decide) (by decide) opd__Lcom_example_slot3_slot3_frame_Post__V rfl (rest := []) rfl (hb hby at_82) (Nat.le_of_eq rfl) (by rw [hml]; rfl) (by decide) (by decide) (pc' := 85) rfl ?_
          intro v401 T401 L401 X401 q401
          obtain ⟨rfl, Nq401, K401, p401_0, p401_1, p401_2, p401_3, p401_4, p401_5, p401_6, p401_7, p401_8⟩ := q401
          have N401 := Fr.app N239 Nq401
          show own_G p e below s _ _ _ (T401.setTop (mkF m 85 #[.val (.int u0), .val (.ref a1), .val (.ref a4), .val (.ref a7), .val (.ref a11), .val (.ref a16), .unset, .unset, .unset, .unset, .unset, .unset] []))
          refine own_goto X401 hx (hb hby at_85) (by decide) (pc' := 93) rfl ?_
          refine own_iloadN X401 hx (hb hby at_93) rfl (pc' := 94) rfl ?_
          refine own_bipush X401 hx (hb hby at_94) (z := (16 : Int32)) (by decide) (pc' := 96) rfl ?_
          refine own_iand X401 hx (hb hby at_96) (pc' := 97) rfl ?_
          by_cases c409 : (u0 &&& (16 : Int32)) = (0 : Int32)
          · refine own_ifT X401 hx (hb hby at_97) (teq c409).1 (by decide) (pc' := 114) rfl ?_
            refine own_aloadN X401 hx (hb hby at_114) rfl rfl (pc' := 115) rfl ?_
            refine own_getF X401 hx hZ hown (ow_16 hw) rfl p401_0 (hb hby at_115) (pc' := 118) rfl ?_
            intro T410 X410 e410
            refine own_astore X410 hx (hb hby at_118) rfl (l' := #[.val (.int u0), .val (.ref a1), .val (.ref a4), .val (.ref a7), .val (.ref a11), .val (.ref a16), .val (.ref a7), .unset, .unset, .unset, .unset, .unset]) rfl (pc' := 120) rfl ?_
            refine own_aloadN X410 hx (hb hby at_120) rfl rfl (pc' := 121) rfl ?_
            refine own_getF X410 hx hZ hown (ow_18 hw) e410 p401_1 (hb hby at_121) (pc' := 124) rfl ?_
            intro T411 X411 e411
            refine own_astore X411 hx (hb hby at_124) rfl (l' := #[.val (.int u0), .val (.ref a1), .val (.ref a4), .val (.ref a7), .val (.ref a11), .val (.ref a16), .val (.ref a7), .val (.ref a4), .unset, .unset, .unset, .unset]) rfl (pc' := 126) rfl ?_
            refine own_aloadN X411 hx (hb hby at_126) rfl rfl (pc' := 127) rfl ?_
            refine own_getF X411 hx hZ hown (ow_20 hw) e411 p401_2 (hb hby at_127) (pc' := 130) rfl ?_
            intro T412 X412 e412
            refine own_istore X412 hx (hb hby at_130) (l' := #[.val (.int u0), .val (.ref a1), .val (.ref a4), .val (.ref a7), .val (.ref a11), .val (.ref a16), .val (.ref a7), .val (.ref a4), .val (.int (((0 : Int32) + (1 : Int32)) + (1 : Int32))), .unset, .unset, .unset]) rfl (pc' := 132) rfl ?_
            refine own_aload X412 hx (hb hby at_132) rfl rfl (pc' := 134) rfl ?_
            refine own_ifnonnullT X412 hx (hb hby at_134) (by decide) (pc' := 141) rfl ?_
            refine own_aload X412 hx (hb hby at_141) rfl rfl (pc' := 143) rfl ?_
            refine own_getF X412 hx hZ hown (ow_37 hw) e412 p401_3 (hb hby at_143) (pc' := 146) rfl ?_
            intro T413 X413 e413
            refine own_astore X413 hx (hb hby at_146) rfl (l' := #[.val (.int u0), .val (.ref a1), .val (.ref a4), .val (.ref a7), .val (.ref a11), .val (.ref a16), .val (.ref a7), .val (.ref a4), .val (.int (((0 : Int32) + (1 : Int32)) + (1 : Int32))), .val (.ref a4), .unset, .unset]) rfl (pc' := 148) rfl ?_
            refine own_aload X413 hx (hb hby at_148) rfl rfl (pc' := 150) rfl ?_
            refine own_ifnonnullT X413 hx (hb hby at_150) (by decide) (pc' := 157) rfl ?_
            refine own_aload X413 hx (hb hby at_157) rfl rfl (pc' := 159) rfl ?_
            refine own_getF X413 hx hZ hown (ow_37 hw) e413 p401_6 (hb hby at_159) (pc' := 162) rfl ?_
            intro T414 X414 e414
            refine own_astore X414 hx (hb hby at_162) rfl (l' := #[.val (.int u0), .val (.ref a1), .val (.ref a4), .val (.ref a7), .val (.ref a11), .val (.ref a16), .val (.ref a7), .val (.ref a4), .val (.int (((0 : Int32) + (1 : Int32)) + (1 : Int32))), .val (.ref a4), .val (.null), .unset]) rfl (pc' := 164) rfl ?_
            refine own_aloadN X414 hx (hb hby at_164) rfl rfl (pc' := 165) rfl ?_
            refine own_aload X414 hx (hb hby at_165) rfl rfl (pc' := 167) rfl ?_
            have f416 : Exa Z T401.heap a1 "com/example/slot3/slot3/frame/PostChain" := (f402.keep K401)
            have f417 : Exa Z T401.heap a11 "com/example/slot3/slot3/frame/Post" := (((A11.ext E16).keep K239).keep K401)
            have f418 : Exa Z T401.heap a7 "com/example/slot3/slot3/frame/Post" := (f403.keep K401)
            have f419 : Fld Z T401.heap a11 "com/example/slot3/slot3/frame/Post" "following" "Lcom/example/slot3/slot3/frame/Post;" (.null) := (((F11_following.ext E16).keep K239 (ninS (Nat.ne_of_gt lt_a1_a11) (ninS (Nat.ne_of_gt lt_a4_a11) nin0))).keep K401 (ninS (Nat.ne_of_gt lt_a1_a11) (ninS (Nat.ne_of_gt lt_a7_a11) (ninS (Nat.ne_of_gt lt_a4_a11) nin0))))
            have f420 : Fld Z T401.heap a11 "com/example/slot3/slot3/frame/Post" "previous" "Lcom/example/slot3/slot3/frame/Post;" (.null) := (((F11_previous.ext E16).keep K239 (ninS (Nat.ne_of_gt lt_a1_a11) (ninS (Nat.ne_of_gt lt_a4_a11) nin0))).keep K401 (ninS (Nat.ne_of_gt lt_a1_a11) (ninS (Nat.ne_of_gt lt_a7_a11) (ninS (Nat.ne_of_gt lt_a4_a11) nin0))))
            have f421 : Fld Z T401.heap a11 "com/example/slot3/slot3/frame/Post" "chain" "Lcom/example/slot3/slot3/frame/PostChain;" (.null) := (((F11_chain.ext E16).keep K239 (ninS (Nat.ne_of_gt lt_a1_a11) (ninS (Nat.ne_of_gt lt_a4_a11) nin0))).keep K401 (ninS (Nat.ne_of_gt lt_a1_a11) (ninS (Nat.ne_of_gt lt_a7_a11) (ninS (Nat.ne_of_gt lt_a4_a11) nin0))))
            have z422 : n0 ≤ T401.heap.size := (Nat.le_trans z408 K401.1)
            refine own_callV X414 hx hZ hown (ow_22 hw) (ow_23 hw) (ow_25 hw) (ow_24 hw) (ow_2 hw) (ow_26 hw) (by decide) f416 (rm_pu2 l Z a0 hw a1 a11 a7 (((0 : Int32) + (1 : Int32)) + (1 : Int32)) (.ref a4) .null .null .null (.ref a4) .null (.ref a1) T401.heap n0 z422 f416 f417 p401_0 p401_1 p401_2 f418 f419 f420 f421 p401_3 p401_4 p401_5 ge_a1 ge_a11 ge_a7 (Nat.ne_of_lt lt_a1_a11) (Nat.ne_of_lt lt_a1_a7) (Nat.ne_of_gt lt_a7_a11)) e414 (W := 0) (by decide) (by decide) opd__Lcom_example_slot3_slot3_frame_Post__V rfl (rest := []) rfl (hb hby at_167) (Nat.le_of_eq rfl) (by rw [hml]; rfl) (by decide) (by decide) (pc' := 170) rfl ?_
            intro v415 T415 L415 X415 q415
            obtain ⟨rfl, Nq415, K415, p415_0, p415_1, p415_2, p415_3, p415_4, p415_5, p415_6, p415_7, p415_8⟩ := q415
            have N415 := Fr.app N401 Nq415
            show own_G p e below s _ _ _ (T415.setTop (mkF m 170 #[.val (.int u0), .val (.ref a1), .val (.ref a4), .val (.ref a7), .val (.ref a11), .val (.ref a16), .val (.ref a7), .val (.ref a4), .val (.int (((0 : Int32) + (1 : Int32)) + (1 : Int32))), .val (.ref a4), .val (.null), .unset] []))
            refine own_aloadN X415 hx (hb hby at_170) rfl rfl (pc' := 171) rfl ?_
            refine own_getF X415 hx hZ hown (ow_16 hw) rfl p415_0 (hb hby at_171) (pc' := 174) rfl ?_
            intro T423 X423 e423
            refine own_aload X423 hx (hb hby at_174) rfl rfl (pc' := 176) rfl ?_
            refine own_acmpF X423 hx (hb hby at_176) rfl rfl (by simp [XT.acmp]) (pc' := 179) rfl ?_
            refine own_aload X423 hx (hb hby at_179) rfl rfl (pc' := 181) rfl ?_
            refine own_getF X423 hx hZ hown (ow_36 hw) e423 p415_4 (hb hby at_181) (pc' := 184) rfl ?_
            intro T424 X424 e424
            refine own_ifnonnullF X424 hx (hb hby at_184) (pc' := 187) rfl ?_
            refine own_aload X424 hx (hb hby at_187) rfl rfl (pc' := 189) rfl ?_
            refine own_getF X424 hx hZ hown (ow_37 hw) e424 p415_3 (hb hby at_189) (pc' := 192) rfl ?_
            intro T425 X425 e425
            refine own_aload X425 hx (hb hby at_192) rfl rfl (pc' := 194) rfl ?_
            refine own_acmpF X425 hx (hb hby at_194) rfl rfl (by simp [XT.acmp]) (pc' := 197) rfl ?_
            refine own_aload X425 hx (hb hby at_197) rfl rfl (pc' := 199) rfl ?_
            refine own_getF X425 hx hZ hown (ow_38 hw) e425 p415_5 (hb hby at_199) (pc' := 202) rfl ?_
            intro T426 X426 e426
            refine own_aloadN X426 hx (hb hby at_202) rfl rfl (pc' := 203) rfl ?_
            refine own_acmpF X426 hx (hb hby at_203) rfl rfl (by simp [XT.acmp]) (pc' := 206) rfl ?_
            refine own_aloadN X426 hx (hb hby at_206) rfl rfl (pc' := 207) rfl ?_
            refine own_getF X426 hx hZ hown (ow_20 hw) e426 p415_2 (hb hby at_207) (pc' := 210) rfl ?_
            intro T427 X427 e427
            refine own_iload X427 hx (hb hby at_210) rfl (pc' := 212) rfl ?_
            refine own_iconst X427 hx (hb hby at_212) (z := (1 : Int32)) rfl (pc' := 213) rfl ?_
            refine own_iadd X427 hx (hb hby at_213) (pc' := 214) rfl ?_
            refine own_icmpF X427 hx (hb hby at_214) (by decide) (pc' := 217) rfl ?_
            refine own_iconst X427 hx (hb hby at_217) (z := (1 : Int32)) rfl (pc' := 218) rfl ?_
            refine own_goto X427 hx (hb hby at_218) (by decide) (pc' := 222) rfl ?_
            refine own_istore X427 hx (hb hby at_222) (l' := #[.val (.int u0), .val (.ref a1), .val (.ref a4), .val (.ref a7), .val (.ref a11), .val (.ref a16), .val (.ref a7), .val (.ref a4), .val (.int (((0 : Int32) + (1 : Int32)) + (1 : Int32))), .val (.ref a4), .val (.null), .val (.int (1 : Int32))]) rfl (pc' := 224) rfl ?_
            refine own_aload X427 hx (hb hby at_224) rfl rfl (pc' := 226) rfl ?_
            refine own_ifnonnullT X427 hx (hb hby at_226) (by decide) (pc' := 253) rfl ?_
            refine own_iload X427 hx (hb hby at_253) rfl (pc' := 255) rfl ?_
            refine own_ifF X427 hx (hb hby at_255) (by decide) (pc' := 258) rfl ?_
            refine own_aloadN X427 hx (hb hby at_258) rfl rfl (pc' := 259) rfl ?_
            refine own_getF X427 hx hZ hown (ow_18 hw) e427 p415_1 (hb hby at_259) (pc' := 262) rfl ?_
            intro T428 X428 e428
            refine own_aload X428 hx (hb hby at_262) rfl rfl (pc' := 264) rfl ?_
            refine own_acmpF X428 hx (hb hby at_264) rfl rfl (by simp [XT.acmp]) (pc' := 267) rfl ?_
            refine own_aload X428 hx (hb hby at_267) rfl rfl (pc' := 269) rfl ?_
            refine own_getF X428 hx hZ hown (ow_36 hw) e428 p415_7 (hb hby at_269) (pc' := 272) rfl ?_
            intro T429 X429 e429
            refine own_aload X429 hx (hb hby at_272) rfl rfl (pc' := 274) rfl ?_
            refine own_acmpF X429 hx (hb hby at_274) rfl rfl (by simp [XT.acmp]) (pc' := 277) rfl ?_
            refine own_aload X429 hx (hb hby at_277) rfl rfl (pc' := 279) rfl ?_
            refine own_getF X429 hx hZ hown (ow_37 hw) e429 p415_6 (hb hby at_279) (pc' := 282) rfl ?_
            intro T430 X430 e430
            refine own_aload X430 hx (hb hby at_282) rfl rfl (pc' := 284) rfl ?_
            refine own_acmpF X430 hx (hb hby at_284) rfl rfl (by simp [XT.acmp]) (pc' := 287) rfl ?_
            refine own_aload X430 hx (hb hby at_287) rfl rfl (pc' := 289) rfl ?_
            refine own_getF X430 hx hZ hown (ow_38 hw) e430 p415_8 (hb hby at_289) (pc' := 292) rfl ?_
            intro T431 X431 e431
            refine own_aloadN X431 hx (hb hby at_292) rfl rfl (pc' := 293) rfl ?_
            refine own_acmpF X431 hx (hb hby at_293) rfl rfl (by simp [XT.acmp]) (pc' := 296) rfl ?_
            refine own_iconst X431 hx (hb hby at_296) (z := (1 : Int32)) rfl (pc' := 297) rfl ?_
            refine own_goto X431 hx (hb hby at_297) (by decide) (pc' := 301) rfl ?_
            refine own_istore X431 hx (hb hby at_301) (l' := #[.val (.int u0), .val (.ref a1), .val (.ref a4), .val (.ref a7), .val (.ref a11), .val (.ref a16), .val (.ref a7), .val (.ref a4), .val (.int (((0 : Int32) + (1 : Int32)) + (1 : Int32))), .val (.ref a4), .val (.null), .val (.int (1 : Int32))]) rfl (pc' := 303) rfl ?_
            refine own_iload X431 hx (hb hby at_303) rfl (pc' := 305) rfl ?_
            refine own_ifF X431 hx (hb hby at_305) (by decide) (pc' := 308) rfl ?_
            refine own_aload X431 hx (hb hby at_308) rfl rfl (pc' := 310) rfl ?_
            refine own_ifnullF X431 hx (hb hby at_310) (pc' := 313) rfl ?_
            refine own_aload X431 hx (hb hby at_313) rfl rfl (pc' := 315) rfl ?_
            have f432 : Fld Z T415.heap a4 "com/example/slot3/slot3/frame/Post" "following" "Lcom/example/slot3/slot3/frame/Post;" (.null) := (p401_6.keep K415 (ninS (Nat.ne_of_gt lt_a1_a4) (ninS (Nat.ne_of_lt lt_a4_a11) (ninS (Nat.ne_of_lt lt_a4_a7) nin0))))
            refine own_getF X431 hx hZ hown (ow_37 hw) e431 f432 (hb hby at_315) (pc' := 318) rfl ?_
            intro T433 X433 e433
            refine own_aload X433 hx (hb hby at_318) rfl rfl (pc' := 320) rfl ?_
            refine own_acmpF X433 hx (hb hby at_320) rfl rfl (by simp [XT.acmp]) (pc' := 323) rfl ?_
            refine own_iconst X433 hx (hb hby at_323) (z := (1 : Int32)) rfl (pc' := 324) rfl ?_
            refine own_goto X433 hx (hb hby at_324) (by decide) (pc' := 328) rfl ?_
            refine own_istore X433 hx (hb hby at_328) (l' := #[.val (.int u0), .val (.ref a1), .val (.ref a4), .val (.ref a7), .val (.ref a11), .val (.ref a16), .val (.ref a7), .val (.ref a4), .val (.int (((0 : Int32) + (1 : Int32)) + (1 : Int32))), .val (.ref a4), .val (.null), .val (.int (1 : Int32))]) rfl (pc' := 330) rfl ?_
            refine own_iload X433 hx (hb hby at_330) rfl (pc' := 332) rfl ?_
            refine own_ifF X433 hx (hb hby at_332) (by decide) (pc' := 335) rfl ?_
            refine own_aload X433 hx (hb hby at_335) rfl rfl (pc' := 337) rfl ?_
            have f434 : Fld Z T415.heap a16 "com/example/slot3/slot3/frame/Post" "following" "Lcom/example/slot3/slot3/frame/Post;" (.null) := (((F16_following.keep K239 (ninS (Nat.ne_of_gt lt_a1_a16) (ninS (Nat.ne_of_gt lt_a4_a16) nin0))).keep K401 (ninS (Nat.ne_of_gt lt_a1_a16) (ninS (Nat.ne_of_gt lt_a7_a16) (ninS (Nat.ne_of_gt lt_a4_a16) nin0)))).keep K415 (ninS (Nat.ne_of_gt lt_a1_a16) (ninS (Nat.ne_of_gt lt_a11_a16) (ninS (Nat.ne_of_gt lt_a7_a16) nin0))))
            refine own_getF X433 hx hZ hown (ow_37 hw) e433 f434 (hb hby at_337) (pc' := 340) rfl ?_
            intro T435 X435 e435
            refine own_ifnonnullF X435 hx (hb hby at_340) (pc' := 343) rfl ?_
            refine own_aload X435 hx (hb hby at_343) rfl rfl (pc' := 345) rfl ?_
            have f436 : Fld Z T415.heap a16 "com/example/slot3/slot3/frame/Post" "previous" "Lcom/example/slot3/slot3/frame/Post;" (.null) := (((F16_previous.keep K239 (ninS (Nat.ne_of_gt lt_a1_a16) (ninS (Nat.ne_of_gt lt_a4_a16) nin0))).keep K401 (ninS (Nat.ne_of_gt lt_a1_a16) (ninS (Nat.ne_of_gt lt_a7_a16) (ninS (Nat.ne_of_gt lt_a4_a16) nin0)))).keep K415 (ninS (Nat.ne_of_gt lt_a1_a16) (ninS (Nat.ne_of_gt lt_a11_a16) (ninS (Nat.ne_of_gt lt_a7_a16) nin0))))
            refine own_getF X435 hx hZ hown (ow_36 hw) e435 f436 (hb hby at_345) (pc' := 348) rfl ?_
            intro T437 X437 e437
            refine own_ifnonnullF X437 hx (hb hby at_348) (pc' := 351) rfl ?_
            refine own_aload X437 hx (hb hby at_351) rfl rfl (pc' := 353) rfl ?_
            have f438 : Fld Z T415.heap a16 "com/example/slot3/slot3/frame/Post" "chain" "Lcom/example/slot3/slot3/frame/PostChain;" (.null) := (((F16_chain.keep K239 (ninS (Nat.ne_of_gt lt_a1_a16) (ninS (Nat.ne_of_gt lt_a4_a16) nin0))).keep K401 (ninS (Nat.ne_of_gt lt_a1_a16) (ninS (Nat.ne_of_gt lt_a7_a16) (ninS (Nat.ne_of_gt lt_a4_a16) nin0)))).keep K415 (ninS (Nat.ne_of_gt lt_a1_a16) (ninS (Nat.ne_of_gt lt_a11_a16) (ninS (Nat.ne_of_gt lt_a7_a16) nin0))))
            refine own_getF X437 hx hZ hown (ow_38 hw) e437 f438 (hb hby at_353) (pc' := 356) rfl ?_
            intro T439 X439 e439
            refine own_ifnonnullF X439 hx (hb hby at_356) (pc' := 359) rfl ?_
            refine own_iconst X439 hx (hb hby at_359) (z := (1 : Int32)) rfl (pc' := 360) rfl ?_
            refine own_goto X439 hx (hb hby at_360) (by decide) (pc' := 364) rfl ?_
            refine own_istore X439 hx (hb hby at_364) (l' := #[.val (.int u0), .val (.ref a1), .val (.ref a4), .val (.ref a7), .val (.ref a11), .val (.ref a16), .val (.ref a7), .val (.ref a4), .val (.int (((0 : Int32) + (1 : Int32)) + (1 : Int32))), .val (.ref a4), .val (.null), .val (.int (1 : Int32))]) rfl (pc' := 366) rfl ?_
            refine own_iload X439 hx (hb hby at_366) rfl (pc' := 368) rfl ?_
            exact own_retZ X439 hx hret hlk (Or.inr rfl) (hb hby at_368) ⟨rfl, N415⟩ (by decide) (by decide)
          · refine own_ifF X401 hx (hb hby at_97) (feq c409).1 (pc' := 100) rfl ?_
            refine own_aload X401 hx (hb hby at_100) rfl rfl (pc' := 102) rfl ?_
            refine own_aload X401 hx (hb hby at_102) rfl rfl (pc' := 104) rfl ?_
            have f440 : Fld Z T401.heap a11 "com/example/slot3/slot3/frame/Post" "previous" "Lcom/example/slot3/slot3/frame/Post;" (.null) := (((F11_previous.ext E16).keep K239 (ninS (Nat.ne_of_gt lt_a1_a11) (ninS (Nat.ne_of_gt lt_a4_a11) nin0))).keep K401 (ninS (Nat.ne_of_gt lt_a1_a11) (ninS (Nat.ne_of_gt lt_a7_a11) (ninS (Nat.ne_of_gt lt_a4_a11) nin0))))
            have f441 : Exa Z T401.heap a11 "com/example/slot3/slot3/frame/Post" := (((A11.ext E16).keep K239).keep K401)
            refine own_putF X401 hx hZ hown (ow_36 hw) rfl f440 f441 (Or.inl (ow_32 hw)) (ow_10 hw) (ty := (.object "com/example/slot3/slot3/frame/Post")) (by decide) rfl rfl (hb hby at_104) (pc' := 107) rfl ?_
            intro T442 h442 X442 e442 W442
            have N442 := Fr.snoc X442 N401 ge_a11
            refine own_aload X442 hx (hb hby at_107) rfl rfl (pc' := 109) rfl ?_
            refine own_aload X442 hx (hb hby at_109) rfl rfl (pc' := 111) rfl ?_
            have f443 : Fld Z h442 a11 "com/example/slot3/slot3/frame/Post" "following" "Lcom/example/slot3/slot3/frame/Post;" (.null) := ((((F11_following.ext E16).keep K239 (ninS (Nat.ne_of_gt lt_a1_a11) (ninS (Nat.ne_of_gt lt_a4_a11) nin0))).keep K401 (ninS (Nat.ne_of_gt lt_a1_a11) (ninS (Nat.ne_of_gt lt_a7_a11) (ninS (Nat.ne_of_gt lt_a4_a11) nin0)))).other W442 (Or.inr (osn_7 hw)))
            have f444 : Exa Z h442 a11 "com/example/slot3/slot3/frame/Post" := (f441.wr W442)
            refine own_putF X442 hx hZ hown (ow_37 hw) e442 f443 f444 (Or.inl (ow_30 hw)) (ow_10 hw) (ty := (.object "com/example/slot3/slot3/frame/Post")) (by decide) rfl rfl (hb hby at_111) (pc' := 114) rfl ?_
            intro T445 h445 X445 e445 W445
            have N445 := Fr.snoc X445 N442 ge_a11
            refine own_aloadN X445 hx (hb hby at_114) rfl rfl (pc' := 115) rfl ?_
            have f446 : Fld Z h445 a1 "com/example/slot3/slot3/frame/PostChain" "first" "Lcom/example/slot3/slot3/frame/Post;" (.ref a7) := ((p401_0.other W442 (Or.inl (Nat.ne_of_lt lt_a1_a11))).other W445 (Or.inl (Nat.ne_of_lt lt_a1_a11)))
            refine own_getF X445 hx hZ hown (ow_16 hw) e445 f446 (hb hby at_115) (pc' := 118) rfl ?_
            intro T447 X447 e447
            refine own_astore X447 hx (hb hby at_118) rfl (l' := #[.val (.int u0), .val (.ref a1), .val (.ref a4), .val (.ref a7), .val (.ref a11), .val (.ref a16), .val (.ref a7), .unset, .unset, .unset, .unset, .unset]) rfl (pc' := 120) rfl ?_
            refine own_aloadN X447 hx (hb hby at_120) rfl rfl (pc' := 121) rfl ?_
            have f448 : Fld Z h445 a1 "com/example/slot3/slot3/frame/PostChain" "last" "Lcom/example/slot3/slot3/frame/Post;" (.ref a4) := ((p401_1.other W442 (Or.inl (Nat.ne_of_lt lt_a1_a11))).other W445 (Or.inl (Nat.ne_of_lt lt_a1_a11)))
            refine own_getF X447 hx hZ hown (ow_18 hw) e447 f448 (hb hby at_121) (pc' := 124) rfl ?_
            intro T449 X449 e449
            refine own_astore X449 hx (hb hby at_124) rfl (l' := #[.val (.int u0), .val (.ref a1), .val (.ref a4), .val (.ref a7), .val (.ref a11), .val (.ref a16), .val (.ref a7), .val (.ref a4), .unset, .unset, .unset, .unset]) rfl (pc' := 126) rfl ?_
            refine own_aloadN X449 hx (hb hby at_126) rfl rfl (pc' := 127) rfl ?_
            have f450 : Fld Z h445 a1 "com/example/slot3/slot3/frame/PostChain" "count" "I" (.int (((0 : Int32) + (1 : Int32)) + (1 : Int32))) := ((p401_2.other W442 (Or.inl (Nat.ne_of_lt lt_a1_a11))).other W445 (Or.inl (Nat.ne_of_lt lt_a1_a11)))
            refine own_getF X449 hx hZ hown (ow_20 hw) e449 f450 (hb hby at_127) (pc' := 130) rfl ?_
            intro T451 X451 e451
            refine own_istore X451 hx (hb hby at_130) (l' := #[.val (.int u0), .val (.ref a1), .val (.ref a4), .val (.ref a7), .val (.ref a11), .val (.ref a16), .val (.ref a7), .val (.ref a4), .val (.int (((0 : Int32) + (1 : Int32)) + (1 : Int32))), .unset, .unset, .unset]) rfl (pc' := 132) rfl ?_
            refine own_aload X451 hx (hb hby at_132) rfl rfl (pc' := 134) rfl ?_
            refine own_ifnonnullT X451 hx (hb hby at_134) (by decide) (pc' := 141) rfl ?_
            refine own_aload X451 hx (hb hby at_141) rfl rfl (pc' := 143) rfl ?_
            have f452 : Fld Z h445 a7 "com/example/slot3/slot3/frame/Post" "following" "Lcom/example/slot3/slot3/frame/Post;" (.ref a4) := ((p401_3.other W442 (Or.inl (Nat.ne_of_lt lt_a7_a11))).other W445 (Or.inl (Nat.ne_of_lt lt_a7_a11)))
            refine own_getF X451 hx hZ hown (ow_37 hw) e451 f452 (hb hby at_143) (pc' := 146) rfl ?_
            intro T453 X453 e453
            refine own_astore X453 hx (hb hby at_146) rfl (l' := #[.val (.int u0), .val (.ref a1), .val (.ref a4), .val (.ref a7), .val (.ref a11), .val (.ref a16), .val (.ref a7), .val (.ref a4), .val (.int (((0 : Int32) + (1 : Int32)) + (1 : Int32))), .val (.ref a4), .unset, .unset]) rfl (pc' := 148) rfl ?_
            refine own_aload X453 hx (hb hby at_148) rfl rfl (pc' := 150) rfl ?_
            refine own_ifnonnullT X453 hx (hb hby at_150) (by decide) (pc' := 157) rfl ?_
            refine own_aload X453 hx (hb hby at_157) rfl rfl (pc' := 159) rfl ?_
            have f454 : Fld Z h445 a4 "com/example/slot3/slot3/frame/Post" "following" "Lcom/example/slot3/slot3/frame/Post;" (.null) := ((p401_6.other W442 (Or.inl (Nat.ne_of_lt lt_a4_a11))).other W445 (Or.inl (Nat.ne_of_lt lt_a4_a11)))
            refine own_getF X453 hx hZ hown (ow_37 hw) e453 f454 (hb hby at_159) (pc' := 162) rfl ?_
            intro T455 X455 e455
            refine own_astore X455 hx (hb hby at_162) rfl (l' := #[.val (.int u0), .val (.ref a1), .val (.ref a4), .val (.ref a7), .val (.ref a11), .val (.ref a16), .val (.ref a7), .val (.ref a4), .val (.int (((0 : Int32) + (1 : Int32)) + (1 : Int32))), .val (.ref a4), .val (.null), .unset]) rfl (pc' := 164) rfl ?_
            refine own_aloadN X455 hx (hb hby at_164) rfl rfl (pc' := 165) rfl ?_
            refine own_aload X455 hx (hb hby at_165) rfl rfl (pc' := 167) rfl ?_
            have f457 : Exa Z h445 a1 "com/example/slot3/slot3/frame/PostChain" := (((f402.keep K401).wr W442).wr W445)
            have f458 : Exa Z h445 a11 "com/example/slot3/slot3/frame/Post" := (f444.wr W445)
            have f459 : Exa Z h445 a7 "com/example/slot3/slot3/frame/Post" := (((f403.keep K401).wr W442).wr W445)
            have f460 : Fld Z h445 a11 "com/example/slot3/slot3/frame/Post" "previous" "Lcom/example/slot3/slot3/frame/Post;" (.ref a16) := ((f440.same W442).other W445 (Or.inr (osn_10 hw)))
            have f461 : Fld Z h445 a11 "com/example/slot3/slot3/frame/Post" "chain" "Lcom/example/slot3/slot3/frame/PostChain;" (.null) := (((((F11_chain.ext E16).keep K239 (ninS (Nat.ne_of_gt lt_a1_a11) (ninS (Nat.ne_of_gt lt_a4_a11) nin0))).keep K401 (ninS (Nat.ne_of_gt lt_a1_a11) (ninS (Nat.ne_of_gt lt_a7_a11) (ninS (Nat.ne_of_gt lt_a4_a11) nin0)))).other W442 (Or.inr (osn_1 hw))).other W445 (Or.inr (osn_11 hw)))
            have f462 : Fld Z h445 a7 "com/example/slot3/slot3/frame/Post" "previous" "Lcom/example/slot3/slot3/frame/Post;" (.null) := ((p401_4.other W442 (Or.inl (Nat.ne_of_lt lt_a7_a11))).other W445 (Or.inl (Nat.ne_of_lt lt_a7_a11)))
            have f463 : Fld Z h445 a7 "com/example/slot3/slot3/frame/Post" "chain" "Lcom/example/slot3/slot3/frame/PostChain;" (.ref a1) := ((p401_5.other W442 (Or.inl (Nat.ne_of_lt lt_a7_a11))).other W445 (Or.inl (Nat.ne_of_lt lt_a7_a11)))
            have z464 : n0 ≤ h445.size := (Nat.le_trans (Nat.le_trans (Nat.le_trans z408 K401.1) (Nat.le_of_eq (Wr.size W442).symm)) (Nat.le_of_eq (Wr.size W445).symm))
            refine own_callV X455 hx hZ hown (ow_22 hw) (ow_23 hw) (ow_25 hw) (ow_24 hw) (ow_2 hw) (ow_26 hw) (by decide) f457 (rm_pu2 l Z a0 hw a1 a11 a7 (((0 : Int32) + (1 : Int32)) + (1 : Int32)) (.ref a4) (.ref a16) (.ref a16) .null (.ref a4) .null (.ref a1) h445 n0 z464 f457 f458 f446 f448 f450 f459 (f443.same W445) f460 f461 f452 f462 f463 ge_a1 ge_a11 ge_a7 (Nat.ne_of_lt lt_a1_a11) (Nat.ne_of_lt lt_a1_a7) (Nat.ne_of_gt lt_a7_a11)) e455 (W := 0) (by decide) (by decide) opd__Lcom_example_slot3_slot3_frame_Post__V rfl (rest := []) rfl (hb hby at_167) (Nat.le_of_eq rfl) (by rw [hml]; rfl) (by decide) (by decide) (pc' := 170) rfl ?_
            intro v456 T456 L456 X456 q456
            obtain ⟨rfl, Nq456, K456, p456_0, p456_1, p456_2, p456_3, p456_4, p456_5, p456_6, p456_7, p456_8⟩ := q456
            have N456 := Fr.app N445 Nq456
            show own_G p e below s _ _ _ (T456.setTop (mkF m 170 #[.val (.int u0), .val (.ref a1), .val (.ref a4), .val (.ref a7), .val (.ref a11), .val (.ref a16), .val (.ref a7), .val (.ref a4), .val (.int (((0 : Int32) + (1 : Int32)) + (1 : Int32))), .val (.ref a4), .val (.null), .unset] []))
            refine own_aloadN X456 hx (hb hby at_170) rfl rfl (pc' := 171) rfl ?_
            refine own_getF X456 hx hZ hown (ow_16 hw) rfl p456_0 (hb hby at_171) (pc' := 174) rfl ?_
            intro T465 X465 e465
            refine own_aload X465 hx (hb hby at_174) rfl rfl (pc' := 176) rfl ?_
            refine own_acmpF X465 hx (hb hby at_176) rfl rfl (by simp [XT.acmp]) (pc' := 179) rfl ?_
            refine own_aload X465 hx (hb hby at_179) rfl rfl (pc' := 181) rfl ?_
            refine own_getF X465 hx hZ hown (ow_36 hw) e465 p456_4 (hb hby at_181) (pc' := 184) rfl ?_
            intro T466 X466 e466
            refine own_ifnonnullF X466 hx (hb hby at_184) (pc' := 187) rfl ?_
            refine own_aload X466 hx (hb hby at_187) rfl rfl (pc' := 189) rfl ?_
            refine own_getF X466 hx hZ hown (ow_37 hw) e466 p456_3 (hb hby at_189) (pc' := 192) rfl ?_
            intro T467 X467 e467
            refine own_aload X467 hx (hb hby at_192) rfl rfl (pc' := 194) rfl ?_
            refine own_acmpF X467 hx (hb hby at_194) rfl rfl (by simp [XT.acmp]) (pc' := 197) rfl ?_
            refine own_aload X467 hx (hb hby at_197) rfl rfl (pc' := 199) rfl ?_
            refine own_getF X467 hx hZ hown (ow_38 hw) e467 p456_5 (hb hby at_199) (pc' := 202) rfl ?_
            intro T468 X468 e468
            refine own_aloadN X468 hx (hb hby at_202) rfl rfl (pc' := 203) rfl ?_
            refine own_acmpF X468 hx (hb hby at_203) rfl rfl (by simp [XT.acmp]) (pc' := 206) rfl ?_
            refine own_aloadN X468 hx (hb hby at_206) rfl rfl (pc' := 207) rfl ?_
            refine own_getF X468 hx hZ hown (ow_20 hw) e468 p456_2 (hb hby at_207) (pc' := 210) rfl ?_
            intro T469 X469 e469
            refine own_iload X469 hx (hb hby at_210) rfl (pc' := 212) rfl ?_
            refine own_iconst X469 hx (hb hby at_212) (z := (1 : Int32)) rfl (pc' := 213) rfl ?_
            refine own_iadd X469 hx (hb hby at_213) (pc' := 214) rfl ?_
            refine own_icmpF X469 hx (hb hby at_214) (by decide) (pc' := 217) rfl ?_
            refine own_iconst X469 hx (hb hby at_217) (z := (1 : Int32)) rfl (pc' := 218) rfl ?_
            refine own_goto X469 hx (hb hby at_218) (by decide) (pc' := 222) rfl ?_
            refine own_istore X469 hx (hb hby at_222) (l' := #[.val (.int u0), .val (.ref a1), .val (.ref a4), .val (.ref a7), .val (.ref a11), .val (.ref a16), .val (.ref a7), .val (.ref a4), .val (.int (((0 : Int32) + (1 : Int32)) + (1 : Int32))), .val (.ref a4), .val (.null), .val (.int (1 : Int32))]) rfl (pc' := 224) rfl ?_
            refine own_aload X469 hx (hb hby at_224) rfl rfl (pc' := 226) rfl ?_
            refine own_ifnonnullT X469 hx (hb hby at_226) (by decide) (pc' := 253) rfl ?_
            refine own_iload X469 hx (hb hby at_253) rfl (pc' := 255) rfl ?_
            refine own_ifF X469 hx (hb hby at_255) (by decide) (pc' := 258) rfl ?_
            refine own_aloadN X469 hx (hb hby at_258) rfl rfl (pc' := 259) rfl ?_
            refine own_getF X469 hx hZ hown (ow_18 hw) e469 p456_1 (hb hby at_259) (pc' := 262) rfl ?_
            intro T470 X470 e470
            refine own_aload X470 hx (hb hby at_262) rfl rfl (pc' := 264) rfl ?_
            refine own_acmpF X470 hx (hb hby at_264) rfl rfl (by simp [XT.acmp]) (pc' := 267) rfl ?_
            refine own_aload X470 hx (hb hby at_267) rfl rfl (pc' := 269) rfl ?_
            refine own_getF X470 hx hZ hown (ow_36 hw) e470 p456_7 (hb hby at_269) (pc' := 272) rfl ?_
            intro T471 X471 e471
            refine own_aload X471 hx (hb hby at_272) rfl rfl (pc' := 274) rfl ?_
            refine own_acmpF X471 hx (hb hby at_274) rfl rfl (by simp [XT.acmp]) (pc' := 277) rfl ?_
            refine own_aload X471 hx (hb hby at_277) rfl rfl (pc' := 279) rfl ?_
            refine own_getF X471 hx hZ hown (ow_37 hw) e471 p456_6 (hb hby at_279) (pc' := 282) rfl ?_
            intro T472 X472 e472
            refine own_aload X472 hx (hb hby at_282) rfl rfl (pc' := 284) rfl ?_
            refine own_acmpF X472 hx (hb hby at_284) rfl rfl (by simp [XT.acmp]) (pc' := 287) rfl ?_
            refine own_aload X472 hx (hb hby at_287) rfl rfl (pc' := 289) rfl ?_
            refine own_getF X472 hx hZ hown (ow_38 hw) e472 p456_8 (hb hby at_289) (pc' := 292) rfl ?_
            intro T473 X473 e473
            refine own_aloadN X473 hx (hb hby at_292) rfl rfl (pc' := 293) rfl ?_
            refine own_acmpF X473 hx (hb hby at_293) rfl rfl (by simp [XT.acmp]) (pc' := 296) rfl ?_
            refine own_iconst X473 hx (hb hby at_296) (z := (1 : Int32)) rfl (pc' := 297) rfl ?_
            refine own_goto X473 hx (hb hby at_297) (by decide) (pc' := 301) rfl ?_
            refine own_istore X473 hx (hb hby at_301) (l' := #[.val (.int u0), .val (.ref a1), .val (.ref a4), .val (.ref a7), .val (.ref a11), .val (.ref a16), .val (.ref a7), .val (.ref a4), .val (.int (((0 : Int32) + (1 : Int32)) + (1 : Int32))), .val (.ref a4), .val (.null), .val (.int (1 : Int32))]) rfl (pc' := 303) rfl ?_
            refine own_iload X473 hx (hb hby at_303) rfl (pc' := 305) rfl ?_
            refine own_ifF X473 hx (hb hby at_305) (by decide) (pc' := 308) rfl ?_
            refine own_aload X473 hx (hb hby at_308) rfl rfl (pc' := 310) rfl ?_
            refine own_ifnullF X473 hx (hb hby at_310) (pc' := 313) rfl ?_
            refine own_aload X473 hx (hb hby at_313) rfl rfl (pc' := 315) rfl ?_
            have f474 : Fld Z T456.heap a4 "com/example/slot3/slot3/frame/Post" "following" "Lcom/example/slot3/slot3/frame/Post;" (.null) := (f454.keep K456 (ninS (Nat.ne_of_gt lt_a1_a4) (ninS (Nat.ne_of_lt lt_a4_a11) (ninS (Nat.ne_of_lt lt_a4_a7) nin0))))
            refine own_getF X473 hx hZ hown (ow_37 hw) e473 f474 (hb hby at_315) (pc' := 318) rfl ?_
            intro T475 X475 e475
            refine own_aload X475 hx (hb hby at_318) rfl rfl (pc' := 320) rfl ?_
            refine own_acmpF X475 hx (hb hby at_320) rfl rfl (by simp [XT.acmp]) (pc' := 323) rfl ?_
            refine own_iconst X475 hx (hb hby at_323) (z := (1 : Int32)) rfl (pc' := 324) rfl ?_
            refine own_goto X475 hx (hb hby at_324) (by decide) (pc' := 328) rfl ?_
            refine own_istore X475 hx (hb hby at_328) (l' := #[.val (.int u0), .val (.ref a1), .val (.ref a4), .val (.ref a7), .val (.ref a11), .val (.ref a16), .val (.ref a7), .val (.ref a4), .val (.int (((0 : Int32) + (1 : Int32)) + (1 : Int32))), .val (.ref a4), .val (.null), .val (.int (1 : Int32))]) rfl (pc' := 330) rfl ?_
            refine own_iload X475 hx (hb hby at_330) rfl (pc' := 332) rfl ?_
            refine own_ifF X475 hx (hb hby at_332) (by decide) (pc' := 335) rfl ?_
            refine own_aload X475 hx (hb hby at_335) rfl rfl (pc' := 337) rfl ?_
            have f476 : Fld Z T456.heap a16 "com/example/slot3/slot3/frame/Post" "following" "Lcom/example/slot3/slot3/frame/Post;" (.null) := (((((F16_following.keep K239 (ninS (Nat.ne_of_gt lt_a1_a16) (ninS (Nat.ne_of_gt lt_a4_a16) nin0))).keep K401 (ninS (Nat.ne_of_gt lt_a1_a16) (ninS (Nat.ne_of_gt lt_a7_a16) (ninS (Nat.ne_of_gt lt_a4_a16) nin0)))).other W442 (Or.inl (Nat.ne_of_gt lt_a11_a16))).other W445 (Or.inl (Nat.ne_of_gt lt_a11_a16))).keep K456 (ninS (Nat.ne_of_gt lt_a1_a16) (ninS (Nat.ne_of_gt lt_a11_a16) (ninS (Nat.ne_of_gt lt_a7_a16) nin0))))
            refine own_getF X475 hx hZ hown (ow_37 hw) e475 f476 (hb hby at_337) (pc' := 340) rfl ?_
            intro T477 X477 e477
            refine own_ifnonnullF X477 hx (hb hby at_340) (pc' := 343) rfl ?_
            refine own_aload X477 hx (hb hby at_343) rfl rfl (pc' := 345) rfl ?_
            have f478 : Fld Z T456.heap a16 "com/example/slot3/slot3/frame/Post" "previous" "Lcom/example/slot3/slot3/frame/Post;" (.null) := (((((F16_previous.keep K239 (ninS (Nat.ne_of_gt lt_a1_a16) (ninS (Nat.ne_of_gt lt_a4_a16) nin0))).keep K401 (ninS (Nat.ne_of_gt lt_a1_a16) (ninS (Nat.ne_of_gt lt_a7_a16) (ninS (Nat.ne_of_gt lt_a4_a16) nin0)))).other W442 (Or.inl (Nat.ne_of_gt lt_a11_a16))).other W445 (Or.inl (Nat.ne_of_gt lt_a11_a16))).keep K456 (ninS (Nat.ne_of_gt lt_a1_a16) (ninS (Nat.ne_of_gt lt_a11_a16) (ninS (Nat.ne_of_gt lt_a7_a16) nin0))))
            refine own_getF X477 hx hZ hown (ow_36 hw) e477 f478 (hb hby at_345) (pc' := 348) rfl ?_
            intro T479 X479 e479
            refine own_ifnonnullF X479 hx (hb hby at_348) (pc' := 351) rfl ?_
            refine own_aload X479 hx (hb hby at_351) rfl rfl (pc' := 353) rfl ?_
            have f480 : Fld Z T456.heap a16 "com/example/slot3/slot3/frame/Post" "chain" "Lcom/example/slot3/slot3/frame/PostChain;" (.null) := (((((F16_chain.keep K239 (ninS (Nat.ne_of_gt lt_a1_a16) (ninS (Nat.ne_of_gt lt_a4_a16) nin0))).keep K401 (ninS (Nat.ne_of_gt lt_a1_a16) (ninS (Nat.ne_of_gt lt_a7_a16) (ninS (Nat.ne_of_gt lt_a4_a16) nin0)))).other W442 (Or.inl (Nat.ne_of_gt lt_a11_a16))).other W445 (Or.inl (Nat.ne_of_gt lt_a11_a16))).keep K456 (ninS (Nat.ne_of_gt lt_a1_a16) (ninS (Nat.ne_of_gt lt_a11_a16) (ninS (Nat.ne_of_gt lt_a7_a16) nin0))))
            refine own_getF X479 hx hZ hown (ow_38 hw) e479 f480 (hb hby at_353) (pc' := 356) rfl ?_
            intro T481 X481 e481
            refine own_ifnonnullF X481 hx (hb hby at_356) (pc' := 359) rfl ?_
            refine own_iconst X481 hx (hb hby at_359) (z := (1 : Int32)) rfl (pc' := 360) rfl ?_
            refine own_goto X481 hx (hb hby at_360) (by decide) (pc' := 364) rfl ?_
            refine own_istore X481 hx (hb hby at_364) (l' := #[.val (.int u0), .val (.ref a1), .val (.ref a4), .val (.ref a7), .val (.ref a11), .val (.ref a16), .val (.ref a7), .val (.ref a4), .val (.int (((0 : Int32) + (1 : Int32)) + (1 : Int32))), .val (.ref a4), .val (.null), .val (.int (1 : Int32))]) rfl (pc' := 366) rfl ?_
            refine own_iload X481 hx (hb hby at_366) rfl (pc' := 368) rfl ?_
            exact own_retZ X481 hx hret hlk (Or.inr rfl) (hb hby at_368) ⟨rfl, N456⟩ (by decide) (by decide)
    · refine own_ifF X20 hx (hb hby at_51) (feq c238).1 (pc' := 54) rfl ?_
      refine own_aloadN X20 hx (hb hby at_54) rfl rfl (pc' := 55) rfl ?_
      refine own_aloadN X20 hx (hb hby at_55) rfl rfl (pc' := 56) rfl ?_
      have f483 : Exa Z h16 a1 "com/example/slot3/slot3/frame/PostChain" := (f17.ext E16)
      have f484 : Exa Z h16 a4 "com/example/slot3/slot3/frame/Post" := (f18.ext E16)
      have f485 : Fld Z h16 a1 "com/example/slot3/slot3/frame/PostChain" "first" "Lcom/example/slot3/slot3/frame/Post;" (.null) := ((((F1_first.ext E4).ext E7).ext E11).ext E16)
      have f486 : Fld Z h16 a1 "com/example/slot3/slot3/frame/PostChain" "last" "Lcom/example/slot3/slot3/frame/Post;" (.null) := ((((F1_last.ext E4).ext E7).ext E11).ext E16)
      have f487 : Fld Z h16 a1 "com/example/slot3/slot3/frame/PostChain" "count" "I" (.int (0 : Int32)) := ((((F1_count.ext E4).ext E7).ext E11).ext E16)
      have f488 : Fld Z h16 a4 "com/example/slot3/slot3/frame/Post" "following" "Lcom/example/slot3/slot3/frame/Post;" (.null) := (((F4_following.ext E7).ext E11).ext E16)
      have f489 : Fld Z h16 a4 "com/example/slot3/slot3/frame/Post" "previous" "Lcom/example/slot3/slot3/frame/Post;" (.null) := (((F4_previous.ext E7).ext E11).ext E16)
      have f490 : Fld Z h16 a4 "com/example/slot3/slot3/frame/Post" "chain" "Lcom/example/slot3/slot3/frame/PostChain;" (.null) := (((F4_chain.ext E7).ext E11).ext E16)
      refine own_callV X20 hx hZ hown (ow_22 hw) (ow_23 hw) (ow_25 hw) (ow_24 hw) (ow_2 hw) (ow_26 hw) (by decide) f483 (rm_pu1 l Z a0 hw a1 a4 (0 : Int32) .null .null .null .null h16 n0 z21 f483 f484 f485 f486 f487 f488 f489 f490 ge_a1 ge_a4 (Nat.ne_of_lt lt_a1_a4)) eh20 (W := 0) (by decide) (by decide) opd__Lcom_example_slot3_slot3_frame_Post__V rfl (rest := []) rfl (hb hby at_56) (Nat.le_of_eq rfl) (by rw [hml]; rfl) (by decide) (by decide) (pc' := 59) rfl ?_
      intro v482 T482 L482 X482 q482
      obtain ⟨rfl, Nq482, K482, p482_0, p482_1, p482_2, p482_3, p482_4, p482_5⟩ := q482
      have N482 := Fr.app N20 Nq482
      show own_G p e below s _ _ _ (T482.setTop (mkF m 59 #[.val (.int u0), .val (.ref a1), .val (.ref a4), .val (.ref a7), .val (.ref a11), .val (.ref a16), .unset, .unset, .unset, .unset, .unset, .unset] []))
      refine own_goto X482 hx (hb hby at_59) (by decide) (pc' := 67) rfl ?_
      refine own_iloadN X482 hx (hb hby at_67) rfl (pc' := 68) rfl ?_
      refine own_iconst X482 hx (hb hby at_68) (z := (2 : Int32)) rfl (pc' := 69) rfl ?_
      refine own_iand X482 hx (hb hby at_69) (pc' := 70) rfl ?_
      by_cases c491 : (u0 &&& (2 : Int32)) = (0 : Int32)
      · refine own_ifT X482 hx (hb hby at_70) (teq c491).1 (by decide) (pc' := 93) rfl ?_
        refine own_iloadN X482 hx (hb hby at_93) rfl (pc' := 94) rfl ?_
        refine own_bipush X482 hx (hb hby at_94) (z := (16 : Int32)) (by decide) (pc' := 96) rfl ?_
        refine own_iand X482 hx (hb hby at_96) (pc' := 97) rfl ?_
        by_cases c492 : (u0 &&& (16 : Int32)) = (0 : Int32)
        · refine own_ifT X482 hx (hb hby at_97) (teq c492).1 (by decide) (pc' := 114) rfl ?_
          refine own_aloadN X482 hx (hb hby at_114) rfl rfl (pc' := 115) rfl ?_
          refine own_getF X482 hx hZ hown (ow_16 hw) rfl p482_0 (hb hby at_115) (pc' := 118) rfl ?_
          intro T493 X493 e493
          refine own_astore X493 hx (hb hby at_118) rfl (l' := #[.val (.int u0), .val (.ref a1), .val (.ref a4), .val (.ref a7), .val (.ref a11), .val (.ref a16), .val (.ref a4), .unset, .unset, .unset, .unset, .unset]) rfl (pc' := 120) rfl ?_
          refine own_aloadN X493 hx (hb hby at_120) rfl rfl (pc' := 121) rfl ?_
          refine own_getF X493 hx hZ hown (ow_18 hw) e493 p482_1 (hb hby at_121) (pc' := 124) rfl ?_
          intro T494 X494 e494
          refine own_astore X494 hx (hb hby at_124) rfl (l' := #[.val (.int u0), .val (.ref a1), .val (.ref a4), .val (.ref a7), .val (.ref a11), .val (.ref a16), .val (.ref a4), .val (.ref a4), .unset, .unset, .unset, .unset]) rfl (pc' := 126) rfl ?_
          refine own_aloadN X494 hx (hb hby at_126) rfl rfl (pc' := 127) rfl ?_
          refine own_getF X494 hx hZ hown (ow_20 hw) e494 p482_2 (hb hby at_127) (pc' := 130) rfl ?_
          intro T495 X495 e495
          refine own_istore X495 hx (hb hby at_130) (l' := #[.val (.int u0), .val (.ref a1), .val (.ref a4), .val (.ref a7), .val (.ref a11), .val (.ref a16), .val (.ref a4), .val (.ref a4), .val (.int ((0 : Int32) + (1 : Int32))), .unset, .unset, .unset]) rfl (pc' := 132) rfl ?_
          refine own_aload X495 hx (hb hby at_132) rfl rfl (pc' := 134) rfl ?_
          refine own_ifnonnullT X495 hx (hb hby at_134) (by decide) (pc' := 141) rfl ?_
          refine own_aload X495 hx (hb hby at_141) rfl rfl (pc' := 143) rfl ?_
          refine own_getF X495 hx hZ hown (ow_37 hw) e495 p482_3 (hb hby at_143) (pc' := 146) rfl ?_
          intro T496 X496 e496
          refine own_astore X496 hx (hb hby at_146) rfl (l' := #[.val (.int u0), .val (.ref a1), .val (.ref a4), .val (.ref a7), .val (.ref a11), .val (.ref a16), .val (.ref a4), .val (.ref a4), .val (.int ((0 : Int32) + (1 : Int32))), .val (.null), .unset, .unset]) rfl (pc' := 148) rfl ?_
          refine own_aload X496 hx (hb hby at_148) rfl rfl (pc' := 150) rfl ?_
          refine own_ifnonnullT X496 hx (hb hby at_150) (by decide) (pc' := 157) rfl ?_
          refine own_aload X496 hx (hb hby at_157) rfl rfl (pc' := 159) rfl ?_
          refine own_getF X496 hx hZ hown (ow_37 hw) e496 p482_3 (hb hby at_159) (pc' := 162) rfl ?_
          intro T497 X497 e497
          refine own_astore X497 hx (hb hby at_162) rfl (l' := #[.val (.int u0), .val (.ref a1), .val (.ref a4), .val (.ref a7), .val (.ref a11), .val (.ref a16), .val (.ref a4), .val (.ref a4), .val (.int ((0 : Int32) + (1 : Int32))), .val (.null), .val (.null), .unset]) rfl (pc' := 164) rfl ?_
          refine own_aloadN X497 hx (hb hby at_164) rfl rfl (pc' := 165) rfl ?_
          refine own_aload X497 hx (hb hby at_165) rfl rfl (pc' := 167) rfl ?_
          have f499 : Exa Z T482.heap a1 "com/example/slot3/slot3/frame/PostChain" := (f483.keep K482)
          have f500 : Exa Z T482.heap a11 "com/example/slot3/slot3/frame/Post" := ((A11.ext E16).keep K482)
          have f501 : Exa Z T482.heap a4 "com/example/slot3/slot3/frame/Post" := (f484.keep K482)
          have f502 : Fld Z T482.heap a11 "com/example/slot3/slot3/frame/Post" "following" "Lcom/example/slot3/slot3/frame/Post;" (.null) := ((F11_following.ext E16).keep K482 (ninS (Nat.ne_of_gt lt_a1_a11) (ninS (Nat.ne_of_gt lt_a4_a11) nin0)))
          have f503 : Fld Z T482.heap a11 "com/example/slot3/slot3/frame/Post" "previous" "Lcom/example/slot3/slot3/frame/Post;" (.null) := ((F11_previous.ext E16).keep K482 (ninS (Nat.ne_of_gt lt_a1_a11) (ninS (Nat.ne_of_gt lt_a4_a11) nin0)))
          have f504 : Fld Z T482.heap a11 "com/example/slot3/slot3/frame/Post" "chain" "Lcom/example/slot3/slot3/frame/PostChain;" (.null) := ((F11_chain.ext E16).keep K482 (ninS (Nat.ne_of_gt lt_a1_a11) (ninS (Nat.ne_of_gt lt_a4_a11) nin0)))
          have z505 : n0 ≤ T482.heap.size := (Nat.le_trans z21 K482.1)
          refine own_callV X497 hx hZ hown (ow_22 hw) (ow_23 hw) (ow_25 hw) (ow_24 hw) (ow_2 hw) (ow_26 hw) (by decide) f499 (rm_pu2 l Z a0 hw a1 a11 a4 ((0 : Int32) + (1 : Int32)) (.ref a4) .null .null .null .null .null (.ref a1) T482.heap n0 z505 f499 f500 p482_0 p482_1 p482_2 f501 f502 f503 f504 p482_3 p482_4 p482_5 ge_a1 ge_a11 ge_a4 (Nat.ne_of_lt lt_a1_a11) (Nat.ne_of_lt lt_a1_a4) (Nat.ne_of_gt lt_a4_a11)) e497 (W := 0) (by decide) (by decide) opd__Lcom_example_slot3_slot3_frame_Post__V rfl (rest := []) rfl (hb hby at_167) (Nat.le_of_eq rfl) (by rw [hml]; rfl) (by decide) (by decide) (pc' := 170) rfl ?_
          intro v498 T498 L498 X498 q498
          obtain ⟨rfl, Nq498, K498, p498_0, p498_1, p498_2, p498_3, p498_4, p498_5, p498_6, p498_7, p498_8⟩ := q498
          have N498 := Fr.app N482 Nq498
          show own_G p e below s _ _ _ (T498.setTop (mkF m 170 #[.val (.int u0), .val (.ref a1), .val (.ref a4), .val (.ref a7), .val (.ref a11), .val (.ref a16), .val (.ref a4), .val (.ref a4), .val (.int ((0 : Int32) + (1 : Int32))), .val (.null), .val (.null), .unset] []))
          refine own_aloadN X498 hx (hb hby at_170) rfl rfl (pc' := 171) rfl ?_
          refine own_getF X498 hx hZ hown (ow_16 hw) rfl p498_0 (hb hby at_171) (pc' := 174) rfl ?_
          intro T506 X506 e506
          refine own_aload X506 hx (hb hby at_174) rfl rfl (pc' := 176) rfl ?_
          refine own_acmpF X506 hx (hb hby at_176) rfl rfl (by simp [XT.acmp]) (pc' := 179) rfl ?_
          refine own_aload X506 hx (hb hby at_179) rfl rfl (pc' := 181) rfl ?_
          refine own_getF X506 hx hZ hown (ow_36 hw) e506 p498_4 (hb hby at_181) (pc' := 184) rfl ?_
          intro T507 X507 e507
          refine own_ifnonnullF X507 hx (hb hby at_184) (pc' := 187) rfl ?_
          refine own_aload X507 hx (hb hby at_187) rfl rfl (pc' := 189) rfl ?_
          refine own_getF X507 hx hZ hown (ow_37 hw) e507 p498_3 (hb hby at_189) (pc' := 192) rfl ?_
          intro T508 X508 e508
          refine own_aload X508 hx (hb hby at_192) rfl rfl (pc' := 194) rfl ?_
          refine own_acmpF X508 hx (hb hby at_194) rfl rfl (by simp [XT.acmp]) (pc' := 197) rfl ?_
          refine own_aload X508 hx (hb hby at_197) rfl rfl (pc' := 199) rfl ?_
          refine own_getF X508 hx hZ hown (ow_38 hw) e508 p498_5 (hb hby at_199) (pc' := 202) rfl ?_
          intro T509 X509 e509
          refine own_aloadN X509 hx (hb hby at_202) rfl rfl (pc' := 203) rfl ?_
          refine own_acmpF X509 hx (hb hby at_203) rfl rfl (by simp [XT.acmp]) (pc' := 206) rfl ?_
          refine own_aloadN X509 hx (hb hby at_206) rfl rfl (pc' := 207) rfl ?_
          refine own_getF X509 hx hZ hown (ow_20 hw) e509 p498_2 (hb hby at_207) (pc' := 210) rfl ?_
          intro T510 X510 e510
          refine own_iload X510 hx (hb hby at_210) rfl (pc' := 212) rfl ?_
          refine own_iconst X510 hx (hb hby at_212) (z := (1 : Int32)) rfl (pc' := 213) rfl ?_
          refine own_iadd X510 hx (hb hby at_213) (pc' := 214) rfl ?_
          refine own_icmpF X510 hx (hb hby at_214) (by decide) (pc' := 217) rfl ?_
          refine own_iconst X510 hx (hb hby at_217) (z := (1 : Int32)) rfl (pc' := 218) rfl ?_
          refine own_goto X510 hx (hb hby at_218) (by decide) (pc' := 222) rfl ?_
          refine own_istore X510 hx (hb hby at_222) (l' := #[.val (.int u0), .val (.ref a1), .val (.ref a4), .val (.ref a7), .val (.ref a11), .val (.ref a16), .val (.ref a4), .val (.ref a4), .val (.int ((0 : Int32) + (1 : Int32))), .val (.null), .val (.null), .val (.int (1 : Int32))]) rfl (pc' := 224) rfl ?_
          refine own_aload X510 hx (hb hby at_224) rfl rfl (pc' := 226) rfl ?_
          refine own_ifnonnullT X510 hx (hb hby at_226) (by decide) (pc' := 253) rfl ?_
          refine own_iload X510 hx (hb hby at_253) rfl (pc' := 255) rfl ?_
          refine own_ifF X510 hx (hb hby at_255) (by decide) (pc' := 258) rfl ?_
          refine own_aloadN X510 hx (hb hby at_258) rfl rfl (pc' := 259) rfl ?_
          refine own_getF X510 hx hZ hown (ow_18 hw) e510 p498_1 (hb hby at_259) (pc' := 262) rfl ?_
          intro T511 X511 e511
          refine own_aload X511 hx (hb hby at_262) rfl rfl (pc' := 264) rfl ?_
          refine own_acmpF X511 hx (hb hby at_264) rfl rfl (by simp [XT.acmp]) (pc' := 267) rfl ?_
          refine own_aload X511 hx (hb hby at_267) rfl rfl (pc' := 269) rfl ?_
          refine own_getF X511 hx hZ hown (ow_36 hw) e511 p498_7 (hb hby at_269) (pc' := 272) rfl ?_
          intro T512 X512 e512
          refine own_aload X512 hx (hb hby at_272) rfl rfl (pc' := 274) rfl ?_
          refine own_acmpF X512 hx (hb hby at_274) rfl rfl (by simp [XT.acmp]) (pc' := 277) rfl ?_
          refine own_aload X512 hx (hb hby at_277) rfl rfl (pc' := 279) rfl ?_
          refine own_getF X512 hx hZ hown (ow_37 hw) e512 p498_6 (hb hby at_279) (pc' := 282) rfl ?_
          intro T513 X513 e513
          refine own_aload X513 hx (hb hby at_282) rfl rfl (pc' := 284) rfl ?_
          refine own_acmpF X513 hx (hb hby at_284) rfl rfl (by simp [XT.acmp]) (pc' := 287) rfl ?_
          refine own_aload X513 hx (hb hby at_287) rfl rfl (pc' := 289) rfl ?_
          refine own_getF X513 hx hZ hown (ow_38 hw) e513 p498_8 (hb hby at_289) (pc' := 292) rfl ?_
          intro T514 X514 e514
          refine own_aloadN X514 hx (hb hby at_292) rfl rfl (pc' := 293) rfl ?_
          refine own_acmpF X514 hx (hb hby at_293) rfl rfl (by simp [XT.acmp]) (pc' := 296) rfl ?_
          refine own_iconst X514 hx (hb hby at_296) (z := (1 : Int32)) rfl (pc' := 297) rfl ?_
          refine own_goto X514 hx (hb hby at_297) (by decide) (pc' := 301) rfl ?_
          refine own_istore X514 hx (hb hby at_301) (l' := #[.val (.int u0), .val (.ref a1), .val (.ref a4), .val (.ref a7), .val (.ref a11), .val (.ref a16), .val (.ref a4), .val (.ref a4), .val (.int ((0 : Int32) + (1 : Int32))), .val (.null), .val (.null), .val (.int (1 : Int32))]) rfl (pc' := 303) rfl ?_
          refine own_iload X514 hx (hb hby at_303) rfl (pc' := 305) rfl ?_
          refine own_ifF X514 hx (hb hby at_305) (by decide) (pc' := 308) rfl ?_
          refine own_aload X514 hx (hb hby at_308) rfl rfl (pc' := 310) rfl ?_
          refine own_ifnullF X514 hx (hb hby at_310) (pc' := 313) rfl ?_
          refine own_aload X514 hx (hb hby at_313) rfl rfl (pc' := 315) rfl ?_
          refine own_getF X514 hx hZ hown (ow_37 hw) e514 p498_6 (hb hby at_315) (pc' := 318) rfl ?_
          intro T515 X515 e515
          refine own_aload X515 hx (hb hby at_318) rfl rfl (pc' := 320) rfl ?_
          refine own_acmpF X515 hx (hb hby at_320) rfl rfl (by simp [XT.acmp]) (pc' := 323) rfl ?_
          refine own_iconst X515 hx (hb hby at_323) (z := (1 : Int32)) rfl (pc' := 324) rfl ?_
          refine own_goto X515 hx (hb hby at_324) (by decide) (pc' := 328) rfl ?_
          refine own_istore X515 hx (hb hby at_328) (l' := #[.val (.int u0), .val (.ref a1), .val (.ref a4), .val (.ref a7), .val (.ref a11), .val (.ref a16), .val (.ref a4), .val (.ref a4), .val (.int ((0 : Int32) + (1 : Int32))), .val (.null), .val (.null), .val (.int (1 : Int32))]) rfl (pc' := 330) rfl ?_
          refine own_iload X515 hx (hb hby at_330) rfl (pc' := 332) rfl ?_
          refine own_ifF X515 hx (hb hby at_332) (by decide) (pc' := 335) rfl ?_
          refine own_aload X515 hx (hb hby at_335) rfl rfl (pc' := 337) rfl ?_
          have f516 : Fld Z T498.heap a16 "com/example/slot3/slot3/frame/Post" "following" "Lcom/example/slot3/slot3/frame/Post;" (.null) := ((F16_following.keep K482 (ninS (Nat.ne_of_gt lt_a1_a16) (ninS (Nat.ne_of_gt lt_a4_a16) nin0))).keep K498 (ninS (Nat.ne_of_gt lt_a1_a16) (ninS (Nat.ne_of_gt lt_a11_a16) (ninS (Nat.ne_of_gt lt_a4_a16) nin0))))
          refine own_getF X515 hx hZ hown (ow_37 hw) e515 f516 (hb hby at_337) (pc' := 340) rfl ?_
          intro T517 X517 e517
          refine own_ifnonnullF X517 hx (hb hby at_340) (pc' := 343) rfl ?_
          refine own_aload X517 hx (hb hby at_343) rfl rfl (pc' := 345) rfl ?_
          have f518 : Fld Z T498.heap a16 "com/example/slot3/slot3/frame/Post" "previous" "Lcom/example/slot3/slot3/frame/Post;" (.null) := ((F16_previous.keep K482 (ninS (Nat.ne_of_gt lt_a1_a16) (ninS (Nat.ne_of_gt lt_a4_a16) nin0))).keep K498 (ninS (Nat.ne_of_gt lt_a1_a16) (ninS (Nat.ne_of_gt lt_a11_a16) (ninS (Nat.ne_of_gt lt_a4_a16) nin0))))
          refine own_getF X517 hx hZ hown (ow_36 hw) e517 f518 (hb hby at_345) (pc' := 348) rfl ?_
          intro T519 X519 e519
          refine own_ifnonnullF X519 hx (hb hby at_348) (pc' := 351) rfl ?_
          refine own_aload X519 hx (hb hby at_351) rfl rfl (pc' := 353) rfl ?_
          have f520 : Fld Z T498.heap a16 "com/example/slot3/slot3/frame/Post" "chain" "Lcom/example/slot3/slot3/frame/PostChain;" (.null) := ((F16_chain.keep K482 (ninS (Nat.ne_of_gt lt_a1_a16) (ninS (Nat.ne_of_gt lt_a4_a16) nin0))).keep K498 (ninS (Nat.ne_of_gt lt_a1_a16) (ninS (Nat.ne_of_gt lt_a11_a16) (ninS (Nat.ne_of_gt lt_a4_a16) nin0))))
          refine own_getF X519 hx hZ hown (ow_38 hw) e519 f520 (hb hby at_353) (pc' := 356) rfl ?_
          intro T521 X521 e521
          refine own_ifnonnullF X521 hx (hb hby at_356) (pc' := 359) rfl ?_
          refine own_iconst X521 hx (hb hby at_359) (z := (1 : Int32)) rfl (pc' := 360) rfl ?_
          refine own_goto X521 hx (hb hby at_360) (by decide) (pc' := 364) rfl ?_
          refine own_istore X521 hx (hb hby at_364) (l' := #[.val (.int u0), .val (.ref a1), .val (.ref a4), .val (.ref a7), .val (.ref a11), .val (.ref a16), .val (.ref a4), .val (.ref a4), .val (.int ((0 : Int32) + (1 : Int32))), .val (.null), .val (.null), .val (.int (1 : Int32))]) rfl (pc' := 366) rfl ?_
          refine own_iload X521 hx (hb hby at_366) rfl (pc' := 368) rfl ?_
          exact own_retZ X521 hx hret hlk (Or.inr rfl) (hb hby at_368) ⟨rfl, N498⟩ (by decide) (by decide)
        · refine own_ifF X482 hx (hb hby at_97) (feq c492).1 (pc' := 100) rfl ?_
          refine own_aload X482 hx (hb hby at_100) rfl rfl (pc' := 102) rfl ?_
          refine own_aload X482 hx (hb hby at_102) rfl rfl (pc' := 104) rfl ?_
          have f522 : Fld Z T482.heap a11 "com/example/slot3/slot3/frame/Post" "previous" "Lcom/example/slot3/slot3/frame/Post;" (.null) := ((F11_previous.ext E16).keep K482 (ninS (Nat.ne_of_gt lt_a1_a11) (ninS (Nat.ne_of_gt lt_a4_a11) nin0)))
          have f523 : Exa Z T482.heap a11 "com/example/slot3/slot3/frame/Post" := ((A11.ext E16).keep K482)
          refine own_putF X482 hx hZ hown (ow_36 hw) rfl f522 f523 (Or.inl (ow_32 hw)) (ow_10 hw) (ty := (.object "com/example/slot3/slot3/frame/Post")) (by decide) rfl rfl (hb hby at_104) (pc' := 107) rfl ?_
          intro T524 h524 X524 e524 W524
          have N524 := Fr.snoc X524 N482 ge_a11
          refine own_aload X524 hx (hb hby at_107) rfl rfl (pc' := 109) rfl ?_
          refine own_aload X524 hx (hb hby at_109) rfl rfl (pc' := 111) rfl ?_
          have f525 : Fld Z h524 a11 "com/example/slot3/slot3/frame/Post" "following" "Lcom/example/slot3/slot3/frame/Post;" (.null) := (((F11_following.ext E16).keep K482 (ninS (Nat.ne_of_gt lt_a1_a11) (ninS (Nat.ne_of_gt lt_a4_a11) nin0))).other W524 (Or.inr (osn_7 hw)))
          have f526 : Exa Z h524 a11 "com/example/slot3/slot3/frame/Post" := (f523.wr W524)
          refine own_putF X524 hx hZ hown (ow_37 hw) e524 f525 f526 (Or.inl (ow_30 hw)) (ow_10 hw) (ty := (.object "com/example/slot3/slot3/frame/Post")) (by decide) rfl rfl (hb hby at_111) (pc' := 114) rfl ?_
          intro T527 h527 X527 e527 W527
          have N527 := Fr.snoc X527 N524 ge_a11
          refine own_aloadN X527 hx (hb hby at_114) rfl rfl (pc' := 115) rfl ?_
          have f528 : Fld Z h527 a1 "com/example/slot3/slot3/frame/PostChain" "first" "Lcom/example/slot3/slot3/frame/Post;" (.ref a4) := ((p482_0.other W524 (Or.inl (Nat.ne_of_lt lt_a1_a11))).other W527 (Or.inl (Nat.ne_of_lt lt_a1_a11)))
          refine own_getF X527 hx hZ hown (ow_16 hw) e527 f528 (hb hby at_115) (pc' := 118) rfl ?_
          intro T529 X529 e529
          refine own_astore X529 hx (hb hby at_118) rfl (l' := #[.val (.int u0), .val (.ref a1), .val (.ref a4), .val (.ref a7), .val (.ref a11), .val (.ref a16), .val (.ref a4), .unset, .unset, .unset, .unset, .unset]) rfl (pc' := 120) rfl ?_
          refine own_aloadN X529 hx (hb hby at_120) rfl rfl (pc' := 121) rfl ?_
          have f530 : Fld Z h527 a1 "com/example/slot3/slot3/frame/PostChain" "last" "Lcom/example/slot3/slot3/frame/Post;" (.ref a4) := ((p482_1.other W524 (Or.inl (Nat.ne_of_lt lt_a1_a11))).other W527 (Or.inl (Nat.ne_of_lt lt_a1_a11)))
          refine own_getF X529 hx hZ hown (ow_18 hw) e529 f530 (hb hby at_121) (pc' := 124) rfl ?_
          intro T531 X531 e531
          refine own_astore X531 hx (hb hby at_124) rfl (l' := #[.val (.int u0), .val (.ref a1), .val (.ref a4), .val (.ref a7), .val (.ref a11), .val (.ref a16), .val (.ref a4), .val (.ref a4), .unset, .unset, .unset, .unset]) rfl (pc' := 126) rfl ?_
          refine own_aloadN X531 hx (hb hby at_126) rfl rfl (pc' := 127) rfl ?_
          have f532 : Fld Z h527 a1 "com/example/slot3/slot3/frame/PostChain" "count" "I" (.int ((0 : Int32) + (1 : Int32))) := ((p482_2.other W524 (Or.inl (Nat.ne_of_lt lt_a1_a11))).other W527 (Or.inl (Nat.ne_of_lt lt_a1_a11)))
          refine own_getF X531 hx hZ hown (ow_20 hw) e531 f532 (hb hby at_127) (pc' := 130) rfl ?_
          intro T533 X533 e533
          refine own_istore X533 hx (hb hby at_130) (l' := #[.val (.int u0), .val (.ref a1), .val (.ref a4), .val (.ref a7), .val (.ref a11), .val (.ref a16), .val (.ref a4), .val (.ref a4), .val (.int ((0 : Int32) + (1 : Int32))), .unset, .unset, .unset]) rfl (pc' := 132) rfl ?_
          refine own_aload X533 hx (hb hby at_132) rfl rfl (pc' := 134) rfl ?_
          refine own_ifnonnullT X533 hx (hb hby at_134) (by decide) (pc' := 141) rfl ?_
          refine own_aload X533 hx (hb hby at_141) rfl rfl (pc' := 143) rfl ?_
          have f534 : Fld Z h527 a4 "com/example/slot3/slot3/frame/Post" "following" "Lcom/example/slot3/slot3/frame/Post;" (.null) := ((p482_3.other W524 (Or.inl (Nat.ne_of_lt lt_a4_a11))).other W527 (Or.inl (Nat.ne_of_lt lt_a4_a11)))
          refine own_getF X533 hx hZ hown (ow_37 hw) e533 f534 (hb hby at_143) (pc' := 146) rfl ?_
          intro T535 X535 e535
          refine own_astore X535 hx (hb hby at_146) rfl (l' := #[.val (.int u0), .val (.ref a1), .val (.ref a4), .val (.ref a7), .val (.ref a11), .val (.ref a16), .val (.ref a4), .val (.ref a4), .val (.int ((0 : Int32) + (1 : Int32))), .val (.null), .unset, .unset]) rfl (pc' := 148) rfl ?_
          refine own_aload X535 hx (hb hby at_148) rfl rfl (pc' := 150) rfl ?_
          refine own_ifnonnullT X535 hx (hb hby at_150) (by decide) (pc' := 157) rfl ?_
          refine own_aload X535 hx (hb hby at_157) rfl rfl (pc' := 159) rfl ?_
          refine own_getF X535 hx hZ hown (ow_37 hw) e535 f534 (hb hby at_159) (pc' := 162) rfl ?_
          intro T536 X536 e536
          refine own_astore X536 hx (hb hby at_162) rfl (l' := #[.val (.int u0), .val (.ref a1), .val (.ref a4), .val (.ref a7), .val (.ref a11), .val (.ref a16), .val (.ref a4), .val (.ref a4), .val (.int ((0 : Int32) + (1 : Int32))), .val (.null), .val (.null), .unset]) rfl (pc' := 164) rfl ?_
          refine own_aloadN X536 hx (hb hby at_164) rfl rfl (pc' := 165) rfl ?_
          refine own_aload X536 hx (hb hby at_165) rfl rfl (pc' := 167) rfl ?_
          have f538 : Exa Z h527 a1 "com/example/slot3/slot3/frame/PostChain" := (((f483.keep K482).wr W524).wr W527)
          have f539 : Exa Z h527 a11 "com/example/slot3/slot3/frame/Post" := (f526.wr W527)
          have f540 : Exa Z h527 a4 "com/example/slot3/slot3/frame/Post" := (((f484.keep K482).wr W524).wr W527)
          have f541 : Fld Z h527 a11 "com/example/slot3/slot3/frame/Post" "previous" "Lcom/example/slot3/slot3/frame/Post;" (.ref a16) := ((f522.same W524).other W527 (Or.inr (osn_10 hw)))
          have f542 : Fld Z h527 a11 "com/example/slot3/slot3/frame/Post" "chain" "Lcom/example/slot3/slot3/frame/PostChain;" (.null) := ((((F11_chain.ext E16).keep K482 (ninS (Nat.ne_of_gt lt_a1_a11) (ninS (Nat.ne_of_gt lt_a4_a11) nin0))).other W524 (Or.inr (osn_1 hw))).other W527 (Or.inr (osn_11 hw)))
          have f543 : Fld Z h527 a4 "com/example/slot3/slot3/frame/Post" "previous" "Lcom/example/slot3/slot3/frame/Post;" (.null) := ((p482_4.other W524 (Or.inl (Nat.ne_of_lt lt_a4_a11))).other W527 (Or.inl (Nat.ne_of_lt lt_a4_a11)))
          have f544 : Fld Z h527 a4 "com/example/slot3/slot3/frame/Post" "chain" "Lcom/example/slot3/slot3/frame/PostChain;" (.ref a1) := ((p482_5.other W524 (Or.inl (Nat.ne_of_lt lt_a4_a11))).other W527 (Or.inl (Nat.ne_of_lt lt_a4_a11)))
          have z545 : n0 ≤ h527.size := (Nat.le_trans (Nat.le_trans (Nat.le_trans z21 K482.1) (Nat.le_of_eq (Wr.size W524).symm)) (Nat.le_of_eq (Wr.size W527).symm))
          refine own_callV X536 hx hZ hown (ow_22 hw) (ow_23 hw) (ow_25 hw) (ow_24 hw) (ow_2 hw) (ow_26 hw) (by decide) f538 (rm_pu2 l Z a0 hw a1 a11 a4 ((0 : Int32) + (1 : Int32)) (.ref a4) (.ref a16) (.ref a16) .null .null .null (.ref a1) h527 n0 z545 f538 f539 f528 f530 f532 f540 (f525.same W527) f541 f542 f534 f543 f544 ge_a1 ge_a11 ge_a4 (Nat.ne_of_lt lt_a1_a11) (Nat.ne_of_lt lt_a1_a4) (Nat.ne_of_gt lt_a4_a11)) e536 (W := 0) (by decide) (by decide) opd__Lcom_example_slot3_slot3_frame_Post__V rfl (rest := []) rfl (hb hby at_167) (Nat.le_of_eq rfl) (by rw [hml]; rfl) (by decide) (by decide) (pc' := 170) rfl ?_
          intro v537 T537 L537 X537 q537
          obtain ⟨rfl, Nq537, K537, p537_0, p537_1, p537_2, p537_3, p537_4, p537_5, p537_6, p537_7, p537_8⟩ := q537
          have N537 := Fr.app N527 Nq537
          show own_G p e below s _ _ _ (T537.setTop (mkF m 170 #[.val (.int u0), .val (.ref a1), .val (.ref a4), .val (.ref a7), .val (.ref a11), .val (.ref a16), .val (.ref a4), .val (.ref a4), .val (.int ((0 : Int32) + (1 : Int32))), .val (.null), .val (.null), .unset] []))
          refine own_aloadN X537 hx (hb hby at_170) rfl rfl (pc' := 171) rfl ?_
          refine own_getF X537 hx hZ hown (ow_16 hw) rfl p537_0 (hb hby at_171) (pc' := 174) rfl ?_
          intro T546 X546 e546
          refine own_aload X546 hx (hb hby at_174) rfl rfl (pc' := 176) rfl ?_
          refine own_acmpF X546 hx (hb hby at_176) rfl rfl (by simp [XT.acmp]) (pc' := 179) rfl ?_
          refine own_aload X546 hx (hb hby at_179) rfl rfl (pc' := 181) rfl ?_
          refine own_getF X546 hx hZ hown (ow_36 hw) e546 p537_4 (hb hby at_181) (pc' := 184) rfl ?_
          intro T547 X547 e547
          refine own_ifnonnullF X547 hx (hb hby at_184) (pc' := 187) rfl ?_
          refine own_aload X547 hx (hb hby at_187) rfl rfl (pc' := 189) rfl ?_
          refine own_getF X547 hx hZ hown (ow_37 hw) e547 p537_3 (hb hby at_189) (pc' := 192) rfl ?_
          intro T548 X548 e548
          refine own_aload X548 hx (hb hby at_192) rfl rfl (pc' := 194) rfl ?_
          refine own_acmpF X548 hx (hb hby at_194) rfl rfl (by simp [XT.acmp]) (pc' := 197) rfl ?_
          refine own_aload X548 hx (hb hby at_197) rfl rfl (pc' := 199) rfl ?_
          refine own_getF X548 hx hZ hown (ow_38 hw) e548 p537_5 (hb hby at_199) (pc' := 202) rfl ?_
          intro T549 X549 e549
          refine own_aloadN X549 hx (hb hby at_202) rfl rfl (pc' := 203) rfl ?_
          refine own_acmpF X549 hx (hb hby at_203) rfl rfl (by simp [XT.acmp]) (pc' := 206) rfl ?_
          refine own_aloadN X549 hx (hb hby at_206) rfl rfl (pc' := 207) rfl ?_
          refine own_getF X549 hx hZ hown (ow_20 hw) e549 p537_2 (hb hby at_207) (pc' := 210) rfl ?_
          intro T550 X550 e550
          refine own_iload X550 hx (hb hby at_210) rfl (pc' := 212) rfl ?_
          refine own_iconst X550 hx (hb hby at_212) (z := (1 : Int32)) rfl (pc' := 213) rfl ?_
          refine own_iadd X550 hx (hb hby at_213) (pc' := 214) rfl ?_
          refine own_icmpF X550 hx (hb hby at_214) (by decide) (pc' := 217) rfl ?_
          refine own_iconst X550 hx (hb hby at_217) (z := (1 : Int32)) rfl (pc' := 218) rfl ?_
          refine own_goto X550 hx (hb hby at_218) (by decide) (pc' := 222) rfl ?_
          refine own_istore X550 hx (hb hby at_222) (l' := #[.val (.int u0), .val (.ref a1), .val (.ref a4), .val (.ref a7), .val (.ref a11), .val (.ref a16), .val (.ref a4), .val (.ref a4), .val (.int ((0 : Int32) + (1 : Int32))), .val (.null), .val (.null), .val (.int (1 : Int32))]) rfl (pc' := 224) rfl ?_
          refine own_aload X550 hx (hb hby at_224) rfl rfl (pc' := 226) rfl ?_
          refine own_ifnonnullT X550 hx (hb hby at_226) (by decide) (pc' := 253) rfl ?_
          refine own_iload X550 hx (hb hby at_253) rfl (pc' := 255) rfl ?_
          refine own_ifF X550 hx (hb hby at_255) (by decide) (pc' := 258) rfl ?_
          refine own_aloadN X550 hx (hb hby at_258) rfl rfl (pc' := 259) rfl ?_
          refine own_getF X550 hx hZ hown (ow_18 hw) e550 p537_1 (hb hby at_259) (pc' := 262) rfl ?_
          intro T551 X551 e551
          refine own_aload X551 hx (hb hby at_262) rfl rfl (pc' := 264) rfl ?_
          refine own_acmpF X551 hx (hb hby at_264) rfl rfl (by simp [XT.acmp]) (pc' := 267) rfl ?_
          refine own_aload X551 hx (hb hby at_267) rfl rfl (pc' := 269) rfl ?_
          refine own_getF X551 hx hZ hown (ow_36 hw) e551 p537_7 (hb hby at_269) (pc' := 272) rfl ?_
          intro T552 X552 e552
          refine own_aload X552 hx (hb hby at_272) rfl rfl (pc' := 274) rfl ?_
          refine own_acmpF X552 hx (hb hby at_274) rfl rfl (by simp [XT.acmp]) (pc' := 277) rfl ?_
          refine own_aload X552 hx (hb hby at_277) rfl rfl (pc' := 279) rfl ?_
          refine own_getF X552 hx hZ hown (ow_37 hw) e552 p537_6 (hb hby at_279) (pc' := 282) rfl ?_
          intro T553 X553 e553
          refine own_aload X553 hx (hb hby at_282) rfl rfl (pc' := 284) rfl ?_
          refine own_acmpF X553 hx (hb hby at_284) rfl rfl (by simp [XT.acmp]) (pc' := 287) rfl ?_
          refine own_aload X553 hx (hb hby at_287) rfl rfl (pc' := 289) rfl ?_
          refine own_getF X553 hx hZ hown (ow_38 hw) e553 p537_8 (hb hby at_289) (pc' := 292) rfl ?_
          intro T554 X554 e554
          refine own_aloadN X554 hx (hb hby at_292) rfl rfl (pc' := 293) rfl ?_
          refine own_acmpF X554 hx (hb hby at_293) rfl rfl (by simp [XT.acmp]) (pc' := 296) rfl ?_
          refine own_iconst X554 hx (hb hby at_296) (z := (1 : Int32)) rfl (pc' := 297) rfl ?_
          refine own_goto X554 hx (hb hby at_297) (by decide) (pc' := 301) rfl ?_
          refine own_istore X554 hx (hb hby at_301) (l' := #[.val (.int u0), .val (.ref a1), .val (.ref a4), .val (.ref a7), .val (.ref a11), .val (.ref a16), .val (.ref a4), .val (.ref a4), .val (.int ((0 : Int32) + (1 : Int32))), .val (.null), .val (.null), .val (.int (1 : Int32))]) rfl (pc' := 303) rfl ?_
          refine own_iload X554 hx (hb hby at_303) rfl (pc' := 305) rfl ?_
          refine own_ifF X554 hx (hb hby at_305) (by decide) (pc' := 308) rfl ?_
          refine own_aload X554 hx (hb hby at_308) rfl rfl (pc' := 310) rfl ?_
          refine own_ifnullF X554 hx (hb hby at_310) (pc' := 313) rfl ?_
          refine own_aload X554 hx (hb hby at_313) rfl rfl (pc' := 315) rfl ?_
          refine own_getF X554 hx hZ hown (ow_37 hw) e554 p537_6 (hb hby at_315) (pc' := 318) rfl ?_
          intro T555 X555 e555
          refine own_aload X555 hx (hb hby at_318) rfl rfl (pc' := 320) rfl ?_
          refine own_acmpF X555 hx (hb hby at_320) rfl rfl (by simp [XT.acmp]) (pc' := 323) rfl ?_
          refine own_iconst X555 hx (hb hby at_323) (z := (1 : Int32)) rfl (pc' := 324) rfl ?_
          refine own_goto X555 hx (hb hby at_324) (by decide) (pc' := 328) rfl ?_
          refine own_istore X555 hx (hb hby at_328) (l' := #[.val (.int u0), .val (.ref a1), .val (.ref a4), .val (.ref a7), .val (.ref a11), .val (.ref a16), .val (.ref a4), .val (.ref a4), .val (.int ((0 : Int32) + (1 : Int32))), .val (.null), .val (.null), .val (.int (1 : Int32))]) rfl (pc' := 330) rfl ?_
          refine own_iload X555 hx (hb hby at_330) rfl (pc' := 332) rfl ?_
          refine own_ifF X555 hx (hb hby at_332) (by decide) (pc' := 335) rfl ?_
          refine own_aload X555 hx (hb hby at_335) rfl rfl (pc' := 337) rfl ?_
          have f556 : Fld Z T537.heap a16 "com/example/slot3/slot3/frame/Post" "following" "Lcom/example/slot3/slot3/frame/Post;" (.null) := ((((F16_following.keep K482 (ninS (Nat.ne_of_gt lt_a1_a16) (ninS (Nat.ne_of_gt lt_a4_a16) nin0))).other W524 (Or.inl (Nat.ne_of_gt lt_a11_a16))).other W527 (Or.inl (Nat.ne_of_gt lt_a11_a16))).keep K537 (ninS (Nat.ne_of_gt lt_a1_a16) (ninS (Nat.ne_of_gt lt_a11_a16) (ninS (Nat.ne_of_gt lt_a4_a16) nin0))))
          refine own_getF X555 hx hZ hown (ow_37 hw) e555 f556 (hb hby at_337) (pc' := 340) rfl ?_
          intro T557 X557 e557
          refine own_ifnonnullF X557 hx (hb hby at_340) (pc' := 343) rfl ?_
          refine own_aload X557 hx (hb hby at_343) rfl rfl (pc' := 345) rfl ?_
          have f558 : Fld Z T537.heap a16 "com/example/slot3/slot3/frame/Post" "previous" "Lcom/example/slot3/slot3/frame/Post;" (.null) := ((((F16_previous.keep K482 (ninS (Nat.ne_of_gt lt_a1_a16) (ninS (Nat.ne_of_gt lt_a4_a16) nin0))).other W524 (Or.inl (Nat.ne_of_gt lt_a11_a16))).other W527 (Or.inl (Nat.ne_of_gt lt_a11_a16))).keep K537 (ninS (Nat.ne_of_gt lt_a1_a16) (ninS (Nat.ne_of_gt lt_a11_a16) (ninS (Nat.ne_of_gt lt_a4_a16) nin0))))
          refine own_getF X557 hx hZ hown (ow_36 hw) e557 f558 (hb hby at_345) (pc' := 348) rfl ?_
          intro T559 X559 e559
          refine own_ifnonnullF X559 hx (hb hby at_348) (pc' := 351) rfl ?_
          refine own_aload X559 hx (hb hby at_351) rfl rfl (pc' := 353) rfl ?_
          have f560 : Fld Z T537.heap a16 "com/example/slot3/slot3/frame/Post" "chain" "Lcom/example/slot3/slot3/frame/PostChain;" (.null) := ((((F16_chain.keep K482 (ninS (Nat.ne_of_gt lt_a1_a16) (ninS (Nat.ne_of_gt lt_a4_a16) nin0))).other W524 (Or.inl (Nat.ne_of_gt lt_a11_a16))).other W527 (Or.inl (Nat.ne_of_gt lt_a11_a16))).keep K537 (ninS (Nat.ne_of_gt lt_a1_a16) (ninS (Nat.ne_of_gt lt_a11_a16) (ninS (Nat.ne_of_gt lt_a4_a16) nin0))))
          refine own_getF X559 hx hZ hown (ow_38 hw) e559 f560 (hb hby at_353) (pc' := 356) rfl ?_
          intro T561 X561 e561
          refine own_ifnonnullF X561 hx (hb hby at_356) (pc' := 359) rfl ?_
          refine own_iconst X561 hx (hb hby at_359) (z := (1 : Int32)) rfl (pc' := 360) rfl ?_
          refine own_goto X561 hx (hb hby at_360) (by decide) (pc' := 364) rfl ?_
          refine own_istore X561 hx (hb hby at_364) (l' := #[.val (.int u0), .val (.ref a1), .val (.ref a4), .val (.ref a7), .val (.ref a11), .val (.ref a16), .val (.ref a4), .val (.ref a4), .val (.int ((0 : Int32) + (1 : Int32))), .val (.null), .val (.null), .val (.int (1 : Int32))]) rfl (pc' := 366) rfl ?_
          refine own_iload X561 hx (hb hby at_366) rfl (pc' := 368) rfl ?_
          exact own_retZ X561 hx hret hlk (Or.inr rfl) (hb hby at_368) ⟨rfl, N537⟩ (by decide) (by decide)
      · refine own_ifF X482 hx (hb hby at_70) (feq c491).1 (pc' := 73) rfl ?_
        refine own_iloadN X482 hx (hb hby at_73) rfl (pc' := 74) rfl ?_
        refine own_bipush X482 hx (hb hby at_74) (z := (8 : Int32)) (by decide) (pc' := 76) rfl ?_
        refine own_iand X482 hx (hb hby at_76) (pc' := 77) rfl ?_
        by_cases c562 : (u0 &&& (8 : Int32)) = (0 : Int32)
        · refine own_ifT X482 hx (hb hby at_77) (teq c562).1 (by decide) (pc' := 88) rfl ?_
          refine own_aloadN X482 hx (hb hby at_88) rfl rfl (pc' := 89) rfl ?_
          refine own_aloadN X482 hx (hb hby at_89) rfl rfl (pc' := 90) rfl ?_
          have f564 : Exa Z T482.heap a1 "com/example/slot3/slot3/frame/PostChain" := (f483.keep K482)
          have f565 : Exa Z T482.heap a7 "com/example/slot3/slot3/frame/Post" := ((f19.ext E16).keep K482)
          have f566 : Exa Z T482.heap a4 "com/example/slot3/slot3/frame/Post" := (f484.keep K482)
          have f567 : Fld Z T482.heap a7 "com/example/slot3/slot3/frame/Post" "following" "Lcom/example/slot3/slot3/frame/Post;" (.null) := (((F7_following.ext E11).ext E16).keep K482 (ninS (Nat.ne_of_gt lt_a1_a7) (ninS (Nat.ne_of_gt lt_a4_a7) nin0)))
          have f568 : Fld Z T482.heap a7 "com/example/slot3/slot3/frame/Post" "previous" "Lcom/example/slot3/slot3/frame/Post;" (.null) := (((F7_previous.ext E11).ext E16).keep K482 (ninS (Nat.ne_of_gt lt_a1_a7) (ninS (Nat.ne_of_gt lt_a4_a7) nin0)))
          have f569 : Fld Z T482.heap a7 "com/example/slot3/slot3/frame/Post" "chain" "Lcom/example/slot3/slot3/frame/PostChain;" (.null) := (((F7_chain.ext E11).ext E16).keep K482 (ninS (Nat.ne_of_gt lt_a1_a7) (ninS (Nat.ne_of_gt lt_a4_a7) nin0)))
          have z570 : n0 ≤ T482.heap.size := (Nat.le_trans z21 K482.1)
          refine own_callV X482 hx hZ hown (ow_39 hw) (ow_40 hw) (ow_42 hw) (ow_41 hw) (ow_2 hw) (ow_43 hw) (by decide) f564 (rm_ap2 l Z a0 hw a1 a7 a4 ((0 : Int32) + (1 : Int32)) (.ref a4) .null .null .null .null .null (.ref a1) T482.heap n0 z570 f564 f565 p482_0 p482_1 p482_2 f566 f567 f568 f569 p482_3 p482_4 p482_5 ge_a1 ge_a7 ge_a4 (Nat.ne_of_lt lt_a1_a7) (Nat.ne_of_lt lt_a1_a4) (Nat.ne_of_gt lt_a4_a7)) rfl (W := 0) (by decide) (by decide) opd__Lcom_example_slot3_slot3_frame_Post__V rfl (rest := []) rfl (hb hby at_90) (Nat.le_of_eq rfl) (by rw [hml]; rfl) (by decide) (by decide) (pc' := 93) rfl ?_
          intro v563 T563 L563 X563 q563
          obtain ⟨rfl, Nq563, K563, p563_0, p563_1, p563_2, p563_3, p563_4, p563_5, p563_6, p563_7, p563_8⟩ := q563
          have N563 := Fr.app N482 Nq563
          show own_G p e below s _ _ _ (T563.setTop (mkF m 93 #[.val (.int u0), .val (.ref a1), .val (.ref a4), .val (.ref a7), .val (.ref a11), .val (.ref a16), .unset, .unset, .unset, .unset, .unset, .unset] []))
          refine own_iloadN X563 hx (hb hby at_93) rfl (pc' := 94) rfl ?_
          refine own_bipush X563 hx (hb hby at_94) (z := (16 : Int32)) (by decide) (pc' := 96) rfl ?_
          refine own_iand X563 hx (hb hby at_96) (pc' := 97) rfl ?_
          by_cases c571 : (u0 &&& (16 : Int32)) = (0 : Int32)
          · refine own_ifT X563 hx (hb hby at_97) (teq c571).1 (by decide) (pc' := 114) rfl ?_
            refine own_aloadN X563 hx (hb hby at_114) rfl rfl (pc' := 115) rfl ?_
            refine own_getF X563 hx hZ hown (ow_16 hw) rfl p563_0 (hb hby at_115) (pc' := 118) rfl ?_
            intro T572 X572 e572
            refine own_astore X572 hx (hb hby at_118) rfl (l' := #[.val (.int u0), .val (.ref a1), .val (.ref a4), .val (.ref a7), .val (.ref a11), .val (.ref a16), .val (.ref a4), .unset, .unset, .unset, .unset, .unset]) rfl (pc' := 120) rfl ?_
            refine own_aloadN X572 hx (hb hby at_120) rfl rfl (pc' := 121) rfl ?_
            refine own_getF X572 hx hZ hown (ow_18 hw) e572 p563_1 (hb hby at_121) (pc' := 124) rfl ?_
            intro T573 X573 e573
            refine own_astore X573 hx (hb hby at_124) rfl (l' := #[.val (.int u0), .val (.ref a1), .val (.ref a4), .val (.ref a7), .val (.ref a11), .val (.ref a16), .val (.ref a4), .val (.ref a7), .unset, .unset, .unset, .unset]) rfl (pc' := 126) rfl ?_
            refine own_aloadN X573 hx (hb hby at_126) rfl rfl (pc' := 127) rfl ?_
            refine own_getF X573 hx hZ hown (ow_20 hw) e573 p563_2 (hb hby at_127) (pc' := 130) rfl ?_
            intro T574 X574 e574
            refine own_istore X574 hx (hb hby at_130) (l' := #[.val (.int u0), .val (.ref a1), .val (.ref a4), .val (.ref a7), .val (.ref a11), .val (.ref a16), .val (.ref a4), .val (.ref a7), .val (.int (((0 : Int32) + (1 : Int32)) + (1 : Int32))), .unset, .unset, .unset]) rfl (pc' := 132) rfl ?_
            refine own_aload X574 hx (hb hby at_132) rfl rfl (pc' := 134) rfl ?_
            refine own_ifnonnullT X574 hx (hb hby at_134) (by decide) (pc' := 141) rfl ?_
            refine own_aload X574 hx (hb hby at_141) rfl rfl (pc' := 143) rfl ?_
            refine own_getF X574 hx hZ hown (ow_37 hw) e574 p563_6 (hb hby at_143) (pc' := 146) rfl ?_
            intro T575 X575 e575
            refine own_astore X575 hx (hb hby at_146) rfl (l' := #[.val (.int u0), .val (.ref a1), .val (.ref a4), .val (.ref a7), .val (.ref a11), .val (.ref a16), .val (.ref a4), .val (.ref a7), .val (.int (((0 : Int32) + (1 : Int32)) + (1 : Int32))), .val (.ref a7), .unset, .unset]) rfl (pc' := 148) rfl ?_
            refine own_aload X575 hx (hb hby at_148) rfl rfl (pc' := 150) rfl ?_
            refine own_ifnonnullT X575 hx (hb hby at_150) (by decide) (pc' := 157) rfl ?_
            refine own_aload X575 hx (hb hby at_157) rfl rfl (pc' := 159) rfl ?_
            refine own_getF X575 hx hZ hown (ow_37 hw) e575 p563_3 (hb hby at_159) (pc' := 162) rfl ?_
            intro T576 X576 e576
            refine own_astore X576 hx (hb hby at_162) rfl (l' := #[.val (.int u0), .val (.ref a1), .val (.ref a4), .val (.ref a7), .val (.ref a11), .val (.ref a16), .val (.ref a4), .val (.ref a7), .val (.int (((0 : Int32) + (1 : Int32)) + (1 : Int32))), .val (.ref a7), .val (.null), .unset]) rfl (pc' := 164) rfl ?_
            refine own_aloadN X576 hx (hb hby at_164) rfl rfl (pc' := 165) rfl ?_
            refine own_aload X576 hx (hb hby at_165) rfl rfl (pc' := 167) rfl ?_
            have f578 : Exa Z T563.heap a1 "com/example/slot3/slot3/frame/PostChain" := (f564.keep K563)
            have f579 : Exa Z T563.heap a11 "com/example/slot3/slot3/frame/Post" := (((A11.ext E16).keep K482).keep K563)
            have f580 : Exa Z T563.heap a4 "com/example/slot3/slot3/frame/Post" := (f566.keep K563)
            have f581 : Fld Z T563.heap a11 "com/example/slot3/slot3/frame/Post" "following" "Lcom/example/slot3/slot3/frame/Post;" (.null) := (((F11_following.ext E16).keep K482 (ninS (Nat.ne_of_gt lt_a1_a11) (ninS (Nat.ne_of_gt lt_a4_a11) nin0))).keep K563 (ninS (Nat.ne_of_gt lt_a1_a11) (ninS (Nat.ne_of_gt lt_a7_a11) (ninS (Nat.ne_of_gt lt_a4_a11) nin0))))
            have f582 : Fld Z T563.heap a11 "com/example/slot3/slot3/frame/Post" "previous" "Lcom/example/slot3/slot3/frame/Post;" (.null) := (((F11_previous.ext E16).keep K482 (ninS (Nat.ne_of_gt lt_a1_a11) (ninS (Nat.ne_of_gt lt_a4_a11) nin0))).keep K563 (ninS (Nat.ne_of_gt lt_a1_a11) (ninS (Nat.ne_of_gt lt_a7_a11) (ninS (Nat.ne_of_gt lt_a4_a11) nin0))))
            have f583 : Fld Z T563.heap a11 "com/example/slot3/slot3/frame/Post" "chain" "Lcom/example/slot3/slot3/frame/PostChain;" (.null) := (((F11_chain.ext E16).keep K482 (ninS (Nat.ne_of_gt lt_a1_a11) (ninS (Nat.ne_of_gt lt_a4_a11) nin0))).keep K563 (ninS (Nat.ne_of_gt lt_a1_a11) (ninS (Nat.ne_of_gt lt_a7_a11) (ninS (Nat.ne_of_gt lt_a4_a11) nin0))))
            have z584 : n0 ≤ T563.heap.size := (Nat.le_trans z570 K563.1)
            refine own_callV X576 hx hZ hown (ow_22 hw) (ow_23 hw) (ow_25 hw) (ow_24 hw) (ow_2 hw) (ow_26 hw) (by decide) f578 (rm_pu2 l Z a0 hw a1 a11 a4 (((0 : Int32) + (1 : Int32)) + (1 : Int32)) (.ref a7) .null .null .null (.ref a7) .null (.ref a1) T563.heap n0 z584 f578 f579 p563_0 p563_1 p563_2 f580 f581 f582 f583 p563_6 p563_7 p563_8 ge_a1 ge_a11 ge_a4 (Nat.ne_of_lt lt_a1_a11) (Nat.ne_of_lt lt_a1_a4) (Nat.ne_of_gt lt_a4_a11)) e576 (W := 0) (by decide) (by decide) opd__Lcom_example_slot3_slot3_frame_Post__V rfl (rest := []) rfl (hb hby at_167) (Nat.le_of_eq rfl) (by rw [hml]; rfl) (by decide) (by decide) (pc' := 170) rfl ?_
            intro v577 T577 L577 X577 q577
            obtain ⟨rfl, Nq577, K577, p577_0, p577_1, p577_2, p577_3, p577_4, p577_5, p577_6, p577_7, p577_8⟩ := q577
            have N577 := Fr.app N563 Nq577
            show own_G p e below s _ _ _ (T577.setTop (mkF m 170 #[.val (.int u0), .val (.ref a1), .val (.ref a4), .val (.ref a7), .val (.ref a11), .val (.ref a16), .val (.ref a4), .val (.ref a7), .val (.int (((0 : Int32) + (1 : Int32)) + (1 : Int32))), .val (.ref a7), .val (.null), .unset] []))
            refine own_aloadN X577 hx (hb hby at_170) rfl rfl (pc' := 171) rfl ?_
            refine own_getF X577 hx hZ hown (ow_16 hw) rfl p577_0 (hb hby at_171) (pc' := 174) rfl ?_
            intro T585 X585 e585
            refine own_aload X585 hx (hb hby at_174) rfl rfl (pc' := 176) rfl ?_
            refine own_acmpF X585 hx (hb hby at_176) rfl rfl (by simp [XT.acmp]) (pc' := 179) rfl ?_
            refine own_aload X585 hx (hb hby at_179) rfl rfl (pc' := 181) rfl ?_
            refine own_getF X585 hx hZ hown (ow_36 hw) e585 p577_4 (hb hby at_181) (pc' := 184) rfl ?_
            intro T586 X586 e586
            refine own_ifnonnullF X586 hx (hb hby at_184) (pc' := 187) rfl ?_
            refine own_aload X586 hx (hb hby at_187) rfl rfl (pc' := 189) rfl ?_
            refine own_getF X586 hx hZ hown (ow_37 hw) e586 p577_3 (hb hby at_189) (pc' := 192) rfl ?_
            intro T587 X587 e587
            refine own_aload X587 hx (hb hby at_192) rfl rfl (pc' := 194) rfl ?_
            refine own_acmpF X587 hx (hb hby at_194) rfl rfl (by simp [XT.acmp]) (pc' := 197) rfl ?_
            refine own_aload X587 hx (hb hby at_197) rfl rfl (pc' := 199) rfl ?_
            refine own_getF X587 hx hZ hown (ow_38 hw) e587 p577_5 (hb hby at_199) (pc' := 202) rfl ?_
            intro T588 X588 e588
            refine own_aloadN X588 hx (hb hby at_202) rfl rfl (pc' := 203) rfl ?_
            refine own_acmpF X588 hx (hb hby at_203) rfl rfl (by simp [XT.acmp]) (pc' := 206) rfl ?_
            refine own_aloadN X588 hx (hb hby at_206) rfl rfl (pc' := 207) rfl ?_
            refine own_getF X588 hx hZ hown (ow_20 hw) e588 p577_2 (hb hby at_207) (pc' := 210) rfl ?_
            intro T589 X589 e589
            refine own_iload X589 hx (hb hby at_210) rfl (pc' := 212) rfl ?_
            refine own_iconst X589 hx (hb hby at_212) (z := (1 : Int32)) rfl (pc' := 213) rfl ?_
            refine own_iadd X589 hx (hb hby at_213) (pc' := 214) rfl ?_
            refine own_icmpF X589 hx (hb hby at_214) (by decide) (pc' := 217) rfl ?_
            refine own_iconst X589 hx (hb hby at_217) (z := (1 : Int32)) rfl (pc' := 218) rfl ?_
            refine own_goto X589 hx (hb hby at_218) (by decide) (pc' := 222) rfl ?_
            refine own_istore X589 hx (hb hby at_222) (l' := #[.val (.int u0), .val (.ref a1), .val (.ref a4), .val (.ref a7), .val (.ref a11), .val (.ref a16), .val (.ref a4), .val (.ref a7), .val (.int (((0 : Int32) + (1 : Int32)) + (1 : Int32))), .val (.ref a7), .val (.null), .val (.int (1 : Int32))]) rfl (pc' := 224) rfl ?_
            refine own_aload X589 hx (hb hby at_224) rfl rfl (pc' := 226) rfl ?_
            refine own_ifnonnullT X589 hx (hb hby at_226) (by decide) (pc' := 253) rfl ?_
            refine own_iload X589 hx (hb hby at_253) rfl (pc' := 255) rfl ?_
            refine own_ifF X589 hx (hb hby at_255) (by decide) (pc' := 258) rfl ?_
            refine own_aloadN X589 hx (hb hby at_258) rfl rfl (pc' := 259) rfl ?_
            refine own_getF X589 hx hZ hown (ow_18 hw) e589 p577_1 (hb hby at_259) (pc' := 262) rfl ?_
            intro T590 X590 e590
            refine own_aload X590 hx (hb hby at_262) rfl rfl (pc' := 264) rfl ?_
            refine own_acmpF X590 hx (hb hby at_264) rfl rfl (by simp [XT.acmp]) (pc' := 267) rfl ?_
            refine own_aload X590 hx (hb hby at_267) rfl rfl (pc' := 269) rfl ?_
            refine own_getF X590 hx hZ hown (ow_36 hw) e590 p577_7 (hb hby at_269) (pc' := 272) rfl ?_
            intro T591 X591 e591
            refine own_aload X591 hx (hb hby at_272) rfl rfl (pc' := 274) rfl ?_
            refine own_acmpF X591 hx (hb hby at_274) rfl rfl (by simp [XT.acmp]) (pc' := 277) rfl ?_
            refine own_aload X591 hx (hb hby at_277) rfl rfl (pc' := 279) rfl ?_
            refine own_getF X591 hx hZ hown (ow_37 hw) e591 p577_6 (hb hby at_279) (pc' := 282) rfl ?_
            intro T592 X592 e592
            refine own_aload X592 hx (hb hby at_282) rfl rfl (pc' := 284) rfl ?_
            refine own_acmpF X592 hx (hb hby at_284) rfl rfl (by simp [XT.acmp]) (pc' := 287) rfl ?_
            refine own_aload X592 hx (hb hby at_287) rfl rfl (pc' := 289) rfl ?_
            refine own_getF X592 hx hZ hown (ow_38 hw) e592 p577_8 (hb hby at_289) (pc' := 292) rfl ?_
            intro T593 X593 e593
            refine own_aloadN X593 hx (hb hby at_292) rfl rfl (pc' := 293) rfl ?_
            refine own_acmpF X593 hx (hb hby at_293) rfl rfl (by simp [XT.acmp]) (pc' := 296) rfl ?_
            refine own_iconst X593 hx (hb hby at_296) (z := (1 : Int32)) rfl (pc' := 297) rfl ?_
            refine own_goto X593 hx (hb hby at_297) (by decide) (pc' := 301) rfl ?_
            refine own_istore X593 hx (hb hby at_301) (l' := #[.val (.int u0), .val (.ref a1), .val (.ref a4), .val (.ref a7), .val (.ref a11), .val (.ref a16), .val (.ref a4), .val (.ref a7), .val (.int (((0 : Int32) + (1 : Int32)) + (1 : Int32))), .val (.ref a7), .val (.null), .val (.int (1 : Int32))]) rfl (pc' := 303) rfl ?_
            refine own_iload X593 hx (hb hby at_303) rfl (pc' := 305) rfl ?_
            refine own_ifF X593 hx (hb hby at_305) (by decide) (pc' := 308) rfl ?_
            refine own_aload X593 hx (hb hby at_308) rfl rfl (pc' := 310) rfl ?_
            refine own_ifnullF X593 hx (hb hby at_310) (pc' := 313) rfl ?_
            refine own_aload X593 hx (hb hby at_313) rfl rfl (pc' := 315) rfl ?_
            have f594 : Fld Z T577.heap a7 "com/example/slot3/slot3/frame/Post" "following" "Lcom/example/slot3/slot3/frame/Post;" (.null) := (p563_3.keep K577 (ninS (Nat.ne_of_gt lt_a1_a7) (ninS (Nat.ne_of_lt lt_a7_a11) (ninS (Nat.ne_of_gt lt_a4_a7) nin0))))
            refine own_getF X593 hx hZ hown (ow_37 hw) e593 f594 (hb hby at_315) (pc' := 318) rfl ?_
            intro T595 X595 e595
            refine own_aload X595 hx (hb hby at_318) rfl rfl (pc' := 320) rfl ?_
            refine own_acmpF X595 hx (hb hby at_320) rfl rfl (by simp [XT.acmp]) (pc' := 323) rfl ?_
            refine own_iconst X595 hx (hb hby at_323) (z := (1 : Int32)) rfl (pc' := 324) rfl ?_
            refine own_goto X595 hx (hb hby at_324) (by decide) (pc' := 328) rfl ?_
            refine own_istore X595 hx (hb hby at_328) (l' := #[.val (.int u0), .val (.ref a1), .val (.ref a4), .val (.ref a7), .val (.ref a11), .val (.ref a16), .val (.ref a4), .val (.ref a7), .val (.int (((0 : Int32) + (1 : Int32)) + (1 : Int32))), .val (.ref a7), .val (.null), .val (.int (1 : Int32))]) rfl (pc' := 330) rfl ?_
            refine own_iload X595 hx (hb hby at_330) rfl (pc' := 332) rfl ?_
            refine own_ifF X595 hx (hb hby at_332) (by decide) (pc' := 335) rfl ?_
            refine own_aload X595 hx (hb hby at_335) rfl rfl (pc' := 337) rfl ?_
            have f596 : Fld Z T577.heap a16 "com/example/slot3/slot3/frame/Post" "following" "Lcom/example/slot3/slot3/frame/Post;" (.null) := (((F16_following.keep K482 (ninS (Nat.ne_of_gt lt_a1_a16) (ninS (Nat.ne_of_gt lt_a4_a16) nin0))).keep K563 (ninS (Nat.ne_of_gt lt_a1_a16) (ninS (Nat.ne_of_gt lt_a7_a16) (ninS (Nat.ne_of_gt lt_a4_a16) nin0)))).keep K577 (ninS (Nat.ne_of_gt lt_a1_a16) (ninS (Nat.ne_of_gt lt_a11_a16) (ninS (Nat.ne_of_gt lt_a4_a16) nin0))))
            refine own_getF X595 hx hZ hown (ow_37 hw) e595 f596 (hb hby at_337) (pc' := 340) rfl ?_
            intro T597 X597 e597
            refine own_ifnonnullF X597 hx (hb hby at_340) (pc' := 343) rfl ?_
            refine own_aload X597 hx (hb hby at_343) rfl rfl (pc' := 345) rfl ?_
            have f598 : Fld Z T577.heap a16 "com/example/slot3/slot3/frame/Post" "previous" "Lcom/example/slot3/slot3/frame/Post;" (.null) := (((F16_previous.keep K482 (ninS (Nat.ne_of_gt lt_a1_a16) (ninS (Nat.ne_of_gt lt_a4_a16) nin0))).keep K563 (ninS (Nat.ne_of_gt lt_a1_a16) (ninS (Nat.ne_of_gt lt_a7_a16) (ninS (Nat.ne_of_gt lt_a4_a16) nin0)))).keep K577 (ninS (Nat.ne_of_gt lt_a1_a16) (ninS (Nat.ne_of_gt lt_a11_a16) (ninS (Nat.ne_of_gt lt_a4_a16) nin0))))
            refine own_getF X597 hx hZ hown (ow_36 hw) e597 f598 (hb hby at_345) (pc' := 348) rfl ?_
            intro T599 X599 e599
            refine own_ifnonnullF X599 hx (hb hby at_348) (pc' := 351) rfl ?_
            refine own_aload X599 hx (hb hby at_351) rfl rfl (pc' := 353) rfl ?_
            have f600 : Fld Z T577.heap a16 "com/example/slot3/slot3/frame/Post" "chain" "Lcom/example/slot3/slot3/frame/PostChain;" (.null) := (((F16_chain.keep K482 (ninS (Nat.ne_of_gt lt_a1_a16) (ninS (Nat.ne_of_gt lt_a4_a16) nin0))).keep K563 (ninS (Nat.ne_of_gt lt_a1_a16) (ninS (Nat.ne_of_gt lt_a7_a16) (ninS (Nat.ne_of_gt lt_a4_a16) nin0)))).keep K577 (ninS (Nat.ne_of_gt lt_a1_a16) (ninS (Nat.ne_of_gt lt_a11_a16) (ninS (Nat.ne_of_gt lt_a4_a16) nin0))))
            refine own_getF X599 hx hZ hown (ow_38 hw) e599 f600 (hb hby at_353) (pc' := 356) rfl ?_
            intro T601 X601 e601
            refine own_ifnonnullF X601 hx (hb hby at_356) (pc' := 359) rfl ?_
            refine own_iconst X601 hx (hb hby at_359) (z := (1 : Int32)) rfl (pc' := 360) rfl ?_
            refine own_goto X601 hx (hb hby at_360) (by decide) (pc' := 364) rfl ?_
            refine own_istore X601 hx (hb hby at_364) (l' := #[.val (.int u0), .val (.ref a1), .val (.ref a4), .val (.ref a7), .val (.ref a11), .val (.ref a16), .val (.ref a4), .val (.ref a7), .val (.int (((0 : Int32) + (1 : Int32)) + (1 : Int32))), .val (.ref a7), .val (.null), .val (.int (1 : Int32))]) rfl (pc' := 366) rfl ?_
            refine own_iload X601 hx (hb hby at_366) rfl (pc' := 368) rfl ?_
            exact own_retZ X601 hx hret hlk (Or.inr rfl) (hb hby at_368) ⟨rfl, N577⟩ (by decide) (by decide)
          · refine own_ifF X563 hx (hb hby at_97) (feq c571).1 (pc' := 100) rfl ?_
            refine own_aload X563 hx (hb hby at_100) rfl rfl (pc' := 102) rfl ?_
            refine own_aload X563 hx (hb hby at_102) rfl rfl (pc' := 104) rfl ?_
            have f602 : Fld Z T563.heap a11 "com/example/slot3/slot3/frame/Post" "previous" "Lcom/example/slot3/slot3/frame/Post;" (.null) := (((F11_previous.ext E16).keep K482 (ninS (Nat.ne_of_gt lt_a1_a11) (ninS (Nat.ne_of_gt lt_a4_a11) nin0))).keep K563 (ninS (Nat.ne_of_gt lt_a1_a11) (ninS (Nat.ne_of_gt lt_a7_a11) (ninS (Nat.ne_of_gt lt_a4_a11) nin0))))
            have f603 : Exa Z T563.heap a11 "com/example/slot3/slot3/frame/Post" := (((A11.ext E16).keep K482).keep K563)
            refine own_putF X563 hx hZ hown (ow_36 hw) rfl f602 f603 (Or.inl (ow_32 hw)) (ow_10 hw) (ty := (.object "com/example/slot3/slot3/frame/Post")) (by decide) rfl rfl (hb hby at_104) (pc' := 107) rfl ?_
            intro T604 h604 X604 e604 W604
            have N604 := Fr.snoc X604 N563 ge_a11
            refine own_aload X604 hx (hb hby at_107) rfl rfl (pc' := 109) rfl ?_
            refine own_aload X604 hx (hb hby at_109) rfl rfl (pc' := 111) rfl ?_
            have f605 : Fld Z h604 a11 "com/example/slot3/slot3/frame/Post" "following" "Lcom/example/slot3/slot3/frame/Post;" (.null) := ((((F11_following.ext E16).keep K482 (ninS (Nat.ne_of_gt lt_a1_a11) (ninS (Nat.ne_of_gt lt_a4_a11) nin0))).keep K563 (ninS (Nat.ne_of_gt lt_a1_a11) (ninS (Nat.ne_of_gt lt_a7_a11) (ninS (Nat.ne_of_gt lt_a4_a11) nin0)))).other W604 (Or.inr (osn_7 hw)))
            have f606 : Exa Z h604 a11 "com/example/slot3/slot3/frame/Post" := (f603.wr W604)
            refine own_putF X604 hx hZ hown (ow_37 hw) e604 f605 f606 (Or.inl (ow_30 hw)) (ow_10 hw) (ty := (.object "com/example/slot3/slot3/frame/Post")) (by decide) rfl rfl (hb hby at_111) (pc' := 114) rfl ?_
            intro T607 h607 X607 e607 W607
            have N607 := Fr.snoc X607 N604 ge_a11
            refine own_aloadN X607 hx (hb hby at_114) rfl rfl (pc' := 115) rfl ?_
            have f608 : Fld Z h607 a1 "com/example/slot3/slot3/frame/PostChain" "first" "Lcom/example/slot3/slot3/frame/Post;" (.ref a4) := ((p563_0.other W604 (Or.inl (Nat.ne_of_lt lt_a1_a11))).other W607 (Or.inl (Nat.ne_of_lt lt_a1_a11)))
            refine own_getF X607 hx hZ hown (ow_16 hw) e607 f608 (hb hby at_115) (pc' := 118) rfl ?_
            intro T609 X609 e609
            refine own_astore X609 hx (hb hby at_118) rfl (l' := #[.val (.int u0), .val (.ref a1), .val (.ref a4), .val (.ref a7), .val (.ref a11), .val (.ref a16), .val (.ref a4), .unset, .unset, .unset, .unset, .unset]) rfl (pc' := 120) rfl ?_
            refine own_aloadN X609 hx (hb hby at_120) rfl rfl (pc' := 121) rfl ?_
            have f610 : Fld Z h607 a1 "com/example/slot3/slot3/frame/PostChain" "last" "Lcom/example/slot3/slot3/frame/Post;" (.ref a7) := ((p563_1.other W604 (Or.inl (Nat.ne_of_lt lt_a1_a11))).other W607 (Or.inl (Nat.ne_of_lt lt_a1_a11)))
            refine own_getF X609 hx hZ hown (ow_18 hw) e609 f610 (hb hby at_121) (pc' := 124) rfl ?_
            intro T611 X611 e611
            refine own_astore X611 hx (hb hby at_124) rfl (l' := #[.val (.int u0), .val (.ref a1), .val (.ref a4), .val (.ref a7), .val (.ref a11), .val (.ref a16), .val (.ref a4), .val (.ref a7), .unset, .unset, .unset, .unset]) rfl (pc' := 126) rfl ?_
            refine own_aloadN X611 hx (hb hby at_126) rfl rfl (pc' := 127) rfl ?_
            have f612 : Fld Z h607 a1 "com/example/slot3/slot3/frame/PostChain" "count" "I" (.int (((0 : Int32) + (1 : Int32)) + (1 : Int32))) := ((p563_2.other W604 (Or.inl (Nat.ne_of_lt lt_a1_a11))).other W607 (Or.inl (Nat.ne_of_lt lt_a1_a11)))
            refine own_getF X611 hx hZ hown (ow_20 hw) e611 f612 (hb hby at_127) (pc' := 130) rfl ?_
            intro T613 X613 e613
            refine own_istore X613 hx (hb hby at_130) (l' := #[.val (.int u0), .val (.ref a1), .val (.ref a4), .val (.ref a7), .val (.ref a11), .val (.ref a16), .val (.ref a4), .val (.ref a7), .val (.int (((0 : Int32) + (1 : Int32)) + (1 : Int32))), .unset, .unset, .unset]) rfl (pc' := 132) rfl ?_
            refine own_aload X613 hx (hb hby at_132) rfl rfl (pc' := 134) rfl ?_
            refine own_ifnonnullT X613 hx (hb hby at_134) (by decide) (pc' := 141) rfl ?_
            refine own_aload X613 hx (hb hby at_141) rfl rfl (pc' := 143) rfl ?_
            have f614 : Fld Z h607 a4 "com/example/slot3/slot3/frame/Post" "following" "Lcom/example/slot3/slot3/frame/Post;" (.ref a7) := ((p563_6.other W604 (Or.inl (Nat.ne_of_lt lt_a4_a11))).other W607 (Or.inl (Nat.ne_of_lt lt_a4_a11)))
            refine own_getF X613 hx hZ hown (ow_37 hw) e613 f614 (hb hby at_143) (pc' := 146) rfl ?_
            intro T615 X615 e615
            refine own_astore X615 hx (hb hby at_146) rfl (l' := #[.val (.int u0), .val (.ref a1), .val (.ref a4), .val (.ref a7), .val (.ref a11), .val (.ref a16), .val (.ref a4), .val (.ref a7), .val (.int (((0 : Int32) + (1 : Int32)) + (1 : Int32))), .val (.ref a7), .unset, .unset]) rfl (pc' := 148) rfl ?_
            refine own_aload X615 hx (hb hby at_148) rfl rfl (pc' := 150) rfl ?_
            refine own_ifnonnullT X615 hx (hb hby at_150) (by decide) (pc' := 157) rfl ?_
            refine own_aload X615 hx (hb hby at_157) rfl rfl (pc' := 159) rfl ?_
            have f616 : Fld Z h607 a7 "com/example/slot3/slot3/frame/Post" "following" "Lcom/example/slot3/slot3/frame/Post;" (.null) := ((p563_3.other W604 (Or.inl (Nat.ne_of_lt lt_a7_a11))).other W607 (Or.inl (Nat.ne_of_lt lt_a7_a11)))
            refine own_getF X615 hx hZ hown (ow_37 hw) e615 f616 (hb hby at_159) (pc' := 162) rfl ?_
            intro T617 X617 e617
            refine own_astore X617 hx (hb hby at_162) rfl (l' := #[.val (.int u0), .val (.ref a1), .val (.ref a4), .val (.ref a7), .val (.ref a11), .val (.ref a16), .val (.ref a4), .val (.ref a7), .val (.int (((0 : Int32) + (1 : Int32)) + (1 : Int32))), .val (.ref a7), .val (.null), .unset]) rfl (pc' := 164) rfl ?_
            refine own_aloadN X617 hx (hb hby at_164) rfl rfl (pc' := 165) rfl ?_
            refine own_aload X617 hx (hb hby at_165) rfl rfl (pc' := 167) rfl ?_
            have f619 : Exa Z h607 a1 "com/example/slot3/slot3/frame/PostChain" := (((f564.keep K563).wr W604).wr W607)
            have f620 : Exa Z h607 a11 "com/example/slot3/slot3/frame/Post" := (f606.wr W607)
            have f621 : Exa Z h607 a4 "com/example/slot3/slot3/frame/Post" := (((f566.keep K563).wr W604).wr W607)
            have f622 : Fld Z h607 a11 "com/example/slot3/slot3/frame/Post" "previous" "Lcom/example/slot3/slot3/frame/Post;" (.ref a16) := ((f602.same W604).other W607 (Or.inr (osn_10 hw)))
            have f623 : Fld Z h607 a11 "com/example/slot3/slot3/frame/Post" "chain" "Lcom/example/slot3/slot3/frame/PostChain;" (.null) := (((((F11_chain.ext E16).keep K482 (ninS (Nat.ne_of_gt lt_a1_a11) (ninS (Nat.ne_of_gt lt_a4_a11) nin0))).keep K563 (ninS (Nat.ne_of_gt lt_a1_a11) (ninS (Nat.ne_of_gt lt_a7_a11) (ninS (Nat.ne_of_gt lt_a4_a11) nin0)))).other W604 (Or.inr (osn_1 hw))).other W607 (Or.inr (osn_11 hw)))
            have f624 : Fld Z h607 a4 "com/example/slot3/slot3/frame/Post" "previous" "Lcom/example/slot3/slot3/frame/Post;" (.null) := ((p563_7.other W604 (Or.inl (Nat.ne_of_lt lt_a4_a11))).other W607 (Or.inl (Nat.ne_of_lt lt_a4_a11)))
            have f625 : Fld Z h607 a4 "com/example/slot3/slot3/frame/Post" "chain" "Lcom/example/slot3/slot3/frame/PostChain;" (.ref a1) := ((p563_8.other W604 (Or.inl (Nat.ne_of_lt lt_a4_a11))).other W607 (Or.inl (Nat.ne_of_lt lt_a4_a11)))
            have z626 : n0 ≤ h607.size := (Nat.le_trans (Nat.le_trans (Nat.le_trans z570 K563.1) (Nat.le_of_eq (Wr.size W604).symm)) (Nat.le_of_eq (Wr.size W607).symm))
            refine own_callV X617 hx hZ hown (ow_22 hw) (ow_23 hw) (ow_25 hw) (ow_24 hw) (ow_2 hw) (ow_26 hw) (by decide) f619 (rm_pu2 l Z a0 hw a1 a11 a4 (((0 : Int32) + (1 : Int32)) + (1 : Int32)) (.ref a7) (.ref a16) (.ref a16) .null (.ref a7) .null (.ref a1) h607 n0 z626 f619 f620 f608 f610 f612 f621 (f605.same W607) f622 f623 f614 f624 f625 ge_a1 ge_a11 ge_a4 (Nat.ne_of_lt lt_a1_a11) (Nat.ne_of_lt lt_a1_a4) (Nat.ne_of_gt lt_a4_a11)) e617 (W := 0) (by decide) (by decide) opd__Lcom_example_slot3_slot3_frame_Post__V rfl (rest := []) rfl (hb hby at_167) (Nat.le_of_eq rfl) (by rw [hml]; rfl) (by decide) (by decide) (pc' := 170) rfl ?_
            intro v618 T618 L618 X618 q618
            obtain ⟨rfl, Nq618, K618, p618_0, p618_1, p618_2, p618_3, p618_4, p618_5, p618_6, p618_7, p618_8⟩ := q618
            have N618 := Fr.app N607 Nq618
            show own_G p e below s _ _ _ (T618.setTop (mkF m 170 #[.val (.int u0), .val (.ref a1), .val (.ref a4), .val (.ref a7), .val (.ref a11), .val (.ref a16), .val (.ref a4), .val (.ref a7), .val (.int (((0 : Int32) + (1 : Int32)) + (1 : Int32))), .val (.ref a7), .val (.null), .unset] []))
            refine own_aloadN X618 hx (hb hby at_170) rfl rfl (pc' := 171) rfl ?_
            refine own_getF X618 hx hZ hown (ow_16 hw) rfl p618_0 (hb hby at_171) (pc' := 174) rfl ?_
            intro T627 X627 e627
            refine own_aload X627 hx (hb hby at_174) rfl rfl (pc' := 176) rfl ?_
            refine own_acmpF X627 hx (hb hby at_176) rfl rfl (by simp [XT.acmp]) (pc' := 179) rfl ?_
            refine own_aload X627 hx (hb hby at_179) rfl rfl (pc' := 181) rfl ?_
            refine own_getF X627 hx hZ hown (ow_36 hw) e627 p618_4 (hb hby at_181) (pc' := 184) rfl ?_
            intro T628 X628 e628
            refine own_ifnonnullF X628 hx (hb hby at_184) (pc' := 187) rfl ?_
            refine own_aload X628 hx (hb hby at_187) rfl rfl (pc' := 189) rfl ?_
            refine own_getF X628 hx hZ hown (ow_37 hw) e628 p618_3 (hb hby at_189) (pc' := 192) rfl ?_
            intro T629 X629 e629
            refine own_aload X629 hx (hb hby at_192) rfl rfl (pc' := 194) rfl ?_
            refine own_acmpF X629 hx (hb hby at_194) rfl rfl (by simp [XT.acmp]) (pc' := 197) rfl ?_
            refine own_aload X629 hx (hb hby at_197) rfl rfl (pc' := 199) rfl ?_
            refine own_getF X629 hx hZ hown (ow_38 hw) e629 p618_5 (hb hby at_199) (pc' := 202) rfl ?_
            intro T630 X630 e630
            refine own_aloadN X630 hx (hb hby at_202) rfl rfl (pc' := 203) rfl ?_
            refine own_acmpF X630 hx (hb hby at_203) rfl rfl (by simp [XT.acmp]) (pc' := 206) rfl ?_
            refine own_aloadN X630 hx (hb hby at_206) rfl rfl (pc' := 207) rfl ?_
            refine own_getF X630 hx hZ hown (ow_20 hw) e630 p618_2 (hb hby at_207) (pc' := 210) rfl ?_
            intro T631 X631 e631
            refine own_iload X631 hx (hb hby at_210) rfl (pc' := 212) rfl ?_
            refine own_iconst X631 hx (hb hby at_212) (z := (1 : Int32)) rfl (pc' := 213) rfl ?_
            refine own_iadd X631 hx (hb hby at_213) (pc' := 214) rfl ?_
            refine own_icmpF X631 hx (hb hby at_214) (by decide) (pc' := 217) rfl ?_
            refine own_iconst X631 hx (hb hby at_217) (z := (1 : Int32)) rfl (pc' := 218) rfl ?_
            refine own_goto X631 hx (hb hby at_218) (by decide) (pc' := 222) rfl ?_
            refine own_istore X631 hx (hb hby at_222) (l' := #[.val (.int u0), .val (.ref a1), .val (.ref a4), .val (.ref a7), .val (.ref a11), .val (.ref a16), .val (.ref a4), .val (.ref a7), .val (.int (((0 : Int32) + (1 : Int32)) + (1 : Int32))), .val (.ref a7), .val (.null), .val (.int (1 : Int32))]) rfl (pc' := 224) rfl ?_
            refine own_aload X631 hx (hb hby at_224) rfl rfl (pc' := 226) rfl ?_
            refine own_ifnonnullT X631 hx (hb hby at_226) (by decide) (pc' := 253) rfl ?_
            refine own_iload X631 hx (hb hby at_253) rfl (pc' := 255) rfl ?_
            refine own_ifF X631 hx (hb hby at_255) (by decide) (pc' := 258) rfl ?_
            refine own_aloadN X631 hx (hb hby at_258) rfl rfl (pc' := 259) rfl ?_
            refine own_getF X631 hx hZ hown (ow_18 hw) e631 p618_1 (hb hby at_259) (pc' := 262) rfl ?_
            intro T632 X632 e632
            refine own_aload X632 hx (hb hby at_262) rfl rfl (pc' := 264) rfl ?_
            refine own_acmpF X632 hx (hb hby at_264) rfl rfl (by simp [XT.acmp]) (pc' := 267) rfl ?_
            refine own_aload X632 hx (hb hby at_267) rfl rfl (pc' := 269) rfl ?_
            refine own_getF X632 hx hZ hown (ow_36 hw) e632 p618_7 (hb hby at_269) (pc' := 272) rfl ?_
            intro T633 X633 e633
            refine own_aload X633 hx (hb hby at_272) rfl rfl (pc' := 274) rfl ?_
            refine own_acmpF X633 hx (hb hby at_274) rfl rfl (by simp [XT.acmp]) (pc' := 277) rfl ?_
            refine own_aload X633 hx (hb hby at_277) rfl rfl (pc' := 279) rfl ?_
            refine own_getF X633 hx hZ hown (ow_37 hw) e633 p618_6 (hb hby at_279) (pc' := 282) rfl ?_
            intro T634 X634 e634
            refine own_aload X634 hx (hb hby at_282) rfl rfl (pc' := 284) rfl ?_
            refine own_acmpF X634 hx (hb hby at_284) rfl rfl (by simp [XT.acmp]) (pc' := 287) rfl ?_
            refine own_aload X634 hx (hb hby at_287) rfl rfl (pc' := 289) rfl ?_
            refine own_getF X634 hx hZ hown (ow_38 hw) e634 p618_8 (hb hby at_289) (pc' := 292) rfl ?_
            intro T635 X635 e635
            refine own_aloadN X635 hx (hb hby at_292) rfl rfl (pc' := 293) rfl ?_
            refine own_acmpF X635 hx (hb hby at_293) rfl rfl (by simp [XT.acmp]) (pc' := 296) rfl ?_
            refine own_iconst X635 hx (hb hby at_296) (z := (1 : Int32)) rfl (pc' := 297) rfl ?_
            refine own_goto X635 hx (hb hby at_297) (by decide) (pc' := 301) rfl ?_
            refine own_istore X635 hx (hb hby at_301) (l' := #[.val (.int u0), .val (.ref a1), .val (.ref a4), .val (.ref a7), .val (.ref a11), .val (.ref a16), .val (.ref a4), .val (.ref a7), .val (.int (((0 : Int32) + (1 : Int32)) + (1 : Int32))), .val (.ref a7), .val (.null), .val (.int (1 : Int32))]) rfl (pc' := 303) rfl ?_
            refine own_iload X635 hx (hb hby at_303) rfl (pc' := 305) rfl ?_
            refine own_ifF X635 hx (hb hby at_305) (by decide) (pc' := 308) rfl ?_
            refine own_aload X635 hx (hb hby at_308) rfl rfl (pc' := 310) rfl ?_
            refine own_ifnullF X635 hx (hb hby at_310) (pc' := 313) rfl ?_
            refine own_aload X635 hx (hb hby at_313) rfl rfl (pc' := 315) rfl ?_
            have f636 : Fld Z T618.heap a7 "com/example/slot3/slot3/frame/Post" "following" "Lcom/example/slot3/slot3/frame/Post;" (.null) := (f616.keep K618 (ninS (Nat.ne_of_gt lt_a1_a7) (ninS (Nat.ne_of_lt lt_a7_a11) (ninS (Nat.ne_of_gt lt_a4_a7) nin0))))
            refine own_getF X635 hx hZ hown (ow_37 hw) e635 f636 (hb hby at_315) (pc' := 318) rfl ?_
            intro T637 X637 e637
            refine own_aload X637 hx (hb hby at_318) rfl rfl (pc' := 320) rfl ?_
            refine own_acmpF X637 hx (hb hby at_320) rfl rfl (by simp [XT.acmp]) (pc' := 323) rfl ?_
            refine own_iconst X637 hx (hb hby at_323) (z := (1 : Int32)) rfl (pc' := 324) rfl ?_
            refine own_goto X637 hx (hb hby at_324) (by decide) (pc' := 328) rfl ?_
            refine own_istore X637 hx (hb hby at_328) (l' := #[.val (.int u0), .val (.ref a1), .val (.ref a4), .val (.ref a7), .val (.ref a11), .val (.ref a16), .val (.ref a4), .val (.ref a7), .val (.int (((0 : Int32) + (1 : Int32)) + (1 : Int32))), .val (.ref a7), .val (.null), .val (.int (1 : Int32))]) rfl (pc' := 330) rfl ?_
            refine own_iload X637 hx (hb hby at_330) rfl (pc' := 332) rfl ?_
            refine own_ifF X637 hx (hb hby at_332) (by decide) (pc' := 335) rfl ?_
            refine own_aload X637 hx (hb hby at_335) rfl rfl (pc' := 337) rfl ?_
            have f638 : Fld Z T618.heap a16 "com/example/slot3/slot3/frame/Post" "following" "Lcom/example/slot3/slot3/frame/Post;" (.null) := (((((F16_following.keep K482 (ninS (Nat.ne_of_gt lt_a1_a16) (ninS (Nat.ne_of_gt lt_a4_a16) nin0))).keep K563 (ninS (Nat.ne_of_gt lt_a1_a16) (ninS (Nat.ne_of_gt lt_a7_a16) (ninS (Nat.ne_of_gt lt_a4_a16) nin0)))).other W604 (Or.inl (Nat.ne_of_gt lt_a11_a16))).other W607 (Or.inl (Nat.ne_of_gt lt_a11_a16))).keep K618 (ninS (Nat.ne_of_gt lt_a1_a16) (ninS (Nat.ne_of_gt lt_a11_a16) (ninS (Nat.ne_of_gt lt_a4_a16) nin0))))
            refine own_getF X637 hx hZ hown (ow_37 hw) e637 f638 (hb hby at_337) (pc' := 340) rfl ?_
            intro T639 X639 e639
            refine own_ifnonnullF X639 hx (hb hby at_340) (pc' := 343) rfl ?_
            refine own_aload X639 hx (hb hby at_343) rfl rfl (pc' := 345) rfl ?_
            have f640 : Fld Z T618.heap a16 "com/example/slot3/slot3/frame/Post" "previous" "Lcom/example/slot3/slot3/frame/Post;" (.null) := (((((F16_previous.keep K482 (ninS (Nat.ne_of_gt lt_a1_a16) (ninS (Nat.ne_of_gt lt_a4_a16) nin0))).keep K563 (ninS (Nat.ne_of_gt lt_a1_a16) (ninS (Nat.ne_of_gt lt_a7_a16) (ninS (Nat.ne_of_gt lt_a4_a16) nin0)))).other W604 (Or.inl (Nat.ne_of_gt lt_a11_a16))).other W607 (Or.inl (Nat.ne_of_gt lt_a11_a16))).keep K618 (ninS (Nat.ne_of_gt lt_a1_a16) (ninS (Nat.ne_of_gt lt_a11_a16) (ninS (Nat.ne_of_gt lt_a4_a16) nin0))))
            refine own_getF X639 hx hZ hown (ow_36 hw) e639 f640 (hb hby at_345) (pc' := 348) rfl ?_
            intro T641 X641 e641
            refine own_ifnonnullF X641 hx (hb hby at_348) (pc' := 351) rfl ?_
            refine own_aload X641 hx (hb hby at_351) rfl rfl (pc' := 353) rfl ?_
            have f642 : Fld Z T618.heap a16 "com/example/slot3/slot3/frame/Post" "chain" "Lcom/example/slot3/slot3/frame/PostChain;" (.null) := (((((F16_chain.keep K482 (ninS (Nat.ne_of_gt lt_a1_a16) (ninS (Nat.ne_of_gt lt_a4_a16) nin0))).keep K563 (ninS (Nat.ne_of_gt lt_a1_a16) (ninS (Nat.ne_of_gt lt_a7_a16) (ninS (Nat.ne_of_gt lt_a4_a16) nin0)))).other W604 (Or.inl (Nat.ne_of_gt lt_a11_a16))).other W607 (Or.inl (Nat.ne_of_gt lt_a11_a16))).keep K618 (ninS (Nat.ne_of_gt lt_a1_a16) (ninS (Nat.ne_of_gt lt_a11_a16) (ninS (Nat.ne_of_gt lt_a4_a16) nin0))))
            refine own_getF X641 hx hZ hown (ow_38 hw) e641 f642 (hb hby at_353) (pc' := 356) rfl ?_
            intro T643 X643 e643
            refine own_ifnonnullF X643 hx (hb hby at_356) (pc' := 359) rfl ?_
            refine own_iconst X643 hx (hb hby at_359) (z := (1 : Int32)) rfl (pc' := 360) rfl ?_
            refine own_goto X643 hx (hb hby at_360) (by decide) (pc' := 364) rfl ?_
            refine own_istore X643 hx (hb hby at_364) (l' := #[.val (.int u0), .val (.ref a1), .val (.ref a4), .val (.ref a7), .val (.ref a11), .val (.ref a16), .val (.ref a4), .val (.ref a7), .val (.int (((0 : Int32) + (1 : Int32)) + (1 : Int32))), .val (.ref a7), .val (.null), .val (.int (1 : Int32))]) rfl (pc' := 366) rfl ?_
            refine own_iload X643 hx (hb hby at_366) rfl (pc' := 368) rfl ?_
            exact own_retZ X643 hx hret hlk (Or.inr rfl) (hb hby at_368) ⟨rfl, N618⟩ (by decide) (by decide)
        · refine own_ifF X482 hx (hb hby at_77) (feq c562).1 (pc' := 80) rfl ?_
          refine own_aloadN X482 hx (hb hby at_80) rfl rfl (pc' := 81) rfl ?_
          refine own_aloadN X482 hx (hb hby at_81) rfl rfl (pc' := 82) rfl ?_
          have f645 : Exa Z T482.heap a1 "com/example/slot3/slot3/frame/PostChain" := (f483.keep K482)
          have f646 : Exa Z T482.heap a7 "com/example/slot3/slot3/frame/Post" := ((f19.ext E16).keep K482)
          have f647 : Exa Z T482.heap a4 "com/example/slot3/slot3/frame/Post" := (f484.keep K482)
          have f648 : Fld Z T482.heap a7 "com/example/slot3/slot3/frame/Post" "following" "Lcom/example/slot3/slot3/frame/Post;" (.null) := (((F7_following.ext E11).ext E16).keep K482 (ninS (Nat.ne_of_gt lt_a1_a7) (ninS (Nat.ne_of_gt lt_a4_a7) nin0)))
          have f649 : Fld Z T482.heap a7 "com/example/slot3/slot3/frame/Post" "previous" "Lcom/example/slot3/slot3/frame/Post;" (.null) := (((F7_previous.ext E11).ext E16).keep K482 (ninS (Nat.ne_of_gt lt_a1_a7) (ninS (Nat.ne_of_gt lt_a4_a7) nin0)))
          have f650 : Fld Z T482.heap a7 "com/example/slot3/slot3/frame/Post" "chain" "Lcom/example/slot3/slot3/frame/PostChain;" (.null) := (((F7_chain.ext E11).ext E16).keep K482 (ninS (Nat.ne_of_gt lt_a1_a7) (ninS (Nat.ne_of_gt lt_a4_a7) nin0)))
          have z651 : n0 ≤ T482.heap.size := (Nat.le_trans z21 K482.1)
          refine own_callV X482 hx hZ hown (ow_22 hw) (ow_23 hw) (ow_25 hw) (ow_24 hw) (ow_2 hw) (ow_26 hw) (by decide) f645 (rm_pu2 l Z a0 hw a1 a7 a4 ((0 : Int32) + (1 : Int32)) (.ref a4) .null .null .null .null .null (.ref a1) T482.heap n0 z651 f645 f646 p482_0 p482_1 p482_2 f647 f648 f649 f650 p482_3 p482_4 p482_5 ge_a1 ge_a7 ge_a4 (Nat.ne_of_lt lt_a1_a7) (Nat.ne_of_lt lt_a1_a4) (Nat.ne_of_gt lt_a4_a7)) rfl (W := 0) (by decide) (by decide) opd__Lcom_example_slot3_slot3_frame_Post__V rfl (rest := []) rfl (hb hby at_82) (Nat.le_of_eq rfl) (by rw [hml]; rfl) (by decide) (by decide) (pc' := 85) rfl ?_
          intro v644 T644 L644 X644 q644
          obtain ⟨rfl, Nq644, K644, p644_0, p644_1, p644_2, p644_3, p644_4, p644_5, p644_6, p644_7, p644_8⟩ := q644
          have N644 := Fr.app N482 Nq644
          show own_G p e below s _ _ _ (T644.setTop (mkF m 85 #[.val (.int u0), .val (.ref a1), .val (.ref a4), .val (.ref a7), .val (.ref a11), .val (.ref a16), .unset, .unset, .unset, .unset, .unset, .unset] []))
          refine own_goto X644 hx (hb hby at_85) (by decide) (pc' := 93) rfl ?_
          refine own_iloadN X644 hx (hb hby at_93) rfl (pc' := 94) rfl ?_
          refine own_bipush X644 hx (hb hby at_94) (z := (16 : Int32)) (by decide) (pc' := 96) rfl ?_
          refine own_iand X644 hx (hb hby at_96) (pc' := 97) rfl ?_
          by_cases c652 : (u0 &&& (16 : Int32)) = (0 : Int32)
          · refine own_ifT X644 hx (hb hby at_97) (teq c652).1 (by decide) (pc' := 114) rfl ?_
            refine own_aloadN X644 hx (hb hby at_114) rfl rfl (pc' := 115) rfl ?_
            refine own_getF X644 hx hZ hown (ow_16 hw) rfl p644_0 (hb hby at_115) (pc' := 118) rfl ?_
            intro T653 X653 e653
            refine own_astore X653 hx (hb hby at_118) rfl (l' := #[.val (.int u0), .val (.ref a1), .val (.ref a4), .val (.ref a7), .val (.ref a11), .val (.ref a16), .val (.ref a7), .unset, .unset, .unset, .unset, .unset]) rfl (pc' := 120) rfl ?_
            refine own_aloadN X653 hx (hb hby at_120) rfl rfl (pc' := 121) rfl ?_
            refine own_getF X653 hx hZ hown (ow_18 hw) e653 p644_1 (hb hby at_121) (pc' := 124) rfl ?_
            intro T654 X654 e654
            refine own_astore X654 hx (hb hby at_124) rfl (l' := #[.val (.int u0), .val (.ref a1), .val (.ref a4), .val (.ref a7), .val (.ref a11), .val (.ref a16), .val (.ref a7), .val (.ref a4), .unset, .unset, .unset, .unset]) rfl (pc' := 126) rfl ?_
            refine own_aloadN X654 hx (hb hby at_126) rfl rfl (pc' := 127) rfl ?_
            refine own_getF X654 hx hZ hown (ow_20 hw) e654 p644_2 (hb hby at_127) (pc' := 130) rfl ?_
            intro T655 X655 e655
            refine own_istore X655 hx (hb hby at_130) (l' := #[.val (.int u0), .val (.ref a1), .val (.ref a4), .val (.ref a7), .val (.ref a11), .val (.ref a16), .val (.ref a7), .val (.ref a4), .val (.int (((0 : Int32) + (1 : Int32)) + (1 : Int32))), .unset, .unset, .unset]) rfl (pc' := 132) rfl ?_
            refine own_aload X655 hx (hb hby at_132) rfl rfl (pc' := 134) rfl ?_
            refine own_ifnonnullT X655 hx (hb hby at_134) (by decide) (pc' := 141) rfl ?_
            refine own_aload X655 hx (hb hby at_141) rfl rfl (pc' := 143) rfl ?_
            refine own_getF X655 hx hZ hown (ow_37 hw) e655 p644_3 (hb hby at_143) (pc' := 146) rfl ?_
            intro T656 X656 e656
            refine own_astore X656 hx (hb hby at_146) rfl (l' := #[.val (.int u0), .val (.ref a1), .val (.ref a4), .val (.ref a7), .val (.ref a11), .val (.ref a16), .val (.ref a7), .val (.ref a4), .val (.int (((0 : Int32) + (1 : Int32)) + (1 : Int32))), .val (.ref a4), .unset, .unset]) rfl (pc' := 148) rfl ?_
            refine own_aload X656 hx (hb hby at_148) rfl rfl (pc' := 150) rfl ?_
            refine own_ifnonnullT X656 hx (hb hby at_150) (by decide) (pc' := 157) rfl ?_
            refine own_aload X656 hx (hb hby at_157) rfl rfl (pc' := 159) rfl ?_
            refine own_getF X656 hx hZ hown (ow_37 hw) e656 p644_6 (hb hby at_159) (pc' := 162) rfl ?_
            intro T657 X657 e657
            refine own_astore X657 hx (hb hby at_162) rfl (l' := #[.val (.int u0), .val (.ref a1), .val (.ref a4), .val (.ref a7), .val (.ref a11), .val (.ref a16), .val (.ref a7), .val (.ref a4), .val (.int (((0 : Int32) + (1 : Int32)) + (1 : Int32))), .val (.ref a4), .val (.null), .unset]) rfl (pc' := 164) rfl ?_
            refine own_aloadN X657 hx (hb hby at_164) rfl rfl (pc' := 165) rfl ?_
            refine own_aload X657 hx (hb hby at_165) rfl rfl (pc' := 167) rfl ?_
            have f659 : Exa Z T644.heap a1 "com/example/slot3/slot3/frame/PostChain" := (f645.keep K644)
            have f660 : Exa Z T644.heap a11 "com/example/slot3/slot3/frame/Post" := (((A11.ext E16).keep K482).keep K644)
            have f661 : Exa Z T644.heap a7 "com/example/slot3/slot3/frame/Post" := (f646.keep K644)
            have f662 : Fld Z T644.heap a11 "com/example/slot3/slot3/frame/Post" "following" "Lcom/example/slot3/slot3/frame/Post;" (.null) := (((F11_following.ext E16).keep K482 (ninS (Nat.ne_of_gt lt_a1_a11) (ninS (Nat.ne_of_gt lt_a4_a11) nin0))).keep K644 (ninS (Nat.ne_of_gt lt_a1_a11) (ninS (Nat.ne_of_gt lt_a7_a11) (ninS (Nat.ne_of_gt lt_a4_a11) nin0))))
            have f663 : Fld Z T644.heap a11 "com/example/slot3/slot3/frame/Post" "previous" "Lcom/example/slot3/slot3/frame/Post;" (.null) := (((F11_previous.ext E16).keep K482 (ninS (Nat.ne_of_gt lt_a1_a11) (ninS (Nat.ne_of_gt lt_a4_a11) nin0))).keep K644 (ninS (Nat.ne_of_gt lt_a1_a11) (ninS (Nat.ne_of_gt lt_a7_a11) (ninS (Nat.ne_of_gt lt_a4_a11) nin0))))
            have f664 : Fld Z T644.heap a11 "com/example/slot3/slot3/frame/Post" "chain" "Lcom/example/slot3/slot3/frame/PostChain;" (.null) := (((F11_chain.ext E16).keep K482 (ninS (Nat.ne_of_gt lt_a1_a11) (ninS (Nat.ne_of_gt lt_a4_a11) nin0))).keep K644 (ninS (Nat.ne_of_gt lt_a1_a11) (ninS (Nat.ne_of_gt lt_a7_a11) (ninS (Nat.ne_of_gt lt_a4_a11) nin0))))
            have z665 : n0 ≤ T644.heap.size := (Nat.le_trans z651 K644.1)
            refine own_callV X657 hx hZ hown (ow_22 hw) (ow_23 hw) (ow_25 hw) (ow_24 hw) (ow_2 hw) (ow_26 hw) (by decide) f659 (rm_pu2 l Z a0 hw a1 a11 a7 (((0 : Int32) + (1 : Int32)) + (1 : Int32)) (.ref a4) .null .null .null (.ref a4) .null (.ref a1) T644.heap n0 z665 f659 f660 p644_0 p644_1 p644_2 f661 f662 f663 f664 p644_3 p644_4 p644_5 ge_a1 ge_a11 ge_a7 (Nat.ne_of_lt lt_a1_a11) (Nat.ne_of_lt lt_a1_a7) (Nat.ne_of_gt lt_a7_a11)) e657 (W := 0) (by decide) (by decide) opd__Lcom_example_slot3_slot3_frame_Post__V rfl (rest := []) rfl (hb hby at_167) (Nat.le_of_eq rfl) (by rw [hml]; rfl) (by decide) (by decide) (pc' := 170) rfl ?_
            intro v658 T658 L658 X658 q658
            obtain ⟨rfl, Nq658, K658, p658_0, p658_1, p658_2, p658_3, p658_4, p658_5, p658_6, p658_7, p658_8⟩ := q658
            have N658 := Fr.app N644 Nq658
            show own_G p e below s _ _ _ (T658.setTop (mkF m 170 #[.val (.int u0), .val (.ref a1), .val (.ref a4), .val (.ref a7), .val (.ref a11), .val (.ref a16), .val (.ref a7), .val (.ref a4), .val (.int (((0 : Int32) + (1 : Int32)) + (1 : Int32))), .val (.ref a4), .val (.null), .unset] []))
            refine own_aloadN X658 hx (hb hby at_170) rfl rfl (pc' := 171) rfl ?_
            refine own_getF X658 hx hZ hown (ow_16 hw) rfl p658_0 (hb hby at_171) (pc' := 174) rfl ?_
            intro T666 X666 e666
            refine own_aload X666 hx (hb hby at_174) rfl rfl (pc' := 176) rfl ?_
            refine own_acmpF X666 hx (hb hby at_176) rfl rfl (by simp [XT.acmp]) (pc' := 179) rfl ?_
            refine own_aload X666 hx (hb hby at_179) rfl rfl (pc' := 181) rfl ?_
            refine own_getF X666 hx hZ hown (ow_36 hw) e666 p658_4 (hb hby at_181) (pc' := 184) rfl ?_
            intro T667 X667 e667
            refine own_ifnonnullF X667 hx (hb hby at_184) (pc' := 187) rfl ?_
            refine own_aload X667 hx (hb hby at_187) rfl rfl (pc' := 189) rfl ?_
            refine own_getF X667 hx hZ hown (ow_37 hw) e667 p658_3 (hb hby at_189) (pc' := 192) rfl ?_
            intro T668 X668 e668
            refine own_aload X668 hx (hb hby at_192) rfl rfl (pc' := 194) rfl ?_
            refine own_acmpF X668 hx (hb hby at_194) rfl rfl (by simp [XT.acmp]) (pc' := 197) rfl ?_
            refine own_aload X668 hx (hb hby at_197) rfl rfl (pc' := 199) rfl ?_
            refine own_getF X668 hx hZ hown (ow_38 hw) e668 p658_5 (hb hby at_199) (pc' := 202) rfl ?_
            intro T669 X669 e669
            refine own_aloadN X669 hx (hb hby at_202) rfl rfl (pc' := 203) rfl ?_
            refine own_acmpF X669 hx (hb hby at_203) rfl rfl (by simp [XT.acmp]) (pc' := 206) rfl ?_
            refine own_aloadN X669 hx (hb hby at_206) rfl rfl (pc' := 207) rfl ?_
            refine own_getF X669 hx hZ hown (ow_20 hw) e669 p658_2 (hb hby at_207) (pc' := 210) rfl ?_
            intro T670 X670 e670
            refine own_iload X670 hx (hb hby at_210) rfl (pc' := 212) rfl ?_
            refine own_iconst X670 hx (hb hby at_212) (z := (1 : Int32)) rfl (pc' := 213) rfl ?_
            refine own_iadd X670 hx (hb hby at_213) (pc' := 214) rfl ?_
            refine own_icmpF X670 hx (hb hby at_214) (by decide) (pc' := 217) rfl ?_
            refine own_iconst X670 hx (hb hby at_217) (z := (1 : Int32)) rfl (pc' := 218) rfl ?_
            refine own_goto X670 hx (hb hby at_218) (by decide) (pc' := 222) rfl ?_
            refine own_istore X670 hx (hb hby at_222) (l' := #[.val (.int u0), .val (.ref a1), .val (.ref a4), .val (.ref a7), .val (.ref a11), .val (.ref a16), .val (.ref a7), .val (.ref a4), .val (.int (((0 : Int32) + (1 : Int32)) + (1 : Int32))), .val (.ref a4), .val (.null), .val (.int (1 : Int32))]) rfl (pc' := 224) rfl ?_
            refine own_aload X670 hx (hb hby at_224) rfl rfl (pc' := 226) rfl ?_
            refine own_ifnonnullT X670 hx (hb hby at_226) (by decide) (pc' := 253) rfl ?_
            refine own_iload X670 hx (hb hby at_253) rfl (pc' := 255) rfl ?_
            refine own_ifF X670 hx (hb hby at_255) (by decide) (pc' := 258) rfl ?_
            refine own_aloadN X670 hx (hb hby at_258) rfl rfl (pc' := 259) rfl ?_
            refine own_getF X670 hx hZ hown (ow_18 hw) e670 p658_1 (hb hby at_259) (pc' := 262) rfl ?_
            intro T671 X671 e671
            refine own_aload X671 hx (hb hby at_262) rfl rfl (pc' := 264) rfl ?_
            refine own_acmpF X671 hx (hb hby at_264) rfl rfl (by simp [XT.acmp]) (pc' := 267) rfl ?_
            refine own_aload X671 hx (hb hby at_267) rfl rfl (pc' := 269) rfl ?_
            refine own_getF X671 hx hZ hown (ow_36 hw) e671 p658_7 (hb hby at_269) (pc' := 272) rfl ?_
            intro T672 X672 e672
            refine own_aload X672 hx (hb hby at_272) rfl rfl (pc' := 274) rfl ?_
            refine own_acmpF X672 hx (hb hby at_274) rfl rfl (by simp [XT.acmp]) (pc' := 277) rfl ?_
            refine own_aload X672 hx (hb hby at_277) rfl rfl (pc' := 279) rfl ?_
            refine own_getF X672 hx hZ hown (ow_37 hw) e672 p658_6 (hb hby at_279) (pc' := 282) rfl ?_
            intro T673 X673 e673
            refine own_aload X673 hx (hb hby at_282) rfl rfl (pc' := 284) rfl ?_
            refine own_acmpF X673 hx (hb hby at_284) rfl rfl (by simp [XT.acmp]) (pc' := 287) rfl ?_
            refine own_aload X673 hx (hb hby at_287) rfl rfl (pc' := 289) rfl ?_
            refine own_getF X673 hx hZ hown (ow_38 hw) e673 p658_8 (hb hby at_289) (pc' := 292) rfl ?_
            intro T674 X674 e674
            refine own_aloadN X674 hx (hb hby at_292) rfl rfl (pc' := 293) rfl ?_
            refine own_acmpF X674 hx (hb hby at_293) rfl rfl (by simp [XT.acmp]) (pc' := 296) rfl ?_
            refine own_iconst X674 hx (hb hby at_296) (z := (1 : Int32)) rfl (pc' := 297) rfl ?_
            refine own_goto X674 hx (hb hby at_297) (by decide) (pc' := 301) rfl ?_
            refine own_istore X674 hx (hb hby at_301) (l' := #[.val (.int u0), .val (.ref a1), .val (.ref a4), .val (.ref a7), .val (.ref a11), .val (.ref a16), .val (.ref a7), .val (.ref a4), .val (.int (((0 : Int32) + (1 : Int32)) + (1 : Int32))), .val (.ref a4), .val (.null), .val (.int (1 : Int32))]) rfl (pc' := 303) rfl ?_
            refine own_iload X674 hx (hb hby at_303) rfl (pc' := 305) rfl ?_
            refine own_ifF X674 hx (hb hby at_305) (by decide) (pc' := 308) rfl ?_
            refine own_aload X674 hx (hb hby at_308) rfl rfl (pc' := 310) rfl ?_
            refine own_ifnullF X674 hx (hb hby at_310) (pc' := 313) rfl ?_
            refine own_aload X674 hx (hb hby at_313) rfl rfl (pc' := 315) rfl ?_
            have f675 : Fld Z T658.heap a4 "com/example/slot3/slot3/frame/Post" "following" "Lcom/example/slot3/slot3/frame/Post;" (.null) := (p644_6.keep K658 (ninS (Nat.ne_of_gt lt_a1_a4) (ninS (Nat.ne_of_lt lt_a4_a11) (ninS (Nat.ne_of_lt lt_a4_a7) nin0))))
            refine own_getF X674 hx hZ hown (ow_37 hw) e674 f675 (hb hby at_315) (pc' := 318) rfl ?_
            intro T676 X676 e676
            refine own_aload X676 hx (hb hby at_318) rfl rfl (pc' := 320) rfl ?_
            refine own_acmpF X676 hx (hb hby at_320) rfl rfl (by simp [XT.acmp]) (pc' := 323) rfl ?_
            refine own_iconst X676 hx (hb hby at_323) (z := (1 : Int32)) rfl (pc' := 324) rfl ?_
            refine own_goto X676 hx (hb hby at_324) (by decide) (pc' := 328) rfl ?_
            refine own_istore X676 hx (hb hby at_328) (l' := #[.val (.int u0), .val (.ref a1), .val (.ref a4), .val (.ref a7), .val (.ref a11), .val (.ref a16), .val (.ref a7), .val (.ref a4), .val (.int (((0 : Int32) + (1 : Int32)) + (1 : Int32))), .val (.ref a4), .val (.null), .val (.int (1 : Int32))]) rfl (pc' := 330) rfl ?_
            refine own_iload X676 hx (hb hby at_330) rfl (pc' := 332) rfl ?_
            refine own_ifF X676 hx (hb hby at_332) (by decide) (pc' := 335) rfl ?_
            refine own_aload X676 hx (hb hby at_335) rfl rfl (pc' := 337) rfl ?_
            have f677 : Fld Z T658.heap a16 "com/example/slot3/slot3/frame/Post" "following" "Lcom/example/slot3/slot3/frame/Post;" (.null) := (((F16_following.keep K482 (ninS (Nat.ne_of_gt lt_a1_a16) (ninS (Nat.ne_of_gt lt_a4_a16) nin0))).keep K644 (ninS (Nat.ne_of_gt lt_a1_a16) (ninS (Nat.ne_of_gt lt_a7_a16) (ninS (Nat.ne_of_gt lt_a4_a16) nin0)))).keep K658 (ninS (Nat.ne_of_gt lt_a1_a16) (ninS (Nat.ne_of_gt lt_a11_a16) (ninS (Nat.ne_of_gt lt_a7_a16) nin0))))
            refine own_getF X676 hx hZ hown (ow_37 hw) e676 f677 (hb hby at_337) (pc' := 340) rfl ?_
            intro T678 X678 e678
            refine own_ifnonnullF X678 hx (hb hby at_340) (pc' := 343) rfl ?_
            refine own_aload X678 hx (hb hby at_343) rfl rfl (pc' := 345) rfl ?_
            have f679 : Fld Z T658.heap a16 "com/example/slot3/slot3/frame/Post" "previous" "Lcom/example/slot3/slot3/frame/Post;" (.null) := (((F16_previous.keep K482 (ninS (Nat.ne_of_gt lt_a1_a16) (ninS (Nat.ne_of_gt lt_a4_a16) nin0))).keep K644 (ninS (Nat.ne_of_gt lt_a1_a16) (ninS (Nat.ne_of_gt lt_a7_a16) (ninS (Nat.ne_of_gt lt_a4_a16) nin0)))).keep K658 (ninS (Nat.ne_of_gt lt_a1_a16) (ninS (Nat.ne_of_gt lt_a11_a16) (ninS (Nat.ne_of_gt lt_a7_a16) nin0))))
            refine own_getF X678 hx hZ hown (ow_36 hw) e678 f679 (hb hby at_345) (pc' := 348) rfl ?_
            intro T680 X680 e680
            refine own_ifnonnullF X680 hx (hb hby at_348) (pc' := 351) rfl ?_
            refine own_aload X680 hx (hb hby at_351) rfl rfl (pc' := 353) rfl ?_
            have f681 : Fld Z T658.heap a16 "com/example/slot3/slot3/frame/Post" "chain" "Lcom/example/slot3/slot3/frame/PostChain;" (.null) := (((F16_chain.keep K482 (ninS (Nat.ne_of_gt lt_a1_a16) (ninS (Nat.ne_of_gt lt_a4_a16) nin0))).keep K644 (ninS (Nat.ne_of_gt lt_a1_a16) (ninS (Nat.ne_of_gt lt_a7_a16) (ninS (Nat.ne_of_gt lt_a4_a16) nin0)))).keep K658 (ninS (Nat.ne_of_gt lt_a1_a16) (ninS (Nat.ne_of_gt lt_a11_a16) (ninS (Nat.ne_of_gt lt_a7_a16) nin0))))
            refine own_getF X680 hx hZ hown (ow_38 hw) e680 f681 (hb hby at_353) (pc' := 356) rfl ?_
            intro T682 X682 e682
            refine own_ifnonnullF X682 hx (hb hby at_356) (pc' := 359) rfl ?_
            refine own_iconst X682 hx (hb hby at_359) (z := (1 : Int32)) rfl (pc' := 360) rfl ?_
            refine own_goto X682 hx (hb hby at_360) (by decide) (pc' := 364) rfl ?_
            refine own_istore X682 hx (hb hby at_364) (l' := #[.val (.int u0), .val (.ref a1), .val (.ref a4), .val (.ref a7), .val (.ref a11), .val (.ref a16), .val (.ref a7), .val (.ref a4), .val (.int (((0 : Int32) + (1 : Int32)) + (1 : Int32))), .val (.ref a4), .val (.null), .val (.int (1 : Int32))]) rfl (pc' := 366) rfl ?_
            refine own_iload X682 hx (hb hby at_366) rfl (pc' := 368) rfl ?_
            exact own_retZ X682 hx hret hlk (Or.inr rfl) (hb hby at_368) ⟨rfl, N658⟩ (by decide) (by decide)
          · refine own_ifF X644 hx (hb hby at_97) (feq c652).1 (pc' := 100) rfl ?_
            refine own_aload X644 hx (hb hby at_100) rfl rfl (pc' := 102) rfl ?_
            refine own_aload X644 hx (hb hby at_102) rfl rfl (pc' := 104) rfl ?_
            have f683 : Fld Z T644.heap a11 "com/example/slot3/slot3/frame/Post" "previous" "Lcom/example/slot3/slot3/frame/Post;" (.null) := (((F11_previous.ext E16).keep K482 (ninS (Nat.ne_of_gt lt_a1_a11) (ninS (Nat.ne_of_gt lt_a4_a11) nin0))).keep K644 (ninS (Nat.ne_of_gt lt_a1_a11) (ninS (Nat.ne_of_gt lt_a7_a11) (ninS (Nat.ne_of_gt lt_a4_a11) nin0))))
            have f684 : Exa Z T644.heap a11 "com/example/slot3/slot3/frame/Post" := (((A11.ext E16).keep K482).keep K644)
            refine own_putF X644 hx hZ hown (ow_36 hw) rfl f683 f684 (Or.inl (ow_32 hw)) (ow_10 hw) (ty := (.object "com/example/slot3/slot3/frame/Post")) (by decide) rfl rfl (hb hby at_104) (pc' := 107) rfl ?_
            intro T685 h685 X685 e685 W685
            have N685 := Fr.snoc X685 N644 ge_a11
            refine own_aload X685 hx (hb hby at_107) rfl rfl (pc' := 109) rfl ?_
            refine own_aload X685 hx (hb hby at_109) rfl rfl (pc' := 111) rfl ?_
            have f686 : Fld Z h685 a11 "com/example/slot3/slot3/frame/Post" "following" "Lcom/example/slot3/slot3/frame/Post;" (.null) := ((((F11_following.ext E16).keep K482 (ninS (Nat.ne_of_gt lt_a1_a11) (ninS (Nat.ne_of_gt lt_a4_a11) nin0))).keep K644 (ninS (Nat.ne_of_gt lt_a1_a11) (ninS (Nat.ne_of_gt lt_a7_a11) (ninS (Nat.ne_of_gt lt_a4_a11) nin0)))).other W685 (Or.inr (osn_7 hw)))
            have f687 : Exa Z h685 a11 "com/example/slot3/slot3/frame/Post" := (f684.wr W685)
            refine own_putF X685 hx hZ hown (ow_37 hw) e685 f686 f687 (Or.inl (ow_30 hw)) (ow_10 hw) (ty := (.object "com/example/slot3/slot3/frame/Post")) (by decide) rfl rfl (hb hby at_111) (pc' := 114) rfl ?_
            intro T688 h688 X688 e688 W688
            have N688 := Fr.snoc X688 N685 ge_a11
            refine own_aloadN X688 hx (hb hby at_114) rfl rfl (pc' := 115) rfl ?_
            have f689 : Fld Z h688 a1 "com/example/slot3/slot3/frame/PostChain" "first" "Lcom/example/slot3/slot3/frame/Post;" (.ref a7) := ((p644_0.other W685 (Or.inl (Nat.ne_of_lt lt_a1_a11))).other W688 (Or.inl (Nat.ne_of_lt lt_a1_a11)))
            refine own_getF X688 hx hZ hown (ow_16 hw) e688 f689 (hb hby at_115) (pc' := 118) rfl ?_
            intro T690 X690 e690
            refine own_astore X690 hx (hb hby at_118) rfl (l' := #[.val (.int u0), .val (.ref a1), .val (.ref a4), .val (.ref a7), .val (.ref a11), .val (.ref a16), .val (.ref a7), .unset, .unset, .unset, .unset, .unset]) rfl (pc' := 120) rfl ?_
            refine own_aloadN X690 hx (hb hby at_120) rfl rfl (pc' := 121) rfl ?_
            have f691 : Fld Z h688 a1 "com/example/slot3/slot3/frame/PostChain" "last" "Lcom/example/slot3/slot3/frame/Post;" (.ref a4) := ((p644_1.other W685 (Or.inl (Nat.ne_of_lt lt_a1_a11))).other W688 (Or.inl (Nat.ne_of_lt lt_a1_a11)))
            refine own_getF X690 hx hZ hown (ow_18 hw) e690 f691 (hb hby at_121) (pc' := 124) rfl ?_
            intro T692 X692 e692
            refine own_astore X692 hx (hb hby at_124) rfl (l' := #[.val (.int u0), .val (.ref a1), .val (.ref a4), .val (.ref a7), .val (.ref a11), .val (.ref a16), .val (.ref a7), .val (.ref a4), .unset, .unset, .unset, .unset]) rfl (pc' := 126) rfl ?_
            refine own_aloadN X692 hx (hb hby at_126) rfl rfl (pc' := 127) rfl ?_
            have f693 : Fld Z h688 a1 "com/example/slot3/slot3/frame/PostChain" "count" "I" (.int (((0 : Int32) + (1 : Int32)) + (1 : Int32))) := ((p644_2.other W685 (Or.inl (Nat.ne_of_lt lt_a1_a11))).other W688 (Or.inl (Nat.ne_of_lt lt_a1_a11)))
            refine own_getF X692 hx hZ hown (ow_20 hw) e692 f693 (hb hby at_127) (pc' := 130) rfl ?_
            intro T694 X694 e694
            refine own_istore X694 hx (hb hby at_130) (l' := #[.val (.int u0), .val (.ref a1), .val (.ref a4), .val (.ref a7), .val (.ref a11), .val (.ref a16), .val (.ref a7), .val (.ref a4), .val (.int (((0 : Int32) + (1 : Int32)) + (1 : Int32))), .unset, .unset, .unset]) rfl (pc' := 132) rfl ?_
            refine own_aload X694 hx (hb hby at_132) rfl rfl (pc' := 134) rfl ?_
            refine own_ifnonnullT X694 hx (hb hby at_134) (by decide) (pc' := 141) rfl ?_
            refine own_aload X694 hx (hb hby at_141) rfl rfl (pc' := 143) rfl ?_
            have f695 : Fld Z h688 a7 "com/example/slot3/slot3/frame/Post" "following" "Lcom/example/slot3/slot3/frame/Post;" (.ref a4) := ((p644_3.other W685 (Or.inl (Nat.ne_of_lt lt_a7_a11))).other W688 (Or.inl (Nat.ne_of_lt lt_a7_a11)))
            refine own_getF X694 hx hZ hown (ow_37 hw) e694 f695 (hb hby at_143) (pc' := 146) rfl ?_
            intro T696 X696 e696
            refine own_astore X696 hx (hb hby at_146) rfl (l' := #[.val (.int u0), .val (.ref a1), .val (.ref a4), .val (.ref a7), .val (.ref a11), .val (.ref a16), .val (.ref a7), .val (.ref a4), .val (.int (((0 : Int32) + (1 : Int32)) + (1 : Int32))), .val (.ref a4), .unset, .unset]) rfl (pc' := 148) rfl ?_
            refine own_aload X696 hx (hb hby at_148) rfl rfl (pc' := 150) rfl ?_
            refine own_ifnonnullT X696 hx (hb hby at_150) (by decide) (pc' := 157) rfl ?_
            refine own_aload X696 hx (hb hby at_157) rfl rfl (pc' := 159) rfl ?_
            have f697 : Fld Z h688 a4 "com/example/slot3/slot3/frame/Post" "following" "Lcom/example/slot3/slot3/frame/Post;" (.null) := ((p644_6.other W685 (Or.inl (Nat.ne_of_lt lt_a4_a11))).other W688 (Or.inl (Nat.ne_of_lt lt_a4_a11)))
            refine own_getF X696 hx hZ hown (ow_37 hw) e696 f697 (hb hby at_159) (pc' := 162) rfl ?_
            intro T698 X698 e698
            refine own_astore X698 hx (hb hby at_162) rfl (l' := #[.val (.int u0), .val (.ref a1), .val (.ref a4), .val (.ref a7), .val (.ref a11), .val (.ref a16), .val (.ref a7), .val (.ref a4), .val (.int (((0 : Int32) + (1 : Int32)) + (1 : Int32))), .val (.ref a4), .val (.null), .unset]) rfl (pc' := 164) rfl ?_
            refine own_aloadN X698 hx (hb hby at_164) rfl rfl (pc' := 165) rfl ?_
            refine own_aload X698 hx (hb hby at_165) rfl rfl (pc' := 167) rfl ?_
            have f700 : Exa Z h688 a1 "com/example/slot3/slot3/frame/PostChain" := (((f645.keep K644).wr W685).wr W688)
            have f701 : Exa Z h688 a11 "com/example/slot3/slot3/frame/Post" := (f687.wr W688)
            have f702 : Exa Z h688 a7 "com/example/slot3/slot3/frame/Post" := (((f646.keep K644).wr W685).wr W688)
            have f703 : Fld Z h688 a11 "com/example/slot3/slot3/frame/Post" "previous" "Lcom/example/slot3/slot3/frame/Post;" (.ref a16) := ((f683.same W685).other W688 (Or.inr (osn_10 hw)))
            have f704 : Fld Z h688 a11 "com/example/slot3/slot3/frame/Post" "chain" "Lcom/example/slot3/slot3/frame/PostChain;" (.null) := (((((F11_chain.ext E16).keep K482 (ninS (Nat.ne_of_gt lt_a1_a11) (ninS (Nat.ne_of_gt lt_a4_a11) nin0))).keep K644 (ninS (Nat.ne_of_gt lt_a1_a11) (ninS (Nat.ne_of_gt lt_a7_a11) (ninS (Nat.ne_of_gt lt_a4_a11) nin0)))).other W685 (Or.inr (osn_1 hw))).other W688 (Or.inr (osn_11 hw)))
            have f705 : Fld Z h688 a7 "com/example/slot3/slot3/frame/Post" "previous" "Lcom/example/slot3/slot3/frame/Post;" (.null) := ((p644_4.other W685 (Or.inl (Nat.ne_of_lt lt_a7_a11))).other W688 (Or.inl (Nat.ne_of_lt lt_a7_a11)))
            have f706 : Fld Z h688 a7 "com/example/slot3/slot3/frame/Post" "chain" "Lcom/example/slot3/slot3/frame/PostChain;" (.ref a1) := ((p644_5.other W685 (Or.inl (Nat.ne_of_lt lt_a7_a11))).other W688 (Or.inl (Nat.ne_of_lt lt_a7_a11)))
            have z707 : n0 ≤ h688.size := (Nat.le_trans (Nat.le_trans (Nat.le_trans z651 K644.1) (Nat.le_of_eq (Wr.size W685).symm)) (Nat.le_of_eq (Wr.size W688).symm))
            refine own_callV X698 hx hZ hown (ow_22 hw) (ow_23 hw) (ow_25 hw) (ow_24 hw) (ow_2 hw) (ow_26 hw) (by decide) f700 (rm_pu2 l Z a0 hw a1 a11 a7 (((0 : Int32) + (1 : Int32)) + (1 : Int32)) (.ref a4) (.ref a16) (.ref a16) .null (.ref a4) .null (.ref a1) h688 n0 z707 f700 f701 f689 f691 f693 f702 (f686.same W688) f703 f704 f695 f705 f706 ge_a1 ge_a11 ge_a7 (Nat.ne_of_lt lt_a1_a11) (Nat.ne_of_lt lt_a1_a7) (Nat.ne_of_gt lt_a7_a11)) e698 (W := 0) (by decide) (by decide) opd__Lcom_example_slot3_slot3_frame_Post__V rfl (rest := []) rfl (hb hby at_167) (Nat.le_of_eq rfl) (by rw [hml]; rfl) (by decide) (by decide) (pc' := 170) rfl ?_
            intro v699 T699 L699 X699 q699
            obtain ⟨rfl, Nq699, K699, p699_0, p699_1, p699_2, p699_3, p699_4, p699_5, p699_6, p699_7, p699_8⟩ := q699
            have N699 := Fr.app N688 Nq699
            show own_G p e below s _ _ _ (T699.setTop (mkF m 170 #[.val (.int u0), .val (.ref a1), .val (.ref a4), .val (.ref a7), .val (.ref a11), .val (.ref a16), .val (.ref a7), .val (.ref a4), .val (.int (((0 : Int32) + (1 : Int32)) + (1 : Int32))), .val (.ref a4), .val (.null), .unset] []))
            refine own_aloadN X699 hx (hb hby at_170) rfl rfl (pc' := 171) rfl ?_
            refine own_getF X699 hx hZ hown (ow_16 hw) rfl p699_0 (hb hby at_171) (pc' := 174) rfl ?_
            intro T708 X708 e708
            refine own_aload X708 hx (hb hby at_174) rfl rfl (pc' := 176) rfl ?_
            refine own_acmpF X708 hx (hb hby at_176) rfl rfl (by simp [XT.acmp]) (pc' := 179) rfl ?_
            refine own_aload X708 hx (hb hby at_179) rfl rfl (pc' := 181) rfl ?_
            refine own_getF X708 hx hZ hown (ow_36 hw) e708 p699_4 (hb hby at_181) (pc' := 184) rfl ?_
            intro T709 X709 e709
            refine own_ifnonnullF X709 hx (hb hby at_184) (pc' := 187) rfl ?_
            refine own_aload X709 hx (hb hby at_187) rfl rfl (pc' := 189) rfl ?_
            refine own_getF X709 hx hZ hown (ow_37 hw) e709 p699_3 (hb hby at_189) (pc' := 192) rfl ?_
            intro T710 X710 e710
            refine own_aload X710 hx (hb hby at_192) rfl rfl (pc' := 194) rfl ?_
            refine own_acmpF X710 hx (hb hby at_194) rfl rfl (by simp [XT.acmp]) (pc' := 197) rfl ?_
            refine own_aload X710 hx (hb hby at_197) rfl rfl (pc' := 199) rfl ?_
            refine own_getF X710 hx hZ hown (ow_38 hw) e710 p699_5 (hb hby at_199) (pc' := 202) rfl ?_
            intro T711 X711 e711
            refine own_aloadN X711 hx (hb hby at_202) rfl rfl (pc' := 203) rfl ?_
            refine own_acmpF X711 hx (hb hby at_203) rfl rfl (by simp [XT.acmp]) (pc' := 206) rfl ?_
            refine own_aloadN X711 hx (hb hby at_206) rfl rfl (pc' := 207) rfl ?_
            refine own_getF X711 hx hZ hown (ow_20 hw) e711 p699_2 (hb hby at_207) (pc' := 210) rfl ?_
            intro T712 X712 e712
            refine own_iload X712 hx (hb hby at_210) rfl (pc' := 212) rfl ?_
            refine own_iconst X712 hx (hb hby at_212) (z := (1 : Int32)) rfl (pc' := 213) rfl ?_
            refine own_iadd X712 hx (hb hby at_213) (pc' := 214) rfl ?_
            refine own_icmpF X712 hx (hb hby at_214) (by decide) (pc' := 217) rfl ?_
            refine own_iconst X712 hx (hb hby at_217) (z := (1 : Int32)) rfl (pc' := 218) rfl ?_
            refine own_goto X712 hx (hb hby at_218) (by decide) (pc' := 222) rfl ?_
            refine own_istore X712 hx (hb hby at_222) (l' := #[.val (.int u0), .val (.ref a1), .val (.ref a4), .val (.ref a7), .val (.ref a11), .val (.ref a16), .val (.ref a7), .val (.ref a4), .val (.int (((0 : Int32) + (1 : Int32)) + (1 : Int32))), .val (.ref a4), .val (.null), .val (.int (1 : Int32))]) rfl (pc' := 224) rfl ?_
            refine own_aload X712 hx (hb hby at_224) rfl rfl (pc' := 226) rfl ?_
            refine own_ifnonnullT X712 hx (hb hby at_226) (by decide) (pc' := 253) rfl ?_
            refine own_iload X712 hx (hb hby at_253) rfl (pc' := 255) rfl ?_
            refine own_ifF X712 hx (hb hby at_255) (by decide) (pc' := 258) rfl ?_
            refine own_aloadN X712 hx (hb hby at_258) rfl rfl (pc' := 259) rfl ?_
            refine own_getF X712 hx hZ hown (ow_18 hw) e712 p699_1 (hb hby at_259) (pc' := 262) rfl ?_
            intro T713 X713 e713
            refine own_aload X713 hx (hb hby at_262) rfl rfl (pc' := 264) rfl ?_
            refine own_acmpF X713 hx (hb hby at_264) rfl rfl (by simp [XT.acmp]) (pc' := 267) rfl ?_
            refine own_aload X713 hx (hb hby at_267) rfl rfl (pc' := 269) rfl ?_
            refine own_getF X713 hx hZ hown (ow_36 hw) e713 p699_7 (hb hby at_269) (pc' := 272) rfl ?_
            intro T714 X714 e714
            refine own_aload X714 hx (hb hby at_272) rfl rfl (pc' := 274) rfl ?_
            refine own_acmpF X714 hx (hb hby at_274) rfl rfl (by simp [XT.acmp]) (pc' := 277) rfl ?_
            refine own_aload X714 hx (hb hby at_277) rfl rfl (pc' := 279) rfl ?_
            refine own_getF X714 hx hZ hown (ow_37 hw) e714 p699_6 (hb hby at_279) (pc' := 282) rfl ?_
            intro T715 X715 e715
            refine own_aload X715 hx (hb hby at_282) rfl rfl (pc' := 284) rfl ?_
            refine own_acmpF X715 hx (hb hby at_284) rfl rfl (by simp [XT.acmp]) (pc' := 287) rfl ?_
            refine own_aload X715 hx (hb hby at_287) rfl rfl (pc' := 289) rfl ?_
            refine own_getF X715 hx hZ hown (ow_38 hw) e715 p699_8 (hb hby at_289) (pc' := 292) rfl ?_
            intro T716 X716 e716
            refine own_aloadN X716 hx (hb hby at_292) rfl rfl (pc' := 293) rfl ?_
            refine own_acmpF X716 hx (hb hby at_293) rfl rfl (by simp [XT.acmp]) (pc' := 296) rfl ?_
            refine own_iconst X716 hx (hb hby at_296) (z := (1 : Int32)) rfl (pc' := 297) rfl ?_
            refine own_goto X716 hx (hb hby at_297) (by decide) (pc' := 301) rfl ?_
            refine own_istore X716 hx (hb hby at_301) (l' := #[.val (.int u0), .val (.ref a1), .val (.ref a4), .val (.ref a7), .val (.ref a11), .val (.ref a16), .val (.ref a7), .val (.ref a4), .val (.int (((0 : Int32) + (1 : Int32)) + (1 : Int32))), .val (.ref a4), .val (.null), .val (.int (1 : Int32))]) rfl (pc' := 303) rfl ?_
            refine own_iload X716 hx (hb hby at_303) rfl (pc' := 305) rfl ?_
            refine own_ifF X716 hx (hb hby at_305) (by decide) (pc' := 308) rfl ?_
            refine own_aload X716 hx (hb hby at_308) rfl rfl (pc' := 310) rfl ?_
            refine own_ifnullF X716 hx (hb hby at_310) (pc' := 313) rfl ?_
            refine own_aload X716 hx (hb hby at_313) rfl rfl (pc' := 315) rfl ?_
            have f717 : Fld Z T699.heap a4 "com/example/slot3/slot3/frame/Post" "following" "Lcom/example/slot3/slot3/frame/Post;" (.null) := (f697.keep K699 (ninS (Nat.ne_of_gt lt_a1_a4) (ninS (Nat.ne_of_lt lt_a4_a11) (ninS (Nat.ne_of_lt lt_a4_a7) nin0))))
            refine own_getF X716 hx hZ hown (ow_37 hw) e716 f717 (hb hby at_315) (pc' := 318) rfl ?_
            intro T718 X718 e718
            refine own_aload X718 hx (hb hby at_318) rfl rfl (pc' := 320) rfl ?_
            refine own_acmpF X718 hx (hb hby at_320) rfl rfl (by simp [XT.acmp]) (pc' := 323) rfl ?_
            refine own_iconst X718 hx (hb hby at_323) (z := (1 : Int32)) rfl (pc' := 324) rfl ?_
            refine own_goto X718 hx (hb hby at_324) (by decide) (pc' := 328) rfl ?_
            refine own_istore X718 hx (hb hby at_328) (l' := #[.val (.int u0), .val (.ref a1), .val (.ref a4), .val (.ref a7), .val (.ref a11), .val (.ref a16), .val (.ref a7), .val (.ref a4), .val (.int (((0 : Int32) + (1 : Int32)) + (1 : Int32))), .val (.ref a4), .val (.null), .val (.int (1 : Int32))]) rfl (pc' := 330) rfl ?_
            refine own_iload X718 hx (hb hby at_330) rfl (pc' := 332) rfl ?_
            refine own_ifF X718 hx (hb hby at_332) (by decide) (pc' := 335) rfl ?_
            refine own_aload X718 hx (hb hby at_335) rfl rfl (pc' := 337) rfl ?_
            have f719 : Fld Z T699.heap a16 "com/example/slot3/slot3/frame/Post" "following" "Lcom/example/slot3/slot3/frame/Post;" (.null) := (((((F16_following.keep K482 (ninS (Nat.ne_of_gt lt_a1_a16) (ninS (Nat.ne_of_gt lt_a4_a16) nin0))).keep K644 (ninS (Nat.ne_of_gt lt_a1_a16) (ninS (Nat.ne_of_gt lt_a7_a16) (ninS (Nat.ne_of_gt lt_a4_a16) nin0)))).other W685 (Or.inl (Nat.ne_of_gt lt_a11_a16))).other W688 (Or.inl (Nat.ne_of_gt lt_a11_a16))).keep K699 (ninS (Nat.ne_of_gt lt_a1_a16) (ninS (Nat.ne_of_gt lt_a11_a16) (ninS (Nat.ne_of_gt lt_a7_a16) nin0))))
            refine own_getF X718 hx hZ hown (ow_37 hw) e718 f719 (hb hby at_337) (pc' := 340) rfl ?_
            intro T720 X720 e720
            refine own_ifnonnullF X720 hx (hb hby at_340) (pc' := 343) rfl ?_
            refine own_aload X720 hx (hb hby at_343) rfl rfl (pc' := 345) rfl ?_
            have f721 : Fld Z T699.heap a16 "com/example/slot3/slot3/frame/Post" "previous" "Lcom/example/slot3/slot3/frame/Post;" (.null) := (((((F16_previous.keep K482 (ninS (Nat.ne_of_gt lt_a1_a16) (ninS (Nat.ne_of_gt lt_a4_a16) nin0))).keep K644 (ninS (Nat.ne_of_gt lt_a1_a16) (ninS (Nat.ne_of_gt lt_a7_a16) (ninS (Nat.ne_of_gt lt_a4_a16) nin0)))).other W685 (Or.inl (Nat.ne_of_gt lt_a11_a16))).other W688 (Or.inl (Nat.ne_of_gt lt_a11_a16))).keep K699 (ninS (Nat.ne_of_gt lt_a1_a16) (ninS (Nat.ne_of_gt lt_a11_a16) (ninS (Nat.ne_of_gt lt_a7_a16) nin0))))
            refine own_getF X720 hx hZ hown (ow_36 hw) e720 f721 (hb hby at_345) (pc' := 348) rfl ?_
            intro T722 X722 e722
            refine own_ifnonnullF X722 hx (hb hby at_348) (pc' := 351) rfl ?_
            refine own_aload X722 hx (hb hby at_351) rfl rfl (pc' := 353) rfl ?_
            have f723 : Fld Z T699.heap a16 "com/example/slot3/slot3/frame/Post" "chain" "Lcom/example/slot3/slot3/frame/PostChain;" (.null) := (((((F16_chain.keep K482 (ninS (Nat.ne_of_gt lt_a1_a16) (ninS (Nat.ne_of_gt lt_a4_a16) nin0))).keep K644 (ninS (Nat.ne_of_gt lt_a1_a16) (ninS (Nat.ne_of_gt lt_a7_a16) (ninS (Nat.ne_of_gt lt_a4_a16) nin0)))).other W685 (Or.inl (Nat.ne_of_gt lt_a11_a16))).other W688 (Or.inl (Nat.ne_of_gt lt_a11_a16))).keep K699 (ninS (Nat.ne_of_gt lt_a1_a16) (ninS (Nat.ne_of_gt lt_a11_a16) (ninS (Nat.ne_of_gt lt_a7_a16) nin0))))
            refine own_getF X722 hx hZ hown (ow_38 hw) e722 f723 (hb hby at_353) (pc' := 356) rfl ?_
            intro T724 X724 e724
            refine own_ifnonnullF X724 hx (hb hby at_356) (pc' := 359) rfl ?_
            refine own_iconst X724 hx (hb hby at_359) (z := (1 : Int32)) rfl (pc' := 360) rfl ?_
            refine own_goto X724 hx (hb hby at_360) (by decide) (pc' := 364) rfl ?_
            refine own_istore X724 hx (hb hby at_364) (l' := #[.val (.int u0), .val (.ref a1), .val (.ref a4), .val (.ref a7), .val (.ref a11), .val (.ref a16), .val (.ref a7), .val (.ref a4), .val (.int (((0 : Int32) + (1 : Int32)) + (1 : Int32))), .val (.ref a4), .val (.null), .val (.int (1 : Int32))]) rfl (pc' := 366) rfl ?_
            refine own_iload X724 hx (hb hby at_366) rfl (pc' := 368) rfl ?_
            exact own_retZ X724 hx hret hlk (Or.inr rfl) (hb hby at_368) ⟨rfl, N699⟩ (by decide) (by decide)
set_option maxRecDepth 65536 in
set_option maxHeartbeats 40000000 in
theorem comes_1 {Post : Tables → Env → Array Value → State → Outcome → State → Prop} (hpost : ∀ tb e args s v u, (limb_1_1.after args s (.returned v) u = true ∧ limb_1_2.after args s (.returned v) u = true ∧ True) → FrameEnd s (.returned v) u (Jvm.fieldLocs frame_1_writes args s ++ Jvm.arrayLocs frame_1_arrays args s ++ Jvm.staticLocs frame_1_statics s) 24 256 → Post tb e args s (.returned v) u) :
    ArmFor flags0 classFile x code maxLocals ret World_1 tables_1 room_1 Calls_1 rest_1 Pre_1 Post := by
  intro l hfl _ _ p e ha hc hk s m args below hf hA hF happ hP
  obtain ⟨hcalls, hrest, hpre⟩ := hP
  obtain ⟨-, -, -, hnamed, -, -, -, hat⟩ := (Spec.applies_iff hf).mp happ
  obtain ⟨hg, hn⟩ := and_e (Cond.before_iff.mp (show (Jvm.Cond.and given_1 narrow_1).before args s = true from hpre))
  obtain ⟨gc, gr0⟩ := and_e hg
  obtain ⟨w0, rfl⟩ : ∃ w0 : Value, args = #[w0] := by
    have hs : args.size = 1 := by simpa [Cond.value, given_1] using gc
    obtain ⟨L⟩ := args
    match L, hs with
    | [w0], _ => exact ⟨w0, rfl⟩
  have hw := fun d (hd : d ∈ tables_1) => atoms_spec (ws := Jvm.Cond.code x code maxLocals ret :: tables_1) hat d (List.mem_cons_of_mem _ hd)
  obtain ⟨i0, ei0⟩ := is_v gr0
  obtain rfl : w0 = (.int i0) := Option.some.inj ei0
  obtain ⟨n, o, h1, h2, h3, _, L, rfl, ⟨rfl, N⟩, hq⟩ := own_law l s _ hw i0 s.heap s.heap.size (Nat.le_refl _) p e ha hc hk s m _ below hf ((Spec.applies_iff_loose hf).mp happ).1 ⟨rfl, State.Warmed39.refl s, rfl⟩ trivial
  refine ⟨n, _, h1, h2, h3, hpost _ _ _ _ _ _ ⟨Cond.after_iff.mpr rfl, Cond.after_iff.mpr (eq_i res_at (Term.int_eval (1)) rfl), trivial⟩ ⟨hq.1, hq.2.1, (hq.2.2.sift fun y hy => Or.inr (N y hy)).mono (by decide) (by decide)⟩⟩
theorem main_1_1 : Claimed_1_1 := comes_1 fun _ _ _ _ _ _ h hF => ⟨h.1, hF⟩
theorem main_1_2 : Claimed_1_2 := comes_1 fun _ _ _ _ _ _ h hF => ⟨h.2.1, hF⟩
end Jvm.Pilot.@@N@@
namespace Jvm.Pilot.@@N@@
open Jvm Jvm.ClassFile Sem Op Lib Jvm.Free Jvm.Stand Jvm.Pilot.@@N@@.Jvm.D
/-! MADE BY PROGRAM (witnessworld.py) out of the Statement's table words and the real class files: 10 classes; the members and pool entries that the words name. The judged class is class 1, her method 1. -/
namespace start1
open Jvm.ClassFile
def u (s : String) : CpInfo := .utf8 (stringToUtf16 s)
/-- a pool by its gaps: so many unusable entries, then the entry; so many at the end -/
def gap : Nat → List CpInfo → List CpInfo
  | 0, r => r
  | n + 1, r => .unusable :: gap n r
def poolList (es : List (Nat × CpInfo)) (last : Nat) : List CpInfo := es.foldr (fun e r => gap e.1 (e.2 :: r)) (gap last [])
def pool (es : List (Nat × CpInfo)) (last : Nat) : Array CpInfo := ⟨poolList es last⟩
def fileOf (pool : Array CpInfo) (this : Nat) (attrs : Array Attribute := #[]) (ms : Array MethodInfo := #[]) (fl : Nat := 33) (sup : Nat := 0) (ifs : Array Nat := #[]) (fds : Array FieldInfo := #[]) : ClassFile where
  minorVersion := 0
  majorVersion := 65
  constantPool := pool
  accessFlags := fl
  thisClass := this
  superClass := sup
  interfaces := ifs
  fields := fds
  methods := ms
  attributes := attrs
def plain (name : String) (sup : Option ClassId) : Class where
  name := name
  kind := .ordinary
  loader := none
  accessFlags := 33
  super := sup
  interfaces := #[]
  cf := none
  fields := #[]
  methods := #[]
  instanceTypes := #[]
  staticTypes := #[]
  resolved := #[]
  callSites := []
  init := .initialized
  statics := none
  mirror := none

def pool0 : Array CpInfo := pool [(5, u "<init>"), (0, u "()V"), (1, .class_ 10), (1, u "java/lang/Object")] 113

def k0c0 : Code := { maxStack := 0, maxLocals := 1, code := object_method_1_code, exceptionTable := #[], attributes := #[] }
def k0m0 : Method := { name := "<init>", desc := "()V", sig := { parameters := [], returnType := none }, accessFlags := 1, code := some k0c0 }
/-- java/lang/Object -/
def k0 : Class := { plain "java/lang/Object" none with
  accessFlags := 33
  interfaces := #[]
  cf := some (fileOf pool0 8 #[] #[{ accessFlags := 1, nameIndex := 5, descriptorIndex := 6, attributes := #[] }] 33 0 #[] #[])
  fields := #[]
  methods := #[k0m0]
  instanceTypes := #[]
  staticTypes := #[]
  resolved := Array.replicate 124 none
  statics := none }

def pool1 : Array CpInfo := pool [(2, .class_ 4), (0, .nameAndType 5 6), (0, u "java/lang/Object"), (0, u "<init>"), (0, u "()V"), (0, .class_ 8), (0, u "com/example/slot3/slot3/frame/PostChain"), (0, .methodref 7 3), (0, .class_ 11), (0, u "com/example/slot3/slot3/frame/Post"), (0, .methodref 10 3), (0, .methodref 7 14), (0, .nameAndType 15 16), (0, u "push"), (0, u "(Lcom/example/slot3/slot3/frame/Post;)V"), (0, .methodref 7 18), (0, .nameAndType 19 16), (0, u "append"), (0, .fieldref 10 21), (0, .nameAndType 22 23), (0, u "previous"), (0, u "Lcom/example/slot3/slot3/frame/Post;"), (0, .fieldref 10 25), (0, .nameAndType 26 23), (0, u "following"), (0, .fieldref 7 28), (0, .nameAndType 29 23), (0, u "first"), (0, .fieldref 7 31), (0, .nameAndType 32 23), (0, u "last"), (0, .fieldref 7 34), (0, .nameAndType 35 36), (0, u "count"), (0, u "I"), (0, .fieldref 10 38), (0, .nameAndType 39 40), (0, u "chain"), (0, u "Lcom/example/slot3/slot3/frame/PostChain;"), (0, .class_ 42), (0, u "com/example/slot3/slot3/frame/PostChainPushPinLaw"), (2, u "law"), (0, u "(I)Z")] 3

def k1m0 : Method := { name := "<init>", desc := "()V", sig := { parameters := [], returnType := none }, accessFlags := 1, code := none }
def k1c1 : Code := { maxStack := 3, maxLocals := 12, code := code, exceptionTable := #[], attributes := #[] }
def k1m1 : Method := { name := "law", desc := "(I)Z", sig := { parameters := [.int], returnType := some .boolean }, accessFlags := 9, code := some k1c1 }
/-- com/example/slot3/slot3/frame/PostChainPushPinLaw -/
def k1 : Class := { plain "com/example/slot3/slot3/frame/PostChainPushPinLaw" (some 0) with
  accessFlags := 49
  interfaces := #[]
  cf := some (fileOf pool1 41 #[] #[{ accessFlags := 1, nameIndex := 5, descriptorIndex := 6, attributes := #[] }, { accessFlags := 9, nameIndex := 45, descriptorIndex := 46, attributes := #[] }] 49 2 #[] #[])
  fields := #[]
  methods := #[k1m0, k1m1]
  instanceTypes := #[]
  staticTypes := #[]
  resolved := Array.replicate 50 none
  statics := none }

def pool2 : Array CpInfo := pool [(1, .methodref 2 3), (0, .class_ 4), (0, .nameAndType 5 6), (0, u "java/lang/Object"), (0, u "<init>"), (0, u "()V"), (0, .fieldref 8 9), (0, .class_ 10), (0, .nameAndType 11 12), (0, u "com/example/slot3/slot3/frame/PostChain"), (0, u "first"), (0, u "Lcom/example/slot3/slot3/frame/Post;"), (0, .fieldref 8 14), (0, .nameAndType 15 12), (0, u "last"), (0, .fieldref 17 18), (0, .class_ 19), (0, .nameAndType 20 12), (0, u "com/example/slot3/slot3/frame/Post"), (0, u "previous"), (0, .fieldref 17 22), (0, .nameAndType 23 12), (0, u "following"), (0, .fieldref 17 25), (0, .nameAndType 26 27), (0, u "chain"), (0, u "Lcom/example/slot3/slot3/frame/PostChain;"), (0, .fieldref 8 29), (0, .nameAndType 30 31), (0, u "count"), (0, u "I"), (3, u "(Lcom/example/slot3/slot3/frame/Post;)V"), (2, u "push"), (1, u "append")] 4

def k2c0 : Code := { maxStack := 1, maxLocals := 1, code := prog_11_method_1_code, exceptionTable := #[], attributes := #[] }
def k2m0 : Method := { name := "<init>", desc := "()V", sig := { parameters := [], returnType := none }, accessFlags := 0, code := some k2c0 }
def k2c1 : Code := { maxStack := 3, maxLocals := 2, code := prog_11_method_2_code, exceptionTable := #[], attributes := #[] }
def k2m1 : Method := { name := "push", desc := "(Lcom/example/slot3/slot3/frame/Post;)V", sig := { parameters := [(.object "com/example/slot3/slot3/frame/Post")], returnType := none }, accessFlags := 0, code := some k2c1 }
def k2c2 : Code := { maxStack := 3, maxLocals := 2, code := prog_11_method_3_code, exceptionTable := #[], attributes := #[] }
def k2m2 : Method := { name := "append", desc := "(Lcom/example/slot3/slot3/frame/Post;)V", sig := { parameters := [(.object "com/example/slot3/slot3/frame/Post")], returnType := none }, accessFlags := 0, code := some k2c2 }
/-- com/example/slot3/slot3/frame/PostChain -/
def k2 : Class := { plain "com/example/slot3/slot3/frame/PostChain" (some 0) with
  accessFlags := 32
  interfaces := #[]
  cf := some (fileOf pool2 8 #[] #[{ accessFlags := 0, nameIndex := 5, descriptorIndex := 6, attributes := #[] }, { accessFlags := 0, nameIndex := 38, descriptorIndex := 35, attributes := #[] }, { accessFlags := 0, nameIndex := 40, descriptorIndex := 35, attributes := #[] }] 32 2 #[] #[{ accessFlags := 0, nameIndex := 11, descriptorIndex := 12, attributes := #[] }, { accessFlags := 0, nameIndex := 15, descriptorIndex := 12, attributes := #[] }, { accessFlags := 0, nameIndex := 30, descriptorIndex := 31, attributes := #[] }])
  fields := #[{ name := "first", type := (.object "com/example/slot3/slot3/frame/Post"), accessFlags := 0, slot := 0, constantValue := 0 }, { name := "last", type := (.object "com/example/slot3/slot3/frame/Post"), accessFlags := 0, slot := 1, constantValue := 0 }, { name := "count", type := .int, accessFlags := 0, slot := 2, constantValue := 0 }]
  methods := #[k2m0, k2m1, k2m2]
  instanceTypes := #[(.object "com/example/slot3/slot3/frame/Post"), (.object "com/example/slot3/slot3/frame/Post"), .int]
  staticTypes := #[]
  resolved := Array.replicate 45 none
  statics := none }

def pool3 : Array CpInfo := pool [(1, .methodref 2 3), (0, .class_ 4), (0, .nameAndType 5 6), (0, u "java/lang/Object"), (0, u "<init>"), (0, u "()V"), (1, .class_ 10), (1, u "com/example/slot3/slot3/frame/Post"), (0, u "task"), (0, u "Ljava/lang/Runnable;"), (2, u "callback"), (0, u "Lcom/example/slot3/slot3/frame/FrameCallback;"), (2, u "actionHash"), (0, u "I"), (2, u "token"), (0, u "Ljava/lang/Object;"), (8, u "tokenHash"), (2, u "due"), (0, u "J"), (2, u "delayed"), (0, u "Z"), (2, u "sequence"), (2, u "nextWithAction"), (0, u "Lcom/example/slot3/slot3/frame/Post;"), (4, u "nextWithToken"), (2, u "nextWithBoth"), (2, u "previousWithAction"), (2, u "previousWithToken"), (2, u "previousWithBoth"), (0, u "id"), (0, u "queue"), (0, u "Lcom/example/slot3/slot3/frame/CallbackQueue;"), (0, u "chain"), (0, u "Lcom/example/slot3/slot3/frame/PostChain;"), (0, u "following"), (0, u "previous"), (0, u "heapIndex")] 18

def k3c0 : Code := { maxStack := 1, maxLocals := 1, code := prog_10_method_1_code, exceptionTable := #[], attributes := #[] }
def k3m0 : Method := { name := "<init>", desc := "()V", sig := { parameters := [], returnType := none }, accessFlags := 0, code := some k3c0 }
/-- com/example/slot3/slot3/frame/Post -/
def k3 : Class := { plain "com/example/slot3/slot3/frame/Post" (some 0) with
  accessFlags := 32
  interfaces := #[]
  cf := some (fileOf pool3 8 #[] #[{ accessFlags := 0, nameIndex := 5, descriptorIndex := 6, attributes := #[] }] 32 2 #[] #[{ accessFlags := 0, nameIndex := 66, descriptorIndex := 20, attributes := #[] }, { accessFlags := 0, nameIndex := 67, descriptorIndex := 68, attributes := #[] }, { accessFlags := 0, nameIndex := 11, descriptorIndex := 12, attributes := #[] }, { accessFlags := 0, nameIndex := 15, descriptorIndex := 16, attributes := #[] }, { accessFlags := 0, nameIndex := 23, descriptorIndex := 24, attributes := #[] }, { accessFlags := 0, nameIndex := 19, descriptorIndex := 20, attributes := #[] }, { accessFlags := 0, nameIndex := 33, descriptorIndex := 20, attributes := #[] }, { accessFlags := 0, nameIndex := 36, descriptorIndex := 37, attributes := #[] }, { accessFlags := 0, nameIndex := 40, descriptorIndex := 41, attributes := #[] }, { accessFlags := 0, nameIndex := 44, descriptorIndex := 37, attributes := #[] }, { accessFlags := 0, nameIndex := 69, descriptorIndex := 70, attributes := #[] }, { accessFlags := 0, nameIndex := 71, descriptorIndex := 48, attributes := #[] }, { accessFlags := 0, nameIndex := 72, descriptorIndex := 48, attributes := #[] }, { accessFlags := 0, nameIndex := 73, descriptorIndex := 20, attributes := #[] }, { accessFlags := 2, nameIndex := 47, descriptorIndex := 48, attributes := #[] }, { accessFlags := 2, nameIndex := 59, descriptorIndex := 48, attributes := #[] }, { accessFlags := 2, nameIndex := 53, descriptorIndex := 48, attributes := #[] }, { accessFlags := 2, nameIndex := 62, descriptorIndex := 48, attributes := #[] }, { accessFlags := 2, nameIndex := 56, descriptorIndex := 48, attributes := #[] }, { accessFlags := 2, nameIndex := 65, descriptorIndex := 48, attributes := #[] }])
  fields := #[{ name := "id", type := .int, accessFlags := 0, slot := 0, constantValue := 0 }, { name := "queue", type := (.object "com/example/slot3/slot3/frame/CallbackQueue"), accessFlags := 0, slot := 1, constantValue := 0 }, { name := "task", type := (.object "java/lang/Runnable"), accessFlags := 0, slot := 2, constantValue := 0 }, { name := "callback", type := (.object "com/example/slot3/slot3/frame/FrameCallback"), accessFlags := 0, slot := 3, constantValue := 0 }, { name := "token", type := (.object "java/lang/Object"), accessFlags := 0, slot := 4, constantValue := 0 }, { name := "actionHash", type := .int, accessFlags := 0, slot := 5, constantValue := 0 }, { name := "tokenHash", type := .int, accessFlags := 0, slot := 6, constantValue := 0 }, { name := "due", type := .long, accessFlags := 0, slot := 7, constantValue := 0 }, { name := "delayed", type := .boolean, accessFlags := 0, slot := 8, constantValue := 0 }, { name := "sequence", type := .long, accessFlags := 0, slot := 9, constantValue := 0 }, { name := "chain", type := (.object "com/example/slot3/slot3/frame/PostChain"), accessFlags := 0, slot := 10, constantValue := 0 }, { name := "following", type := (.object "com/example/slot3/slot3/frame/Post"), accessFlags := 0, slot := 11, constantValue := 0 }, { name := "previous", type := (.object "com/example/slot3/slot3/frame/Post"), accessFlags := 0, slot := 12, constantValue := 0 }, { name := "heapIndex", type := .int, accessFlags := 0, slot := 13, constantValue := 0 }, { name := "nextWithAction", type := (.object "com/example/slot3/slot3/frame/Post"), accessFlags := 2, slot := 14, constantValue := 0 }, { name := "previousWithAction", type := (.object "com/example/slot3/slot3/frame/Post"), accessFlags := 2, slot := 15, constantValue := 0 }, { name := "nextWithToken", type := (.object "com/example/slot3/slot3/frame/Post"), accessFlags := 2, slot := 16, constantValue := 0 }, { name := "previousWithToken", type := (.object "com/example/slot3/slot3/frame/Post"), accessFlags := 2, slot := 17, constantValue := 0 }, { name := "nextWithBoth", type := (.object "com/example/slot3/slot3/frame/Post"), accessFlags := 2, slot := 18, constantValue := 0 }, { name := "previousWithBoth", type := (.object "com/example/slot3/slot3/frame/Post"), accessFlags := 2, slot := 19, constantValue := 0 }]
  methods := #[k3m0]
  instanceTypes := #[.int, (.object "com/example/slot3/slot3/frame/CallbackQueue"), (.object "java/lang/Runnable"), (.object "com/example/slot3/slot3/frame/FrameCallback"), (.object "java/lang/Object"), .int, .int, .long, .boolean, .long, (.object "com/example/slot3/slot3/frame/PostChain"), (.object "com/example/slot3/slot3/frame/Post"), (.object "com/example/slot3/slot3/frame/Post"), .int, (.object "com/example/slot3/slot3/frame/Post"), (.object "com/example/slot3/slot3/frame/Post"), (.object "com/example/slot3/slot3/frame/Post"), (.object "com/example/slot3/slot3/frame/Post"), (.object "com/example/slot3/slot3/frame/Post"), (.object "com/example/slot3/slot3/frame/Post")]
  staticTypes := #[]
  resolved := Array.replicate 92 none
  statics := none }

def pool4 : Array CpInfo := pool [(1, u "java/lang/Cloneable"), (0, .class_ 1), (0, u "java/lang/Object"), (0, .class_ 3)] 3

/-- java/lang/Cloneable -/
def k4 : Class := { plain "java/lang/Cloneable" (some 0) with
  accessFlags := 1537
  interfaces := #[]
  cf := some (fileOf pool4 2 #[] #[] 1537 4 #[] #[])
  fields := #[]
  methods := #[]
  instanceTypes := #[]
  staticTypes := #[]
  resolved := Array.replicate 8 none
  statics := none }

def pool5 : Array CpInfo := pool [(1, u "java/io/Serializable"), (0, .class_ 1), (0, u "java/lang/Object"), (0, .class_ 3)] 3

/-- java/io/Serializable -/
def k5 : Class := { plain "java/io/Serializable" (some 0) with
  accessFlags := 1537
  interfaces := #[]
  cf := some (fileOf pool5 2 #[] #[] 1537 4 #[] #[])
  fields := #[]
  methods := #[]
  instanceTypes := #[]
  staticTypes := #[]
  resolved := Array.replicate 8 none
  statics := none }

/-- the primitive byte -/
def k6 : Class := { plain "byte" none with kind := .primitive 'B', accessFlags := 0x411 }
/-- [B -/
def k7 : Class := { plain "[B" (some 0) with kind := .array 6 .byte, interfaces := #[4, 5], accessFlags := 1041 }

/-- the primitive int -/
def k8 : Class := { plain "int" none with kind := .primitive 'I', accessFlags := 0x411 }
/-- [I -/
def k9 : Class := { plain "[I" (some 0) with kind := .array 8 .int, interfaces := #[4, 5], accessFlags := 1041 }

def heap : Heap := #[]
def classes : Array Class := #[k0, k1, k2, k3, k4, k5, k6, k7, k8, k9]
def interned : List (Array UInt16 × Addr) := []
def slotsUsed : Nat := 0
def theMethod : MethodId := ⟨1, 1⟩
def args0 : Array Value := #[.int 5]
def aboutOver (below : List Frame) : State where
  vm := { classes := classes, interned := interned.toArray }
  heap := heap
  slotsUsed := slotsUsed
  threads := #[{ frames := .invoking theMethod args0 :: below }]
def below0 : List Frame := [.native { method := ⟨0, 0⟩, args := #[] }]
def about1 : State := aboutOver below0
def p0 : Program := .bare "" "" ""
def e0 : Env := launch0.env 0 0 0
theorem w_frames : about1.frames = Frame.invoking theMethod args0 :: below0 := rfl
set_option maxRecDepth 65536 in
theorem w_args : argsFit about1.vm theMethod args0 = true := by decide +kernel
set_option maxRecDepth 65536 in
theorem w_heap : heapFits about1 = true := by decide +kernel
set_option maxRecDepth 65536 in
theorem w_runnable : about1.curStatus? = some .runnable := by decide +kernel
set_option maxRecDepth 65536 in
theorem w_alone : about1.alone = true := by decide +kernel
set_option maxRecDepth 65536 in
theorem w_named : about1.methodNamed? x = some theMethod := by decide +kernel
set_option maxRecDepth 65536 in
theorem w_hears : about1.hears theMethod below0 = true := by decide +kernel
set_option maxRecDepth 65536 in
theorem w_ripe : about1.ripe theMethod args0 below0 = true := by decide +kernel
theorem w_running : about1.status = .running := rfl
set_option maxRecDepth 65536 in
theorem w_room : about1.hasRoom e0.platform room_1 = true :=
  launch0.hasRoom_least _ room_1 (by decide +kernel) (by decide +kernel) (by decide +kernel) (by decide +kernel) (by decide +kernel) (by decide +kernel)
theorem allAtoms_all (ts : List Jvm.Cond) (a : Array Jvm.Value) (st : Jvm.State) : (allAtoms ts).before a st = ts.all (fun c => c.before a st) := by
  induction ts with
  | nil => rfl
  | cons c t ih =>
    show (Jvm.Cond.and c (allAtoms t)).before a st = _
    rw [Jvm.Cond.before_and, ih, List.all_cons]
def words1 : List Jvm.Cond := Jvm.Cond.code x code maxLocals ret :: tables_1
/-- a 'code' word, met by the world's own term for the bytes: nothing is compared byte by byte -/
theorem code_word {y : MethodName} {bytes : ByteArray} {mx : Nat} {rt : Option FieldType} {a : Array Value} {s : State} {m : MethodId} {meth : Method} {c : Code} (h1 : s.methodNamed? y = some m) (h2 : s.vm.method? m = some meth) (h3 : meth.code = some c) (h4 : c.code = bytes)
    (h5 : (c.maxLocals == mx && c.exceptionTable.isEmpty && decide (c.maxStack ≤ mostOperands) && decide (meth.sig.returnType = rt) && !meth.locks && decide (parseMethodDescriptor y.desc = some meth.sig)) = true) : (Jvm.Cond.code y bytes mx rt).before a s = true := by
  simp only [Bool.and_eq_true, beq_iff_eq, Bool.not_eq_true', decide_eq_true_eq] at h5
  obtain ⟨⟨⟨⟨⟨g1, g2⟩, g3⟩, g4⟩, g5⟩, g6⟩ := h5
  simp [Cond.before, Cond.holds, Cond.value, h1, h2, h3, h4, g1, g2, g3, g4, g5, g6]
def isCode : Jvm.Cond → Bool
  | .code _ _ _ _ => true
  | _ => false
theorem all_split {L : List Jvm.Cond} {P : Jvm.Cond → Bool} (h1 : L.all (fun c => isCode c || P c) = true) (h2 : ∀ c ∈ L.filter isCode, P c = true) : L.all P = true := by
  refine List.all_eq_true.mpr fun c hc => ?_
  have h := List.all_eq_true.mp h1 c hc
  rcases Bool.eq_false_or_eq_true (isCode c) with hi | hi
  · exact h2 c (List.mem_filter.mpr ⟨hc, hi⟩)
  · simpa [hi] using h
set_option maxRecDepth 65536 in
theorem w_c0 : (Jvm.Cond.code x code maxLocals ret).before args0 about1 = true := code_word (m := ⟨1, 1⟩) (meth := k1m1) (c := k1c1) (by decide +kernel) rfl rfl rfl (by decide +kernel)
set_option maxRecDepth 65536 in
theorem w_c1 : (Jvm.Cond.code ({ cls := "com/example/slot3/slot3/frame/PostChain", name := "<init>", desc := "()V" } : Jvm.MethodName) prog_11_method_1_code (1 : Nat) (Option.none : Option Jvm.ClassFile.FieldType)).before args0 about1 = true := code_word (m := ⟨2, 0⟩) (meth := k2m0) (c := k2c0) (by decide +kernel) rfl rfl rfl (by decide +kernel)
set_option maxRecDepth 65536 in
theorem w_c2 : (Jvm.Cond.code ({ cls := "java/lang/Object", name := "<init>", desc := "()V" } : Jvm.MethodName) object_method_1_code (1 : Nat) (Option.none : Option Jvm.ClassFile.FieldType)).before args0 about1 = true := code_word (m := ⟨0, 0⟩) (meth := k0m0) (c := k0c0) (by decide +kernel) rfl rfl rfl (by decide +kernel)
set_option maxRecDepth 65536 in
theorem w_c3 : (Jvm.Cond.code ({ cls := "com/example/slot3/slot3/frame/Post", name := "<init>", desc := "()V" } : Jvm.MethodName) prog_10_method_1_code (1 : Nat) (Option.none : Option Jvm.ClassFile.FieldType)).before args0 about1 = true := code_word (m := ⟨3, 0⟩) (meth := k3m0) (c := k3c0) (by decide +kernel) rfl rfl rfl (by decide +kernel)
set_option maxRecDepth 65536 in
theorem w_c4 : (Jvm.Cond.code ({ cls := "com/example/slot3/slot3/frame/PostChain", name := "push", desc := "(Lcom/example/slot3/slot3/frame/Post;)V" } : Jvm.MethodName) prog_11_method_2_code (2 : Nat) (Option.none : Option Jvm.ClassFile.FieldType)).before args0 about1 = true := code_word (m := ⟨2, 1⟩) (meth := k2m1) (c := k2c1) (by decide +kernel) rfl rfl rfl (by decide +kernel)
set_option maxRecDepth 65536 in
theorem w_c5 : (Jvm.Cond.code ({ cls := "com/example/slot3/slot3/frame/PostChain", name := "append", desc := "(Lcom/example/slot3/slot3/frame/Post;)V" } : Jvm.MethodName) prog_11_method_3_code (2 : Nat) (Option.none : Option Jvm.ClassFile.FieldType)).before args0 about1 = true := code_word (m := ⟨2, 2⟩) (meth := k2m2) (c := k2c2) (by decide +kernel) rfl rfl rfl (by decide +kernel)
def codes1 : List Jvm.Cond := [Jvm.Cond.code x code maxLocals ret, Jvm.Cond.code ({ cls := "com/example/slot3/slot3/frame/PostChain", name := "<init>", desc := "()V" } : Jvm.MethodName) prog_11_method_1_code (1 : Nat) (Option.none : Option Jvm.ClassFile.FieldType), Jvm.Cond.code ({ cls := "java/lang/Object", name := "<init>", desc := "()V" } : Jvm.MethodName) object_method_1_code (1 : Nat) (Option.none : Option Jvm.ClassFile.FieldType), Jvm.Cond.code ({ cls := "com/example/slot3/slot3/frame/Post", name := "<init>", desc := "()V" } : Jvm.MethodName) prog_10_method_1_code (1 : Nat) (Option.none : Option Jvm.ClassFile.FieldType), Jvm.Cond.code ({ cls := "com/example/slot3/slot3/frame/PostChain", name := "push", desc := "(Lcom/example/slot3/slot3/frame/Post;)V" } : Jvm.MethodName) prog_11_method_2_code (2 : Nat) (Option.none : Option Jvm.ClassFile.FieldType), Jvm.Cond.code ({ cls := "com/example/slot3/slot3/frame/PostChain", name := "append", desc := "(Lcom/example/slot3/slot3/frame/Post;)V" } : Jvm.MethodName) prog_11_method_3_code (2 : Nat) (Option.none : Option Jvm.ClassFile.FieldType)]
set_option maxRecDepth 65536 in
theorem codes_eq : words1.filter isCode = codes1 := rfl
theorem w_codes : ∀ c ∈ words1.filter isCode, c.before args0 about1 = true := by
  rw [codes_eq]
  intro c hc
  simp only [codes1, List.mem_cons, List.not_mem_nil, or_false] at hc
  rcases hc with rfl | rfl | rfl | rfl | rfl | rfl
  · exact w_c0
  · exact w_c1
  · exact w_c2
  · exact w_c3
  · exact w_c4
  · exact w_c5
set_option maxRecDepth 65536 in
theorem w_t1 : (words1.take 24).all (fun c => isCode c || c.before args0 about1) = true := by decide +kernel
set_option maxRecDepth 65536 in
theorem w_t2 : (words1.drop 24).all (fun c => isCode c || c.before args0 about1) = true := by decide +kernel
theorem w_tables : (allAtoms (Jvm.Cond.code x code maxLocals ret :: tables_1)).before args0 about1 = true := by
  rw [allAtoms_all]
  show words1.all (fun c => c.before args0 about1) = true
  refine all_split ?_ w_codes
  rw [← List.take_append_drop 24 words1, List.all_append, w_t1, w_t2]
  rfl
set_option maxRecDepth 65536 in
theorem w_case : (Jvm.Cond.and given_1 narrow_1).before args0 about1 = true := by decide +kernel
theorem w_applies : (headSpec (Jvm.Cond.code x code maxLocals ret :: tables_1) room_1).applies x e0.platform about1 = true :=
  (Spec.applies_iff w_frames).mpr ⟨w_running, w_runnable, w_alone, w_named, w_hears, w_ripe, w_room, w_tables⟩
theorem atStart : AtStart classFile x code maxLocals ret World_1 tables_1 room_1 Calls_1 rest_1 Pre_1 launch0 p0 e0 about1 theMethod args0 below0 :=
  ⟨lists_1, trivial, launch0.admits_env _ _ _, launch0.least_env, fairChoices_fair.cas, fairChoices_fair.clock, w_frames, w_args, w_heap, w_applies, trivial, trivial, w_case⟩
end start1
theorem witness_1 : WitnessClaimed_1 := ⟨start1.p0, start1.e0, start1.about1, start1.theMethod, start1.args0, start1.below0, start1.atStart⟩
end Jvm.Pilot.@@N@@
