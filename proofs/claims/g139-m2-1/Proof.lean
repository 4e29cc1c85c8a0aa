import JvmDerived
import JvmDerived.Pilot.@@N@@Statement
import JvmDerived.Pilot.@@N@@Code
set_option linter.unusedVariables false
set_option linter.unusedSimpArgs false
namespace Jvm.Pilot.@@N@@
open Jvm Jvm.ClassFile Sem Op Lib Jvm.Free Jvm.Stand Jvm.LawKit Jvm.RoadKit Bundle Jvm.Pilot.@@N@@.Jvm.D
section OwnHead
variable {p : Program} {l : Launch} {e : Env} {R : Room} {s : State} {m : MethodId} {args : Array Value} {below : List Frame} {meth : Method} {c : Code} {T : State} {locs : List Loc} {cells slots : Nat} {Z : State} {a0 : Array Value} {h : Heap} {Q : Option Value → Heap → List Loc → Prop} {ce sl : Nat} {pc pc' : Nat} {Ls : Array Slot} {st : List Value}
def own_G (p : Program) (e : Env) (below : List Frame) (s : State) (Q : Option Value → Heap → List Loc → Prop) (ce sl : Nat) (S : State) : Prop := ∃ s₂ o, Steps p.tables e below S s₂ ∧ s₂.status = .running ∧ Ended s₂ below o ∧ ∃ v L, o = .returned v ∧ Q v s₂.heap L ∧ FrameEnd s o s₂ L ce sl
theorem own_fw {S S' : State} (h : ∀ t, Steps p.tables e below S' t → Steps p.tables e below S t) (g : own_G p e below s Q ce sl S') : own_G p e below s Q ce sl S := by
  obtain ⟨s₂, o, h1, r⟩ := g; exact ⟨s₂, o, h _ h1, r⟩
theorem own_via {S S' : State} (h : own_G p e below s Q ce sl S' → own_G p e below s Q ce sl S) (g : own_G p e below s Q ce sl S') : own_G p e below s Q ce sl S := h g
theorem own_cast {S S' : State} (h : S = S') (g : own_G p e below s Q ce sl S') : own_G p e below s Q ce sl S := h ▸ g
abbrev own_M (l : Launch) (Z : State) (y : MethodName) (bytes : ByteArray) (maxL : Nat) (ret : Option FieldType) (ws : List Jvm.Cond) (rm : Room) (as' : Array Value) (h0 : Heap) (Q : Option Value → Heap → List Loc → Prop) (ce sl : Nat) : Prop := MetFree l y (head1 (Jvm.Cond.code y bytes maxL ret :: ws) rm) (fun a U => a = as' ∧ Z.Warmed39 U.vm ∧ U.heap = h0) (fun _ _ _ _ _ => True) (fun _ U o U' => ∃ v L, o = .returned v ∧ Q v U'.heap L ∧ FrameEnd U o U' L ce sl)
theorem own_body {y : MethodName} {bytes : ByteArray} {maxL : Nat} {ret : Option FieldType} {ws : List Jvm.Cond} {rm : Room} {as' : Array Value} {h0 : Heap} (hp : plainFor y = true)
    (body : ∀ (p : Program) (e : Env) (s : State) (m : MethodId) (below : List Frame) (meth : Method) (c : Code) (s₁ : State), p.tables.exec = Jvm.exec → c.code = bytes → c.maxLocals = maxL → s.vm.findClass y.cls = some m.cls → meth.name = y.name → meth.sig.returnType = ret → meth.locks = false → Z.Warmed39 s.vm → Stand p l e rm s m as' below meth c s₁ [] 0 0 → s₁.heap = h0 → own_G p e below s Q ce sl (s₁.setTop (entryFrame m as' maxL))) : own_M l Z y bytes maxL ret ws rm as' h0 Q ce sl := by
  refine MetFree.of_bodySF hp hisR ?_
  intro p e s m args below meth c s₁ Bd hml hP hK
  obtain ⟨rfl, hZ, hh⟩ := hP
  exact body p e s m below meth c s₁ Bd.exec Bd.bytes hml (findClass_of_methodNamed Bd.named) (name_of_methodNamed Bd.named Bd.method).1 Bd.returns Bd.notSynchronized hZ (Stand.of_body Bd) (by rw [← hh, Bd.state]; rfl)
theorem own_ret (X : Stand p l e R s m args below meth c T locs cells slots) (hx : p.tables.exec = Jvm.exec) {w : Value} {t : FieldType} {i : Instr} (hret : meth.sig.returnType = some t) (hlk : meth.locks = false) (hn : narrow t w = w)
    (hi : (i = .ireturn ∧ (t = .int ∨ t = .boolean ∨ t = .byte ∨ t = .char ∨ t = .short) ∧ ∃ z, w = .int z) ∨ (i = .lreturn ∧ t = .long ∧ ∃ z, w = .long z) ∨ (i = .dreturn ∧ t = .double ∧ ∃ z, w = .double z) ∨ (i = .freturn ∧ t = .float ∧ ∃ z, w = .float z) ∨ (i = .areturn ∧ t.isReference = true ∧ w.isRef = true))
    (hd : decode c.code pc = .ok (i, 1)) (hQ : Q (some w) T.heap locs) (hce : cells ≤ ce) (hsl : slots ≤ sl) : own_G p e below s Q ce sl (T.setTop (mkF m pc Ls (w :: st))) := by
  obtain ⟨fs, hr, hrun, hended, hW, hsame⟩ := X.leave (v := some w) (fun h => by rw [hret] at h; cases h) hlk
  exact ⟨_, _, retOut X hx hret hn hi hd hr, hrun, hended, _, _, rfl, hQ, ⟨_, rfl⟩, hW, hsame.mono hce hsl⟩
theorem own_retI (X : Stand p l e R s m args below meth c T locs cells slots) (hx : p.tables.exec = Jvm.exec) {z : Int32} (hret : meth.sig.returnType = some .int) (hlk : meth.locks = false) (hd : decode c.code pc = .ok (.ireturn, 1)) (hQ : Q (some (.int z)) T.heap locs) (hce : cells ≤ ce) (hsl : slots ≤ sl) : own_G p e below s Q ce sl (T.setTop (mkF m pc Ls (.int z :: st))) := own_ret X hx hret hlk rfl (Or.inl ⟨rfl, Or.inl rfl, z, rfl⟩) hd hQ hce hsl
theorem own_retZ (X : Stand p l e R s m args below meth c T locs cells slots) (hx : p.tables.exec = Jvm.exec) {z : Int32} (hret : meth.sig.returnType = some .boolean) (hlk : meth.locks = false) (hz : z = 0 ∨ z = 1) (hd : decode c.code pc = .ok (.ireturn, 1)) (hQ : Q (some (.int z)) T.heap locs) (hce : cells ≤ ce) (hsl : slots ≤ sl) : own_G p e below s Q ce sl (T.setTop (mkF m pc Ls (.int z :: st))) := own_ret X hx hret hlk (by rcases hz with rfl | rfl <;> rfl) (Or.inl ⟨rfl, Or.inr (Or.inl rfl), z, rfl⟩) hd hQ hce hsl
theorem own_retB (X : Stand p l e R s m args below meth c T locs cells slots) (hx : p.tables.exec = Jvm.exec) {z : Int32} (hret : meth.sig.returnType = some .byte) (hlk : meth.locks = false) (hz : narrow .byte (.int z) = .int z) (hd : decode c.code pc = .ok (.ireturn, 1)) (hQ : Q (some (.int z)) T.heap locs) (hce : cells ≤ ce) (hsl : slots ≤ sl) : own_G p e below s Q ce sl (T.setTop (mkF m pc Ls (.int z :: st))) := own_ret X hx hret hlk hz (Or.inl ⟨rfl, Or.inr (Or.inr (Or.inl rfl)), z, rfl⟩) hd hQ hce hsl
theorem own_retL (X : Stand p l e R s m args below meth c T locs cells slots) (hx : p.tables.exec = Jvm.exec) {z : Int64} (hret : meth.sig.returnType = some .long) (hlk : meth.locks = false) (hd : decode c.code pc = .ok (.lreturn, 1)) (hQ : Q (some (.long z)) T.heap locs) (hce : cells ≤ ce) (hsl : slots ≤ sl) : own_G p e below s Q ce sl (T.setTop (mkF m pc Ls (.long z :: st))) := own_ret X hx hret hlk rfl (Or.inr (Or.inl ⟨rfl, rfl, z, rfl⟩)) hd hQ hce hsl
theorem own_retA (X : Stand p l e R s m args below meth c T locs cells slots) (hx : p.tables.exec = Jvm.exec) {v : Value} {t : FieldType} (hret : meth.sig.returnType = some t) (hlk : meth.locks = false) (ht : t.isReference = true) (hn : narrow t v = v) (hv : v.isRef = true) (hd : decode c.code pc = .ok (.areturn, 1)) (hQ : Q (some v) T.heap locs) (hce : cells ≤ ce) (hsl : slots ≤ sl) : own_G p e below s Q ce sl (T.setTop (mkF m pc Ls (v :: st))) := own_ret X hx hret hlk hn (Or.inr (Or.inr (Or.inr (Or.inr ⟨rfl, ht, hv⟩)))) hd hQ hce hsl
theorem own_retV (X : Stand p l e R s m args below meth c T locs cells slots) (hx : p.tables.exec = Jvm.exec) (hret : meth.sig.returnType = none) (hlk : meth.locks = false) (hd : decode c.code pc = .ok (.return_, 1)) (hQ : Q none T.heap locs) (hce : cells ≤ ce) (hsl : slots ≤ sl) : own_G p e below s Q ce sl (T.setTop (mkF m pc Ls [])) := by
  obtain ⟨fs, hr, hrun, hended, hW, hsame⟩ := X.leave (v := none) (fun _ => rfl) hlk
  exact ⟨_, _, X.returnOut hx hret hd hr, hrun, hended, _, _, rfl, hQ, ⟨_, rfl⟩, hW, hsame.mono hce hsl⟩
theorem own_iloadN {i : Fin 4} {v : Int32} (X : Stand p l e R s m args below meth c T locs cells slots) (hx : p.tables.exec = Jvm.exec) (hd : decode c.code pc = .ok (.iload_n i, 1)) (hl : Ls[i.val]? = some (.val (.int v))) (hp : pc + 1 = pc') (k : own_G p e below s Q ce sl (T.setTop (mkF m pc' Ls (.int v :: st)))) : own_G p e below s Q ce sl (T.setTop (mkF m pc Ls st)) := by
  subst hp; exact own_fw (fun t q => XS.iloadN X.here hx rfl hd hl q) k
theorem own_iload {i : Nat} {v : Int32} (X : Stand p l e R s m args below meth c T locs cells slots) (hx : p.tables.exec = Jvm.exec) (hd : decode c.code pc = .ok (.iload i, 2)) (hl : Ls[i]? = some (.val (.int v))) (hp : pc + 2 = pc') (k : own_G p e below s Q ce sl (T.setTop (mkF m pc' Ls (.int v :: st)))) : own_G p e below s Q ce sl (T.setTop (mkF m pc Ls st)) := by
  subst hp; exact own_fw (fun t q => XS.iload X.here hx rfl hd hl q) k
theorem own_lloadN {i : Fin 4} {v : Int64} (X : Stand p l e R s m args below meth c T locs cells slots) (hx : p.tables.exec = Jvm.exec) (hd : decode c.code pc = .ok (.lload_n i, 1)) (hl : Ls[i.val]? = some (.val (.long v))) (hp : pc + 1 = pc') (k : own_G p e below s Q ce sl (T.setTop (mkF m pc' Ls (.long v :: st)))) : own_G p e below s Q ce sl (T.setTop (mkF m pc Ls st)) := by
  subst hp; exact own_fw (fun t q => XS.lloadN X.here hx rfl hd hl q) k
theorem own_lload {i : Nat} {v : Int64} (X : Stand p l e R s m args below meth c T locs cells slots) (hx : p.tables.exec = Jvm.exec) (hd : decode c.code pc = .ok (.lload i, 2)) (hl : Ls[i]? = some (.val (.long v))) (hp : pc + 2 = pc') (k : own_G p e below s Q ce sl (T.setTop (mkF m pc' Ls (.long v :: st)))) : own_G p e below s Q ce sl (T.setTop (mkF m pc Ls st)) := by
  subst hp; exact own_fw (fun t q => XS.lload X.here hx rfl hd hl q) k
theorem own_aloadN {i : Fin 4} {v : Value} (X : Stand p l e R s m args below meth c T locs cells slots) (hx : p.tables.exec = Jvm.exec) (hd : decode c.code pc = .ok (.aload_n i, 1)) (hl : Ls[i.val]? = some (.val v)) (hv : v.isRef = true) (hp : pc + 1 = pc') (k : own_G p e below s Q ce sl (T.setTop (mkF m pc' Ls (v :: st)))) : own_G p e below s Q ce sl (T.setTop (mkF m pc Ls st)) := by
  subst hp; exact own_fw (fun t q => XS.aloadN X.here hx rfl hd hl hv q) k
theorem own_aload {i : Nat} {v : Value} (X : Stand p l e R s m args below meth c T locs cells slots) (hx : p.tables.exec = Jvm.exec) (hd : decode c.code pc = .ok (.aload i, 2)) (hl : Ls[i]? = some (.val v)) (hv : v.isRef = true) (hp : pc + 2 = pc') (k : own_G p e below s Q ce sl (T.setTop (mkF m pc' Ls (v :: st)))) : own_G p e below s Q ce sl (T.setTop (mkF m pc Ls st)) := by
  subst hp; exact own_fw (fun t q => XS.aload X.here hx rfl hd hl hv q) k
theorem own_istoreN {i : Fin 4} {v : Int32} (X : Stand p l e R s m args below meth c T locs cells slots) (hx : p.tables.exec = Jvm.exec) (hd : decode c.code pc = .ok (.istore_n i, 1)) {l' : Array Slot} (hl : storeLocals Ls i.val (.int v) = some l') (hp : pc + 1 = pc') (k : own_G p e below s Q ce sl (T.setTop (mkF m pc' l' st))) : own_G p e below s Q ce sl (T.setTop (mkF m pc Ls (.int v :: st))) := by
  subst hp; exact own_fw (fun t q => XS.istoreN X.here hx rfl hd rfl hl q) k
theorem own_istore {i : Nat} {v : Int32} (X : Stand p l e R s m args below meth c T locs cells slots) (hx : p.tables.exec = Jvm.exec) (hd : decode c.code pc = .ok (.istore i, 2)) {l' : Array Slot} (hl : storeLocals Ls i (.int v) = some l') (hp : pc + 2 = pc') (k : own_G p e below s Q ce sl (T.setTop (mkF m pc' l' st))) : own_G p e below s Q ce sl (T.setTop (mkF m pc Ls (.int v :: st))) := by
  subst hp; exact own_fw (fun t q => XS.istore X.here hx rfl hd rfl hl q) k
theorem own_lstoreN {i : Fin 4} {v : Int64} (X : Stand p l e R s m args below meth c T locs cells slots) (hx : p.tables.exec = Jvm.exec) (hd : decode c.code pc = .ok (.lstore_n i, 1)) {l' : Array Slot} (hl : storeLocals Ls i.val (.long v) = some l') (hp : pc + 1 = pc') (k : own_G p e below s Q ce sl (T.setTop (mkF m pc' l' st))) : own_G p e below s Q ce sl (T.setTop (mkF m pc Ls (.long v :: st))) := by
  subst hp; exact own_fw (fun t q => XS.lstoreN X.here hx rfl hd rfl hl q) k
theorem own_lstore {i : Nat} {v : Int64} (X : Stand p l e R s m args below meth c T locs cells slots) (hx : p.tables.exec = Jvm.exec) (hd : decode c.code pc = .ok (.lstore i, 2)) {l' : Array Slot} (hl : storeLocals Ls i (.long v) = some l') (hp : pc + 2 = pc') (k : own_G p e below s Q ce sl (T.setTop (mkF m pc' l' st))) : own_G p e below s Q ce sl (T.setTop (mkF m pc Ls (.long v :: st))) := by
  subst hp; exact own_fw (fun t q => XS.lstore X.here hx rfl hd rfl hl q) k
theorem own_astoreN {i : Fin 4} {v : Value} (X : Stand p l e R s m args below meth c T locs cells slots) (hx : p.tables.exec = Jvm.exec) (hd : decode c.code pc = .ok (.astore_n i, 1)) (hv : v.isRef = true) {l' : Array Slot} (hl : storeLocals Ls i.val v = some l') (hp : pc + 1 = pc') (k : own_G p e below s Q ce sl (T.setTop (mkF m pc' l' st))) : own_G p e below s Q ce sl (T.setTop (mkF m pc Ls (v :: st))) := by
  subst hp; exact own_fw (fun t q => XS.astoreN X.here hx rfl hd rfl hv hl q) k
theorem own_astore {i : Nat} {v : Value} (X : Stand p l e R s m args below meth c T locs cells slots) (hx : p.tables.exec = Jvm.exec) (hd : decode c.code pc = .ok (.astore i, 2)) (hv : v.isRef = true) {l' : Array Slot} (hl : storeLocals Ls i v = some l') (hp : pc + 2 = pc') (k : own_G p e below s Q ce sl (T.setTop (mkF m pc' l' st))) : own_G p e below s Q ce sl (T.setTop (mkF m pc Ls (v :: st))) := by
  subst hp; exact own_fw (fun t q => XS.astore X.here hx rfl hd rfl hv hl q) k
theorem own_iconst {i : Int} {z : Int32} (X : Stand p l e R s m args below meth c T locs cells slots) (hx : p.tables.exec = Jvm.exec) (hd : decode c.code pc = .ok (.iconst i, 1)) (hz : Int32.ofInt i = z) (hp : pc + 1 = pc') (k : own_G p e below s Q ce sl (T.setTop (mkF m pc' Ls (.int z :: st)))) : own_G p e below s Q ce sl (T.setTop (mkF m pc Ls st)) := by
  subst hp hz; exact own_fw (fun t q => XS.iconst X.here hx rfl hd q) k
theorem own_bipush {i : Int} {z : Int32} (X : Stand p l e R s m args below meth c T locs cells slots) (hx : p.tables.exec = Jvm.exec) (hd : decode c.code pc = .ok (.bipush i, 2)) (hz : (Int8.ofInt i).toInt32 = z) (hp : pc + 2 = pc') (k : own_G p e below s Q ce sl (T.setTop (mkF m pc' Ls (.int z :: st)))) : own_G p e below s Q ce sl (T.setTop (mkF m pc Ls st)) := by
  subst hp hz; exact own_fw (fun t q => XS.bipush X.here hx rfl hd q) k
theorem own_sipush {i : Int} {z : Int32} (X : Stand p l e R s m args below meth c T locs cells slots) (hx : p.tables.exec = Jvm.exec) (hd : decode c.code pc = .ok (.sipush i, 3)) (hz : (Int16.ofInt i).toInt32 = z) (hp : pc + 3 = pc') (k : own_G p e below s Q ce sl (T.setTop (mkF m pc' Ls (.int z :: st)))) : own_G p e below s Q ce sl (T.setTop (mkF m pc Ls st)) := by
  subst hp hz; exact own_fw (fun t q => XS.sipush X.here hx rfl hd q) k
theorem own_lconst {i : Fin 2} {z : Int64} (X : Stand p l e R s m args below meth c T locs cells slots) (hx : p.tables.exec = Jvm.exec) (hd : decode c.code pc = .ok (.lconst i, 1)) (hz : Int64.ofNat i = z) (hp : pc + 1 = pc') (k : own_G p e below s Q ce sl (T.setTop (mkF m pc' Ls (.long z :: st)))) : own_G p e below s Q ce sl (T.setTop (mkF m pc Ls st)) := by
  subst hp hz; exact own_fw (fun t q => XS.lconst X.here hx rfl hd q) k
theorem own_aconstNull (X : Stand p l e R s m args below meth c T locs cells slots) (hx : p.tables.exec = Jvm.exec) (hd : decode c.code pc = .ok (.aconst_null, 1)) (hp : pc + 1 = pc') (k : own_G p e below s Q ce sl (T.setTop (mkF m pc' Ls (.null :: st)))) : own_G p e below s Q ce sl (T.setTop (mkF m pc Ls st)) := by
  subst hp; exact own_fw (fun t q => XS.aconstNull X.here hx rfl hd q) k
theorem own_ldc (X : Stand p l e R s m args below meth c T locs cells slots) (hx : p.tables.exec = Jvm.exec) (hZ : Z.Warmed39 s.vm) {own : String} {index : Nat} {v : Int32} (hown : s.vm.findClass own = some m.cls) (w1 : (Jvm.Cond.constant own index v).before a0 Z = true) (hd : decode c.code pc = .ok (.ldc index, 2)) (hp : pc + 2 = pc') (k : own_G p e below s Q ce sl (T.setTop (mkF m pc' Ls (.int v :: st)))) : own_G p e below s Q ce sl (T.setTop (mkF m pc Ls st)) := by
  subst hp; exact own_fw (X.ldcInt hx hown (mvT hZ w1) (g := mkF m pc Ls st) rfl hd) k
theorem own_ldc2 (X : Stand p l e R s m args below meth c T locs cells slots) (hx : p.tables.exec = Jvm.exec) (hZ : Z.Warmed39 s.vm) {own : String} {index : Nat} {v : Int64} (hown : s.vm.findClass own = some m.cls) (w1 : (Jvm.Cond.constantLong own index v).before a0 Z = true) (hd : decode c.code pc = .ok (.ldc2_w index, 3)) (hp : pc + 3 = pc') (k : own_G p e below s Q ce sl (T.setTop (mkF m pc' Ls (.long v :: st)))) : own_G p e below s Q ce sl (T.setTop (mkF m pc Ls st)) := by
  subst hp; exact own_fw (X.ldc2Long hx hown (mvT hZ w1) (g := mkF m pc Ls st) rfl hd) k
theorem own_iadd {x y : Int32} (X : Stand p l e R s m args below meth c T locs cells slots) (hx : p.tables.exec = Jvm.exec) (hd : decode c.code pc = .ok (.iadd, 1)) (hp : pc + 1 = pc') (k : own_G p e below s Q ce sl (T.setTop (mkF m pc' Ls (.int (x + y) :: st)))) : own_G p e below s Q ce sl (T.setTop (mkF m pc Ls (.int y :: .int x :: st))) := by
  subst hp; exact own_fw (fun t q => XS.iadd X.here hx rfl hd rfl q) k
theorem own_isub {x y : Int32} (X : Stand p l e R s m args below meth c T locs cells slots) (hx : p.tables.exec = Jvm.exec) (hd : decode c.code pc = .ok (.isub, 1)) (hp : pc + 1 = pc') (k : own_G p e below s Q ce sl (T.setTop (mkF m pc' Ls (.int (x - y) :: st)))) : own_G p e below s Q ce sl (T.setTop (mkF m pc Ls (.int y :: .int x :: st))) := by
  subst hp; exact own_fw (fun t q => XS.isub X.here hx rfl hd rfl q) k
theorem own_imul {x y : Int32} (X : Stand p l e R s m args below meth c T locs cells slots) (hx : p.tables.exec = Jvm.exec) (hd : decode c.code pc = .ok (.imul, 1)) (hp : pc + 1 = pc') (k : own_G p e below s Q ce sl (T.setTop (mkF m pc' Ls (.int (x * y) :: st)))) : own_G p e below s Q ce sl (T.setTop (mkF m pc Ls (.int y :: .int x :: st))) := by
  subst hp; exact own_fw (fun t q => XS.imul X.here hx rfl hd rfl q) k
theorem own_iand {x y : Int32} (X : Stand p l e R s m args below meth c T locs cells slots) (hx : p.tables.exec = Jvm.exec) (hd : decode c.code pc = .ok (.iand, 1)) (hp : pc + 1 = pc') (k : own_G p e below s Q ce sl (T.setTop (mkF m pc' Ls (.int (x &&& y) :: st)))) : own_G p e below s Q ce sl (T.setTop (mkF m pc Ls (.int y :: .int x :: st))) := by
  subst hp; exact own_fw (fun t q => XS.iand X.here hx rfl hd rfl q) k
theorem own_ior {x y : Int32} (X : Stand p l e R s m args below meth c T locs cells slots) (hx : p.tables.exec = Jvm.exec) (hd : decode c.code pc = .ok (.ior, 1)) (hp : pc + 1 = pc') (k : own_G p e below s Q ce sl (T.setTop (mkF m pc' Ls (.int (x ||| y) :: st)))) : own_G p e below s Q ce sl (T.setTop (mkF m pc Ls (.int y :: .int x :: st))) := by
  subst hp; exact own_fw (fun t q => XS.ior X.here hx rfl hd rfl q) k
theorem own_ixor {x y : Int32} (X : Stand p l e R s m args below meth c T locs cells slots) (hx : p.tables.exec = Jvm.exec) (hd : decode c.code pc = .ok (.ixor, 1)) (hp : pc + 1 = pc') (k : own_G p e below s Q ce sl (T.setTop (mkF m pc' Ls (.int (x ^^^ y) :: st)))) : own_G p e below s Q ce sl (T.setTop (mkF m pc Ls (.int y :: .int x :: st))) := by
  subst hp; exact own_fw (fun t q => XS.ixor X.here hx rfl hd rfl q) k
theorem own_ishl {x y : Int32} (X : Stand p l e R s m args below meth c T locs cells slots) (hx : p.tables.exec = Jvm.exec) (hd : decode c.code pc = .ok (.ishl, 1)) (hp : pc + 1 = pc') (k : own_G p e below s Q ce sl (T.setTop (mkF m pc' Ls (.int (x <<< (y &&& 31)) :: st)))) : own_G p e below s Q ce sl (T.setTop (mkF m pc Ls (.int y :: .int x :: st))) := by
  subst hp; exact own_fw (fun t q => XS.ishl X.here hx rfl hd rfl q) k
theorem own_ishr {x y : Int32} (X : Stand p l e R s m args below meth c T locs cells slots) (hx : p.tables.exec = Jvm.exec) (hd : decode c.code pc = .ok (.ishr, 1)) (hp : pc + 1 = pc') (k : own_G p e below s Q ce sl (T.setTop (mkF m pc' Ls (.int (x >>> (y &&& 31)) :: st)))) : own_G p e below s Q ce sl (T.setTop (mkF m pc Ls (.int y :: .int x :: st))) := by
  subst hp; exact own_fw (fun t q => XS.ishr X.here hx rfl hd rfl q) k
theorem own_iushr {x y : Int32} (X : Stand p l e R s m args below meth c T locs cells slots) (hx : p.tables.exec = Jvm.exec) (hd : decode c.code pc = .ok (.iushr, 1)) (hp : pc + 1 = pc') (k : own_G p e below s Q ce sl (T.setTop (mkF m pc' Ls (.int ((x.toUInt32 >>> (y &&& 31).toUInt32).toInt32) :: st)))) : own_G p e below s Q ce sl (T.setTop (mkF m pc Ls (.int y :: .int x :: st))) := by
  subst hp; exact own_fw (fun t q => XS.iushr X.here hx rfl hd rfl q) k
theorem own_ladd {x y : Int64} (X : Stand p l e R s m args below meth c T locs cells slots) (hx : p.tables.exec = Jvm.exec) (hd : decode c.code pc = .ok (.ladd, 1)) (hp : pc + 1 = pc') (k : own_G p e below s Q ce sl (T.setTop (mkF m pc' Ls (.long (x + y) :: st)))) : own_G p e below s Q ce sl (T.setTop (mkF m pc Ls (.long y :: .long x :: st))) := by
  subst hp; exact own_fw (fun t q => XS.ladd X.here hx rfl hd rfl q) k
theorem own_lsub {x y : Int64} (X : Stand p l e R s m args below meth c T locs cells slots) (hx : p.tables.exec = Jvm.exec) (hd : decode c.code pc = .ok (.lsub, 1)) (hp : pc + 1 = pc') (k : own_G p e below s Q ce sl (T.setTop (mkF m pc' Ls (.long (x - y) :: st)))) : own_G p e below s Q ce sl (T.setTop (mkF m pc Ls (.long y :: .long x :: st))) := by
  subst hp; exact own_fw (fun t q => XS.lsub X.here hx rfl hd rfl q) k
theorem own_lmul {x y : Int64} (X : Stand p l e R s m args below meth c T locs cells slots) (hx : p.tables.exec = Jvm.exec) (hd : decode c.code pc = .ok (.lmul, 1)) (hp : pc + 1 = pc') (k : own_G p e below s Q ce sl (T.setTop (mkF m pc' Ls (.long (x * y) :: st)))) : own_G p e below s Q ce sl (T.setTop (mkF m pc Ls (.long y :: .long x :: st))) := by
  subst hp; exact own_fw (fun t q => XS.lmul X.here hx rfl hd rfl q) k
theorem own_land {x y : Int64} (X : Stand p l e R s m args below meth c T locs cells slots) (hx : p.tables.exec = Jvm.exec) (hd : decode c.code pc = .ok (.land, 1)) (hp : pc + 1 = pc') (k : own_G p e below s Q ce sl (T.setTop (mkF m pc' Ls (.long (x &&& y) :: st)))) : own_G p e below s Q ce sl (T.setTop (mkF m pc Ls (.long y :: .long x :: st))) := by
  subst hp; exact own_fw (fun t q => XS.land X.here hx rfl hd rfl q) k
theorem own_lor {x y : Int64} (X : Stand p l e R s m args below meth c T locs cells slots) (hx : p.tables.exec = Jvm.exec) (hd : decode c.code pc = .ok (.lor, 1)) (hp : pc + 1 = pc') (k : own_G p e below s Q ce sl (T.setTop (mkF m pc' Ls (.long (x ||| y) :: st)))) : own_G p e below s Q ce sl (T.setTop (mkF m pc Ls (.long y :: .long x :: st))) := by
  subst hp; exact own_fw (fun t q => XS.lor X.here hx rfl hd rfl q) k
theorem own_lxor {x y : Int64} (X : Stand p l e R s m args below meth c T locs cells slots) (hx : p.tables.exec = Jvm.exec) (hd : decode c.code pc = .ok (.lxor, 1)) (hp : pc + 1 = pc') (k : own_G p e below s Q ce sl (T.setTop (mkF m pc' Ls (.long (x ^^^ y) :: st)))) : own_G p e below s Q ce sl (T.setTop (mkF m pc Ls (.long y :: .long x :: st))) := by
  subst hp; exact own_fw (fun t q => XS.lxor X.here hx rfl hd rfl q) k
theorem own_lshl {x : Int64} {y : Int32} (X : Stand p l e R s m args below meth c T locs cells slots) (hx : p.tables.exec = Jvm.exec) (hd : decode c.code pc = .ok (.lshl, 1)) (hp : pc + 1 = pc') (k : own_G p e below s Q ce sl (T.setTop (mkF m pc' Ls (.long (x <<< (y &&& 0x3f).toInt64) :: st)))) : own_G p e below s Q ce sl (T.setTop (mkF m pc Ls (.int y :: .long x :: st))) := by
  subst hp; exact own_fw (fun t q => XS.lshl X.here hx rfl hd rfl q) k
theorem own_lshr {x : Int64} {y : Int32} (X : Stand p l e R s m args below meth c T locs cells slots) (hx : p.tables.exec = Jvm.exec) (hd : decode c.code pc = .ok (.lshr, 1)) (hp : pc + 1 = pc') (k : own_G p e below s Q ce sl (T.setTop (mkF m pc' Ls (.long (x >>> (y &&& 0x3f).toInt64) :: st)))) : own_G p e below s Q ce sl (T.setTop (mkF m pc Ls (.int y :: .long x :: st))) := by
  subst hp; exact own_fw (fun t q => XS.lshr X.here hx rfl hd rfl q) k
theorem own_lushr {x : Int64} {y : Int32} (X : Stand p l e R s m args below meth c T locs cells slots) (hx : p.tables.exec = Jvm.exec) (hd : decode c.code pc = .ok (.lushr, 1)) (hp : pc + 1 = pc') (k : own_G p e below s Q ce sl (T.setTop (mkF m pc' Ls (.long ((x.toUInt64 >>> (y &&& 0x3f).toInt64.toUInt64).toInt64) :: st)))) : own_G p e below s Q ce sl (T.setTop (mkF m pc Ls (.int y :: .long x :: st))) := by
  subst hp; exact own_fw (fun t q => XS.lushr X.here hx rfl hd rfl q) k
theorem own_idiv {x y : Int32} (X : Stand p l e R s m args below meth c T locs cells slots) (hx : p.tables.exec = Jvm.exec) (hd : decode c.code pc = .ok (.idiv, 1)) (hy : y ≠ 0) (hp : pc + 1 = pc') (k : own_G p e below s Q ce sl (T.setTop (mkF m pc' Ls (.int (x / y) :: st)))) : own_G p e below s Q ce sl (T.setTop (mkF m pc Ls (.int y :: .int x :: st))) := by
  subst hp; exact own_fw (fun t q => XS.idiv X.here hx rfl hd rfl hy q) k
theorem own_ldiv {x y : Int64} (X : Stand p l e R s m args below meth c T locs cells slots) (hx : p.tables.exec = Jvm.exec) (hd : decode c.code pc = .ok (.ldiv, 1)) (hy : y ≠ 0) (hp : pc + 1 = pc') (k : own_G p e below s Q ce sl (T.setTop (mkF m pc' Ls (.long (x / y) :: st)))) : own_G p e below s Q ce sl (T.setTop (mkF m pc Ls (.long y :: .long x :: st))) := by
  subst hp; exact own_fw (fun t q => XS.ldiv X.here hx rfl hd rfl hy q) k
theorem own_irem {x y : Int32} (X : Stand p l e R s m args below meth c T locs cells slots) (hx : p.tables.exec = Jvm.exec) (hd : decode c.code pc = .ok (.irem, 1)) (hy : y ≠ 0) (hp : pc + 1 = pc') (k : own_G p e below s Q ce sl (T.setTop (mkF m pc' Ls (.int (x % y) :: st)))) : own_G p e below s Q ce sl (T.setTop (mkF m pc Ls (.int y :: .int x :: st))) := by
  subst hp; exact own_fw (fun t q => iremM X hx rfl hd rfl hy q) k
theorem own_lrem {x y : Int64} (X : Stand p l e R s m args below meth c T locs cells slots) (hx : p.tables.exec = Jvm.exec) (hd : decode c.code pc = .ok (.lrem, 1)) (hy : y ≠ 0) (hp : pc + 1 = pc') (k : own_G p e below s Q ce sl (T.setTop (mkF m pc' Ls (.long (x % y) :: st)))) : own_G p e below s Q ce sl (T.setTop (mkF m pc Ls (.long y :: .long x :: st))) := by
  subst hp; rw [← lrem_mod] at k; exact own_fw (fun t q => XS.lrem X.here hx rfl hd rfl hy q) k
theorem own_ineg {x : Int32} (X : Stand p l e R s m args below meth c T locs cells slots) (hx : p.tables.exec = Jvm.exec) (hd : decode c.code pc = .ok (.ineg, 1)) (hp : pc + 1 = pc') (k : own_G p e below s Q ce sl (T.setTop (mkF m pc' Ls (.int (-x) :: st)))) : own_G p e below s Q ce sl (T.setTop (mkF m pc Ls (.int x :: st))) := by
  subst hp; exact own_fw (fun t q => XS.ineg X.here hx rfl hd rfl q) k
theorem own_lneg {x : Int64} (X : Stand p l e R s m args below meth c T locs cells slots) (hx : p.tables.exec = Jvm.exec) (hd : decode c.code pc = .ok (.lneg, 1)) (hp : pc + 1 = pc') (k : own_G p e below s Q ce sl (T.setTop (mkF m pc' Ls (.long (-x) :: st)))) : own_G p e below s Q ce sl (T.setTop (mkF m pc Ls (.long x :: st))) := by
  subst hp; exact own_fw (fun t q => XS.lneg X.here hx rfl hd rfl q) k
theorem own_i2l {x : Int32} (X : Stand p l e R s m args below meth c T locs cells slots) (hx : p.tables.exec = Jvm.exec) (hd : decode c.code pc = .ok (.i2l, 1)) (hp : pc + 1 = pc') (k : own_G p e below s Q ce sl (T.setTop (mkF m pc' Ls (.long x.toInt64 :: st)))) : own_G p e below s Q ce sl (T.setTop (mkF m pc Ls (.int x :: st))) := by
  subst hp; exact own_fw (fun t q => XS.i2l X.here hx rfl hd rfl q) k
theorem own_l2i {x : Int64} (X : Stand p l e R s m args below meth c T locs cells slots) (hx : p.tables.exec = Jvm.exec) (hd : decode c.code pc = .ok (.l2i, 1)) (hp : pc + 1 = pc') (k : own_G p e below s Q ce sl (T.setTop (mkF m pc' Ls (.int x.toInt32 :: st)))) : own_G p e below s Q ce sl (T.setTop (mkF m pc Ls (.long x :: st))) := by
  subst hp; exact own_fw (fun t q => XS.l2i X.here hx rfl hd rfl q) k
theorem own_i2b {x : Int32} (X : Stand p l e R s m args below meth c T locs cells slots) (hx : p.tables.exec = Jvm.exec) (hd : decode c.code pc = .ok (.i2b, 1)) (hp : pc + 1 = pc') (k : own_G p e below s Q ce sl (T.setTop (mkF m pc' Ls (.int x.toInt8.toInt32 :: st)))) : own_G p e below s Q ce sl (T.setTop (mkF m pc Ls (.int x :: st))) := by
  subst hp; exact own_fw (fun t q => XS.i2b X.here hx rfl hd rfl q) k
theorem own_lcmp {x y : Int64} (X : Stand p l e R s m args below meth c T locs cells slots) (hx : p.tables.exec = Jvm.exec) (hd : decode c.code pc = .ok (.lcmp, 1)) (hp : pc + 1 = pc') (k : own_G p e below s Q ce sl (T.setTop (mkF m pc' Ls (.int (lcmpW x y) :: st)))) : own_G p e below s Q ce sl (T.setTop (mkF m pc Ls (.long y :: .long x :: st))) := by
  subst hp; exact own_fw (fun t q => XS.lcmp X.here hx rfl hd rfl q) k
theorem own_dup {x : Value} (X : Stand p l e R s m args below meth c T locs cells slots) (hx : p.tables.exec = Jvm.exec) (hd : decode c.code pc = .ok (.dup, 1)) (hc : x.category = 1) (hp : pc + 1 = pc') (k : own_G p e below s Q ce sl (T.setTop (mkF m pc' Ls (x :: x :: st)))) : own_G p e below s Q ce sl (T.setTop (mkF m pc Ls (x :: st))) := by
  subst hp; exact own_fw (fun t q => XS.dup X.here hx rfl hd rfl hc q) k
theorem own_pop {x : Value} (X : Stand p l e R s m args below meth c T locs cells slots) (hx : p.tables.exec = Jvm.exec) (hd : decode c.code pc = .ok (.pop, 1)) (hc : x.category = 1) (hp : pc + 1 = pc') (k : own_G p e below s Q ce sl (T.setTop (mkF m pc' Ls st))) : own_G p e below s Q ce sl (T.setTop (mkF m pc Ls (x :: st))) := by
  subst hp; exact own_fw (fun t q => XS.pop X.here hx rfl hd rfl hc q) k
theorem own_dupX1 {x y : Value} (X : Stand p l e R s m args below meth c T locs cells slots) (hx : p.tables.exec = Jvm.exec) (hd : decode c.code pc = .ok (.dup_x1, 1)) (hc : x.category = 1) (hc' : y.category = 1) (hp : pc + 1 = pc') (k : own_G p e below s Q ce sl (T.setTop (mkF m pc' Ls (x :: y :: x :: st)))) : own_G p e below s Q ce sl (T.setTop (mkF m pc Ls (x :: y :: st))) := by
  subst hp; exact own_fw (fun t q => XS.dupX1 X.here hx rfl hd rfl hc hc' q) k
theorem own_dup2 {x y : Value} (X : Stand p l e R s m args below meth c T locs cells slots) (hx : p.tables.exec = Jvm.exec) (hd : decode c.code pc = .ok (.dup2, 1)) (hc : x.category = 1) (hc' : y.category = 1) (hp : pc + 1 = pc') (k : own_G p e below s Q ce sl (T.setTop (mkF m pc' Ls (x :: y :: x :: y :: st)))) : own_G p e below s Q ce sl (T.setTop (mkF m pc Ls (x :: y :: st))) := by
  subst hp; exact own_fw (fun t q => XT.dup2 X.here hx rfl hd rfl hc hc' q) k
theorem own_iinc {i : Nat} {cst : Int} {x z : Int32} (X : Stand p l e R s m args below meth c T locs cells slots) (hx : p.tables.exec = Jvm.exec) (hd : decode c.code pc = .ok (.iinc i cst, 3)) (hl : Ls[i]? = some (.val (.int x))) (hz : Int32.ofInt cst = z) {l' : Array Slot} (hl' : storeLocals Ls i (.int (x + z)) = some l') (hp : pc + 3 = pc') (k : own_G p e below s Q ce sl (T.setTop (mkF m pc' l' st))) : own_G p e below s Q ce sl (T.setTop (mkF m pc Ls st)) := by
  subst hp hz; exact own_fw (fun t q => XS.iinc X.here hx rfl hd hl hl' q) k
theorem own_goto {o : Int} (X : Stand p l e R s m args below meth c T locs cells slots) (hx : p.tables.exec = Jvm.exec) (hd : decode c.code pc = .ok (.goto o, 3)) (ho : 0 ≤ (pc : Int) + o) (hp : ((pc : Int) + o).toNat = pc') (k : own_G p e below s Q ce sl (T.setTop (mkF m pc' Ls st))) : own_G p e below s Q ce sl (T.setTop (mkF m pc Ls st)) := own_fw (fun t q => XS.goto X.here hx rfl (pc0 := pc) rfl hd ho hp q) k
theorem own_icmpT {o : Int} {cd : ClassFile.Cond} {x y : Int32} (X : Stand p l e R s m args below meth c T locs cells slots) (hx : p.tables.exec = Jvm.exec) (hd : decode c.code pc = .ok (.if_icmp cd o, 3)) (hc : if_icmp.holds cd x y = true) (ho : 0 ≤ (pc : Int) + o) (hp : ((pc : Int) + o).toNat = pc') (k : own_G p e below s Q ce sl (T.setTop (mkF m pc' Ls st))) : own_G p e below s Q ce sl (T.setTop (mkF m pc Ls (.int y :: .int x :: st))) := own_fw (fun t q => XS.icmpYes X.here hx rfl (pc0 := pc) rfl hd rfl hc ho hp q) k
theorem own_icmpF {o : Int} {cd : ClassFile.Cond} {x y : Int32} (X : Stand p l e R s m args below meth c T locs cells slots) (hx : p.tables.exec = Jvm.exec) (hd : decode c.code pc = .ok (.if_icmp cd o, 3)) (hc : if_icmp.holds cd x y = false) (hp : pc + 3 = pc') (k : own_G p e below s Q ce sl (T.setTop (mkF m pc' Ls st))) : own_G p e below s Q ce sl (T.setTop (mkF m pc Ls (.int y :: .int x :: st))) := by
  subst hp; exact own_fw (fun t q => XS.icmpNo X.here hx rfl hd rfl hc q) k
theorem own_ifT {o : Int} {cd : ClassFile.Cond} {x : Int32} (X : Stand p l e R s m args below meth c T locs cells slots) (hx : p.tables.exec = Jvm.exec) (hd : decode c.code pc = .ok (.ifCond cd o, 3)) (hc : if_icmp.holds cd x 0 = true) (ho : 0 ≤ (pc : Int) + o) (hp : ((pc : Int) + o).toNat = pc') (k : own_G p e below s Q ce sl (T.setTop (mkF m pc' Ls st))) : own_G p e below s Q ce sl (T.setTop (mkF m pc Ls (.int x :: st))) := own_fw (fun t q => XS.ifYes X.here hx rfl (pc0 := pc) rfl hd rfl ((if0 cd x).trans hc) ho hp q) k
theorem own_ifF {o : Int} {cd : ClassFile.Cond} {x : Int32} (X : Stand p l e R s m args below meth c T locs cells slots) (hx : p.tables.exec = Jvm.exec) (hd : decode c.code pc = .ok (.ifCond cd o, 3)) (hc : if_icmp.holds cd x 0 = false) (hp : pc + 3 = pc') (k : own_G p e below s Q ce sl (T.setTop (mkF m pc' Ls st))) : own_G p e below s Q ce sl (T.setTop (mkF m pc Ls (.int x :: st))) := by
  subst hp; exact own_fw (fun t q => XS.ifNo X.here hx rfl hd rfl ((if0 cd x).trans hc) q) k
theorem own_ltL {x y : Int64} (h : x < y) : if_icmp.holds .lt (lcmpW x y) 0 = true ∧ if_icmp.holds .ge (lcmpW x y) 0 = false ∧ if_icmp.holds .gt (lcmpW y x) 0 = true ∧ if_icmp.holds .le (lcmpW y x) 0 = false := by
  have h1 := (lw_lt x y).mpr h
  have h2 := (lw_gt y x).mpr h
  exact ⟨(tlt h1).1, (tlt h1).2.1, (tlt h2).2.2.1, (tlt h2).2.2.2⟩
theorem own_geL {x y : Int64} (h : ¬ x < y) : if_icmp.holds .lt (lcmpW x y) 0 = false ∧ if_icmp.holds .ge (lcmpW x y) 0 = true ∧ if_icmp.holds .gt (lcmpW y x) 0 = false ∧ if_icmp.holds .le (lcmpW y x) 0 = true := by
  have h1 : ¬ lcmpW x y < 0 := fun q => h ((lw_lt x y).mp q)
  have h2 : ¬ 0 < lcmpW y x := fun q => h ((lw_gt y x).mp q)
  exact ⟨(flt h1).1, (flt h1).2.1, (flt h2).2.2.1, (flt h2).2.2.2⟩
theorem own_eqL {x y : Int64} (h : x = y) : if_icmp.holds .eq (lcmpW x y) 0 = true ∧ if_icmp.holds .ne (lcmpW x y) 0 = false := teq ((lw_eq x y).mpr h)
theorem own_neL {x y : Int64} (h : ¬ x = y) : if_icmp.holds .eq (lcmpW x y) 0 = false ∧ if_icmp.holds .ne (lcmpW x y) 0 = true := feq (fun q => h ((lw_eq x y).mp q))
theorem own_bT {P : Prop} [Decidable P] (h : P) : if_icmp.holds .eq (if P then (1 : Int32) else 0) 0 = false ∧ if_icmp.holds .ne (if P then (1 : Int32) else 0) 0 = true := by rw [if_pos h]; exact ⟨rfl, rfl⟩
theorem own_bF {P : Prop} [Decidable P] (h : ¬ P) : if_icmp.holds .eq (if P then (1 : Int32) else 0) 0 = true ∧ if_icmp.holds .ne (if P then (1 : Int32) else 0) 0 = false := by rw [if_neg h]; exact ⟨rfl, rfl⟩
theorem own_b01 {P : Prop} [Decidable P] : (if P then (1 : Int32) else 0) = 0 ∨ (if P then (1 : Int32) else 0) = 1 := by by_cases h : P <;> simp [h]
theorem own_ifnonnullT {o : Int} {b : Addr} (X : Stand p l e R s m args below meth c T locs cells slots) (hx : p.tables.exec = Jvm.exec) (hd : decode c.code pc = .ok (.ifnonnull o, 3)) (ho : 0 ≤ (pc : Int) + o) (hp : ((pc : Int) + o).toNat = pc') (k : own_G p e below s Q ce sl (T.setTop (mkF m pc' Ls st))) : own_G p e below s Q ce sl (T.setTop (mkF m pc Ls (.ref b :: st))) := own_fw (fun t q => XS.ifnonnullYes X.here hx rfl (pc0 := pc) rfl hd rfl ho hp q) k
theorem own_ifnonnullF {o : Int} (X : Stand p l e R s m args below meth c T locs cells slots) (hx : p.tables.exec = Jvm.exec) (hd : decode c.code pc = .ok (.ifnonnull o, 3)) (hp : pc + 3 = pc') (k : own_G p e below s Q ce sl (T.setTop (mkF m pc' Ls st))) : own_G p e below s Q ce sl (T.setTop (mkF m pc Ls (.null :: st))) := by
  subst hp; exact own_fw (fun t q => XS.ifnonnullNo X.here hx rfl hd rfl q) k
theorem own_ifnullT {o : Int} (X : Stand p l e R s m args below meth c T locs cells slots) (hx : p.tables.exec = Jvm.exec) (hd : decode c.code pc = .ok (.ifnull o, 3)) (ho : 0 ≤ (pc : Int) + o) (hp : ((pc : Int) + o).toNat = pc') (k : own_G p e below s Q ce sl (T.setTop (mkF m pc' Ls st))) : own_G p e below s Q ce sl (T.setTop (mkF m pc Ls (.null :: st))) := own_fw (fun t q => XS.ifnullYes X.here hx rfl (pc0 := pc) rfl hd rfl ho hp q) k
theorem own_ifnullF {o : Int} {b : Addr} (X : Stand p l e R s m args below meth c T locs cells slots) (hx : p.tables.exec = Jvm.exec) (hd : decode c.code pc = .ok (.ifnull o, 3)) (hp : pc + 3 = pc') (k : own_G p e below s Q ce sl (T.setTop (mkF m pc' Ls st))) : own_G p e below s Q ce sl (T.setTop (mkF m pc Ls (.ref b :: st))) := by
  subst hp; exact own_fw (fun t q => XS.ifnullNo X.here hx rfl hd rfl q) k
theorem own_acmpT {o : Int} {cd : ACond} {x y : Value} (X : Stand p l e R s m args below meth c T locs cells slots) (hx : p.tables.exec = Jvm.exec) (hd : decode c.code pc = .ok (.if_acmp cd o, 3)) (h1 : x.isRef = true) (h2 : y.isRef = true) (hc : XT.acmp cd x y = true) (ho : 0 ≤ (pc : Int) + o) (hp : ((pc : Int) + o).toNat = pc') (k : own_G p e below s Q ce sl (T.setTop (mkF m pc' Ls st))) : own_G p e below s Q ce sl (T.setTop (mkF m pc Ls (y :: x :: st))) := own_fw (fun t q => XT.acmpYes X.here hx rfl (pc0 := pc) rfl hd rfl h1 h2 hc ho hp q) k
theorem own_acmpF {o : Int} {cd : ACond} {x y : Value} (X : Stand p l e R s m args below meth c T locs cells slots) (hx : p.tables.exec = Jvm.exec) (hd : decode c.code pc = .ok (.if_acmp cd o, 3)) (h1 : x.isRef = true) (h2 : y.isRef = true) (hc : XT.acmp cd x y = false) (hp : pc + 3 = pc') (k : own_G p e below s Q ce sl (T.setTop (mkF m pc' Ls st))) : own_G p e below s Q ce sl (T.setTop (mkF m pc Ls (y :: x :: st))) := by
  subst hp; exact own_fw (fun t q => XT.acmpNo X.here hx rfl hd rfl h1 h2 hc q) k
theorem own_getF (X : Stand p l e R s m args below meth c T locs cells slots) (hx : p.tables.exec = Jvm.exec) (hZ : Z.Warmed39 s.vm) {own O n d : String} {index : Nat} (hown : s.vm.findClass own = some m.cls) (w1 : (Jvm.Cond.fieldLink own index O n d).before a0 Z = true) (eT : T.heap = h) {a : Addr} {v : Value} (F : Fld Z h a O n d v) (hd : decode c.code pc = .ok (.getfield index, 3)) (hp : pc + 3 = pc')
    (k : ∀ T' : State, Stand p l e R s m args below meth c T' locs cells slots → T'.heap = h → own_G p e below s Q ce sl (T'.setTop (mkF m pc' Ls (v :: st)))) : own_G p e below s Q ce sl (T.setTop (mkF m pc Ls (.ref a :: st))) := by
  subst hp
  obtain ⟨T', X', e', st'⟩ := getF X hx hZ hown (host := "") (Or.inl w1) Via.refl eT F (g := mkF m pc Ls (.ref a :: st)) rfl rfl hd
  exact own_fw st' (k T' X' e')
theorem own_putF (X : Stand p l e R s m args below meth c T locs cells slots) (hx : p.tables.exec = Jvm.exec) (hZ : Z.Warmed39 s.vm) {own O n d C : String} {index kk : Nat} {ty : FieldType} (hown : s.vm.findClass own = some m.cls) (w1 : (Jvm.Cond.fieldLink own index O n d).before a0 Z = true) (eT : T.heap = h) {a : Addr} {v old : Value} (F : Fld Z h a O n d old) (E : Exa Z h a C) (L : (Jvm.Cond.lays C O n d).before a0 Z = true ∨ ((Jvm.Cond.laysFinal C O n d).before a0 Z = true ∧ own = O ∧ meth.name = "<init>")) (wi : (Jvm.Cond.instantiable C kk).before a0 Z = true) (hty : parseFieldDescriptor d = some ty) (hn : narrow ty v = v) (hf : fits ty v = true) (hd : decode c.code pc = .ok (.putfield index, 3)) (hp : pc + 3 = pc')
    (k : ∀ (T' : State) (h' : Heap), Stand p l e R s m args below meth c T' (locs ++ [⟨a, RoadKit.slotOf Z O n d⟩]) cells slots → T'.heap = h' → Wr h h' a (RoadKit.slotOf Z O n d) v → own_G p e below s Q ce sl (T'.setTop (mkF m pc' Ls st))) : own_G p e below s Q ce sl (T.setTop (mkF m pc Ls (v :: .ref a :: st))) := by
  subst hp
  obtain ⟨T', h', X', e', W', st'⟩ := putF X hx hZ hown (host := "") (Or.inl w1) Via.refl eT F E L wi hty hn hf (g := mkF m pc Ls (v :: .ref a :: st)) rfl rfl hd
  exact own_fw st' (k T' h' X' e' W')
theorem own_new (X : Stand p l e R s m args below meth c T locs cells slots) (hx : p.tables.exec = Jvm.exec) (hZ : Z.Warmed39 s.vm) {own C : String} {index n : Nat} (hown : s.vm.findClass own = some m.cls) (w1 : (Jvm.Cond.classLink own index C).before a0 Z = true) (wi : (Jvm.Cond.instantiable C n).before a0 Z = true) (wz : (Jvm.Cond.initialized C).before a0 Z = true) (eT : T.heap = h) (hd : decode c.code pc = .ok (.new index, 3)) (hp : pc + 3 = pc') (hc : cells + 1 ≤ R.cells) (hl : slots + n ≤ R.slots)
    (k : ∀ (T' : State) (h' : Heap) (a : Addr), a = h.size → Stand p l e R s m args below meth c T' locs (cells + 1) (slots + n) → T'.heap = h' → Ext h h' → Exa Z h' a C → (∀ {O nm d : String} {ty : FieldType}, Laid Z a0 C O nm d → parseFieldDescriptor d = some ty → Fld Z h' a O nm d (defaultValue ty)) → own_G p e below s Q ce sl (T'.setTop (mkF m pc' Ls (.ref a :: st)))) : own_G p e below s Q ce sl (T.setTop (mkF m pc Ls st)) := by
  subst hp
  obtain ⟨T', h', X', e', E', A', D', -, st'⟩ := newO X hx hZ hown w1 wi wz eT (g := mkF m pc Ls st) rfl hd hc hl
  exact own_fw st' (k T' h' h.size rfl X' e' E' A' D')
theorem own_initO (X : Stand p l e R s m args below meth c T locs cells slots) (hx : p.tables.exec = Jvm.exec) (hZ : Z.Warmed39 s.vm) {own : String} {idx : Nat} (hown : s.vm.findClass own = some m.cls) (w1 : (Jvm.Cond.methodLink own idx Lib.objectInit).before a0 Z = true) (w2 : (Jvm.Cond.instanceMethod Lib.objectInit).before a0 Z = true) (w3 : (Jvm.Cond.code Lib.objectInit object_method_1_code 1 none).before a0 Z = true) (eT : T.heap = h) (hsize : Ls.size = c.maxLocals) {a : Addr} (hd : decode c.code pc = .ok (.invokespecial idx, 3)) (hf : 1 ≤ R.frames) {W : Nat} (hW : (st.map fun v => v.category).sum ≤ W) (hl : W + 12 ≤ R.locals) (hp : pc + 3 = pc')
    (k : ∀ T' : State, Stand p l e R s m args below meth c T' locs cells slots → T'.heap = h → own_G p e below s Q ce sl (T'.setTop (mkF m pc' Ls st))) : own_G p e below s Q ce sl (T.setTop (mkF m pc Ls (.ref a :: st))) := by
  subst hp
  obtain ⟨T', X', e', st'⟩ := initO X hx hZ hown w1 w2 w3 eT (g := mkF m pc Ls (.ref a :: st)) rfl hsize rfl hd hf (W := W) (by show 2 * 0 + _ ≤ _; omega) hl
  exact own_fw st' (k T' X' e')
theorem own_callS (X : Stand p l e R s m args below meth c T locs cells slots) (hx : p.tables.exec = Jvm.exec) (hZ : Z.Warmed39 s.vm) {own : String} {index : Nat} {y : MethodName} {bytes : ByteArray} {maxL : Nat} {ret : Option FieldType} (hown : s.vm.findClass own = some m.cls) (w1 : (Jvm.Cond.methodLink own index y).before a0 Z = true) (w2 : (Jvm.Cond.static y).before a0 Z = true) (w3 : (Jvm.Cond.initialized y.cls).before a0 Z = true) (w4 : (Jvm.Cond.code y bytes maxL ret).before a0 Z = true) (hy : y.cls ≠ "java/lang/invoke/MethodHandle" ∧ y.cls ≠ "java/lang/invoke/VarHandle") {rm : Room} {as' : List Value} {Q' : Option Value → Heap → List Loc → Prop} (hM : own_M l Z y bytes maxL ret [] rm as'.toArray h Q' rm.cells rm.slots) (eT : T.heap = h) {W : Nat} (hf : rm.frames + 1 ≤ R.frames) (hl : W + (maxL + 11) + rm.locals ≤ R.locals) {ps : List FieldType} {r : Option FieldType} (pd : parseMethodDescriptor y.desc = some ⟨ps, r⟩) (hlen : as'.length = ps.length) {stk rest : List Value} (hstk : stk = as'.reverse ++ rest) (hd : decode c.code pc = .ok (.invokestatic index, 3)) (hW : (rest.map fun v => v.category).sum ≤ W) (hsize : Ls.size = c.maxLocals) (hc : cells + rm.cells ≤ R.cells) (hs : slots + rm.slots ≤ R.slots) (hp : pc + 3 = pc')
    (k : ∀ (v : Option Value) (T' : State) (L : List Loc), Stand p l e R s m args below meth c T' (locs ++ L) (cells + rm.cells) (slots + rm.slots) → Q' v T'.heap L → own_G p e below s Q ce sl (T'.setTop (mkF m pc' Ls (v.toList ++ rest)))) : own_G p e below s Q ce sl (T.setTop (mkF m pc Ls stk)) := by
  subst hp hstk
  obtain ⟨v, vm1, ⟨T', L', k', n'⟩, hWm, X', ⟨Lc, hQ', l', y', z'⟩, st'⟩ := Jvm.LawKit.callS X hx (y := y) hown (mvT hZ w1) (mvT hZ w2) (mvT hZ w3) (mvT hZ w4) hy (backOf (W := W) hM hZ w4 w3 hf hl) (g := mkF m pc Ls (as'.reverse ++ rest)) rfl hsize (argsL := as') (rest := rest) (lenOf pd hlen) rfl (by show 2 * 0 + _ ≤ _; omega) hd (fun _ _ => ⟨rfl, eT, hc, hs⟩)
  dsimp only [Pt.U, Pt.locs, Pt.cells, Pt.slots] at X' l' y' z' hQ'
  subst l' y' z'
  exact own_fw st' (k v T' Lc X' hQ')
theorem own_callC (X : Stand p l e R s m args below meth c T locs cells slots) (hx : p.tables.exec = Jvm.exec) (hZ : Z.Warmed39 s.vm) {own : String} {index : Nat} {y : MethodName} {bytes : ByteArray} {maxL : Nat} (hy1 : y.name = "<init>") (hown : s.vm.findClass own = some m.cls) (w1 : (Jvm.Cond.methodLink own index y).before a0 Z = true) (w2 : (Jvm.Cond.instanceMethod y).before a0 Z = true) (w3 : (Jvm.Cond.initialized y.cls).before a0 Z = true) (w4 : (Jvm.Cond.code y bytes maxL none).before a0 Z = true) (hy : y.cls ≠ "java/lang/invoke/MethodHandle" ∧ y.cls ≠ "java/lang/invoke/VarHandle") {a : Addr} {rm : Room} {as' : List Value} {Q' : Option Value → Heap → List Loc → Prop} (hM : own_M l Z y bytes maxL none [] rm (.ref a :: as').toArray h Q' rm.cells rm.slots) (eT : T.heap = h) {W : Nat} (hf : rm.frames + 1 ≤ R.frames) (hl : W + (maxL + 11) + rm.locals ≤ R.locals) {ps : List FieldType} {r : Option FieldType} (pd : parseMethodDescriptor y.desc = some ⟨ps, r⟩) (hlen : as'.length = ps.length) {stk rest : List Value} (hstk : stk = as'.reverse ++ .ref a :: rest) (hd : decode c.code pc = .ok (.invokespecial index, 3)) (hW : (rest.map fun v => v.category).sum ≤ W) (hsize : Ls.size = c.maxLocals) (hc : cells + rm.cells ≤ R.cells) (hs : slots + rm.slots ≤ R.slots) (hp : pc + 3 = pc')
    (k : ∀ (v : Option Value) (T' : State) (L : List Loc), Stand p l e R s m args below meth c T' (locs ++ L) (cells + rm.cells) (slots + rm.slots) → Q' v T'.heap L → own_G p e below s Q ce sl (T'.setTop (mkF m pc' Ls (v.toList ++ rest)))) : own_G p e below s Q ce sl (T.setTop (mkF m pc Ls stk)) := by
  subst hp hstk
  obtain ⟨v, vm1, ⟨T', L', k', n'⟩, hWm, X', ⟨Lc, hQ', l', y', z'⟩, st'⟩ := X.specialBack hx (y := y) hy1 hown (mvT hZ w1) (mvT hZ w2) (mvT hZ w4) hy (backOf (W := W) hM hZ w4 w3 hf hl) (g := mkF m pc Ls (as'.reverse ++ .ref a :: rest)) rfl hsize (Steps.refl _) (a := a) (argsL := as') (rest := rest) (lenOf pd hlen) rfl (by show 2 * 0 + _ ≤ _; omega) hd (fun _ _ => ⟨rfl, eT, hc, hs⟩)
  dsimp only [Pt.U, Pt.locs, Pt.cells, Pt.slots] at X' l' y' z' hQ'
  subst l' y' z'
  exact own_fw (fun t q => st'.trans q) (k v T' Lc X' hQ')
theorem own_callV (X : Stand p l e R s m args below meth c T locs cells slots) (hx : p.tables.exec = Jvm.exec) (hZ : Z.Warmed39 s.vm) {own C : String} {index : Nat} {y : MethodName} {bytes : ByteArray} {maxL : Nat} {ret : Option FieldType} (hown : s.vm.findClass own = some m.cls) (w1 : (Jvm.Cond.methodLink own index y).before a0 Z = true) (w2 : (Jvm.Cond.declares y).before a0 Z = true) (w3 : (Jvm.Cond.selects C y y).before a0 Z = true) (w4 : (Jvm.Cond.instanceMethod y).before a0 Z = true) (w5 : (Jvm.Cond.initialized y.cls).before a0 Z = true) (w6 : (Jvm.Cond.code y bytes maxL ret).before a0 Z = true) (hy : y.cls ≠ "java/lang/invoke/MethodHandle" ∧ y.cls ≠ "java/lang/invoke/VarHandle") {a : Addr} (E : Exa Z h a C) {rm : Room} {as' : List Value} {Q' : Option Value → Heap → List Loc → Prop} (hM : own_M l Z y bytes maxL ret [] rm (.ref a :: as').toArray h Q' rm.cells rm.slots) (eT : T.heap = h) {W : Nat} (hf : rm.frames + 1 ≤ R.frames) (hl : W + (maxL + 11) + rm.locals ≤ R.locals) {ps : List FieldType} {r : Option FieldType} (pd : parseMethodDescriptor y.desc = some ⟨ps, r⟩) (hlen : as'.length = ps.length) {stk rest : List Value} (hstk : stk = as'.reverse ++ .ref a :: rest) (hd : decode c.code pc = .ok (.invokevirtual index, 3)) (hW : (rest.map fun v => v.category).sum ≤ W) (hsize : Ls.size = c.maxLocals) (hc : cells + rm.cells ≤ R.cells) (hs : slots + rm.slots ≤ R.slots) (hp : pc + 3 = pc')
    (k : ∀ (v : Option Value) (T' : State) (L : List Loc), Stand p l e R s m args below meth c T' (locs ++ L) (cells + rm.cells) (slots + rm.slots) → Q' v T'.heap L → own_G p e below s Q ce sl (T'.setTop (mkF m pc' Ls (v.toList ++ rest)))) : own_G p e below s Q ce sl (T.setTop (mkF m pc Ls stk)) := by
  subst hp hstk
  obtain ⟨cq, kq, qa, qb, qc⟩ := isOf hZ eT E
  obtain ⟨v, vm1, ⟨T', L', k', n'⟩, hWm, X', ⟨Lc, hQ', l', y', z'⟩, st'⟩ := X.virtualBack hx (y := y) (z := y) hown (mvT hZ w1) (mvT hZ w2) (notFace_of_selects (args := #[]) (mvT hZ w3)) (mvT hZ w3) (mvT hZ w4) hy (backOf (W := W) hM hZ w6 w5 hf hl) qa qc (g := mkF m pc Ls (as'.reverse ++ .ref a :: rest)) rfl hsize (Steps.refl _) (argsL := as') (rest := rest) (lenOf pd hlen) rfl (by show 2 * 0 + _ ≤ _; omega) hd (fun _ _ => ⟨rfl, eT, hc, hs⟩)
  dsimp only [Pt.U, Pt.locs, Pt.cells, Pt.slots] at X' l' y' z' hQ'
  subst l' y' z'
  exact own_fw (fun t q => st'.trans q) (k v T' Lc X' hQ')
end OwnHead
section OwnArr
variable {p : Program} {l : Launch} {e : Env} {R : Room} {s : State} {m : MethodId} {args : Array Value} {below : List Frame} {meth : Method} {c : Code} {T : State} {locs : List Loc} {cells slots : Nat} {Z : State} {a0 : Array Value} {h : Heap} {Q : Option Value → Heap → List Loc → Prop} {ce sl : Nat} {pc pc' : Nat} {Ls : Array Slot} {st : List Value} {h' : Heap} {a b : Addr} {ty : FieldType} {z : Int32} {ws : List Addr} {v : Value} {sx : Nat}
def own_AI (Z : State) (h : Heap) (a : Addr) (ty : FieldType) (z : Int32) (g : Nat → Int32) : Prop := ∃ c : Cell, Arr Z h a c ty ∧ c.slots.size = z.toNatClampNeg ∧ ¬ z < 0 ∧ ∀ i, i < c.slots.size → c.slots[i]? = some (.int (g i))
theorem own_AI.lt {g : Nat → Int32} (F : own_AI Z h a ty z g) : a < h.size := by obtain ⟨c, A, -⟩ := F; exact A.lt
theorem own_AI.ext {g : Nat → Int32} (F : own_AI Z h a ty z g) (E : Ext h h') : own_AI Z h' a ty z g := by obtain ⟨c, A, r⟩ := F; exact ⟨c, A.ext E, r⟩
theorem own_AI.other {g : Nat → Int32} (F : own_AI Z h a ty z g) (W : Wr h h' b sx v) (q : a ≠ b) : own_AI Z h' a ty z g := by obtain ⟨c, A, r⟩ := F; exact ⟨c, A.other W q, r⟩
theorem own_AI.keep {g : Nat → Int32} (F : own_AI Z h a ty z g) (Kp : Keep h h' ws) (q : a ∉ ws) : own_AI Z h' a ty z g := by obtain ⟨c, A, r⟩ := F; exact ⟨c, ⟨Kp.2.1 a c A.1 q, A.2⟩, r⟩
theorem own_AI.same {g g' : Nat → Int32} (F : own_AI Z h a ty z g) (q : ∀ i, i < z.toNatClampNeg → g' i = g i) : own_AI Z h a ty z g' := by obtain ⟨c, A, r1, r2, r3⟩ := F; exact ⟨c, A, r1, r2, fun i hi => by rw [q i (r1 ▸ hi)]; exact r3 i hi⟩
theorem own_AI.set {g g' : Nat → Int32} (F : own_AI Z h a ty z g) {j : Int32} {x : Int32} (W : Wr h h' a j.toNatClampNeg (.int x)) (q : ∀ i, i < z.toNatClampNeg → g' i = if i = j.toNatClampNeg then x else g i) : own_AI Z h' a ty z g' := by
  obtain ⟨c, A, r1, r2, r3⟩ := F
  refine ⟨_, A.same W, (sz_set _ _ _).trans r1, r2, fun i hi => ?_⟩
  rw [sz_set] at hi
  rw [q i (r1 ▸ hi)]
  by_cases e : i = j.toNatClampNeg
  · subst e; rw [if_pos rfl]; simp [Cell.setSlot, hi]
  · rw [if_neg e]; exact (Array.getElem?_setIfInBounds_ne (Ne.symm e)).trans (r3 i hi)
def own_LI (l : List Int32) (i : Nat) : Int32 := l.getD i 0
theorem own_LI_set (l : List Int32) (k : Nat) (x : Int32) (hk : k < l.length) (i : Nat) : own_LI (l.set k x) i = if i = k then x else own_LI l i := by
  unfold own_LI
  by_cases e : i = k
  · subst e; simp [List.getD, hk]
  · rw [if_neg e]; simp [List.getD, List.getElem?_set_ne (Ne.symm e)]
theorem own_newAI (X : Stand p l e R s m args below meth c T locs cells slots) (hx : p.tables.exec = Jvm.exec) (hZ : Z.Warmed39 s.vm) {aty : ArrayType} {ty : FieldType} (hty : newarray.typeOf aty = ty) (w1 : (Jvm.Cond.arrayClass ty).before a0 Z = true) (eT : T.heap = h) {n : Int32} (hd : decode c.code pc = .ok (.newarray aty, 2)) (hp : pc + 2 = pc') (hn : ¬ n < 0) {cap : Nat} (hcap : n.toNatClampNeg ≤ cap) (hb : cap * 8 ≤ 536870912) (hc : cells + 1 ≤ R.cells) (hl : slots + cap ≤ R.slots) (hdv : defaultValue ty = .int 0)
    (k : ∀ (T' : State) (h' : Heap) (a : Addr), a = h.size → Stand p l e R s m args below meth c T' locs (cells + 1) (slots + cap) → T'.heap = h' → Ext h h' → own_AI Z h' a ty n (fun _ => 0) → own_G p e below s Q ce sl (T'.setTop (mkF m pc' Ls (.ref a :: st)))) : own_G p e below s Q ce sl (T.setTop (mkF m pc Ls (.int n :: st))) := by
  subst hp hty
  obtain ⟨T', h', cA, X', e', E', A', st'⟩ := newP X hx hZ w1 eT (g := mkF m pc Ls (.int n :: st)) rfl hd rfl hn hcap hb hc hl
  refine own_fw st' (k T' h' h.size rfl X' e' E' ⟨_, A', sz_new _ _ _, hn, fun i hi => ?_⟩)
  rw [sz_new] at hi
  rw [← hdv]
  simp [newA, hi]
theorem own_lenI (X : Stand p l e R s m args below meth c T locs cells slots) (hx : p.tables.exec = Jvm.exec) (hZ : Z.Warmed39 s.vm) (eT : T.heap = h) {ty : FieldType} {g : Nat → Int32} (A : own_AI Z h a ty z g) (hd : decode c.code pc = .ok (.arraylength, 1)) (hp : pc + 1 = pc') (k : own_G p e below s Q ce sl (T.setTop (mkF m pc' Ls (.int z :: st)))) : own_G p e below s Q ce sl (T.setTop (mkF m pc Ls (.ref a :: st))) := by
  subst hp
  obtain ⟨cl, A1, r1, r2, r3⟩ := A
  rw [← len_of r1 r2] at k
  exact own_fw (fun t q => X.arraylength hx (by rw [eT]; exact A1.1) (State.isArrayOf_alike hZ.alike A1.2.1) (g := mkF m pc Ls (.ref a :: st)) rfl rfl hd _ q) k
def own_AJ (Z : State) (h : Heap) (a : Addr) (ty : FieldType) (z : Int32) (g : Nat → Int64) : Prop := ∃ c : Cell, Arr Z h a c ty ∧ c.slots.size = z.toNatClampNeg ∧ ¬ z < 0 ∧ ∀ i, i < c.slots.size → c.slots[i]? = some (.long (g i))
theorem own_AJ.lt {g : Nat → Int64} (F : own_AJ Z h a ty z g) : a < h.size := by obtain ⟨c, A, -⟩ := F; exact A.lt
theorem own_AJ.ext {g : Nat → Int64} (F : own_AJ Z h a ty z g) (E : Ext h h') : own_AJ Z h' a ty z g := by obtain ⟨c, A, r⟩ := F; exact ⟨c, A.ext E, r⟩
theorem own_AJ.other {g : Nat → Int64} (F : own_AJ Z h a ty z g) (W : Wr h h' b sx v) (q : a ≠ b) : own_AJ Z h' a ty z g := by obtain ⟨c, A, r⟩ := F; exact ⟨c, A.other W q, r⟩
theorem own_AJ.keep {g : Nat → Int64} (F : own_AJ Z h a ty z g) (Kp : Keep h h' ws) (q : a ∉ ws) : own_AJ Z h' a ty z g := by obtain ⟨c, A, r⟩ := F; exact ⟨c, ⟨Kp.2.1 a c A.1 q, A.2⟩, r⟩
theorem own_AJ.same {g g' : Nat → Int64} (F : own_AJ Z h a ty z g) (q : ∀ i, i < z.toNatClampNeg → g' i = g i) : own_AJ Z h a ty z g' := by obtain ⟨c, A, r1, r2, r3⟩ := F; exact ⟨c, A, r1, r2, fun i hi => by rw [q i (r1 ▸ hi)]; exact r3 i hi⟩
theorem own_AJ.set {g g' : Nat → Int64} (F : own_AJ Z h a ty z g) {j : Int32} {x : Int64} (W : Wr h h' a j.toNatClampNeg (.long x)) (q : ∀ i, i < z.toNatClampNeg → g' i = if i = j.toNatClampNeg then x else g i) : own_AJ Z h' a ty z g' := by
  obtain ⟨c, A, r1, r2, r3⟩ := F
  refine ⟨_, A.same W, (sz_set _ _ _).trans r1, r2, fun i hi => ?_⟩
  rw [sz_set] at hi
  rw [q i (r1 ▸ hi)]
  by_cases e : i = j.toNatClampNeg
  · subst e; rw [if_pos rfl]; simp [Cell.setSlot, hi]
  · rw [if_neg e]; exact (Array.getElem?_setIfInBounds_ne (Ne.symm e)).trans (r3 i hi)
def own_LJ (l : List Int64) (i : Nat) : Int64 := l.getD i 0
theorem own_LJ_set (l : List Int64) (k : Nat) (x : Int64) (hk : k < l.length) (i : Nat) : own_LJ (l.set k x) i = if i = k then x else own_LJ l i := by
  unfold own_LJ
  by_cases e : i = k
  · subst e; simp [List.getD, hk]
  · rw [if_neg e]; simp [List.getD, List.getElem?_set_ne (Ne.symm e)]
theorem own_newAJ (X : Stand p l e R s m args below meth c T locs cells slots) (hx : p.tables.exec = Jvm.exec) (hZ : Z.Warmed39 s.vm) {aty : ArrayType} {ty : FieldType} (hty : newarray.typeOf aty = ty) (w1 : (Jvm.Cond.arrayClass ty).before a0 Z = true) (eT : T.heap = h) {n : Int32} (hd : decode c.code pc = .ok (.newarray aty, 2)) (hp : pc + 2 = pc') (hn : ¬ n < 0) {cap : Nat} (hcap : n.toNatClampNeg ≤ cap) (hb : cap * 8 ≤ 536870912) (hc : cells + 1 ≤ R.cells) (hl : slots + cap ≤ R.slots) (hdv : defaultValue ty = .long 0)
    (k : ∀ (T' : State) (h' : Heap) (a : Addr), a = h.size → Stand p l e R s m args below meth c T' locs (cells + 1) (slots + cap) → T'.heap = h' → Ext h h' → own_AJ Z h' a ty n (fun _ => 0) → own_G p e below s Q ce sl (T'.setTop (mkF m pc' Ls (.ref a :: st)))) : own_G p e below s Q ce sl (T.setTop (mkF m pc Ls (.int n :: st))) := by
  subst hp hty
  obtain ⟨T', h', cA, X', e', E', A', st'⟩ := newP X hx hZ w1 eT (g := mkF m pc Ls (.int n :: st)) rfl hd rfl hn hcap hb hc hl
  refine own_fw st' (k T' h' h.size rfl X' e' E' ⟨_, A', sz_new _ _ _, hn, fun i hi => ?_⟩)
  rw [sz_new] at hi
  rw [← hdv]
  simp [newA, hi]
theorem own_lenJ (X : Stand p l e R s m args below meth c T locs cells slots) (hx : p.tables.exec = Jvm.exec) (hZ : Z.Warmed39 s.vm) (eT : T.heap = h) {ty : FieldType} {g : Nat → Int64} (A : own_AJ Z h a ty z g) (hd : decode c.code pc = .ok (.arraylength, 1)) (hp : pc + 1 = pc') (k : own_G p e below s Q ce sl (T.setTop (mkF m pc' Ls (.int z :: st)))) : own_G p e below s Q ce sl (T.setTop (mkF m pc Ls (.ref a :: st))) := by
  subst hp
  obtain ⟨cl, A1, r1, r2, r3⟩ := A
  rw [← len_of r1 r2] at k
  exact own_fw (fun t q => X.arraylength hx (by rw [eT]; exact A1.1) (State.isArrayOf_alike hZ.alike A1.2.1) (g := mkF m pc Ls (.ref a :: st)) rfl rfl hd _ q) k
theorem own_baload (X : Stand p l e R s m args below meth c T locs cells slots) (hx : p.tables.exec = Jvm.exec) (hZ : Z.Warmed39 s.vm) (eT : T.heap = h) {g : Nat → Int32} (A : own_AI Z h a .byte z g) {j : Int32} {x : Int32} (hj : ¬ j < 0 ∧ j < z) (hv : g j.toNatClampNeg = x) (hd : decode c.code pc = .ok (.baload, 1)) (hp : pc + 1 = pc') (k : own_G p e below s Q ce sl (T.setTop (mkF m pc' Ls (.int x :: st)))) : own_G p e below s Q ce sl (T.setTop (mkF m pc Ls (.int j :: .ref a :: st))) := by
  subst hp hv
  obtain ⟨cl, A1, r1, r2, r3⟩ := A
  have hin := inb_of r1 hj
  exact own_fw (fun t q => X.baloadBytes hx (j := j) (by rw [eT]; exact A1.1) (State.isArrayOf_alike hZ.alike A1.2.1) A1.2.2 hin (r3 _ (Nat.lt_of_not_le fun q => hin (Or.inr q))) (g := mkF m pc Ls (.int j :: .ref a :: st)) rfl rfl hd _ q) k
theorem own_iaload (X : Stand p l e R s m args below meth c T locs cells slots) (hx : p.tables.exec = Jvm.exec) (hZ : Z.Warmed39 s.vm) (eT : T.heap = h) {g : Nat → Int32} (A : own_AI Z h a .int z g) {j : Int32} {x : Int32} (hj : ¬ j < 0 ∧ j < z) (hv : g j.toNatClampNeg = x) (hd : decode c.code pc = .ok (.iaload, 1)) (hp : pc + 1 = pc') (k : own_G p e below s Q ce sl (T.setTop (mkF m pc' Ls (.int x :: st)))) : own_G p e below s Q ce sl (T.setTop (mkF m pc Ls (.int j :: .ref a :: st))) := by
  subst hp hv
  obtain ⟨cl, A1, r1, r2, r3⟩ := A
  have hin := inb_of r1 hj
  exact own_fw (fun t q => X.iaload hx (j := j) (by rw [eT]; exact A1.1) (State.isArrayOf_alike hZ.alike A1.2.1) A1.2.2 hin (r3 _ (Nat.lt_of_not_le fun q => hin (Or.inr q))) (g := mkF m pc Ls (.int j :: .ref a :: st)) rfl rfl hd _ q) k
theorem own_laload (X : Stand p l e R s m args below meth c T locs cells slots) (hx : p.tables.exec = Jvm.exec) (hZ : Z.Warmed39 s.vm) (eT : T.heap = h) {g : Nat → Int64} (A : own_AJ Z h a .long z g) {j : Int32} {x : Int64} (hj : ¬ j < 0 ∧ j < z) (hv : g j.toNatClampNeg = x) (hd : decode c.code pc = .ok (.laload, 1)) (hp : pc + 1 = pc') (k : own_G p e below s Q ce sl (T.setTop (mkF m pc' Ls (.long x :: st)))) : own_G p e below s Q ce sl (T.setTop (mkF m pc Ls (.int j :: .ref a :: st))) := by
  subst hp hv
  obtain ⟨cl, A1, r1, r2, r3⟩ := A
  have hin := inb_of r1 hj
  exact own_fw (fun t q => X.laload hx (j := j) (by rw [eT]; exact A1.1) (State.isArrayOf_alike hZ.alike A1.2.1) A1.2.2 hin (r3 _ (Nat.lt_of_not_le fun q => hin (Or.inr q))) (g := mkF m pc Ls (.int j :: .ref a :: st)) rfl rfl hd _ q) k
theorem own_bastore (X : Stand p l e R s m args below meth c T locs cells slots) (hx : p.tables.exec = Jvm.exec) (hZ : Z.Warmed39 s.vm) (eT : T.heap = h) {g g' : Nat → Int32} (A : own_AI Z h a .byte z g) {j : Int32} {x x' : Int32} (hj : ¬ j < 0 ∧ j < z) (hx' : (nar .byte x) = x') (hg : ∀ i, i < z.toNatClampNeg → g' i = if i = j.toNatClampNeg then x' else g i) (hd : decode c.code pc = .ok (.bastore, 1)) (hp : pc + 1 = pc') (k : ∀ (T' : State) (h' : Heap), Stand p l e R s m args below meth c T' (locs ++ [⟨a, j.toNatClampNeg⟩]) cells slots → T'.heap = h' → Wr h h' a j.toNatClampNeg (.int x') → own_AI Z h' a .byte z g' → own_G p e below s Q ce sl (T'.setTop (mkF m pc' Ls st))) : own_G p e below s Q ce sl (T.setTop (mkF m pc Ls (.int x :: .int j :: .ref a :: st))) := by
  subst hp hx'
  have A0 := A
  obtain ⟨cl, A1, r1, r2, r3⟩ := A
  obtain ⟨T', h', X', e', W', st'⟩ := stB X hx hZ eT A1 (inb_of r1 hj) (g := mkF m pc Ls (.int x :: .int j :: .ref a :: st)) rfl rfl hd
  exact own_fw st' (k T' h' X' e' W' (A0.set W' hg))
theorem own_iastore (X : Stand p l e R s m args below meth c T locs cells slots) (hx : p.tables.exec = Jvm.exec) (hZ : Z.Warmed39 s.vm) (eT : T.heap = h) {g g' : Nat → Int32} (A : own_AI Z h a .int z g) {j : Int32} {x x' : Int32} (hj : ¬ j < 0 ∧ j < z) (hx' : x = x') (hg : ∀ i, i < z.toNatClampNeg → g' i = if i = j.toNatClampNeg then x' else g i) (hd : decode c.code pc = .ok (.iastore, 1)) (hp : pc + 1 = pc') (k : ∀ (T' : State) (h' : Heap), Stand p l e R s m args below meth c T' (locs ++ [⟨a, j.toNatClampNeg⟩]) cells slots → T'.heap = h' → Wr h h' a j.toNatClampNeg (.int x') → own_AI Z h' a .int z g' → own_G p e below s Q ce sl (T'.setTop (mkF m pc' Ls st))) : own_G p e below s Q ce sl (T.setTop (mkF m pc Ls (.int x :: .int j :: .ref a :: st))) := by
  subst hp hx'
  have A0 := A
  obtain ⟨cl, A1, r1, r2, r3⟩ := A
  obtain ⟨T', h', X', e', W', st'⟩ := stI X hx hZ eT A1 (inb_of r1 hj) (g := mkF m pc Ls (.int x :: .int j :: .ref a :: st)) rfl rfl hd
  exact own_fw st' (k T' h' X' e' W' (A0.set W' hg))
theorem own_lastore (X : Stand p l e R s m args below meth c T locs cells slots) (hx : p.tables.exec = Jvm.exec) (hZ : Z.Warmed39 s.vm) (eT : T.heap = h) {g g' : Nat → Int64} (A : own_AJ Z h a .long z g) {j : Int32} {x x' : Int64} (hj : ¬ j < 0 ∧ j < z) (hx' : x = x') (hg : ∀ i, i < z.toNatClampNeg → g' i = if i = j.toNatClampNeg then x' else g i) (hd : decode c.code pc = .ok (.lastore, 1)) (hp : pc + 1 = pc') (k : ∀ (T' : State) (h' : Heap), Stand p l e R s m args below meth c T' (locs ++ [⟨a, j.toNatClampNeg⟩]) cells slots → T'.heap = h' → Wr h h' a j.toNatClampNeg (.long x') → own_AJ Z h' a .long z g' → own_G p e below s Q ce sl (T'.setTop (mkF m pc' Ls st))) : own_G p e below s Q ce sl (T.setTop (mkF m pc Ls (.long x :: .int j :: .ref a :: st))) := by
  subst hp hx'
  have A0 := A
  obtain ⟨cl, A1, r1, r2, r3⟩ := A
  obtain ⟨T', h', X', e', W', st'⟩ := stJ X hx hZ eT A1 (inb_of r1 hj) (g := mkF m pc Ls (.long x :: .int j :: .ref a :: st)) rfl rfl hd
  exact own_fw st' (k T' h' X' e' W' (A0.set W' hg))
theorem own_nar (y : Int32) : nar .byte y.toInt8.toInt32 = y.toInt8.toInt32 := by
  show y.toInt8.toInt32.toInt8.toInt32 = _
  rw [Int8.toInt8_toInt32]
end OwnArr
theorem od_jdk_30_method_1_0 : decode jdk_30_method_1_code 0 = .ok (.aload_n 0, 1) := by decide +kernel
theorem od_jdk_30_method_1_1 : decode jdk_30_method_1_code 1 = .ok (.invokespecial 1, 3) := by decide +kernel
theorem ow_13 {Z : State} {a0 : Array Value} (hw : ∀ d ∈ tables_1, d.before a0 Z = true) : (Jvm.Cond.methodLink "java/lang/Record" (1 : Nat) ({ cls := "java/lang/Object", name := "<init>", desc := "()V" } : Jvm.MethodName)).before a0 Z = true := hw _ (List.mem_of_getElem? (i := 13) rfl)
theorem ow_14 {Z : State} {a0 : Array Value} (hw : ∀ d ∈ tables_1, d.before a0 Z = true) : (Jvm.Cond.instanceMethod ({ cls := "java/lang/Object", name := "<init>", desc := "()V" } : Jvm.MethodName)).before a0 Z = true := hw _ (List.mem_of_getElem? (i := 14) rfl)
theorem ow_15 {Z : State} {a0 : Array Value} (hw : ∀ d ∈ tables_1, d.before a0 Z = true) : (Jvm.Cond.code ({ cls := "java/lang/Object", name := "<init>", desc := "()V" } : Jvm.MethodName) object_method_1_code (1 : Nat) (Option.none : Option Jvm.ClassFile.FieldType)).before a0 Z = true := hw _ (List.mem_of_getElem? (i := 15) rfl)
theorem od_jdk_30_method_1_4 : decode jdk_30_method_1_code 4 = .ok (.return_, 1) := by decide +kernel
theorem opn_java_lang_Record : plainName "java/lang/Record" = true := by first | (simp [plainName, overriddenIn]; done) | decide +kernel
theorem oef_rm_rec (m : MethodId) (ra : Addr) : entryFrame m #[(.ref ra)] 1 = mkF m 0 #[.val (.ref ra)] [] := by first | (simp [entryFrame, mkF, argsToLocals, Value.category]; done) | rfl
set_option maxRecDepth 65536 in
set_option maxHeartbeats 40000000 in
theorem rm_rec (l : Launch) (Z : State) (a0 : Array Value) (hw : ∀ d ∈ tables_1, d.before a0 Z = true) (ra : Addr) (h0 : Heap) (n0 : Nat) (Z0 : n0 ≤ h0.size)  :
    own_M l Z (⟨"java/lang/Record", "<init>", "()V"⟩ : MethodName) jdk_30_method_1_code 1 none [] ({ frames := 1, cells := 0, slots := 0, locals := 12 } : Room) #[(.ref ra)] h0 (fun v h L => v = none ∧ Fr n0 L ∧ (h = h0)) 0 0 := by
  refine own_body (plainFor_of_name opn_java_lang_Record) ?_
  intro p e s m below meth c s1 hx hby hml hown hnm hret hlk hZ X0 e0
  rw [oef_rm_rec m ra]
  have N0 := Fr.nil n0
  refine own_aloadN X0 hx (hb hby od_jdk_30_method_1_0) rfl rfl (pc' := 1) rfl ?_
  refine own_initO X0 hx hZ hown (ow_13 hw) (ow_14 hw) (ow_15 hw) e0 (by rw [hml]; rfl) (hb hby od_jdk_30_method_1_1) (by decide) (W := 0) (Nat.le_of_eq rfl) (by decide) (pc' := 4) rfl ?_
  intro T1 X1 e1
  exact own_retV X1 hx hret hlk (hb hby od_jdk_30_method_1_4) ⟨rfl, N0, e1⟩ (by decide) (by decide)
theorem od_prog_52_method_1_0 : decode prog_52_method_1_code 0 = .ok (.aload_n 0, 1) := by decide +kernel
theorem od_prog_52_method_1_1 : decode prog_52_method_1_code 1 = .ok (.invokespecial 1, 3) := by decide +kernel
theorem ow_8 {Z : State} {a0 : Array Value} (hw : ∀ d ∈ tables_1, d.before a0 Z = true) : (Jvm.Cond.methodLink "com/example/portcrier/portcrier/wire/rpc/OpaqueAuth" (1 : Nat) ({ cls := "java/lang/Record", name := "<init>", desc := "()V" } : Jvm.MethodName)).before a0 Z = true := hw _ (List.mem_of_getElem? (i := 8) rfl)
theorem opd___V : parseMethodDescriptor "()V" = some ⟨[], none⟩ := by decide +kernel
theorem ow_9 {Z : State} {a0 : Array Value} (hw : ∀ d ∈ tables_1, d.before a0 Z = true) : (Jvm.Cond.instanceMethod ({ cls := "java/lang/Record", name := "<init>", desc := "()V" } : Jvm.MethodName)).before a0 Z = true := hw _ (List.mem_of_getElem? (i := 9) rfl)
theorem ow_11 {Z : State} {a0 : Array Value} (hw : ∀ d ∈ tables_1, d.before a0 Z = true) : (Jvm.Cond.initialized "java/lang/Record").before a0 Z = true := hw _ (List.mem_of_getElem? (i := 11) rfl)
theorem ow_12 {Z : State} {a0 : Array Value} (hw : ∀ d ∈ tables_1, d.before a0 Z = true) : (Jvm.Cond.code ({ cls := "java/lang/Record", name := "<init>", desc := "()V" } : Jvm.MethodName) jdk_30_method_1_code (1 : Nat) (Option.none : Option Jvm.ClassFile.FieldType)).before a0 Z = true := hw _ (List.mem_of_getElem? (i := 12) rfl)
theorem od_prog_52_method_1_4 : decode prog_52_method_1_code 4 = .ok (.aload_n 0, 1) := by decide +kernel
theorem od_prog_52_method_1_5 : decode prog_52_method_1_code 5 = .ok (.iload_n 1, 1) := by decide +kernel
theorem od_prog_52_method_1_6 : decode prog_52_method_1_code 6 = .ok (.putfield 7, 3) := by decide +kernel
theorem ow_16 {Z : State} {a0 : Array Value} (hw : ∀ d ∈ tables_1, d.before a0 Z = true) : (Jvm.Cond.fieldLink "com/example/portcrier/portcrier/wire/rpc/OpaqueAuth" (7 : Nat) "com/example/portcrier/portcrier/wire/rpc/OpaqueAuth" "flavour" "I").before a0 Z = true := hw _ (List.mem_of_getElem? (i := 16) rfl)
theorem ow_17 {Z : State} {a0 : Array Value} (hw : ∀ d ∈ tables_1, d.before a0 Z = true) : (Jvm.Cond.laysFinal "com/example/portcrier/portcrier/wire/rpc/OpaqueAuth" "com/example/portcrier/portcrier/wire/rpc/OpaqueAuth" "flavour" "I").before a0 Z = true := hw _ (List.mem_of_getElem? (i := 17) rfl)
theorem ow_3 {Z : State} {a0 : Array Value} (hw : ∀ d ∈ tables_1, d.before a0 Z = true) : (Jvm.Cond.instantiable "com/example/portcrier/portcrier/wire/rpc/OpaqueAuth" (2 : Nat)).before a0 Z = true := hw _ (List.mem_of_getElem? (i := 3) rfl)
theorem od_prog_52_method_1_9 : decode prog_52_method_1_code 9 = .ok (.aload_n 0, 1) := by decide +kernel
theorem od_prog_52_method_1_10 : decode prog_52_method_1_code 10 = .ok (.aload_n 2, 1) := by decide +kernel
theorem od_prog_52_method_1_11 : decode prog_52_method_1_code 11 = .ok (.putfield 13, 3) := by decide +kernel
theorem ow_18 {Z : State} {a0 : Array Value} (hw : ∀ d ∈ tables_1, d.before a0 Z = true) : (Jvm.Cond.fieldLink "com/example/portcrier/portcrier/wire/rpc/OpaqueAuth" (13 : Nat) "com/example/portcrier/portcrier/wire/rpc/OpaqueAuth" "body" "[B").before a0 Z = true := hw _ (List.mem_of_getElem? (i := 18) rfl)
theorem ow_19 {Z : State} {a0 : Array Value} (hw : ∀ d ∈ tables_1, d.before a0 Z = true) : (Jvm.Cond.laysFinal "com/example/portcrier/portcrier/wire/rpc/OpaqueAuth" "com/example/portcrier/portcrier/wire/rpc/OpaqueAuth" "body" "[B").before a0 Z = true := hw _ (List.mem_of_getElem? (i := 19) rfl)
theorem osn_0 {Z : State} {a0 : Array Value} (hw : ∀ d ∈ tables_1, d.before a0 Z = true) : RoadKit.slotOf Z "com/example/portcrier/portcrier/wire/rpc/OpaqueAuth" "body" "[B" ≠ RoadKit.slotOf Z "com/example/portcrier/portcrier/wire/rpc/OpaqueAuth" "flavour" "I" := slot_ne (C := "com/example/portcrier/portcrier/wire/rpc/OpaqueAuth") (Or.inr (ow_19 hw)) (Or.inr (ow_17 hw)) (by decide) (t := (.array .byte)) (t' := .int) (by decide) (by decide)
theorem od_prog_52_method_1_14 : decode prog_52_method_1_code 14 = .ok (.return_, 1) := by decide +kernel
theorem osn_1 {Z : State} {a0 : Array Value} (hw : ∀ d ∈ tables_1, d.before a0 Z = true) : RoadKit.slotOf Z "com/example/portcrier/portcrier/wire/rpc/OpaqueAuth" "flavour" "I" ≠ RoadKit.slotOf Z "com/example/portcrier/portcrier/wire/rpc/OpaqueAuth" "body" "[B" := slot_ne (C := "com/example/portcrier/portcrier/wire/rpc/OpaqueAuth") (Or.inr (ow_17 hw)) (Or.inr (ow_19 hw)) (by decide) (t := .int) (t' := (.array .byte)) (by decide) (by decide)
theorem opn_com_example_portcrier_portcrier_wire_rpc_OpaqueAuth : plainName "com/example/portcrier/portcrier/wire/rpc/OpaqueAuth" = true := by first | (simp [plainName, overriddenIn]; done) | decide +kernel
theorem oef_rm_init (m : MethodId) (ra : Addr) (u0 : Int32) (rb : Addr) : entryFrame m #[(.ref ra), (.int u0), (.ref rb)] 3 = mkF m 0 #[.val (.ref ra), .val (.int u0), .val (.ref rb)] [] := by first | (simp [entryFrame, mkF, argsToLocals, Value.category]; done) | rfl
set_option maxRecDepth 65536 in
set_option maxHeartbeats 40000000 in
theorem rm_init (l : Launch) (Z : State) (a0 : Array Value) (hw : ∀ d ∈ tables_1, d.before a0 Z = true) (ra : Addr) (u0 : Int32) (rb : Addr) (w0 : Value) (w1 : Value) (h0 : Heap) (n0 : Nat) (Z0 : n0 ≤ h0.size) (P0 : Exa Z h0 ra "com/example/portcrier/portcrier/wire/rpc/OpaqueAuth") (P1 : Fld Z h0 ra "com/example/portcrier/portcrier/wire/rpc/OpaqueAuth" "flavour" "I" (w0)) (P2 : Fld Z h0 ra "com/example/portcrier/portcrier/wire/rpc/OpaqueAuth" "body" "[B" (w1)) (g_ra : n0 ≤ ra) :
    own_M l Z (⟨"com/example/portcrier/portcrier/wire/rpc/OpaqueAuth", "<init>", "(I[B)V"⟩ : MethodName) prog_52_method_1_code 3 none [] ({ frames := 2, cells := 0, slots := 0, locals := 24 } : Room) #[(.ref ra), (.int u0), (.ref rb)] h0 (fun v h L => v = none ∧ Fr n0 L ∧ (Keep h0 h [ra]) ∧ (Fld Z h ra "com/example/portcrier/portcrier/wire/rpc/OpaqueAuth" "flavour" "I" (.int u0)) ∧ (Fld Z h ra "com/example/portcrier/portcrier/wire/rpc/OpaqueAuth" "body" "[B" (.ref rb))) 0 0 := by
  refine own_body (plainFor_of_name opn_com_example_portcrier_portcrier_wire_rpc_OpaqueAuth) ?_
  intro p e s m below meth c s1 hx hby hml hown hnm hret hlk hZ X0 e0
  rw [oef_rm_init m ra u0 rb]
  have N0 := Fr.nil n0
  refine own_aloadN X0 hx (hb hby od_prog_52_method_1_0) rfl rfl (pc' := 1) rfl ?_
  refine own_callC X0 hx hZ rfl hown (ow_8 hw) (ow_9 hw) (ow_11 hw) (ow_12 hw) (by decide) (rm_rec l Z a0 hw ra h0 n0 Z0) e0 (W := 0) (by decide) (by decide) opd___V rfl (rest := []) rfl (hb hby od_prog_52_method_1_1) (Nat.le_of_eq rfl) (by rw [hml]; rfl) (by decide) (by decide) (pc' := 4) rfl ?_
  intro v1 T1 L1 X1 q1
  obtain ⟨rfl, Nq1, eh1⟩ := q1
  have N1 := Fr.app N0 Nq1
  show own_G p e below s _ _ _ (T1.setTop (mkF m 4 #[.val (.ref ra), .val (.int u0), .val (.ref rb)] []))
  refine own_aloadN X1 hx (hb hby od_prog_52_method_1_4) rfl rfl (pc' := 5) rfl ?_
  refine own_iloadN X1 hx (hb hby od_prog_52_method_1_5) rfl (pc' := 6) rfl ?_
  refine own_putF X1 hx hZ hown (ow_16 hw) eh1 P1 P0 (Or.inr ⟨(ow_17 hw), rfl, hnm⟩) (ow_3 hw) (ty := .int) (by decide) rfl rfl (hb hby od_prog_52_method_1_6) (pc' := 9) rfl ?_
  intro T2 h2 X2 e2 W2
  have N2 := Fr.snoc X2 N1 g_ra
  refine own_aloadN X2 hx (hb hby od_prog_52_method_1_9) rfl rfl (pc' := 10) rfl ?_
  refine own_aloadN X2 hx (hb hby od_prog_52_method_1_10) rfl rfl (pc' := 11) rfl ?_
  have f3 : Fld Z h2 ra "com/example/portcrier/portcrier/wire/rpc/OpaqueAuth" "body" "[B" (w1) := (P2.other W2 (Or.inr (osn_0 hw)))
  have f4 : Exa Z h2 ra "com/example/portcrier/portcrier/wire/rpc/OpaqueAuth" := (P0.wr W2)
  refine own_putF X2 hx hZ hown (ow_18 hw) e2 f3 f4 (Or.inr ⟨(ow_19 hw), rfl, hnm⟩) (ow_3 hw) (ty := (.array .byte)) (by decide) rfl rfl (hb hby od_prog_52_method_1_11) (pc' := 14) rfl ?_
  intro T5 h5 X5 e5 W5
  have N5 := Fr.snoc X5 N2 g_ra
  have k8 : Keep h0 h5 [ra] := (Keep.wr (Keep.wr (Keep.refl _ _) W2 (Or.inl (List.mem_of_getElem? (i := 0) rfl))) W5 (Or.inl (List.mem_of_getElem? (i := 0) rfl)))
  have f9 : Fld Z h5 ra "com/example/portcrier/portcrier/wire/rpc/OpaqueAuth" "flavour" "I" (.int u0) := ((P1.same W2).other W5 (Or.inr (osn_1 hw)))
  exact own_retV X5 hx hret hlk (hb hby od_prog_52_method_1_14) ⟨rfl, N5, (by rw [e5]; exact k8), (by rw [e5]; exact f9), (by rw [e5]; exact (f3.same W5))⟩ (by decide) (by decide)
theorem od_prog_68_method_2_0 : decode prog_68_method_2_code 0 = .ok (.iload_n 0, 1) := by decide +kernel
theorem od_prog_68_method_2_1 : decode prog_68_method_2_code 1 = .ok (.ineg, 1) := by decide +kernel
theorem od_prog_68_method_2_2 : decode prog_68_method_2_code 2 = .ok (.iconst 3, 1) := by decide +kernel
theorem od_prog_68_method_2_3 : decode prog_68_method_2_code 3 = .ok (.iand, 1) := by decide +kernel
theorem od_prog_68_method_2_4 : decode prog_68_method_2_code 4 = .ok (.ireturn, 1) := by decide +kernel
theorem opn_com_example_portcrier_portcrier_wire_xdr_Xdr : plainName "com/example/portcrier/portcrier/wire/xdr/Xdr" = true := by first | (simp [plainName, overriddenIn]; done) | decide +kernel
theorem oef_rm_pad (m : MethodId) (u0 : Int32) : entryFrame m #[(.int u0)] 1 = mkF m 0 #[.val (.int u0)] [] := by first | (simp [entryFrame, mkF, argsToLocals, Value.category]; done) | rfl
set_option maxRecDepth 65536 in
set_option maxHeartbeats 40000000 in
theorem rm_pad (l : Launch) (Z : State) (a0 : Array Value) (hw : ∀ d ∈ tables_1, d.before a0 Z = true) (u0 : Int32) (h0 : Heap) (n0 : Nat) (Z0 : n0 ≤ h0.size)  :
    own_M l Z (⟨"com/example/portcrier/portcrier/wire/xdr/Xdr", "padding", "(I)I"⟩ : MethodName) prog_68_method_2_code 1 (some .int) [] ({ frames := 0, cells := 0, slots := 0, locals := 0 } : Room) #[(.int u0)] h0 (fun v h L => v = some (.int ((-u0) &&& (3 : Int32))) ∧ Fr n0 L ∧ (h = h0)) 0 0 := by
  refine own_body (plainFor_of_name opn_com_example_portcrier_portcrier_wire_xdr_Xdr) ?_
  intro p e s m below meth c s1 hx hby hml hown hnm hret hlk hZ X0 e0
  rw [oef_rm_pad m u0]
  have N0 := Fr.nil n0
  refine own_iloadN X0 hx (hb hby od_prog_68_method_2_0) rfl (pc' := 1) rfl ?_
  refine own_ineg X0 hx (hb hby od_prog_68_method_2_1) (pc' := 2) rfl ?_
  refine own_iconst X0 hx (hb hby od_prog_68_method_2_2) (z := (3 : Int32)) rfl (pc' := 3) rfl ?_
  refine own_iand X0 hx (hb hby od_prog_68_method_2_3) (pc' := 4) rfl ?_
  exact own_retI X0 hx hret hlk (hb hby od_prog_68_method_2_4) ⟨rfl, N0, e0⟩ (by decide) (by decide)
theorem od_prog_70_method_7_0 : decode prog_70_method_7_code 0 = .ok (.ldc2_w 72, 3) := by decide +kernel
theorem ow_29 {Z : State} {a0 : Array Value} (hw : ∀ d ∈ tables_1, d.before a0 Z = true) : (Jvm.Cond.constantLong "com/example/portcrier/portcrier/wire/xdr/XdrEncoder" (72 : Nat) (4 : Int64)).before a0 Z = true := hw _ (List.mem_of_getElem? (i := 29) rfl)
theorem od_prog_70_method_7_3 : decode prog_70_method_7_code 3 = .ok (.iload_n 0, 1) := by decide +kernel
theorem od_prog_70_method_7_4 : decode prog_70_method_7_code 4 = .ok (.i2l, 1) := by decide +kernel
theorem od_prog_70_method_7_5 : decode prog_70_method_7_code 5 = .ok (.ladd, 1) := by decide +kernel
theorem od_prog_70_method_7_6 : decode prog_70_method_7_code 6 = .ok (.iload_n 0, 1) := by decide +kernel
theorem od_prog_70_method_7_7 : decode prog_70_method_7_code 7 = .ok (.invokestatic 63, 3) := by decide +kernel
theorem ow_30 {Z : State} {a0 : Array Value} (hw : ∀ d ∈ tables_1, d.before a0 Z = true) : (Jvm.Cond.methodLink "com/example/portcrier/portcrier/wire/xdr/XdrEncoder" (63 : Nat) ({ cls := "com/example/portcrier/portcrier/wire/xdr/Xdr", name := "padding", desc := "(I)I" } : Jvm.MethodName)).before a0 Z = true := hw _ (List.mem_of_getElem? (i := 30) rfl)
theorem opd__I_I : parseMethodDescriptor "(I)I" = some ⟨[.int], some .int⟩ := by decide +kernel
theorem ow_31 {Z : State} {a0 : Array Value} (hw : ∀ d ∈ tables_1, d.before a0 Z = true) : (Jvm.Cond.static ({ cls := "com/example/portcrier/portcrier/wire/xdr/Xdr", name := "padding", desc := "(I)I" } : Jvm.MethodName)).before a0 Z = true := hw _ (List.mem_of_getElem? (i := 31) rfl)
theorem ow_32 {Z : State} {a0 : Array Value} (hw : ∀ d ∈ tables_1, d.before a0 Z = true) : (Jvm.Cond.initialized "com/example/portcrier/portcrier/wire/xdr/Xdr").before a0 Z = true := hw _ (List.mem_of_getElem? (i := 32) rfl)
theorem ow_33 {Z : State} {a0 : Array Value} (hw : ∀ d ∈ tables_1, d.before a0 Z = true) : (Jvm.Cond.code ({ cls := "com/example/portcrier/portcrier/wire/xdr/Xdr", name := "padding", desc := "(I)I" } : Jvm.MethodName) prog_68_method_2_code (1 : Nat) (Option.some Jvm.ClassFile.FieldType.int)).before a0 Z = true := hw _ (List.mem_of_getElem? (i := 33) rfl)
theorem od_prog_70_method_7_10 : decode prog_70_method_7_code 10 = .ok (.i2l, 1) := by decide +kernel
theorem od_prog_70_method_7_11 : decode prog_70_method_7_code 11 = .ok (.ladd, 1) := by decide +kernel
theorem od_prog_70_method_7_12 : decode prog_70_method_7_code 12 = .ok (.lreturn, 1) := by decide +kernel
theorem opn_com_example_portcrier_portcrier_wire_xdr_XdrEncoder : plainName "com/example/portcrier/portcrier/wire/xdr/XdrEncoder" = true := by first | (simp [plainName, overriddenIn]; done) | decide +kernel
theorem oef_rm_opl (m : MethodId) (u0 : Int32) : entryFrame m #[(.int u0)] 1 = mkF m 0 #[.val (.int u0)] [] := by first | (simp [entryFrame, mkF, argsToLocals, Value.category]; done) | rfl
set_option maxRecDepth 65536 in
set_option maxHeartbeats 40000000 in
theorem rm_opl (l : Launch) (Z : State) (a0 : Array Value) (hw : ∀ d ∈ tables_1, d.before a0 Z = true) (u0 : Int32) (h0 : Heap) (n0 : Nat) (Z0 : n0 ≤ h0.size)  :
    own_M l Z (⟨"com/example/portcrier/portcrier/wire/xdr/XdrEncoder", "opaqueLength", "(I)J"⟩ : MethodName) prog_70_method_7_code 1 (some .long) [] ({ frames := 1, cells := 0, slots := 0, locals := 14 } : Room) #[(.int u0)] h0 (fun v h L => v = some (.long (((4 : Int64) + u0.toInt64) + (((-u0) &&& (3 : Int32)).toInt64))) ∧ Fr n0 L ∧ (h = h0)) 0 0 := by
  refine own_body (plainFor_of_name opn_com_example_portcrier_portcrier_wire_xdr_XdrEncoder) ?_
  intro p e s m below meth c s1 hx hby hml hown hnm hret hlk hZ X0 e0
  rw [oef_rm_opl m u0]
  have N0 := Fr.nil n0
  refine own_ldc2 X0 hx hZ hown (ow_29 hw) (hb hby od_prog_70_method_7_0) (pc' := 3) rfl ?_
  refine own_iloadN X0 hx (hb hby od_prog_70_method_7_3) rfl (pc' := 4) rfl ?_
  refine own_i2l X0 hx (hb hby od_prog_70_method_7_4) (pc' := 5) rfl ?_
  refine own_ladd X0 hx (hb hby od_prog_70_method_7_5) (pc' := 6) rfl ?_
  refine own_iloadN X0 hx (hb hby od_prog_70_method_7_6) rfl (pc' := 7) rfl ?_
  refine own_callS X0 hx hZ hown (ow_30 hw) (ow_31 hw) (ow_32 hw) (ow_33 hw) (by decide) (rm_pad l Z a0 hw u0 h0 n0 Z0) e0 (W := 2) (by decide) (by decide) opd__I_I rfl (rest := [(.long ((4 : Int64) + u0.toInt64))]) rfl (hb hby od_prog_70_method_7_7) (Nat.le_of_eq rfl) (by rw [hml]; rfl) (by decide) (by decide) (pc' := 10) rfl ?_
  intro v1 T1 L1 X1 q1
  obtain ⟨rfl, Nq1, eh1⟩ := q1
  have N1 := Fr.app N0 Nq1
  show own_G p e below s _ _ _ (T1.setTop (mkF m 10 #[.val (.int u0)] [(.int ((-u0) &&& (3 : Int32))), (.long ((4 : Int64) + u0.toInt64))]))
  refine own_i2l X1 hx (hb hby od_prog_70_method_7_10) (pc' := 11) rfl ?_
  refine own_ladd X1 hx (hb hby od_prog_70_method_7_11) (pc' := 12) rfl ?_
  exact own_retL X1 hx hret hlk (hb hby od_prog_70_method_7_12) ⟨rfl, N1, eh1⟩ (by decide) (by decide)
theorem od_prog_52_method_4_0 : decode prog_52_method_4_code 0 = .ok (.iconst 4, 1) := by decide +kernel
theorem od_prog_52_method_4_1 : decode prog_52_method_4_code 1 = .ok (.aload_n 0, 1) := by decide +kernel
theorem od_prog_52_method_4_2 : decode prog_52_method_4_code 2 = .ok (.getfield 13, 3) := by decide +kernel
theorem od_prog_52_method_4_5 : decode prog_52_method_4_code 5 = .ok (.arraylength, 1) := by decide +kernel
theorem od_prog_52_method_4_6 : decode prog_52_method_4_code 6 = .ok (.invokestatic 42, 3) := by decide +kernel
theorem ow_25 {Z : State} {a0 : Array Value} (hw : ∀ d ∈ tables_1, d.before a0 Z = true) : (Jvm.Cond.methodLink "com/example/portcrier/portcrier/wire/rpc/OpaqueAuth" (42 : Nat) ({ cls := "com/example/portcrier/portcrier/wire/xdr/XdrEncoder", name := "opaqueLength", desc := "(I)J" } : Jvm.MethodName)).before a0 Z = true := hw _ (List.mem_of_getElem? (i := 25) rfl)
theorem opd__I_J : parseMethodDescriptor "(I)J" = some ⟨[.int], some .long⟩ := by decide +kernel
theorem ow_26 {Z : State} {a0 : Array Value} (hw : ∀ d ∈ tables_1, d.before a0 Z = true) : (Jvm.Cond.static ({ cls := "com/example/portcrier/portcrier/wire/xdr/XdrEncoder", name := "opaqueLength", desc := "(I)J" } : Jvm.MethodName)).before a0 Z = true := hw _ (List.mem_of_getElem? (i := 26) rfl)
theorem ow_27 {Z : State} {a0 : Array Value} (hw : ∀ d ∈ tables_1, d.before a0 Z = true) : (Jvm.Cond.initialized "com/example/portcrier/portcrier/wire/xdr/XdrEncoder").before a0 Z = true := hw _ (List.mem_of_getElem? (i := 27) rfl)
theorem ow_28 {Z : State} {a0 : Array Value} (hw : ∀ d ∈ tables_1, d.before a0 Z = true) : (Jvm.Cond.code ({ cls := "com/example/portcrier/portcrier/wire/xdr/XdrEncoder", name := "opaqueLength", desc := "(I)J" } : Jvm.MethodName) prog_70_method_7_code (1 : Nat) (Option.some Jvm.ClassFile.FieldType.long)).before a0 Z = true := hw _ (List.mem_of_getElem? (i := 28) rfl)
theorem od_prog_52_method_4_9 : decode prog_52_method_4_code 9 = .ok (.l2i, 1) := by decide +kernel
theorem od_prog_52_method_4_10 : decode prog_52_method_4_code 10 = .ok (.iadd, 1) := by decide +kernel
theorem od_prog_52_method_4_11 : decode prog_52_method_4_code 11 = .ok (.ireturn, 1) := by decide +kernel
theorem oef_rm_len (m : MethodId) (ra : Addr) : entryFrame m #[(.ref ra)] 1 = mkF m 0 #[.val (.ref ra)] [] := by first | (simp [entryFrame, mkF, argsToLocals, Value.category]; done) | rfl
set_option maxRecDepth 65536 in
set_option maxHeartbeats 40000000 in
theorem rm_len (l : Launch) (Z : State) (a0 : Array Value) (hw : ∀ d ∈ tables_1, d.before a0 Z = true) (ra : Addr) (rb : Addr) (zz : Int32) (gg : Nat → Int32) (h0 : Heap) (n0 : Nat) (Z0 : n0 ≤ h0.size) (P0 : Fld Z h0 ra "com/example/portcrier/portcrier/wire/rpc/OpaqueAuth" "body" "[B" (.ref rb)) (P1 : own_AI Z h0 rb .byte zz gg) :
    own_M l Z (⟨"com/example/portcrier/portcrier/wire/rpc/OpaqueAuth", "length", "()I"⟩ : MethodName) prog_52_method_4_code 1 (some .int) [] ({ frames := 2, cells := 0, slots := 0, locals := 27 } : Room) #[(.ref ra)] h0 (fun v h L => v = some (.int ((4 : Int32) + ((((4 : Int64) + zz.toInt64) + (((-zz) &&& (3 : Int32)).toInt64)).toInt32))) ∧ Fr n0 L ∧ (h = h0)) 0 0 := by
  refine own_body (plainFor_of_name opn_com_example_portcrier_portcrier_wire_rpc_OpaqueAuth) ?_
  intro p e s m below meth c s1 hx hby hml hown hnm hret hlk hZ X0 e0
  rw [oef_rm_len m ra]
  have N0 := Fr.nil n0
  refine own_iconst X0 hx (hb hby od_prog_52_method_4_0) (z := (4 : Int32)) rfl (pc' := 1) rfl ?_
  refine own_aloadN X0 hx (hb hby od_prog_52_method_4_1) rfl rfl (pc' := 2) rfl ?_
  refine own_getF X0 hx hZ hown (ow_18 hw) e0 P0 (hb hby od_prog_52_method_4_2) (pc' := 5) rfl ?_
  intro T1 X1 e1
  refine own_lenI X1 hx hZ e1 P1 (hb hby od_prog_52_method_4_5) (pc' := 6) rfl ?_
  refine own_callS X1 hx hZ hown (ow_25 hw) (ow_26 hw) (ow_27 hw) (ow_28 hw) (by decide) (rm_opl l Z a0 hw zz h0 n0 Z0) e1 (W := 1) (by decide) (by decide) opd__I_J rfl (rest := [(.int (4 : Int32))]) rfl (hb hby od_prog_52_method_4_6) (Nat.le_of_eq rfl) (by rw [hml]; rfl) (by decide) (by decide) (pc' := 9) rfl ?_
  intro v2 T2 L2 X2 q2
  obtain ⟨rfl, Nq2, eh2⟩ := q2
  have N2 := Fr.app N0 Nq2
  show own_G p e below s _ _ _ (T2.setTop (mkF m 9 #[.val (.ref ra)] [(.long (((4 : Int64) + zz.toInt64) + (((-zz) &&& (3 : Int32)).toInt64))), (.int (4 : Int32))]))
  refine own_l2i X2 hx (hb hby od_prog_52_method_4_9) (pc' := 10) rfl ?_
  refine own_iadd X2 hx (hb hby od_prog_52_method_4_10) (pc' := 11) rfl ?_
  exact own_retI X2 hx hret hlk (hb hby od_prog_52_method_4_11) ⟨rfl, N2, eh2⟩ (by decide) (by decide)
theorem own_n (a : Int32) : 0 ≤ ((a &&& (2147483647 : Int32)) % (401 : Int32)).toInt ∧ ((a &&& (2147483647 : Int32)) % (401 : Int32)).toInt ≤ 400 := by
  have h := c_mask a 2147483647 31 (by decide) (by decide)
  have h1 := (c_irem (a &&& (2147483647 : Int32)) 401 401 rfl).1 (by omega)
  omega
theorem own_nn {n : Int32} (h : 0 ≤ n.toInt) : ¬ n < 0 := by
  simp only [Int32.lt_iff_toInt_lt, Int32.reduceToInt]; omega
theorem own_cap {n : Int32} (h : n.toInt ≤ 400) : n.toNatClampNeg ≤ 400 := by
  show n.toInt.toNat ≤ 400
  omega
theorem own_i1 {n : Int32} (h : (0 : Int32) < n) : ¬ (0 : Int32) < 0 ∧ (0 : Int32) < n := ⟨by decide, h⟩
theorem own_i2 {n : Int32} (h : (0 : Int32) < n) : ¬ (n - (1 : Int32)) < 0 ∧ (n - (1 : Int32)) < n := by
  have h1 := c_isub n 1
  have h2 := rng32 (n - 1)
  have h3 := rng32 n
  simp only [Int32.lt_iff_toInt_lt, Int32.reduceToInt] at h h1 ⊢
  omega
theorem own_key (n : Int32) (h : 0 ≤ n.toInt) (h' : n.toInt ≤ 400) : ((4 : Int32) + ((((4 : Int64) + n.toInt64) + ((-n) &&& (3 : Int32)).toInt64).toInt32)) = ((8 : Int32) + (if (n % (4 : Int32)) = (0 : Int32) then n else ((n + (4 : Int32)) - (n % (4 : Int32))))) := by
  have h1 := c_mask (-n) 3 2 (by decide) (by decide)
  have h2 := c_ineg n
  have h4 := (c_irem n 4 4 rfl).1 h
  have rn := rng32 (-n)
  have k1 := c_i2l n
  have k2 := c_i2l ((-n) &&& 3)
  have k4 := c_ladd 4 n.toInt64
  have k5 := c_ladd ((4 : Int64) + n.toInt64) ((-n) &&& (3 : Int32)).toInt64
  have r4 := rng64 ((4 : Int64) + n.toInt64)
  have r5 := rng64 (((4 : Int64) + n.toInt64) + ((-n) &&& (3 : Int32)).toInt64)
  have k6 := c_l2i (((4 : Int64) + n.toInt64) + ((-n) &&& (3 : Int32)).toInt64)
  have k7 := c_iadd 4 ((((4 : Int64) + n.toInt64) + ((-n) &&& (3 : Int32)).toInt64).toInt32)
  have r7 := rng32 ((4 : Int32) + ((((4 : Int64) + n.toInt64) + ((-n) &&& (3 : Int32)).toInt64).toInt32))
  simp only [Int64.reduceToInt, Int32.reduceToInt] at k4 k7
  by_cases hq : n % (4 : Int32) = (0 : Int32)
  · rw [if_pos hq]
    simp only [← Int32.toInt_inj, Int32.reduceToInt] at hq
    have k8 := c_iadd 8 n
    have r8 := rng32 (8 + n)
    simp only [Int32.reduceToInt] at k8
    rw [← Int32.toInt_inj]
    omega
  · rw [if_neg hq]
    simp only [← Int32.toInt_inj, Int32.reduceToInt] at hq
    have k8 := c_iadd n 4
    have r8 := rng32 (n + 4)
    have k9 := c_isub (n + 4) (n % 4)
    have r9 := rng32 ((n + 4) - (n % 4))
    have k10 := c_iadd 8 ((n + 4) - (n % 4))
    have r10 := rng32 (8 + ((n + 4) - (n % 4)))
    simp only [Int32.reduceToInt] at k8 k10
    rw [← Int32.toInt_inj]
    omega
theorem ow_0 {Z : State} {a0 : Array Value} (hw : ∀ d ∈ tables_1, d.before a0 Z = true) : (Jvm.Cond.constant "com/example/portcrier/portcrier/wire/rpc/OpaqueAuthLengthPinLaw" (7 : Nat) (2147483647 : Int32)).before a0 Z = true := hw _ (List.mem_of_getElem? (i := 0) rfl)
theorem ow_1 {Z : State} {a0 : Array Value} (hw : ∀ d ∈ tables_1, d.before a0 Z = true) : (Jvm.Cond.arrayClass Jvm.ClassFile.FieldType.byte).before a0 Z = true := hw _ (List.mem_of_getElem? (i := 1) rfl)
theorem ow_2 {Z : State} {a0 : Array Value} (hw : ∀ d ∈ tables_1, d.before a0 Z = true) : (Jvm.Cond.classLink "com/example/portcrier/portcrier/wire/rpc/OpaqueAuthLengthPinLaw" (8 : Nat) "com/example/portcrier/portcrier/wire/rpc/OpaqueAuth").before a0 Z = true := hw _ (List.mem_of_getElem? (i := 2) rfl)
theorem ow_4 {Z : State} {a0 : Array Value} (hw : ∀ d ∈ tables_1, d.before a0 Z = true) : (Jvm.Cond.initialized "com/example/portcrier/portcrier/wire/rpc/OpaqueAuth").before a0 Z = true := hw _ (List.mem_of_getElem? (i := 4) rfl)
theorem ow_5 {Z : State} {a0 : Array Value} (hw : ∀ d ∈ tables_1, d.before a0 Z = true) : (Jvm.Cond.methodLink "com/example/portcrier/portcrier/wire/rpc/OpaqueAuthLengthPinLaw" (10 : Nat) ({ cls := "com/example/portcrier/portcrier/wire/rpc/OpaqueAuth", name := "<init>", desc := "(I[B)V" } : Jvm.MethodName)).before a0 Z = true := hw _ (List.mem_of_getElem? (i := 5) rfl)
theorem opd__I_B_V : parseMethodDescriptor "(I[B)V" = some ⟨[.int, (.array .byte)], none⟩ := by decide +kernel
theorem ow_6 {Z : State} {a0 : Array Value} (hw : ∀ d ∈ tables_1, d.before a0 Z = true) : (Jvm.Cond.instanceMethod ({ cls := "com/example/portcrier/portcrier/wire/rpc/OpaqueAuth", name := "<init>", desc := "(I[B)V" } : Jvm.MethodName)).before a0 Z = true := hw _ (List.mem_of_getElem? (i := 6) rfl)
theorem ow_7 {Z : State} {a0 : Array Value} (hw : ∀ d ∈ tables_1, d.before a0 Z = true) : (Jvm.Cond.code ({ cls := "com/example/portcrier/portcrier/wire/rpc/OpaqueAuth", name := "<init>", desc := "(I[B)V" } : Jvm.MethodName) prog_52_method_1_code (3 : Nat) (Option.none : Option Jvm.ClassFile.FieldType)).before a0 Z = true := hw _ (List.mem_of_getElem? (i := 7) rfl)
theorem ow_20 {Z : State} {a0 : Array Value} (hw : ∀ d ∈ tables_1, d.before a0 Z = true) : (Jvm.Cond.methodLink "com/example/portcrier/portcrier/wire/rpc/OpaqueAuthLengthPinLaw" (13 : Nat) ({ cls := "com/example/portcrier/portcrier/wire/rpc/OpaqueAuth", name := "length", desc := "()I" } : Jvm.MethodName)).before a0 Z = true := hw _ (List.mem_of_getElem? (i := 20) rfl)
theorem ow_23 {Z : State} {a0 : Array Value} (hw : ∀ d ∈ tables_1, d.before a0 Z = true) : (Jvm.Cond.selects "com/example/portcrier/portcrier/wire/rpc/OpaqueAuth" ({ cls := "com/example/portcrier/portcrier/wire/rpc/OpaqueAuth", name := "length", desc := "()I" } : Jvm.MethodName) ({ cls := "com/example/portcrier/portcrier/wire/rpc/OpaqueAuth", name := "length", desc := "()I" } : Jvm.MethodName)).before a0 Z = true := hw _ (List.mem_of_getElem? (i := 23) rfl)
theorem opd___I : parseMethodDescriptor "()I" = some ⟨[], some .int⟩ := by decide +kernel
theorem ow_21 {Z : State} {a0 : Array Value} (hw : ∀ d ∈ tables_1, d.before a0 Z = true) : (Jvm.Cond.declares ({ cls := "com/example/portcrier/portcrier/wire/rpc/OpaqueAuth", name := "length", desc := "()I" } : Jvm.MethodName)).before a0 Z = true := hw _ (List.mem_of_getElem? (i := 21) rfl)
theorem ow_22 {Z : State} {a0 : Array Value} (hw : ∀ d ∈ tables_1, d.before a0 Z = true) : (Jvm.Cond.instanceMethod ({ cls := "com/example/portcrier/portcrier/wire/rpc/OpaqueAuth", name := "length", desc := "()I" } : Jvm.MethodName)).before a0 Z = true := hw _ (List.mem_of_getElem? (i := 22) rfl)
theorem ow_24 {Z : State} {a0 : Array Value} (hw : ∀ d ∈ tables_1, d.before a0 Z = true) : (Jvm.Cond.code ({ cls := "com/example/portcrier/portcrier/wire/rpc/OpaqueAuth", name := "length", desc := "()I" } : Jvm.MethodName) prog_52_method_4_code (1 : Nat) (Option.some Jvm.ClassFile.FieldType.int)).before a0 Z = true := hw _ (List.mem_of_getElem? (i := 24) rfl)
theorem opn_com_example_portcrier_portcrier_wire_rpc_OpaqueAuthLengthPinLaw : plainName "com/example/portcrier/portcrier/wire/rpc/OpaqueAuthLengthPinLaw" = true := by first | (simp [plainName, overriddenIn]; done) | decide +kernel
theorem oef_law (m : MethodId) (u0 : Int32) (u1 : Int32) (u2 : Int32) : entryFrame m #[(.int u0), (.int u1), (.int u2)] maxLocals = mkF m 0 #[.val (.int u0), .val (.int u1), .val (.int u2), .unset, .unset, .unset, .unset, .unset, .unset] [] := by first | (simp [entryFrame, mkF, argsToLocals, Value.category, maxLocals]; done) | rfl
set_option maxRecDepth 65536 in
set_option maxHeartbeats 40000000 in
theorem own_law (l : Launch) (Z : State) (a0 : Array Value) (hw : ∀ d ∈ tables_1, d.before a0 Z = true) (u0 : Int32) (u1 : Int32) (u2 : Int32) (h0 : Heap) (n0 : Nat) (Z0 : n0 ≤ h0.size) :
    own_M l Z x code maxLocals ret tables_1 room_1 #[(.int u0), (.int u1), (.int u2)] h0 (fun v h L => v = some (.int 1) ∧ Fr n0 L) 2 402 := by
  refine own_body (plainFor_of_name opn_com_example_portcrier_portcrier_wire_rpc_OpaqueAuthLengthPinLaw) ?_
  intro p e s m below meth c s1 hx hby hml' hown hnm hret hlk hZ X0 e0
  have hml : c.maxLocals = 9 := hml'
  rw [oef_law m u0 u1 u2]
  have N0 := Fr.nil n0
  refine own_iloadN X0 hx (hb hby at_0) rfl (pc' := 1) rfl ?_
  refine own_ldc X0 hx hZ hown (ow_0 hw) (hb hby at_1) (pc' := 3) rfl ?_
  refine own_iand X0 hx (hb hby at_3) (pc' := 4) rfl ?_
  refine own_sipush X0 hx (hb hby at_4) (z := (401 : Int32)) (by decide) (pc' := 7) rfl ?_
  refine own_irem X0 hx (hb hby at_7) (by decide) (pc' := 8) rfl ?_
  refine own_istoreN X0 hx (hb hby at_8) (l' := #[.val (.int u0), .val (.int u1), .val (.int u2), .val (.int ((u1 &&& (2147483647 : Int32)) % (401 : Int32))), .unset, .unset, .unset, .unset, .unset]) rfl (pc' := 9) rfl ?_
  refine own_iloadN X0 hx (hb hby at_9) rfl (pc' := 10) rfl ?_
  refine own_newAI X0 hx hZ (ty := .byte) rfl (ow_1 hw) e0 (hb hby at_10) (pc' := 12) rfl (own_nn (own_n u1).1) (cap := 400) (own_cap (own_n u1).2) (by decide) (by decide) (by decide) rfl ?_
  intro T1 h1 a1 g1 X1 e1 E1 A1
  have ge_a1 : n0 ≤ a1 := by rw [g1]; exact Z0
  refine own_astore X1 hx (hb hby at_12) rfl (l' := #[.val (.int u0), .val (.int u1), .val (.int u2), .val (.int ((u1 &&& (2147483647 : Int32)) % (401 : Int32))), .val (.ref a1), .unset, .unset, .unset, .unset]) rfl (pc' := 14) rfl ?_
  refine own_iloadN X1 hx (hb hby at_14) rfl (pc' := 15) rfl ?_
  by_cases c2 : (0 : Int32) < ((u1 &&& (2147483647 : Int32)) % (401 : Int32))
  · refine own_ifF X1 hx (hb hby at_15) (tlt c2).2.2.2 (pc' := 18) rfl ?_
    refine own_aload X1 hx (hb hby at_18) rfl rfl (pc' := 20) rfl ?_
    refine own_iconst X1 hx (hb hby at_20) (z := (0 : Int32)) rfl (pc' := 21) rfl ?_
    refine own_iloadN X1 hx (hb hby at_21) rfl (pc' := 22) rfl ?_
    refine own_i2b X1 hx (hb hby at_22) (pc' := 23) rfl ?_
    refine own_bastore X1 hx hZ e1 (g' := (fun i => if i = (0 : Int32).toNatClampNeg then u2.toInt8.toInt32 else (fun _ => 0) i)) A1 (x' := u2.toInt8.toInt32) (own_i1 c2) (own_nar _) (fun i _ => rfl) (hb hby at_23) (pc' := 24) rfl ?_
    intro T3 h3 X3 e3 W3 A3
    have N3 := Fr.snoc X3 N0 ge_a1
    refine own_aload X3 hx (hb hby at_24) rfl rfl (pc' := 26) rfl ?_
    refine own_iloadN X3 hx (hb hby at_26) rfl (pc' := 27) rfl ?_
    refine own_iconst X3 hx (hb hby at_27) (z := (1 : Int32)) rfl (pc' := 28) rfl ?_
    refine own_isub X3 hx (hb hby at_28) (pc' := 29) rfl ?_
    refine own_iloadN X3 hx (hb hby at_29) rfl (pc' := 30) rfl ?_
    refine own_bipush X3 hx (hb hby at_30) (z := (8 : Int32)) (by decide) (pc' := 32) rfl ?_
    refine own_ishr X3 hx (hb hby at_32) (pc' := 33) rfl ?_
    refine own_i2b X3 hx (hb hby at_33) (pc' := 34) rfl ?_
    refine own_bastore X3 hx hZ e3 (g' := (fun i => if i = (((u1 &&& (2147483647 : Int32)) % (401 : Int32)) - (1 : Int32)).toNatClampNeg then (u2 >>> ((8 : Int32) &&& 31)).toInt8.toInt32 else (fun i => if i = (0 : Int32).toNatClampNeg then u2.toInt8.toInt32 else (fun _ => 0) i) i)) A3 (x' := (u2 >>> ((8 : Int32) &&& 31)).toInt8.toInt32) (own_i2 c2) (own_nar _) (fun i _ => rfl) (hb hby at_34) (pc' := 35) rfl ?_
    intro T4 h4 X4 e4 W4 A4
    have N4 := Fr.snoc X4 N3 ge_a1
    have z6 : n0 ≤ h4.size := (Nat.le_trans (Nat.le_trans (Nat.le_trans Z0 E1.1) (Nat.le_of_eq (Wr.size W3).symm)) (Nat.le_of_eq (Wr.size W4).symm))
    refine own_new X4 hx hZ hown (ow_2 hw) (ow_3 hw) (ow_4 hw) e4 (hb hby at_35) (pc' := 38) rfl (by decide) (by decide) ?_
    intro T5 h5 a5 g5 X5 e5 E5 A5 D5
    have lt_a1_a5 : a1 < a5 := by rw [g5]; exact A4.lt
    have ge_a5 : n0 ≤ a5 := by rw [g5]; exact z6
    have F5_flavour : Fld Z h5 a5 "com/example/portcrier/portcrier/wire/rpc/OpaqueAuth" "flavour" "I" (.int (0 : Int32)) := D5 (Or.inr (ow_17 hw)) (ty := .int) (by decide)
    have F5_body : Fld Z h5 a5 "com/example/portcrier/portcrier/wire/rpc/OpaqueAuth" "body" "[B" (.null) := D5 (Or.inr (ow_19 hw)) (ty := (.array .byte)) (by decide)
    refine own_dup X5 hx (hb hby at_38) rfl (pc' := 39) rfl ?_
    refine own_iloadN X5 hx (hb hby at_39) rfl (pc' := 40) rfl ?_
    refine own_aload X5 hx (hb hby at_40) rfl rfl (pc' := 42) rfl ?_
    have z8 : n0 ≤ h5.size := (Nat.le_trans z6 E5.1)
    refine own_callC X5 hx hZ rfl hown (ow_5 hw) (ow_6 hw) (ow_4 hw) (ow_7 hw) (by decide) (rm_init l Z a0 hw a5 u0 a1 (.int (0 : Int32)) .null h5 n0 z8 A5 F5_flavour F5_body ge_a5) e5 (W := 1) (by decide) (by decide) opd__I_B_V rfl (rest := [(.ref a5)]) rfl (hb hby at_42) (Nat.le_of_eq rfl) (by rw [hml]; rfl) (by decide) (by decide) (pc' := 45) rfl ?_
    intro v7 T7 L7 X7 q7
    obtain ⟨rfl, Nq7, K7, p7_0, p7_1⟩ := q7
    have N7 := Fr.app N4 Nq7
    show own_G p e below s _ _ _ (T7.setTop (mkF m 45 #[.val (.int u0), .val (.int u1), .val (.int u2), .val (.int ((u1 &&& (2147483647 : Int32)) % (401 : Int32))), .val (.ref a1), .unset, .unset, .unset, .unset] [(.ref a5)]))
    refine own_astore X7 hx (hb hby at_45) rfl (l' := #[.val (.int u0), .val (.int u1), .val (.int u2), .val (.int ((u1 &&& (2147483647 : Int32)) % (401 : Int32))), .val (.ref a1), .val (.ref a5), .unset, .unset, .unset]) rfl (pc' := 47) rfl ?_
    refine own_iloadN X7 hx (hb hby at_47) rfl (pc' := 48) rfl ?_
    refine own_iconst X7 hx (hb hby at_48) (z := (4 : Int32)) rfl (pc' := 49) rfl ?_
    refine own_irem X7 hx (hb hby at_49) (by decide) (pc' := 50) rfl ?_
    refine own_istore X7 hx (hb hby at_50) (l' := #[.val (.int u0), .val (.int u1), .val (.int u2), .val (.int ((u1 &&& (2147483647 : Int32)) % (401 : Int32))), .val (.ref a1), .val (.ref a5), .val (.int (((u1 &&& (2147483647 : Int32)) % (401 : Int32)) % (4 : Int32))), .unset, .unset]) rfl (pc' := 52) rfl ?_
    refine own_iload X7 hx (hb hby at_52) rfl (pc' := 54) rfl ?_
    refine own_via (S' := T7.setTop (mkF m 71 #[.val (.int u0), .val (.int u1), .val (.int u2), .val (.int ((u1 &&& (2147483647 : Int32)) % (401 : Int32))), .val (.ref a1), .val (.ref a5), .val (.int (((u1 &&& (2147483647 : Int32)) % (401 : Int32)) % (4 : Int32))), .val (.int (if (((u1 &&& (2147483647 : Int32)) % (401 : Int32)) % (4 : Int32)) = (0 : Int32) then ((u1 &&& (2147483647 : Int32)) % (401 : Int32)) else ((((u1 &&& (2147483647 : Int32)) % (401 : Int32)) + (4 : Int32)) - (((u1 &&& (2147483647 : Int32)) % (401 : Int32)) % (4 : Int32))))), .unset] [])) (fun kk => ?_) ?_
    · by_cases c9 : (((u1 &&& (2147483647 : Int32)) % (401 : Int32)) % (4 : Int32)) = (0 : Int32)
      · refine own_ifF X7 hx (hb hby at_54) (teq c9).2 (pc' := 57) rfl ?_
        refine own_iloadN X7 hx (hb hby at_57) rfl (pc' := 58) rfl ?_
        refine own_istore X7 hx (hb hby at_58) (l' := #[.val (.int u0), .val (.int u1), .val (.int u2), .val (.int ((u1 &&& (2147483647 : Int32)) % (401 : Int32))), .val (.ref a1), .val (.ref a5), .val (.int (((u1 &&& (2147483647 : Int32)) % (401 : Int32)) % (4 : Int32))), .val (.int ((u1 &&& (2147483647 : Int32)) % (401 : Int32))), .unset]) rfl (pc' := 60) rfl ?_
        refine own_goto X7 hx (hb hby at_60) (by decide) (pc' := 71) rfl ?_
        exact own_cast (by simp only [if_pos c9]) kk
      · refine own_ifT X7 hx (hb hby at_54) (feq c9).2 (by decide) (pc' := 63) rfl ?_
        refine own_iloadN X7 hx (hb hby at_63) rfl (pc' := 64) rfl ?_
        refine own_iconst X7 hx (hb hby at_64) (z := (4 : Int32)) rfl (pc' := 65) rfl ?_
        refine own_iadd X7 hx (hb hby at_65) (pc' := 66) rfl ?_
        refine own_iload X7 hx (hb hby at_66) rfl (pc' := 68) rfl ?_
        refine own_isub X7 hx (hb hby at_68) (pc' := 69) rfl ?_
        refine own_istore X7 hx (hb hby at_69) (l' := #[.val (.int u0), .val (.int u1), .val (.int u2), .val (.int ((u1 &&& (2147483647 : Int32)) % (401 : Int32))), .val (.ref a1), .val (.ref a5), .val (.int (((u1 &&& (2147483647 : Int32)) % (401 : Int32)) % (4 : Int32))), .val (.int ((((u1 &&& (2147483647 : Int32)) % (401 : Int32)) + (4 : Int32)) - (((u1 &&& (2147483647 : Int32)) % (401 : Int32)) % (4 : Int32)))), .unset]) rfl (pc' := 71) rfl ?_
        exact own_cast (by simp only [if_neg c9]) kk
    refine own_bipush X7 hx (hb hby at_71) (z := (8 : Int32)) (by decide) (pc' := 73) rfl ?_
    refine own_iload X7 hx (hb hby at_73) rfl (pc' := 75) rfl ?_
    refine own_iadd X7 hx (hb hby at_75) (pc' := 76) rfl ?_
    refine own_istore X7 hx (hb hby at_76) (l' := #[.val (.int u0), .val (.int u1), .val (.int u2), .val (.int ((u1 &&& (2147483647 : Int32)) % (401 : Int32))), .val (.ref a1), .val (.ref a5), .val (.int (((u1 &&& (2147483647 : Int32)) % (401 : Int32)) % (4 : Int32))), .val (.int (if (((u1 &&& (2147483647 : Int32)) % (401 : Int32)) % (4 : Int32)) = (0 : Int32) then ((u1 &&& (2147483647 : Int32)) % (401 : Int32)) else ((((u1 &&& (2147483647 : Int32)) % (401 : Int32)) + (4 : Int32)) - (((u1 &&& (2147483647 : Int32)) % (401 : Int32)) % (4 : Int32))))), .val (.int ((8 : Int32) + (if (((u1 &&& (2147483647 : Int32)) % (401 : Int32)) % (4 : Int32)) = (0 : Int32) then ((u1 &&& (2147483647 : Int32)) % (401 : Int32)) else ((((u1 &&& (2147483647 : Int32)) % (401 : Int32)) + (4 : Int32)) - (((u1 &&& (2147483647 : Int32)) % (401 : Int32)) % (4 : Int32))))))]) rfl (pc' := 78) rfl ?_
    refine own_aload X7 hx (hb hby at_78) rfl rfl (pc' := 80) rfl ?_
    have f11 : own_AI Z T7.heap a1 .byte ((u1 &&& (2147483647 : Int32)) % (401 : Int32)) (fun i => if i = (((u1 &&& (2147483647 : Int32)) % (401 : Int32)) - (1 : Int32)).toNatClampNeg then (u2 >>> ((8 : Int32) &&& 31)).toInt8.toInt32 else (fun i => if i = (0 : Int32).toNatClampNeg then u2.toInt8.toInt32 else (fun _ => 0) i) i) := ((A4.ext E5).keep K7 (ninS (Nat.ne_of_lt lt_a1_a5) nin0))
    have z12 : n0 ≤ T7.heap.size := (Nat.le_trans z8 K7.1)
    have f13 : Exa Z T7.heap a5 "com/example/portcrier/portcrier/wire/rpc/OpaqueAuth" := (A5.keep K7)
    refine own_callV X7 hx hZ hown (ow_20 hw) (ow_21 hw) (ow_23 hw) (ow_22 hw) (ow_4 hw) (ow_24 hw) (by decide) f13 (rm_len l Z a0 hw a5 a1 ((u1 &&& (2147483647 : Int32)) % (401 : Int32)) (fun i => if i = (((u1 &&& (2147483647 : Int32)) % (401 : Int32)) - (1 : Int32)).toNatClampNeg then (u2 >>> ((8 : Int32) &&& 31)).toInt8.toInt32 else (fun i => if i = (0 : Int32).toNatClampNeg then u2.toInt8.toInt32 else (fun _ => 0) i) i) T7.heap n0 z12 p7_1 f11) rfl (W := 0) (by decide) (by decide) opd___I rfl (rest := []) rfl (hb hby at_80) (Nat.le_of_eq rfl) (by rw [hml]; rfl) (by decide) (by decide) (pc' := 83) rfl ?_
    intro v10 T10 L10 X10 q10
    obtain ⟨rfl, Nq10, eh10⟩ := q10
    have N10 := Fr.app N7 Nq10
    show own_G p e below s _ _ _ (T10.setTop (mkF m 83 #[.val (.int u0), .val (.int u1), .val (.int u2), .val (.int ((u1 &&& (2147483647 : Int32)) % (401 : Int32))), .val (.ref a1), .val (.ref a5), .val (.int (((u1 &&& (2147483647 : Int32)) % (401 : Int32)) % (4 : Int32))), .val (.int (if (((u1 &&& (2147483647 : Int32)) % (401 : Int32)) % (4 : Int32)) = (0 : Int32) then ((u1 &&& (2147483647 : Int32)) % (401 : Int32)) else ((((u1 &&& (2147483647 : Int32)) % (401 : Int32)) + (4 : Int32)) - (((u1 &&& (2147483647 : Int32)) % (401 : Int32)) % (4 : Int32))))), .val (.int ((8 : Int32) + (if (((u1 &&& (2147483647 : Int32)) % (401 : Int32)) % (4 : Int32)) = (0 : Int32) then ((u1 &&& (2147483647 : Int32)) % (401 : Int32)) else ((((u1 &&& (2147483647 : Int32)) % (401 : Int32)) + (4 : Int32)) - (((u1 &&& (2147483647 : Int32)) % (401 : Int32)) % (4 : Int32))))))] [(.int ((4 : Int32) + ((((4 : Int64) + ((u1 &&& (2147483647 : Int32)) % (401 : Int32)).toInt64) + (((-((u1 &&& (2147483647 : Int32)) % (401 : Int32))) &&& (3 : Int32)).toInt64)).toInt32)))]))
    refine own_iload X10 hx (hb hby at_83) rfl (pc' := 85) rfl ?_
    refine own_icmpF X10 hx (hb hby at_85) (teq (own_key _ (own_n u1).1 (own_n u1).2)).2 (pc' := 88) rfl ?_
    refine own_iconst X10 hx (hb hby at_88) (z := (1 : Int32)) rfl (pc' := 89) rfl ?_
    refine own_goto X10 hx (hb hby at_89) (by decide) (pc' := 93) rfl ?_
    exact own_retZ X10 hx hret hlk (Or.inr rfl) (hb hby at_93) ⟨rfl, N10⟩ (by decide) (by decide)
  · refine own_ifT X1 hx (hb hby at_15) (flt c2).2.2.2 (by decide) (pc' := 35) rfl ?_
    have z15 : n0 ≤ h1.size := (Nat.le_trans Z0 E1.1)
    refine own_new X1 hx hZ hown (ow_2 hw) (ow_3 hw) (ow_4 hw) e1 (hb hby at_35) (pc' := 38) rfl (by decide) (by decide) ?_
    intro T14 h14 a14 g14 X14 e14 E14 A14 D14
    have lt_a1_a14 : a1 < a14 := by rw [g14]; exact A1.lt
    have ge_a14 : n0 ≤ a14 := by rw [g14]; exact z15
    have F14_flavour : Fld Z h14 a14 "com/example/portcrier/portcrier/wire/rpc/OpaqueAuth" "flavour" "I" (.int (0 : Int32)) := D14 (Or.inr (ow_17 hw)) (ty := .int) (by decide)
    have F14_body : Fld Z h14 a14 "com/example/portcrier/portcrier/wire/rpc/OpaqueAuth" "body" "[B" (.null) := D14 (Or.inr (ow_19 hw)) (ty := (.array .byte)) (by decide)
    refine own_dup X14 hx (hb hby at_38) rfl (pc' := 39) rfl ?_
    refine own_iloadN X14 hx (hb hby at_39) rfl (pc' := 40) rfl ?_
    refine own_aload X14 hx (hb hby at_40) rfl rfl (pc' := 42) rfl ?_
    have z17 : n0 ≤ h14.size := (Nat.le_trans z15 E14.1)
    refine own_callC X14 hx hZ rfl hown (ow_5 hw) (ow_6 hw) (ow_4 hw) (ow_7 hw) (by decide) (rm_init l Z a0 hw a14 u0 a1 (.int (0 : Int32)) .null h14 n0 z17 A14 F14_flavour F14_body ge_a14) e14 (W := 1) (by decide) (by decide) opd__I_B_V rfl (rest := [(.ref a14)]) rfl (hb hby at_42) (Nat.le_of_eq rfl) (by rw [hml]; rfl) (by decide) (by decide) (pc' := 45) rfl ?_
    intro v16 T16 L16 X16 q16
    obtain ⟨rfl, Nq16, K16, p16_0, p16_1⟩ := q16
    have N16 := Fr.app N0 Nq16
    show own_G p e below s _ _ _ (T16.setTop (mkF m 45 #[.val (.int u0), .val (.int u1), .val (.int u2), .val (.int ((u1 &&& (2147483647 : Int32)) % (401 : Int32))), .val (.ref a1), .unset, .unset, .unset, .unset] [(.ref a14)]))
    refine own_astore X16 hx (hb hby at_45) rfl (l' := #[.val (.int u0), .val (.int u1), .val (.int u2), .val (.int ((u1 &&& (2147483647 : Int32)) % (401 : Int32))), .val (.ref a1), .val (.ref a14), .unset, .unset, .unset]) rfl (pc' := 47) rfl ?_
    refine own_iloadN X16 hx (hb hby at_47) rfl (pc' := 48) rfl ?_
    refine own_iconst X16 hx (hb hby at_48) (z := (4 : Int32)) rfl (pc' := 49) rfl ?_
    refine own_irem X16 hx (hb hby at_49) (by decide) (pc' := 50) rfl ?_
    refine own_istore X16 hx (hb hby at_50) (l' := #[.val (.int u0), .val (.int u1), .val (.int u2), .val (.int ((u1 &&& (2147483647 : Int32)) % (401 : Int32))), .val (.ref a1), .val (.ref a14), .val (.int (((u1 &&& (2147483647 : Int32)) % (401 : Int32)) % (4 : Int32))), .unset, .unset]) rfl (pc' := 52) rfl ?_
    refine own_iload X16 hx (hb hby at_52) rfl (pc' := 54) rfl ?_
    refine own_via (S' := T16.setTop (mkF m 71 #[.val (.int u0), .val (.int u1), .val (.int u2), .val (.int ((u1 &&& (2147483647 : Int32)) % (401 : Int32))), .val (.ref a1), .val (.ref a14), .val (.int (((u1 &&& (2147483647 : Int32)) % (401 : Int32)) % (4 : Int32))), .val (.int (if (((u1 &&& (2147483647 : Int32)) % (401 : Int32)) % (4 : Int32)) = (0 : Int32) then ((u1 &&& (2147483647 : Int32)) % (401 : Int32)) else ((((u1 &&& (2147483647 : Int32)) % (401 : Int32)) + (4 : Int32)) - (((u1 &&& (2147483647 : Int32)) % (401 : Int32)) % (4 : Int32))))), .unset] [])) (fun kk => ?_) ?_
    · by_cases c18 : (((u1 &&& (2147483647 : Int32)) % (401 : Int32)) % (4 : Int32)) = (0 : Int32)
      · refine own_ifF X16 hx (hb hby at_54) (teq c18).2 (pc' := 57) rfl ?_
        refine own_iloadN X16 hx (hb hby at_57) rfl (pc' := 58) rfl ?_
        refine own_istore X16 hx (hb hby at_58) (l' := #[.val (.int u0), .val (.int u1), .val (.int u2), .val (.int ((u1 &&& (2147483647 : Int32)) % (401 : Int32))), .val (.ref a1), .val (.ref a14), .val (.int (((u1 &&& (2147483647 : Int32)) % (401 : Int32)) % (4 : Int32))), .val (.int ((u1 &&& (2147483647 : Int32)) % (401 : Int32))), .unset]) rfl (pc' := 60) rfl ?_
        refine own_goto X16 hx (hb hby at_60) (by decide) (pc' := 71) rfl ?_
        exact own_cast (by simp only [if_pos c18]) kk
      · refine own_ifT X16 hx (hb hby at_54) (feq c18).2 (by decide) (pc' := 63) rfl ?_
        refine own_iloadN X16 hx (hb hby at_63) rfl (pc' := 64) rfl ?_
        refine own_iconst X16 hx (hb hby at_64) (z := (4 : Int32)) rfl (pc' := 65) rfl ?_
        refine own_iadd X16 hx (hb hby at_65) (pc' := 66) rfl ?_
        refine own_iload X16 hx (hb hby at_66) rfl (pc' := 68) rfl ?_
        refine own_isub X16 hx (hb hby at_68) (pc' := 69) rfl ?_
        refine own_istore X16 hx (hb hby at_69) (l' := #[.val (.int u0), .val (.int u1), .val (.int u2), .val (.int ((u1 &&& (2147483647 : Int32)) % (401 : Int32))), .val (.ref a1), .val (.ref a14), .val (.int (((u1 &&& (2147483647 : Int32)) % (401 : Int32)) % (4 : Int32))), .val (.int ((((u1 &&& (2147483647 : Int32)) % (401 : Int32)) + (4 : Int32)) - (((u1 &&& (2147483647 : Int32)) % (401 : Int32)) % (4 : Int32)))), .unset]) rfl (pc' := 71) rfl ?_
        exact own_cast (by simp only [if_neg c18]) kk
    refine own_bipush X16 hx (hb hby at_71) (z := (8 : Int32)) (by decide) (pc' := 73) rfl ?_
    refine own_iload X16 hx (hb hby at_73) rfl (pc' := 75) rfl ?_
    refine own_iadd X16 hx (hb hby at_75) (pc' := 76) rfl ?_
    refine own_istore X16 hx (hb hby at_76) (l' := #[.val (.int u0), .val (.int u1), .val (.int u2), .val (.int ((u1 &&& (2147483647 : Int32)) % (401 : Int32))), .val (.ref a1), .val (.ref a14), .val (.int (((u1 &&& (2147483647 : Int32)) % (401 : Int32)) % (4 : Int32))), .val (.int (if (((u1 &&& (2147483647 : Int32)) % (401 : Int32)) % (4 : Int32)) = (0 : Int32) then ((u1 &&& (2147483647 : Int32)) % (401 : Int32)) else ((((u1 &&& (2147483647 : Int32)) % (401 : Int32)) + (4 : Int32)) - (((u1 &&& (2147483647 : Int32)) % (401 : Int32)) % (4 : Int32))))), .val (.int ((8 : Int32) + (if (((u1 &&& (2147483647 : Int32)) % (401 : Int32)) % (4 : Int32)) = (0 : Int32) then ((u1 &&& (2147483647 : Int32)) % (401 : Int32)) else ((((u1 &&& (2147483647 : Int32)) % (401 : Int32)) + (4 : Int32)) - (((u1 &&& (2147483647 : Int32)) % (401 : Int32)) % (4 : Int32))))))]) rfl (pc' := 78) rfl ?_
    refine own_aload X16 hx (hb hby at_78) rfl rfl (pc' := 80) rfl ?_
    have f20 : own_AI Z T16.heap a1 .byte ((u1 &&& (2147483647 : Int32)) % (401 : Int32)) (fun _ => 0) := ((A1.ext E14).keep K16 (ninS (Nat.ne_of_lt lt_a1_a14) nin0))
    have z21 : n0 ≤ T16.heap.size := (Nat.le_trans z17 K16.1)
    have f22 : Exa Z T16.heap a14 "com/example/portcrier/portcrier/wire/rpc/OpaqueAuth" := (A14.keep K16)
    refine own_callV X16 hx hZ hown (ow_20 hw) (ow_21 hw) (ow_23 hw) (ow_22 hw) (ow_4 hw) (ow_24 hw) (by decide) f22 (rm_len l Z a0 hw a14 a1 ((u1 &&& (2147483647 : Int32)) % (401 : Int32)) (fun _ => 0) T16.heap n0 z21 p16_1 f20) rfl (W := 0) (by decide) (by decide) opd___I rfl (rest := []) rfl (hb hby at_80) (Nat.le_of_eq rfl) (by rw [hml]; rfl) (by decide) (by decide) (pc' := 83) rfl ?_
    intro v19 T19 L19 X19 q19
    obtain ⟨rfl, Nq19, eh19⟩ := q19
    have N19 := Fr.app N16 Nq19
    show own_G p e below s _ _ _ (T19.setTop (mkF m 83 #[.val (.int u0), .val (.int u1), .val (.int u2), .val (.int ((u1 &&& (2147483647 : Int32)) % (401 : Int32))), .val (.ref a1), .val (.ref a14), .val (.int (((u1 &&& (2147483647 : Int32)) % (401 : Int32)) % (4 : Int32))), .val (.int (if (((u1 &&& (2147483647 : Int32)) % (401 : Int32)) % (4 : Int32)) = (0 : Int32) then ((u1 &&& (2147483647 : Int32)) % (401 : Int32)) else ((((u1 &&& (2147483647 : Int32)) % (401 : Int32)) + (4 : Int32)) - (((u1 &&& (2147483647 : Int32)) % (401 : Int32)) % (4 : Int32))))), .val (.int ((8 : Int32) + (if (((u1 &&& (2147483647 : Int32)) % (401 : Int32)) % (4 : Int32)) = (0 : Int32) then ((u1 &&& (2147483647 : Int32)) % (401 : Int32)) else ((((u1 &&& (2147483647 : Int32)) % (401 : Int32)) + (4 : Int32)) - (((u1 &&& (2147483647 : Int32)) % (401 : Int32)) % (4 : Int32))))))] [(.int ((4 : Int32) + ((((4 : Int64) + ((u1 &&& (2147483647 : Int32)) % (401 : Int32)).toInt64) + (((-((u1 &&& (2147483647 : Int32)) % (401 : Int32))) &&& (3 : Int32)).toInt64)).toInt32)))]))
    refine own_iload X19 hx (hb hby at_83) rfl (pc' := 85) rfl ?_
    refine own_icmpF X19 hx (hb hby at_85) (teq (own_key _ (own_n u1).1 (own_n u1).2)).2 (pc' := 88) rfl ?_
    refine own_iconst X19 hx (hb hby at_88) (z := (1 : Int32)) rfl (pc' := 89) rfl ?_
    refine own_goto X19 hx (hb hby at_89) (by decide) (pc' := 93) rfl ?_
    exact own_retZ X19 hx hret hlk (Or.inr rfl) (hb hby at_93) ⟨rfl, N19⟩ (by decide) (by decide)
set_option maxRecDepth 65536 in
set_option maxHeartbeats 40000000 in
theorem comes_1 {Post : Tables → Env → Array Value → State → Outcome → State → Prop} (hpost : ∀ tb e args s v u, (limb_1_1.after args s (.returned v) u = true ∧ limb_1_2.after args s (.returned v) u = true ∧ True) → FrameEnd s (.returned v) u (Jvm.fieldLocs frame_1_writes args s ++ Jvm.arrayLocs frame_1_arrays args s ++ Jvm.staticLocs frame_1_statics s) 16 896 → Post tb e args s (.returned v) u) :
    ArmFor flags0 classFile x code maxLocals ret World_1 tables_1 room_1 Calls_1 rest_1 Pre_1 Post := by
  intro l hfl _ _ p e ha hc hk s m args below hf hA hF happ hP
  obtain ⟨hcalls, hrest, hpre⟩ := hP
  obtain ⟨-, -, -, hnamed, -, -, -, hat⟩ := (Spec.applies_iff hf).mp happ
  obtain ⟨hg, hn⟩ := and_e (Cond.before_iff.mp (show (Jvm.Cond.and given_1 narrow_1).before args s = true from hpre))
  obtain ⟨gc, gr0⟩ := and_e hg
  obtain ⟨gk0, gr1⟩ := and_e gr0
  obtain ⟨gk1, gr2⟩ := and_e gr1
  obtain ⟨w0, w1, w2, rfl⟩ : ∃ w0 w1 w2 : Value, args = #[w0, w1, w2] := by
    have hs : args.size = 3 := by simpa [Cond.value, given_1] using gc
    obtain ⟨L⟩ := args
    match L, hs with
    | [w0, w1, w2], _ => exact ⟨w0, w1, w2, rfl⟩
  have hw := fun d (hd : d ∈ tables_1) => atoms_spec (ws := Jvm.Cond.code x code maxLocals ret :: tables_1) hat d (List.mem_cons_of_mem _ hd)
  obtain ⟨i0, ei0⟩ := is_v gk0
  obtain rfl : w0 = (.int i0) := Option.some.inj ei0
  obtain ⟨i1, ei1⟩ := is_v gk1
  obtain rfl : w1 = (.int i1) := Option.some.inj ei1
  obtain ⟨i2, ei2⟩ := is_v gr2
  obtain rfl : w2 = (.int i2) := Option.some.inj ei2
  obtain ⟨n, o, h1, h2, h3, _, L, rfl, ⟨rfl, N⟩, hq⟩ := own_law l s _ hw i0 i1 i2 s.heap s.heap.size (Nat.le_refl _) p e ha hc hk s m _ below hf ((Spec.applies_iff_loose hf).mp happ).1 ⟨rfl, State.Warmed39.refl s, rfl⟩ trivial
  refine ⟨n, _, h1, h2, h3, hpost _ _ _ _ _ _ ⟨Cond.after_iff.mpr rfl, Cond.after_iff.mpr (eq_i res_at (Term.int_eval (1)) rfl), trivial⟩ ⟨hq.1, hq.2.1, (hq.2.2.sift fun y hy => Or.inr (N y hy)).mono (by decide) (by decide)⟩⟩
theorem main_1_1 : Claimed_1_1 := comes_1 fun _ _ _ _ _ _ h hF => ⟨h.1, hF⟩
theorem main_1_2 : Claimed_1_2 := comes_1 fun _ _ _ _ _ _ h hF => ⟨h.2.1, hF⟩
end Jvm.Pilot.@@N@@
namespace Jvm.Pilot.@@N@@
open Jvm Jvm.ClassFile Sem Op Lib Jvm.Free Jvm.Stand Jvm.Pilot.@@N@@.Jvm.D
/-! MADE BY PROGRAM (witnessworld.py) out of the Statement's table words and the real class files: 12 classes; the members and pool entries that the words name. The judged class is class 1, her method 1. -/
namespace start1
open Jvm.ClassFile
def u (s : String) : CpInfo := .utf8 (stringToUtf16 s)
/-- a pool by its gaps: so many unusable entries, then the entry; so many at the end -/
def gap : Nat → List CpInfo → List CpInfo
  | 0, r => r
  | n + 1, r => .unusable :: gap n r
def poolList (es : List (Nat × CpInfo)) (last : Nat) : List CpInfo := es.foldr (fun e r => gap e.1 (e.2 :: r)) (gap last [])
def pool (es : List (Nat × CpInfo)) (last : Nat) : Array CpInfo := ⟨poolList es last⟩
def fileOf (pool : Array CpInfo) (this : Nat) (attrs : Array Attribute := #[]) (ms : Array MethodInfo := #[]) (fl : Nat := 33) (sup : Nat := 0) (ifs : Array Nat := #[]) (fds : Array FieldInfo := #[]) : ClassFile where
  minorVersion := 0
  majorVersion := 65
  constantPool := pool
  accessFlags := fl
  thisClass := this
  superClass := sup
  interfaces := ifs
  fields := fds
  methods := ms
  attributes := attrs
def plain (name : String) (sup : Option ClassId) : Class where
  name := name
  kind := .ordinary
  loader := none
  accessFlags := 33
  super := sup
  interfaces := #[]
  cf := none
  fields := #[]
  methods := #[]
  instanceTypes := #[]
  staticTypes := #[]
  resolved := #[]
  callSites := []
  init := .initialized
  statics := none
  mirror := none

def pool0 : Array CpInfo := pool [(5, u "<init>"), (0, u "()V"), (1, .class_ 10), (1, u "java/lang/Object")] 113

def k0c0 : Code := { maxStack := 0, maxLocals := 1, code := object_method_1_code, exceptionTable := #[], attributes := #[] }
def k0m0 : Method := { name := "<init>", desc := "()V", sig := { parameters := [], returnType := none }, accessFlags := 1, code := some k0c0 }
/-- java/lang/Object -/
def k0 : Class := { plain "java/lang/Object" none with
  accessFlags := 33
  interfaces := #[]
  cf := some (fileOf pool0 8 #[] #[{ accessFlags := 1, nameIndex := 5, descriptorIndex := 6, attributes := #[] }] 33 0 #[] #[])
  fields := #[]
  methods := #[k0m0]
  instanceTypes := #[]
  staticTypes := #[]
  resolved := Array.replicate 124 none
  statics := none }

def pool1 : Array CpInfo := pool [(2, .class_ 4), (1, u "java/lang/Object"), (0, u "<init>"), (0, u "()V"), (0, .integer 2147483647), (0, .class_ 9), (0, u "com/example/portcrier/portcrier/wire/rpc/OpaqueAuth"), (0, .methodref 8 11), (0, .nameAndType 5 12), (0, u "(I[B)V"), (0, .methodref 8 14), (0, .nameAndType 15 16), (0, u "length"), (0, u "()I"), (0, .class_ 18), (0, u "com/example/portcrier/portcrier/wire/rpc/OpaqueAuthLengthPinLaw"), (2, u "law"), (0, u "(III)Z")] 5

def k1m0 : Method := { name := "<init>", desc := "()V", sig := { parameters := [], returnType := none }, accessFlags := 1, code := none }
def k1c1 : Code := { maxStack := 4, maxLocals := 9, code := code, exceptionTable := #[], attributes := #[] }
def k1m1 : Method := { name := "law", desc := "(III)Z", sig := { parameters := [.int, .int, .int], returnType := some .boolean }, accessFlags := 9, code := some k1c1 }
/-- com/example/portcrier/portcrier/wire/rpc/OpaqueAuthLengthPinLaw -/
def k1 : Class := { plain "com/example/portcrier/portcrier/wire/rpc/OpaqueAuthLengthPinLaw" (some 0) with
  accessFlags := 49
  interfaces := #[]
  cf := some (fileOf pool1 17 #[] #[{ accessFlags := 1, nameIndex := 5, descriptorIndex := 6, attributes := #[] }, { accessFlags := 9, nameIndex := 21, descriptorIndex := 22, attributes := #[] }] 49 2 #[] #[])
  fields := #[]
  methods := #[k1m0, k1m1]
  instanceTypes := #[]
  staticTypes := #[]
  resolved := Array.replicate 28 none
  statics := none }

def pool2 : Array CpInfo := pool [(1, .methodref 2 3), (0, .class_ 4), (0, .nameAndType 5 6), (0, u "java/lang/Object"), (0, u "<init>"), (0, u "()V"), (0, .class_ 8), (0, u "java/lang/Record")] 13

def k2c0 : Code := { maxStack := 1, maxLocals := 1, code := jdk_30_method_1_code, exceptionTable := #[], attributes := #[] }
def k2m0 : Method := { name := "<init>", desc := "()V", sig := { parameters := [], returnType := none }, accessFlags := 4, code := some k2c0 }
/-- java/lang/Record -/
def k2 : Class := { plain "java/lang/Record" (some 0) with
  accessFlags := 1057
  interfaces := #[]
  cf := some (fileOf pool2 7 #[] #[{ accessFlags := 4, nameIndex := 5, descriptorIndex := 6, attributes := #[] }] 1057 2 #[] #[])
  fields := #[]
  methods := #[k2m0]
  instanceTypes := #[]
  staticTypes := #[]
  resolved := Array.replicate 22 none
  statics := none }

def pool3 : Array CpInfo := pool [(1, .methodref 2 3), (0, .class_ 4), (0, .nameAndType 5 6), (0, u "java/lang/Record"), (0, u "<init>"), (0, u "()V"), (0, .fieldref 8 9), (0, .class_ 10), (0, .nameAndType 11 12), (0, u "com/example/portcrier/portcrier/wire/rpc/OpaqueAuth"), (0, u "flavour"), (0, u "I"), (0, .fieldref 8 14), (0, .nameAndType 15 16), (0, u "body"), (0, u "[B"), (5, u "()I"), (6, u "(I[B)V"), (1, .class_ 33), (1, u "com/example/portcrier/portcrier/wire/xdr/XdrEncoder"), (8, .methodref 31 43), (0, .nameAndType 44 45), (0, u "opaqueLength"), (0, u "(I)J"), (16, u "NONE"), (0, u "Lcom/example/portcrier/portcrier/wire/rpc/OpaqueAuth;"), (0, u "AUTH_NULL"), (2, u "AUTH_UNIX"), (1, u "MAX_BODY"), (11, u "length")] 26

def k3c0 : Code := { maxStack := 2, maxLocals := 3, code := prog_52_method_1_code, exceptionTable := #[], attributes := #[] }
def k3m0 : Method := { name := "<init>", desc := "(I[B)V", sig := { parameters := [.int, (.array .byte)], returnType := none }, accessFlags := 1, code := some k3c0 }
def k3c1 : Code := { maxStack := 3, maxLocals := 1, code := prog_52_method_4_code, exceptionTable := #[], attributes := #[] }
def k3m1 : Method := { name := "length", desc := "()I", sig := { parameters := [], returnType := some .int }, accessFlags := 1, code := some k3c1 }
/-- com/example/portcrier/portcrier/wire/rpc/OpaqueAuth -/
def k3 : Class := { plain "com/example/portcrier/portcrier/wire/rpc/OpaqueAuth" (some 2) with
  accessFlags := 49
  interfaces := #[]
  cf := some (fileOf pool3 8 #[] #[{ accessFlags := 1, nameIndex := 5, descriptorIndex := 29, attributes := #[] }, { accessFlags := 1, nameIndex := 81, descriptorIndex := 22, attributes := #[] }] 49 2 #[] #[{ accessFlags := 18, nameIndex := 11, descriptorIndex := 12, attributes := #[] }, { accessFlags := 18, nameIndex := 15, descriptorIndex := 16, attributes := #[] }, { accessFlags := 25, nameIndex := 64, descriptorIndex := 12, attributes := #[] }, { accessFlags := 25, nameIndex := 67, descriptorIndex := 12, attributes := #[] }, { accessFlags := 25, nameIndex := 62, descriptorIndex := 63, attributes := #[] }, { accessFlags := 24, nameIndex := 69, descriptorIndex := 12, attributes := #[] }])
  fields := #[{ name := "flavour", type := .int, accessFlags := 18, slot := 0, constantValue := 0 }, { name := "body", type := (.array .byte), accessFlags := 18, slot := 1, constantValue := 0 }, { name := "AUTH_NULL", type := .int, accessFlags := 25, slot := 0, constantValue := 0 }, { name := "AUTH_UNIX", type := .int, accessFlags := 25, slot := 1, constantValue := 0 }, { name := "NONE", type := (.object "com/example/portcrier/portcrier/wire/rpc/OpaqueAuth"), accessFlags := 25, slot := 2, constantValue := 0 }, { name := "MAX_BODY", type := .int, accessFlags := 24, slot := 3, constantValue := 0 }]
  methods := #[k3m0, k3m1]
  instanceTypes := #[.int, (.array .byte)]
  staticTypes := #[.int, .int, (.object "com/example/portcrier/portcrier/wire/rpc/OpaqueAuth"), .int]
  resolved := Array.replicate 108 none
  statics := none }

def pool4 : Array CpInfo := pool [(2, .class_ 4), (1, u "java/lang/Object"), (15, .class_ 22), (1, u "com/example/portcrier/portcrier/wire/xdr/XdrEncoder"), (0, u "target"), (0, u "Ljava/nio/ByteBuffer;"), (29, u "opaqueLength"), (0, u "(I)J"), (7, .methodref 64 65), (0, .class_ 66), (0, .nameAndType 67 68), (0, u "com/example/portcrier/portcrier/wire/xdr/Xdr"), (0, u "padding"), (0, u "(I)I"), (3, .long 4), (1, u "MAX_UNSIGNED_INT"), (0, u "J")] 28

def k4c0 : Code := { maxStack := 4, maxLocals := 1, code := prog_70_method_7_code, exceptionTable := #[], attributes := #[] }
def k4m0 : Method := { name := "opaqueLength", desc := "(I)J", sig := { parameters := [.int], returnType := some .long }, accessFlags := 9, code := some k4c0 }
/-- com/example/portcrier/portcrier/wire/xdr/XdrEncoder -/
def k4 : Class := { plain "com/example/portcrier/portcrier/wire/xdr/XdrEncoder" (some 0) with
  accessFlags := 49
  interfaces := #[]
  cf := some (fileOf pool4 20 #[] #[{ accessFlags := 9, nameIndex := 54, descriptorIndex := 55, attributes := #[] }] 49 2 #[] #[{ accessFlags := 26, nameIndex := 74, descriptorIndex := 75, attributes := #[] }, { accessFlags := 18, nameIndex := 23, descriptorIndex := 24, attributes := #[] }])
  fields := #[{ name := "MAX_UNSIGNED_INT", type := .long, accessFlags := 26, slot := 0, constantValue := 0 }, { name := "target", type := (.object "java/nio/ByteBuffer"), accessFlags := 18, slot := 0, constantValue := 0 }]
  methods := #[k4m0]
  instanceTypes := #[(.object "java/nio/ByteBuffer")]
  staticTypes := #[.long]
  resolved := Array.replicate 104 none
  statics := none }

def pool5 : Array CpInfo := pool [(2, .class_ 4), (1, u "java/lang/Object"), (0, u "<init>"), (0, u "()V"), (0, .class_ 8), (0, u "com/example/portcrier/portcrier/wire/xdr/Xdr"), (0, u "UNIT"), (0, u "I"), (4, u "padding"), (0, u "(I)I")] 2

def k5m0 : Method := { name := "<init>", desc := "()V", sig := { parameters := [], returnType := none }, accessFlags := 2, code := none }
def k5c1 : Code := { maxStack := 2, maxLocals := 1, code := prog_68_method_2_code, exceptionTable := #[], attributes := #[] }
def k5m1 : Method := { name := "padding", desc := "(I)I", sig := { parameters := [.int], returnType := some .int }, accessFlags := 8, code := some k5c1 }
/-- com/example/portcrier/portcrier/wire/xdr/Xdr -/
def k5 : Class := { plain "com/example/portcrier/portcrier/wire/xdr/Xdr" (some 0) with
  accessFlags := 48
  interfaces := #[]
  cf := some (fileOf pool5 7 #[] #[{ accessFlags := 2, nameIndex := 5, descriptorIndex := 6, attributes := #[] }, { accessFlags := 8, nameIndex := 15, descriptorIndex := 16, attributes := #[] }] 48 2 #[] #[{ accessFlags := 24, nameIndex := 9, descriptorIndex := 10, attributes := #[] }])
  fields := #[{ name := "UNIT", type := .int, accessFlags := 24, slot := 0, constantValue := 0 }]
  methods := #[k5m0, k5m1]
  instanceTypes := #[]
  staticTypes := #[.int]
  resolved := Array.replicate 19 none
  statics := none }

def pool6 : Array CpInfo := pool [(1, u "java/lang/Cloneable"), (0, .class_ 1), (0, u "java/lang/Object"), (0, .class_ 3)] 3

/-- java/lang/Cloneable -/
def k6 : Class := { plain "java/lang/Cloneable" (some 0) with
  accessFlags := 1537
  interfaces := #[]
  cf := some (fileOf pool6 2 #[] #[] 1537 4 #[] #[])
  fields := #[]
  methods := #[]
  instanceTypes := #[]
  staticTypes := #[]
  resolved := Array.replicate 8 none
  statics := none }

def pool7 : Array CpInfo := pool [(1, u "java/io/Serializable"), (0, .class_ 1), (0, u "java/lang/Object"), (0, .class_ 3)] 3

/-- java/io/Serializable -/
def k7 : Class := { plain "java/io/Serializable" (some 0) with
  accessFlags := 1537
  interfaces := #[]
  cf := some (fileOf pool7 2 #[] #[] 1537 4 #[] #[])
  fields := #[]
  methods := #[]
  instanceTypes := #[]
  staticTypes := #[]
  resolved := Array.replicate 8 none
  statics := none }

/-- the primitive byte -/
def k8 : Class := { plain "byte" none with kind := .primitive 'B', accessFlags := 0x411 }
/-- [B -/
def k9 : Class := { plain "[B" (some 0) with kind := .array 8 .byte, interfaces := #[6, 7], accessFlags := 1041 }

/-- the primitive int -/
def k10 : Class := { plain "int" none with kind := .primitive 'I', accessFlags := 0x411 }
/-- [I -/
def k11 : Class := { plain "[I" (some 0) with kind := .array 10 .int, interfaces := #[6, 7], accessFlags := 1041 }

def heap : Heap := #[]
def classes : Array Class := #[k0, k1, k2, k3, k4, k5, k6, k7, k8, k9, k10, k11]
def interned : List (Array UInt16 × Addr) := []
def slotsUsed : Nat := 0
def theMethod : MethodId := ⟨1, 1⟩
def args0 : Array Value := #[.int 5, .int 6, .int 7]
def aboutOver (below : List Frame) : State where
  vm := { classes := classes, interned := interned.toArray }
  heap := heap
  slotsUsed := slotsUsed
  threads := #[{ frames := .invoking theMethod args0 :: below }]
def below0 : List Frame := [.native { method := ⟨0, 0⟩, args := #[] }]
def about1 : State := aboutOver below0
def p0 : Program := .bare "" "" ""
def e0 : Env := launch0.env 0 0 0
theorem w_frames : about1.frames = Frame.invoking theMethod args0 :: below0 := rfl
set_option maxRecDepth 65536 in
theorem w_args : argsFit about1.vm theMethod args0 = true := by decide +kernel
set_option maxRecDepth 65536 in
theorem w_heap : heapFits about1 = true := by decide +kernel
set_option maxRecDepth 65536 in
theorem w_runnable : about1.curStatus? = some .runnable := by decide +kernel
set_option maxRecDepth 65536 in
theorem w_alone : about1.alone = true := by decide +kernel
set_option maxRecDepth 65536 in
theorem w_named : about1.methodNamed? x = some theMethod := by decide +kernel
set_option maxRecDepth 65536 in
theorem w_hears : about1.hears theMethod below0 = true := by decide +kernel
set_option maxRecDepth 65536 in
theorem w_ripe : about1.ripe theMethod args0 below0 = true := by decide +kernel
theorem w_running : about1.status = .running := rfl
set_option maxRecDepth 65536 in
theorem w_room : about1.hasRoom e0.platform room_1 = true :=
  launch0.hasRoom_least _ room_1 (by decide +kernel) (by decide +kernel) (by decide +kernel) (by decide +kernel) (by decide +kernel) (by decide +kernel)
theorem allAtoms_all (ts : List Jvm.Cond) (a : Array Jvm.Value) (st : Jvm.State) : (allAtoms ts).before a st = ts.all (fun c => c.before a st) := by
  induction ts with
  | nil => rfl
  | cons c t ih =>
    show (Jvm.Cond.and c (allAtoms t)).before a st = _
    rw [Jvm.Cond.before_and, ih, List.all_cons]
def words1 : List Jvm.Cond := Jvm.Cond.code x code maxLocals ret :: tables_1
/-- a 'code' word, met by the world's own term for the bytes: nothing is compared byte by byte -/
theorem code_word {y : MethodName} {bytes : ByteArray} {mx : Nat} {rt : Option FieldType} {a : Array Value} {s : State} {m : MethodId} {meth : Method} {c : Code} (h1 : s.methodNamed? y = some m) (h2 : s.vm.method? m = some meth) (h3 : meth.code = some c) (h4 : c.code = bytes)
    (h5 : (c.maxLocals == mx && c.exceptionTable.isEmpty && decide (c.maxStack ≤ mostOperands) && decide (meth.sig.returnType = rt) && !meth.locks && decide (parseMethodDescriptor y.desc = some meth.sig)) = true) : (Jvm.Cond.code y bytes mx rt).before a s = true := by
  simp only [Bool.and_eq_true, beq_iff_eq, Bool.not_eq_true', decide_eq_true_eq] at h5
  obtain ⟨⟨⟨⟨⟨g1, g2⟩, g3⟩, g4⟩, g5⟩, g6⟩ := h5
  simp [Cond.before, Cond.holds, Cond.value, h1, h2, h3, h4, g1, g2, g3, g4, g5, g6]
def isCode : Jvm.Cond → Bool
  | .code _ _ _ _ => true
  | _ => false
theorem all_split {L : List Jvm.Cond} {P : Jvm.Cond → Bool} (h1 : L.all (fun c => isCode c || P c) = true) (h2 : ∀ c ∈ L.filter isCode, P c = true) : L.all P = true := by
  refine List.all_eq_true.mpr fun c hc => ?_
  have h := List.all_eq_true.mp h1 c hc
  rcases Bool.eq_false_or_eq_true (isCode c) with hi | hi
  · exact h2 c (List.mem_filter.mpr ⟨hc, hi⟩)
  · simpa [hi] using h
set_option maxRecDepth 65536 in
theorem w_c0 : (Jvm.Cond.code x code maxLocals ret).before args0 about1 = true := code_word (m := ⟨1, 1⟩) (meth := k1m1) (c := k1c1) (by decide +kernel) rfl rfl rfl (by decide +kernel)
set_option maxRecDepth 65536 in
theorem w_c1 : (Jvm.Cond.code ({ cls := "com/example/portcrier/portcrier/wire/rpc/OpaqueAuth", name := "<init>", desc := "(I[B)V" } : Jvm.MethodName) prog_52_method_1_code (3 : Nat) (Option.none : Option Jvm.ClassFile.FieldType)).before args0 about1 = true := code_word (m := ⟨3, 0⟩) (meth := k3m0) (c := k3c0) (by decide +kernel) rfl rfl rfl (by decide +kernel)
set_option maxRecDepth 65536 in
theorem w_c2 : (Jvm.Cond.code ({ cls := "java/lang/Record", name := "<init>", desc := "()V" } : Jvm.MethodName) jdk_30_method_1_code (1 : Nat) (Option.none : Option Jvm.ClassFile.FieldType)).before args0 about1 = true := code_word (m := ⟨2, 0⟩) (meth := k2m0) (c := k2c0) (by decide +kernel) rfl rfl rfl (by decide +kernel)
set_option maxRecDepth 65536 in
theorem w_c3 : (Jvm.Cond.code ({ cls := "java/lang/Object", name := "<init>", desc := "()V" } : Jvm.MethodName) object_method_1_code (1 : Nat) (Option.none : Option Jvm.ClassFile.FieldType)).before args0 about1 = true := code_word (m := ⟨0, 0⟩) (meth := k0m0) (c := k0c0) (by decide +kernel) rfl rfl rfl (by decide +kernel)
set_option maxRecDepth 65536 in
theorem w_c4 : (Jvm.Cond.code ({ cls := "com/example/portcrier/portcrier/wire/rpc/OpaqueAuth", name := "length", desc := "()I" } : Jvm.MethodName) prog_52_method_4_code (1 : Nat) (Option.some Jvm.ClassFile.FieldType.int)).before args0 about1 = true := code_word (m := ⟨3, 1⟩) (meth := k3m1) (c := k3c1) (by decide +kernel) rfl rfl rfl (by decide +kernel)
set_option maxRecDepth 65536 in
theorem w_c5 : (Jvm.Cond.code ({ cls := "com/example/portcrier/portcrier/wire/xdr/XdrEncoder", name := "opaqueLength", desc := "(I)J" } : Jvm.MethodName) prog_70_method_7_code (1 : Nat) (Option.some Jvm.ClassFile.FieldType.long)).before args0 about1 = true := code_word (m := ⟨4, 0⟩) (meth := k4m0) (c := k4c0) (by decide +kernel) rfl rfl rfl (by decide +kernel)
set_option maxRecDepth 65536 in
theorem w_c6 : (Jvm.Cond.code ({ cls := "com/example/portcrier/portcrier/wire/xdr/Xdr", name := "padding", desc := "(I)I" } : Jvm.MethodName) prog_68_method_2_code (1 : Nat) (Option.some Jvm.ClassFile.FieldType.int)).before args0 about1 = true := code_word (m := ⟨5, 1⟩) (meth := k5m1) (c := k5c1) (by decide +kernel) rfl rfl rfl (by decide +kernel)
def codes1 : List Jvm.Cond := [Jvm.Cond.code x code maxLocals ret, Jvm.Cond.code ({ cls := "com/example/portcrier/portcrier/wire/rpc/OpaqueAuth", name := "<init>", desc := "(I[B)V" } : Jvm.MethodName) prog_52_method_1_code (3 : Nat) (Option.none : Option Jvm.ClassFile.FieldType), Jvm.Cond.code ({ cls := "java/lang/Record", name := "<init>", desc := "()V" } : Jvm.MethodName) jdk_30_method_1_code (1 : Nat) (Option.none : Option Jvm.ClassFile.FieldType), Jvm.Cond.code ({ cls := "java/lang/Object", name := "<init>", desc := "()V" } : Jvm.MethodName) object_method_1_code (1 : Nat) (Option.none : Option Jvm.ClassFile.FieldType), Jvm.Cond.code ({ cls := "com/example/portcrier/portcrier/wire/rpc/OpaqueAuth", name := "length", desc := "()I" } : Jvm.MethodName) prog_52_method_4_code (1 : Nat) (Option.some Jvm.ClassFile.FieldType.int), Jvm.Cond.code ({ cls := "com/example/portcrier/portcrier/wire/xdr/XdrEncoder", name := "opaqueLength", desc := "(I)J" } : Jvm.MethodName) prog_70_method_7_code (1 : Nat) (Option.some Jvm.ClassFile.FieldType.long), Jvm.Cond.code ({ cls := "com/example/portcrier/portcrier/wire/xdr/Xdr", name := "padding", desc := "(I)I" } : Jvm.MethodName) prog_68_method_2_code (1 : Nat) (Option.some Jvm.ClassFile.FieldType.int)]
set_option maxRecDepth 65536 in
theorem codes_eq : words1.filter isCode = codes1 := rfl
theorem w_codes : ∀ c ∈ words1.filter isCode, c.before args0 about1 = true := by
  rw [codes_eq]
  intro c hc
  simp only [codes1, List.mem_cons, List.not_mem_nil, or_false] at hc
  rcases hc with rfl | rfl | rfl | rfl | rfl | rfl | rfl
  · exact w_c0
  · exact w_c1
  · exact w_c2
  · exact w_c3
  · exact w_c4
  · exact w_c5
  · exact w_c6
set_option maxRecDepth 65536 in
theorem w_t1 : (words1.take 24).all (fun c => isCode c || c.before args0 about1) = true := by decide +kernel
set_option maxRecDepth 65536 in
theorem w_t2 : (words1.drop 24).all (fun c => isCode c || c.before args0 about1) = true := by decide +kernel
theorem w_tables : (allAtoms (Jvm.Cond.code x code maxLocals ret :: tables_1)).before args0 about1 = true := by
  rw [allAtoms_all]
  show words1.all (fun c => c.before args0 about1) = true
  refine all_split ?_ w_codes
  rw [← List.take_append_drop 24 words1, List.all_append, w_t1, w_t2]
  rfl
set_option maxRecDepth 65536 in
theorem w_case : (Jvm.Cond.and given_1 narrow_1).before args0 about1 = true := by decide +kernel
theorem w_applies : (headSpec (Jvm.Cond.code x code maxLocals ret :: tables_1) room_1).applies x e0.platform about1 = true :=
  (Spec.applies_iff w_frames).mpr ⟨w_running, w_runnable, w_alone, w_named, w_hears, w_ripe, w_room, w_tables⟩
theorem atStart : AtStart classFile x code maxLocals ret World_1 tables_1 room_1 Calls_1 rest_1 Pre_1 launch0 p0 e0 about1 theMethod args0 below0 :=
  ⟨lists_1, trivial, launch0.admits_env _ _ _, launch0.least_env, fairChoices_fair.cas, fairChoices_fair.clock, w_frames, w_args, w_heap, w_applies, trivial, trivial, w_case⟩
end start1
theorem witness_1 : WitnessClaimed_1 := ⟨start1.p0, start1.e0, start1.about1, start1.theMethod, start1.args0, start1.below0, start1.atStart⟩
end Jvm.Pilot.@@N@@
