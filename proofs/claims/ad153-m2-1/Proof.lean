import JvmDerived
import JvmDerived.Pilot.@@N@@Statement
import JvmDerived.Pilot.@@N@@Code
set_option linter.unusedVariables false
set_option linter.unusedSimpArgs false
namespace Jvm.Road
open Jvm Jvm.ClassFile Sem Op Lib Jvm.Free Jvm.Stand Jvm.LawKit Jvm.RoadKit Bundle
/-! THE ROAD LAYER: one goal 'Go' for a walk, every step a law 'Go next -> Go here'; a callee's summary 'Con'. -/
abbrev Bdy : Type := MethodName × ByteArray × Nat × Option FieldType × Room
abbrev Bdy.y (B : Bdy) : MethodName := B.1
abbrev Bdy.bs (B : Bdy) : ByteArray := B.2.1
abbrev Bdy.ml (B : Bdy) : Nat := B.2.2.1
abbrev Bdy.rt (B : Bdy) : Option FieldType := B.2.2.2.1
abbrev Bdy.rm (B : Bdy) : Room := B.2.2.2.2
abbrev Dyn : Type := Program × Env × State × MethodId × Array Value × List Frame × Method × Code
abbrev Dyn.p (D : Dyn) : Program := D.1
abbrev Dyn.e (D : Dyn) : Env := D.2.1
abbrev Dyn.s (D : Dyn) : State := D.2.2.1
abbrev Dyn.m (D : Dyn) : MethodId := D.2.2.2.1
abbrev Dyn.args (D : Dyn) : Array Value := D.2.2.2.2.1
abbrev Dyn.bl (D : Dyn) : List Frame := D.2.2.2.2.2.1
abbrev Dyn.meth (D : Dyn) : Method := D.2.2.2.2.2.2.1
abbrev Dyn.c (D : Dyn) : Code := D.2.2.2.2.2.2.2
/-- a cell that this law's run has made and that no constant of EL stands for: it may be written -/
def Own (Z : State) (EL : List (String × Nat)) (n0 : Nat) (vm : Vm) (h : Heap) (x : Addr) : Prop := Safe Z EL vm h x ∧ n0 ≤ x ∧ x < h.size
def Ok (B : Bdy) (D : Dyn) : Prop := D.p.tables.exec = Jvm.exec ∧ D.c.code = B.bs ∧ D.c.maxLocals = B.ml ∧ D.meth.sig.returnType = B.rt ∧ D.meth.locks = false ∧ D.meth.name = B.y.name
def Inv (l : Launch) (Z : State) (EL : List (String × Nat)) (n0 : Nat) (kn : Bool) (B : Bdy) (D : Dyn) (h : Heap) (σ : Addr → Prop) (ce sl : Nat) (T : State) (vm0 : Vm) : Prop :=
  ∃ (k0 : Nat) (locs : List Loc), Stand D.p l D.e B.rm (D.s.setVm vm0) D.m D.args D.bl D.meth D.c T locs ce sl ∧ T.heap = h ∧ D.s.Since vm0 k0 ∧ k0 ≤ h.size ∧ Z.Warmed39 vm0 ∧ vm0.findClass B.y.cls = some D.m.cls ∧
    CHr Z EL D.s.vm D.s.heap vm0 h ∧ Fr n0 locs ∧ Old Z n0 h ∧ (∀ x, σ x → Own Z EL n0 vm0 h x) ∧ (kn = true → vm0.MethodsKnown ∧ vm0.FramesKnown D.bl)
abbrev Post : Type := Option Value → Heap → (Addr → Prop) → Prop
def Ends (Z : State) (EL : List (String × Nat)) (n0 : Nat) (B : Bdy) (D : Dyn) (Q : Post) (t0 : State) : Prop :=
  ∃ s₂ o, Steps D.p.tables D.e D.bl t0 s₂ ∧ s₂.status = .running ∧ Ended s₂ D.bl o ∧
    ∃ v L, o = .returned v ∧ Q v s₂.heap (Own Z EL n0 s₂.vm s₂.heap) ∧ Fr n0 L ∧ CHr Z EL D.s.vm D.s.heap s₂.vm s₂.heap ∧ Old Z n0 s₂.heap ∧ ReturnedEndW D.s o s₂ L B.rm.cells B.rm.slots
def Go (l : Launch) (Z : State) (a0 : Array Value) (EL : List (String × Nat)) (n0 : Nat) (kn : Bool) (B : Bdy) (D : Dyn) (Q : Post) (h : Heap) (σ : Addr → Prop) (ce sl : Nat) (pc : Nat) (Ls : Array Slot) (st : List Value) : Prop :=
  Ok B D → EW Z a0 EL → ∀ (T : State) (vm0 : Vm), Inv l Z EL n0 kn B D h σ ce sl T vm0 → Ends Z EL n0 B D Q (T.setTop (mkF D.m pc Ls st))
/-- what is asked of a callee -/
def Con (l : Launch) (Z : State) (EL : List (String × Nat)) (n0 : Nat) (kn : Bool) (B : Bdy) (ws : List Jvm.Cond) (σ : Addr → Prop) (as : Array Value) (h : Heap) (Q : Post) : Prop :=
  MetFree l B.y (head1 (Jvm.Cond.code B.y B.bs B.ml B.rt :: ws) B.rm)
    (fun a U => a = as ∧ Z.Warmed39 U.vm ∧ U.heap = h ∧ CHv Z EL U.vm h ∧ Old Z n0 h ∧ ∀ x, σ x → Own Z EL n0 U.vm h x)
    (fun _ _ bl s _ => kn = true → s.vm.MethodsKnown ∧ s.vm.FramesKnown bl)
    (fun _ U o U' => ∃ v L, o = .returned v ∧ Q v U'.heap (Own Z EL n0 U'.vm U'.heap) ∧ Fr n0 L ∧ CHr Z EL U.vm U.heap U'.vm U'.heap ∧ Old Z n0 U'.heap ∧ ReturnedEndW U o U' L B.rm.cells B.rm.slots)
def push : Option Value → List Value → List Value
  | some v, r => v :: r
  | none, r => r
theorem push_eq (v : Option Value) (r : List Value) : v.toList ++ r = push v r := by cases v <;> rfl
section Laws
variable {l : Launch} {Z : State} {a0 : Array Value} {EL : List (String × Nat)} {n0 : Nat} {kn : Bool} {B : Bdy} {D : Dyn} {Q : Post} {h h' : Heap} {σ : Addr → Prop} {ce sl : Nat} {Ls : Array Slot} {st : List Value}
theorem Con.of {ws : List Jvm.Cond} (hpn : plainName B.y.cls = true) (hEW : EW Z a0 EL) {as : Array Value} (Ls0 : Array Slot) (hef : ∀ m, entryFrame m as B.ml = mkF m 0 Ls0 [])
    (body : ∀ D : Dyn, D.s.heap = h → Go l Z a0 EL n0 kn B D Q h σ 0 0 0 Ls0 []) : Con l Z EL n0 kn B ws σ as h Q := by
  refine MetFree.of_bodySF (plainFor_of_name hpn) hisR ?_
  intro p e s m args below meth c s₁ Bd hml hP hK
  obtain ⟨rfl, hZ, hh, hC, hO, hσ⟩ := hP
  have hnm := (name_of_methodNamed Bd.named Bd.method).1
  have hown := findClass_of_methodNamed Bd.named
  have X0 : Stand p l e B.rm s m args below meth c s₁ [] 0 0 := Stand.of_body Bd
  have e0 : s₁.heap = h := by rw [← hh, Bd.state]; rfl
  obtain ⟨s2, o, st, hr, he, r⟩ := body (p, e, s, m, args, below, meth, c) hh ⟨Bd.exec, Bd.bytes, hml, Bd.returns, Bd.notSynchronized, hnm⟩ hEW s₁ s.vm
    ⟨0, [], X0, e0, (State.WarmedH.refl s).since 0, Nat.zero_le _, hZ, hown, by subst hh; exact CHr.refl hC, Fr.nil n0, hO, hσ, hK⟩
  exact ⟨s2, o, castTop (hef m) st, hr, he, r⟩
/-- one plain step -/
theorem Go.step {pc pc' : Nat} {Ls' : Array Slot} {st' : List Value} (k : ∀ T, At T D.m D.c D.bl → D.p.tables.exec = Jvm.exec → D.c.code = B.bs → ∀ t, Steps D.p.tables D.e D.bl (T.setTop (mkF D.m pc' Ls' st')) t → Steps D.p.tables D.e D.bl (T.setTop (mkF D.m pc Ls st)) t)
    (r : Go l Z a0 EL n0 kn B D Q h σ ce sl pc' Ls' st') : Go l Z a0 EL n0 kn B D Q h σ ce sl pc Ls st := by
  intro ok ew T vm0 I
  obtain ⟨s2, o, q, rest⟩ := r ok ew T vm0 I
  obtain ⟨k0, locs, X, -⟩ := I
  exact ⟨s2, o, k T X.here ok.1 ok.2.1 _ q, rest⟩
/-- fewer permissions, more room taken: what was shown serves -/
theorem Go.weaken {pc : Nat} {σ' : Addr → Prop} {ce' sl' : Nat} (hσ : ∀ x, σ' x → σ x) (hc : ce ≤ ce') (hs : sl ≤ sl') (r : Go l Z a0 EL n0 kn B D Q h σ' ce' sl' pc Ls st) : Go l Z a0 EL n0 kn B D Q h σ ce sl pc Ls st := by
  intro ok ew T vm0 I
  obtain ⟨k0, locs, X, h1, h2, h3, h4, h5, h6, h7, h8, h9, h10⟩ := I
  exact r ok ew T vm0 ⟨k0, locs, X.mono hc hs, h1, h2, h3, h4, h5, h6, h7, h8, fun x q => h9 x (hσ x q), h10⟩
/-- facts that the walk bears -/
theorem Go.old {pc : Nat} (r : Old Z n0 h → Go l Z a0 EL n0 kn B D Q h σ ce sl pc Ls st) : Go l Z a0 EL n0 kn B D Q h σ ce sl pc Ls st := by
  intro ok ew T vm0 I
  refine r ?_ ok ew T vm0 I
  obtain ⟨k0, locs, X, h1, h2, h3, h4, h5, h6, h7, h8, h9, h10⟩ := I
  exact h8
end Laws
end Jvm.Road
namespace Jvm.Road
open Jvm Jvm.ClassFile Sem Op Lib Jvm.Free Jvm.Stand Jvm.LawKit Jvm.RoadKit Bundle
theorem Go.ownAll {l : Launch} {Z : State} {a0 : Array Value} {EL : List (String × Nat)} {n0 : Nat} {kn : Bool} {B : Bdy} {D : Dyn} {Q : Post} {h : Heap} {σ : Addr → Prop} {ce sl : Nat} {Ls : Array Slot} {st : List Value} {pc : Nat}
    (r : (∀ x, σ x → n0 ≤ x ∧ x < h.size) → Go l Z a0 EL n0 kn B D Q h σ ce sl pc Ls st) : Go l Z a0 EL n0 kn B D Q h σ ce sl pc Ls st := by
  intro ok ew T vm0 I
  refine r ?_ ok ew T vm0 I
  obtain ⟨k0, locs, X, h1, h2, h3, h4, h5, h6, h7, h8, h9, h10⟩ := I
  exact fun x hx => (h9 x hx).2
theorem keep_more {h h' : Heap} {ws : List Addr} (K : Keep h h' []) : Keep h h' ws := ⟨K.1, fun x c q _ => K.2.1 x c q nin0, K.2.2⟩
end Jvm.Road
namespace Jvm.Road
open Jvm Jvm.ClassFile Sem Op Lib Jvm.Free Jvm.Stand Jvm.LawKit Jvm.RoadKit Bundle
theorem laid0 : Jvm.Sym.laidSlots [] = [] := rfl
theorem laid1 {v : Value} {vs : List Value} {L : List Slot} (hc : v.category = 1) (h : Jvm.Sym.laidSlots vs = L) : Jvm.Sym.laidSlots (v :: vs) = .val v :: L := by
  rw [Jvm.Sym.laidSlots, hc, h]; rfl
theorem laid2 {v : Value} {vs : List Value} {L : List Slot} (hc : v.category = 2) (h : Jvm.Sym.laidSlots vs = L) : Jvm.Sym.laidSlots (v :: vs) = .val v :: .second :: L := by
  rw [Jvm.Sym.laidSlots, hc, h]; rfl
theorem ent {m : MethodId} {args : Array Value} {n k : Nat} {Ls : Array Slot} {L : List Slot} (h : Jvm.Sym.laidSlots args.toList = L) (hk : n - L.length = k) (hL : L ++ List.replicate k .unset = Ls.toList) : entryFrame m args n = mkF m 0 Ls [] := by
  have : argsToLocals args n = Ls := Array.toList_inj.mp (by rw [Jvm.Sym.argsToLocals_toList, h, hk]; exact hL)
  unfold entryFrame
  rw [this]
end Jvm.Road
namespace Jvm.Road
open Jvm Jvm.ClassFile Sem Op Lib Jvm.Free Jvm.Stand Jvm.LawKit Jvm.RoadKit Bundle
/-- what i2c leaves -/
abbrev chr (x : Int32) : Int32 := x.toUInt32.toUInt16.toUInt32.toInt32
section Plain
variable {l : Launch} {Z : State} {a0 : Array Value} {EL : List (String × Nat)} {n0 : Nat} {kn : Bool} {B : Bdy} {D : Dyn} {Q : Post} {h : Heap} {σ : Addr → Prop} {ce sl : Nat} {Ls : Array Slot} {st : List Value}
theorem aload (pc : Nat) {k : Nat} {v : Value} (hd : decode B.bs pc = .ok (.aload k, 2)) (hl : Ls[k]? = some (.val v))  (r : Go l Z a0 EL n0 kn B D Q h σ ce sl (pc + 2) Ls (v :: st)) (hv : v.isRef = true := by rfl) : Go l Z a0 EL n0 kn B D Q h σ ce sl pc Ls st :=
  Go.step (fun T hA hx hb t q => XS.aload hA hx rfl (Jvm.hb hb hd) hl hv q) r
theorem aloadN (pc : Nat) {k : Fin 4} {v : Value} (hd : decode B.bs pc = .ok (.aload_n k, 1)) (hl : Ls[k.val]? = some (.val v))  (r : Go l Z a0 EL n0 kn B D Q h σ ce sl (pc + 1) Ls (v :: st)) (hv : v.isRef = true := by rfl) : Go l Z a0 EL n0 kn B D Q h σ ce sl pc Ls st :=
  Go.step (fun T hA hx hb t q => XS.aloadN hA hx rfl (Jvm.hb hb hd) hl hv q) r
theorem iload (pc : Nat) {k : Nat} {v : Int32} (hd : decode B.bs pc = .ok (.iload k, 2)) (hl : Ls[k]? = some (.val (.int v))) (r : Go l Z a0 EL n0 kn B D Q h σ ce sl (pc + 2) Ls (.int v :: st))  : Go l Z a0 EL n0 kn B D Q h σ ce sl pc Ls st :=
  Go.step (fun T hA hx hb t q => XS.iload hA hx rfl (Jvm.hb hb hd) hl q) r
theorem iloadN (pc : Nat) {k : Fin 4} {v : Int32} (hd : decode B.bs pc = .ok (.iload_n k, 1)) (hl : Ls[k.val]? = some (.val (.int v))) (r : Go l Z a0 EL n0 kn B D Q h σ ce sl (pc + 1) Ls (.int v :: st))  : Go l Z a0 EL n0 kn B D Q h σ ce sl pc Ls st :=
  Go.step (fun T hA hx hb t q => XS.iloadN hA hx rfl (Jvm.hb hb hd) hl q) r
theorem lload (pc : Nat) {k : Nat} {v : Int64} (hd : decode B.bs pc = .ok (.lload k, 2)) (hl : Ls[k]? = some (.val (.long v))) (r : Go l Z a0 EL n0 kn B D Q h σ ce sl (pc + 2) Ls (.long v :: st))  : Go l Z a0 EL n0 kn B D Q h σ ce sl pc Ls st :=
  Go.step (fun T hA hx hb t q => XT.lload hA hx rfl (Jvm.hb hb hd) hl q) r
theorem lloadN (pc : Nat) {k : Fin 4} {v : Int64} (hd : decode B.bs pc = .ok (.lload_n k, 1)) (hl : Ls[k.val]? = some (.val (.long v))) (r : Go l Z a0 EL n0 kn B D Q h σ ce sl (pc + 1) Ls (.long v :: st))  : Go l Z a0 EL n0 kn B D Q h σ ce sl pc Ls st :=
  Go.step (fun T hA hx hb t q => XT.lloadN hA hx rfl (Jvm.hb hb hd) hl q) r
theorem iconst (pc : Nat) {i : Int} (v : Int32) (hd : decode B.bs pc = .ok (.iconst i, 1)) (hv : Int32.ofInt i = v) (r : Go l Z a0 EL n0 kn B D Q h σ ce sl (pc + 1) Ls (.int v :: st))  : Go l Z a0 EL n0 kn B D Q h σ ce sl pc Ls st :=
  Go.step (fun T hA hx hb t q => XT.iconstV hA hx rfl v (Jvm.hb hb hd) hv q) r
theorem bipush (pc : Nat) {i : Int} (v : Int32) (hd : decode B.bs pc = .ok (.bipush i, 2)) (hv : (Int8.ofInt i).toInt32 = v) (r : Go l Z a0 EL n0 kn B D Q h σ ce sl (pc + 2) Ls (.int v :: st))  : Go l Z a0 EL n0 kn B D Q h σ ce sl pc Ls st :=
  Go.step (fun T hA hx hb t q => XT.bipushV hA hx rfl v (Jvm.hb hb hd) hv q) r
theorem sipush (pc : Nat) {i : Int} (v : Int32) (hd : decode B.bs pc = .ok (.sipush i, 3)) (hv : (Int16.ofInt i).toInt32 = v) (r : Go l Z a0 EL n0 kn B D Q h σ ce sl (pc + 3) Ls (.int v :: st))  : Go l Z a0 EL n0 kn B D Q h σ ce sl pc Ls st :=
  Go.step (fun T hA hx hb t q => XT.sipushV hA hx rfl v (Jvm.hb hb hd) hv q) r
theorem lconst (pc : Nat) {k : Fin 2} (v : Int64) (hd : decode B.bs pc = .ok (.lconst k, 1)) (hv : Int64.ofNat k = v) (r : Go l Z a0 EL n0 kn B D Q h σ ce sl (pc + 1) Ls (.long v :: st))  : Go l Z a0 EL n0 kn B D Q h σ ce sl pc Ls st :=
  Go.step (fun T hA hx hb t q => XT.lconstV hA hx rfl v (Jvm.hb hb hd) hv q) r
theorem aconstNull (pc : Nat)  (hd : decode B.bs pc = .ok (.aconst_null, 1))  (r : Go l Z a0 EL n0 kn B D Q h σ ce sl (pc + 1) Ls (.null :: st))  : Go l Z a0 EL n0 kn B D Q h σ ce sl pc Ls st :=
  Go.step (fun T hA hx hb t q => XS.aconstNull hA hx rfl (Jvm.hb hb hd) q) r
theorem iadd (pc : Nat) {x y : Int32} (hd : decode B.bs pc = .ok (.iadd, 1))  (r : Go l Z a0 EL n0 kn B D Q h σ ce sl (pc + 1) Ls (.int (x + y) :: st))  : Go l Z a0 EL n0 kn B D Q h σ ce sl pc Ls (.int y :: .int x :: st) :=
  Go.step (fun T hA hx hb t q => XS.iadd hA hx rfl (Jvm.hb hb hd) rfl q) r
theorem isub (pc : Nat) {x y : Int32} (hd : decode B.bs pc = .ok (.isub, 1))  (r : Go l Z a0 EL n0 kn B D Q h σ ce sl (pc + 1) Ls (.int (x - y) :: st))  : Go l Z a0 EL n0 kn B D Q h σ ce sl pc Ls (.int y :: .int x :: st) :=
  Go.step (fun T hA hx hb t q => XS.isub hA hx rfl (Jvm.hb hb hd) rfl q) r
theorem iand (pc : Nat) {x y : Int32} (hd : decode B.bs pc = .ok (.iand, 1))  (r : Go l Z a0 EL n0 kn B D Q h σ ce sl (pc + 1) Ls (.int (x &&& y) :: st))  : Go l Z a0 EL n0 kn B D Q h σ ce sl pc Ls (.int y :: .int x :: st) :=
  Go.step (fun T hA hx hb t q => XS.iand hA hx rfl (Jvm.hb hb hd) rfl q) r
theorem imul (pc : Nat) {x y : Int32} (hd : decode B.bs pc = .ok (.imul, 1))  (r : Go l Z a0 EL n0 kn B D Q h σ ce sl (pc + 1) Ls (.int (x * y) :: st))  : Go l Z a0 EL n0 kn B D Q h σ ce sl pc Ls (.int y :: .int x :: st) :=
  Go.step (fun T hA hx hb t q => XS.imul hA hx rfl (Jvm.hb hb hd) rfl q) r
theorem ixor (pc : Nat) {x y : Int32} (hd : decode B.bs pc = .ok (.ixor, 1))  (r : Go l Z a0 EL n0 kn B D Q h σ ce sl (pc + 1) Ls (.int (x ^^^ y) :: st))  : Go l Z a0 EL n0 kn B D Q h σ ce sl pc Ls (.int y :: .int x :: st) :=
  Go.step (fun T hA hx hb t q => XT.ixor hA hx rfl (Jvm.hb hb hd) rfl q) r
theorem ior (pc : Nat) {x y : Int32} (hd : decode B.bs pc = .ok (.ior, 1))  (r : Go l Z a0 EL n0 kn B D Q h σ ce sl (pc + 1) Ls (.int (x ||| y) :: st))  : Go l Z a0 EL n0 kn B D Q h σ ce sl pc Ls (.int y :: .int x :: st) :=
  Go.step (fun T hA hx hb t q => XT.ior hA hx rfl (Jvm.hb hb hd) rfl q) r
theorem ishl (pc : Nat) {x y : Int32} (hd : decode B.bs pc = .ok (.ishl, 1))  (r : Go l Z a0 EL n0 kn B D Q h σ ce sl (pc + 1) Ls (.int (x <<< (y &&& 31)) :: st))  : Go l Z a0 EL n0 kn B D Q h σ ce sl pc Ls (.int y :: .int x :: st) :=
  Go.step (fun T hA hx hb t q => XT.ishl hA hx rfl (Jvm.hb hb hd) rfl q) r
theorem ishr (pc : Nat) {x y : Int32} (hd : decode B.bs pc = .ok (.ishr, 1))  (r : Go l Z a0 EL n0 kn B D Q h σ ce sl (pc + 1) Ls (.int (x >>> (y &&& 31)) :: st))  : Go l Z a0 EL n0 kn B D Q h σ ce sl pc Ls (.int y :: .int x :: st) :=
  Go.step (fun T hA hx hb t q => XT.ishr hA hx rfl (Jvm.hb hb hd) rfl q) r
theorem iushr (pc : Nat) {x y : Int32} (hd : decode B.bs pc = .ok (.iushr, 1))  (r : Go l Z a0 EL n0 kn B D Q h σ ce sl (pc + 1) Ls (.int (XT.ushr x y) :: st))  : Go l Z a0 EL n0 kn B D Q h σ ce sl pc Ls (.int y :: .int x :: st) :=
  Go.step (fun T hA hx hb t q => XT.iushr hA hx rfl (Jvm.hb hb hd) rfl q) r
theorem idiv (pc : Nat) {x y : Int32} (hd : decode B.bs pc = .ok (.idiv, 1)) (hy : y ≠ 0) (r : Go l Z a0 EL n0 kn B D Q h σ ce sl (pc + 1) Ls (.int (x / y) :: st))  : Go l Z a0 EL n0 kn B D Q h σ ce sl pc Ls (.int y :: .int x :: st) :=
  Go.step (fun T hA hx hb t q => XS.idiv hA hx rfl (Jvm.hb hb hd) rfl hy q) r
theorem irem (pc : Nat) {x y : Int32} (hd : decode B.bs pc = .ok (.irem, 1)) (hy : y ≠ 0) (r : Go l Z a0 EL n0 kn B D Q h σ ce sl (pc + 1) Ls (.int (x % y) :: st))  : Go l Z a0 EL n0 kn B D Q h σ ce sl pc Ls (.int y :: .int x :: st) :=
  Go.step (fun T hA hx hb t q => XS.irem hA hx rfl (Jvm.hb hb hd) rfl hy (by rw [irem_eq_mod]; exact q)) r
theorem ineg (pc : Nat) {x : Int32} (hd : decode B.bs pc = .ok (.ineg, 1))  (r : Go l Z a0 EL n0 kn B D Q h σ ce sl (pc + 1) Ls (.int (-x) :: st))  : Go l Z a0 EL n0 kn B D Q h σ ce sl pc Ls (.int x :: st) :=
  Go.step (fun T hA hx hb t q => XS.ineg hA hx rfl (Jvm.hb hb hd) rfl q) r
theorem ladd (pc : Nat) {x y : Int64} (hd : decode B.bs pc = .ok (.ladd, 1))  (r : Go l Z a0 EL n0 kn B D Q h σ ce sl (pc + 1) Ls (.long (x + y) :: st))  : Go l Z a0 EL n0 kn B D Q h σ ce sl pc Ls (.long y :: .long x :: st) :=
  Go.step (fun T hA hx hb t q => XT.ladd hA hx rfl (Jvm.hb hb hd) rfl q) r
theorem lsub (pc : Nat) {x y : Int64} (hd : decode B.bs pc = .ok (.lsub, 1))  (r : Go l Z a0 EL n0 kn B D Q h σ ce sl (pc + 1) Ls (.long (x - y) :: st))  : Go l Z a0 EL n0 kn B D Q h σ ce sl pc Ls (.long y :: .long x :: st) :=
  Go.step (fun T hA hx hb t q => XT.lsub hA hx rfl (Jvm.hb hb hd) rfl q) r
theorem land (pc : Nat) {x y : Int64} (hd : decode B.bs pc = .ok (.land, 1))  (r : Go l Z a0 EL n0 kn B D Q h σ ce sl (pc + 1) Ls (.long (x &&& y) :: st))  : Go l Z a0 EL n0 kn B D Q h σ ce sl pc Ls (.long y :: .long x :: st) :=
  Go.step (fun T hA hx hb t q => XT.land hA hx rfl (Jvm.hb hb hd) rfl q) r
theorem lmul (pc : Nat) {x y : Int64} (hd : decode B.bs pc = .ok (.lmul, 1))  (r : Go l Z a0 EL n0 kn B D Q h σ ce sl (pc + 1) Ls (.long (x * y) :: st))  : Go l Z a0 EL n0 kn B D Q h σ ce sl pc Ls (.long y :: .long x :: st) :=
  Go.step (fun T hA hx hb t q => XT.lmul hA hx rfl (Jvm.hb hb hd) rfl q) r
theorem lxor (pc : Nat) {x y : Int64} (hd : decode B.bs pc = .ok (.lxor, 1))  (r : Go l Z a0 EL n0 kn B D Q h σ ce sl (pc + 1) Ls (.long (x ^^^ y) :: st))  : Go l Z a0 EL n0 kn B D Q h σ ce sl pc Ls (.long y :: .long x :: st) :=
  Go.step (fun T hA hx hb t q => XT.lxor hA hx rfl (Jvm.hb hb hd) rfl q) r
theorem lor (pc : Nat) {x y : Int64} (hd : decode B.bs pc = .ok (.lor, 1))  (r : Go l Z a0 EL n0 kn B D Q h σ ce sl (pc + 1) Ls (.long (x ||| y) :: st))  : Go l Z a0 EL n0 kn B D Q h σ ce sl pc Ls (.long y :: .long x :: st) :=
  Go.step (fun T hA hx hb t q => XT.lor hA hx rfl (Jvm.hb hb hd) rfl q) r
theorem lushr (pc : Nat) {x : Int64} {y : Int32} (hd : decode B.bs pc = .ok (.lushr, 1))  (r : Go l Z a0 EL n0 kn B D Q h σ ce sl (pc + 1) Ls (.long (XT.ushrL x y) :: st))  : Go l Z a0 EL n0 kn B D Q h σ ce sl pc Ls (.int y :: .long x :: st) :=
  Go.step (fun T hA hx hb t q => XT.lushr hA hx rfl (Jvm.hb hb hd) rfl q) r
theorem ldiv (pc : Nat) {x y : Int64} (hd : decode B.bs pc = .ok (.ldiv, 1)) (hy : y ≠ 0) (r : Go l Z a0 EL n0 kn B D Q h σ ce sl (pc + 1) Ls (.long (x / y) :: st))  : Go l Z a0 EL n0 kn B D Q h σ ce sl pc Ls (.long y :: .long x :: st) :=
  Go.step (fun T hA hx hb t q => XT.ldiv hA hx rfl (Jvm.hb hb hd) rfl hy q) r
theorem lrem (pc : Nat) {x y : Int64} (hd : decode B.bs pc = .ok (.lrem, 1)) (hy : y ≠ 0) (r : Go l Z a0 EL n0 kn B D Q h σ ce sl (pc + 1) Ls (.long (x - (x / y) * y) :: st))  : Go l Z a0 EL n0 kn B D Q h σ ce sl pc Ls (.long y :: .long x :: st) :=
  Go.step (fun T hA hx hb t q => XT.lrem hA hx rfl (Jvm.hb hb hd) rfl hy q) r
theorem lneg (pc : Nat) {x : Int64} (hd : decode B.bs pc = .ok (.lneg, 1))  (r : Go l Z a0 EL n0 kn B D Q h σ ce sl (pc + 1) Ls (.long (-x) :: st))  : Go l Z a0 EL n0 kn B D Q h σ ce sl pc Ls (.long x :: st) :=
  Go.step (fun T hA hx hb t q => XT.lneg hA hx rfl (Jvm.hb hb hd) rfl q) r
theorem i2l (pc : Nat) {x : Int32} (hd : decode B.bs pc = .ok (.i2l, 1))  (r : Go l Z a0 EL n0 kn B D Q h σ ce sl (pc + 1) Ls (.long x.toInt64 :: st))  : Go l Z a0 EL n0 kn B D Q h σ ce sl pc Ls (.int x :: st) :=
  Go.step (fun T hA hx hb t q => XT.i2l hA hx rfl (Jvm.hb hb hd) rfl q) r
theorem l2i (pc : Nat) {x : Int64} (hd : decode B.bs pc = .ok (.l2i, 1))  (r : Go l Z a0 EL n0 kn B D Q h σ ce sl (pc + 1) Ls (.int x.toInt32 :: st))  : Go l Z a0 EL n0 kn B D Q h σ ce sl pc Ls (.long x :: st) :=
  Go.step (fun T hA hx hb t q => XT.l2i hA hx rfl (Jvm.hb hb hd) rfl q) r
theorem i2b (pc : Nat) {x : Int32} (hd : decode B.bs pc = .ok (.i2b, 1))  (r : Go l Z a0 EL n0 kn B D Q h σ ce sl (pc + 1) Ls (.int x.toInt8.toInt32 :: st))  : Go l Z a0 EL n0 kn B D Q h σ ce sl pc Ls (.int x :: st) :=
  Go.step (fun T hA hx hb t q => XT.i2b hA hx rfl (Jvm.hb hb hd) rfl q) r
theorem i2c (pc : Nat) {x : Int32} (hd : decode B.bs pc = .ok (.i2c, 1))  (r : Go l Z a0 EL n0 kn B D Q h σ ce sl (pc + 1) Ls (.int (chr x) :: st))  : Go l Z a0 EL n0 kn B D Q h σ ce sl pc Ls (.int x :: st) :=
  Go.step (fun T hA hx hb t q => XT.i2c hA hx rfl (Jvm.hb hb hd) rfl q) r
theorem lcmp (pc : Nat) {x y : Int64} (hd : decode B.bs pc = .ok (.lcmp, 1))  (r : Go l Z a0 EL n0 kn B D Q h σ ce sl (pc + 1) Ls (.int (XT.cmpL x y) :: st))  : Go l Z a0 EL n0 kn B D Q h σ ce sl pc Ls (.long y :: .long x :: st) :=
  Go.step (fun T hA hx hb t q => XT.lcmp hA hx rfl (Jvm.hb hb hd) rfl q) r
theorem dup (pc : Nat) {v : Value} (hd : decode B.bs pc = .ok (.dup, 1))  (r : Go l Z a0 EL n0 kn B D Q h σ ce sl (pc + 1) Ls (v :: v :: st)) (hc : v.category = 1 := by rfl) : Go l Z a0 EL n0 kn B D Q h σ ce sl pc Ls (v :: st) :=
  Go.step (fun T hA hx hb t q => XS.dup hA hx rfl (Jvm.hb hb hd) rfl hc q) r
theorem dupX1 (pc : Nat) {v w : Value} (hd : decode B.bs pc = .ok (.dup_x1, 1))   (r : Go l Z a0 EL n0 kn B D Q h σ ce sl (pc + 1) Ls (v :: w :: v :: st)) (hc : v.category = 1 := by rfl) (hw : w.category = 1 := by rfl) : Go l Z a0 EL n0 kn B D Q h σ ce sl pc Ls (v :: w :: st) :=
  Go.step (fun T hA hx hb t q => XT.dupX1 hA hx rfl (Jvm.hb hb hd) rfl hc hw q) r
theorem pop (pc : Nat) {v : Value} (hd : decode B.bs pc = .ok (.pop, 1))  (r : Go l Z a0 EL n0 kn B D Q h σ ce sl (pc + 1) Ls st) (hc : v.category = 1 := by rfl) : Go l Z a0 EL n0 kn B D Q h σ ce sl pc Ls (v :: st) :=
  Go.step (fun T hA hx hb t q => XT.pop hA hx rfl (Jvm.hb hb hd) rfl hc q) r
theorem istore (pc : Nat) {k : Nat} {x : Int32} (l' : Array Slot) (hd : decode B.bs pc = .ok (.istore k, 2)) (hl : storeLocals Ls k (.int x) = some l') (r : Go l Z a0 EL n0 kn B D Q h σ ce sl (pc + 2) l' st)  : Go l Z a0 EL n0 kn B D Q h σ ce sl pc Ls (.int x :: st) :=
  Go.step (fun T hA hx hb t q => XS.istore hA hx rfl (Jvm.hb hb hd) rfl hl q) r
theorem istoreN (pc : Nat) {k : Fin 4} {x : Int32} (l' : Array Slot) (hd : decode B.bs pc = .ok (.istore_n k, 1)) (hl : storeLocals Ls k.val (.int x) = some l') (r : Go l Z a0 EL n0 kn B D Q h σ ce sl (pc + 1) l' st)  : Go l Z a0 EL n0 kn B D Q h σ ce sl pc Ls (.int x :: st) :=
  Go.step (fun T hA hx hb t q => XS.istoreN hA hx rfl (Jvm.hb hb hd) rfl hl q) r
theorem lstore (pc : Nat) {k : Nat} {x : Int64} (l' : Array Slot) (hd : decode B.bs pc = .ok (.lstore k, 2)) (hl : storeLocals Ls k (.long x) = some l') (r : Go l Z a0 EL n0 kn B D Q h σ ce sl (pc + 2) l' st)  : Go l Z a0 EL n0 kn B D Q h σ ce sl pc Ls (.long x :: st) :=
  Go.step (fun T hA hx hb t q => XT.lstore hA hx rfl (Jvm.hb hb hd) rfl hl q) r
theorem lstoreN (pc : Nat) {k : Fin 4} {x : Int64} (l' : Array Slot) (hd : decode B.bs pc = .ok (.lstore_n k, 1)) (hl : storeLocals Ls k.val (.long x) = some l') (r : Go l Z a0 EL n0 kn B D Q h σ ce sl (pc + 1) l' st)  : Go l Z a0 EL n0 kn B D Q h σ ce sl pc Ls (.long x :: st) :=
  Go.step (fun T hA hx hb t q => XT.lstoreN hA hx rfl (Jvm.hb hb hd) rfl hl q) r
theorem astore (pc : Nat) {k : Nat} {v : Value} (l' : Array Slot) (hd : decode B.bs pc = .ok (.astore k, 2)) (hl : storeLocals Ls k v = some l')  (r : Go l Z a0 EL n0 kn B D Q h σ ce sl (pc + 2) l' st) (hv : v.isRef = true := by rfl) : Go l Z a0 EL n0 kn B D Q h σ ce sl pc Ls (v :: st) :=
  Go.step (fun T hA hx hb t q => XS.astore hA hx rfl (Jvm.hb hb hd) rfl hv hl q) r
theorem astoreN (pc : Nat) {k : Fin 4} {v : Value} (l' : Array Slot) (hd : decode B.bs pc = .ok (.astore_n k, 1)) (hl : storeLocals Ls k.val v = some l')  (r : Go l Z a0 EL n0 kn B D Q h σ ce sl (pc + 1) l' st) (hv : v.isRef = true := by rfl) : Go l Z a0 EL n0 kn B D Q h σ ce sl pc Ls (v :: st) :=
  Go.step (fun T hA hx hb t q => XS.astoreN hA hx rfl (Jvm.hb hb hd) rfl hv hl q) r
theorem iinc (pc : Nat) {k : Nat} {c : Int} {x : Int32} (v : Int32) (l' : Array Slot) (hd : decode B.bs pc = .ok (.iinc k c, 3)) (hv : Int32.ofInt c = v) (hl : Ls[k]? = some (.val (.int x))) (hl' : storeLocals Ls k (.int (x + v)) = some l') (r : Go l Z a0 EL n0 kn B D Q h σ ce sl (pc + 3) l' st)  : Go l Z a0 EL n0 kn B D Q h σ ce sl pc Ls st :=
  Go.step (fun T hA hx hb t q => XT.iincV hA hx rfl v (Jvm.hb hb hd) hv hl hl' q) r
theorem goto (pc : Nat) (tgt : Nat) {o : Int} (hd : decode B.bs pc = .ok (.goto o, 3)) (ht : (pc : Int) + o = (tgt : Int)) (r : Go l Z a0 EL n0 kn B D Q h σ ce sl tgt Ls st) : Go l Z a0 EL n0 kn B D Q h σ ce sl pc Ls st :=
  Go.step (fun T hA hx hb t q => XS.goto hA hx rfl (pc0 := pc) (pc' := tgt) rfl (Jvm.hb hb hd) (by rw [ht]; exact Int.natCast_nonneg _) (by rw [ht]; rfl) q) r
theorem icmp_eq (pc : Nat) (tgt : Nat) {o : Int} {x y : Int32} (hd : decode B.bs pc = .ok (.if_icmp .eq o, 3)) (ht : (pc : Int) + o = (tgt : Int)) (yes : x = y → Go l Z a0 EL n0 kn B D Q h σ ce sl tgt Ls st) (no : ¬ (x = y) → Go l Z a0 EL n0 kn B D Q h σ ce sl (pc + 3) Ls st) : Go l Z a0 EL n0 kn B D Q h σ ce sl pc Ls (.int y :: .int x :: st) := by
  by_cases c : x = y
  · exact Go.step (fun T hA hx hb t q => XS.icmpYes hA hx rfl (pc0 := pc) (pc' := tgt) rfl (Jvm.hb hb hd) rfl (XT.ii_eq_t c) (by rw [ht]; exact Int.natCast_nonneg _) (by rw [ht]; rfl) q) (yes c)
  · exact Go.step (fun T hA hx hb t q => XS.icmpNo hA hx rfl (Jvm.hb hb hd) rfl (XT.ii_eq_f c) q) (no c)
theorem icmp_ne (pc : Nat) (tgt : Nat) {o : Int} {x y : Int32} (hd : decode B.bs pc = .ok (.if_icmp .ne o, 3)) (ht : (pc : Int) + o = (tgt : Int)) (yes : ¬ (x = y) → Go l Z a0 EL n0 kn B D Q h σ ce sl tgt Ls st) (no : x = y → Go l Z a0 EL n0 kn B D Q h σ ce sl (pc + 3) Ls st) : Go l Z a0 EL n0 kn B D Q h σ ce sl pc Ls (.int y :: .int x :: st) := by
  by_cases c : x = y
  · exact Go.step (fun T hA hx hb t q => XS.icmpNo hA hx rfl (Jvm.hb hb hd) rfl (XT.ii_ne_f c) q) (no c)
  · exact Go.step (fun T hA hx hb t q => XS.icmpYes hA hx rfl (pc0 := pc) (pc' := tgt) rfl (Jvm.hb hb hd) rfl (XT.ii_ne_t c) (by rw [ht]; exact Int.natCast_nonneg _) (by rw [ht]; rfl) q) (yes c)
theorem icmp_lt (pc : Nat) (tgt : Nat) {o : Int} {x y : Int32} (hd : decode B.bs pc = .ok (.if_icmp .lt o, 3)) (ht : (pc : Int) + o = (tgt : Int)) (yes : x < y → Go l Z a0 EL n0 kn B D Q h σ ce sl tgt Ls st) (no : ¬ (x < y) → Go l Z a0 EL n0 kn B D Q h σ ce sl (pc + 3) Ls st) : Go l Z a0 EL n0 kn B D Q h σ ce sl pc Ls (.int y :: .int x :: st) := by
  by_cases c : x < y
  · exact Go.step (fun T hA hx hb t q => XS.icmpYes hA hx rfl (pc0 := pc) (pc' := tgt) rfl (Jvm.hb hb hd) rfl (XT.ii_lt_t c) (by rw [ht]; exact Int.natCast_nonneg _) (by rw [ht]; rfl) q) (yes c)
  · exact Go.step (fun T hA hx hb t q => XS.icmpNo hA hx rfl (Jvm.hb hb hd) rfl (XT.ii_lt_f c) q) (no c)
theorem icmp_ge (pc : Nat) (tgt : Nat) {o : Int} {x y : Int32} (hd : decode B.bs pc = .ok (.if_icmp .ge o, 3)) (ht : (pc : Int) + o = (tgt : Int)) (yes : ¬ (x < y) → Go l Z a0 EL n0 kn B D Q h σ ce sl tgt Ls st) (no : x < y → Go l Z a0 EL n0 kn B D Q h σ ce sl (pc + 3) Ls st) : Go l Z a0 EL n0 kn B D Q h σ ce sl pc Ls (.int y :: .int x :: st) := by
  by_cases c : x < y
  · exact Go.step (fun T hA hx hb t q => XS.icmpNo hA hx rfl (Jvm.hb hb hd) rfl (XT.ii_ge_f c) q) (no c)
  · exact Go.step (fun T hA hx hb t q => XS.icmpYes hA hx rfl (pc0 := pc) (pc' := tgt) rfl (Jvm.hb hb hd) rfl (XT.ii_ge_t c) (by rw [ht]; exact Int.natCast_nonneg _) (by rw [ht]; rfl) q) (yes c)
theorem icmp_gt (pc : Nat) (tgt : Nat) {o : Int} {x y : Int32} (hd : decode B.bs pc = .ok (.if_icmp .gt o, 3)) (ht : (pc : Int) + o = (tgt : Int)) (yes : y < x → Go l Z a0 EL n0 kn B D Q h σ ce sl tgt Ls st) (no : ¬ (y < x) → Go l Z a0 EL n0 kn B D Q h σ ce sl (pc + 3) Ls st) : Go l Z a0 EL n0 kn B D Q h σ ce sl pc Ls (.int y :: .int x :: st) := by
  by_cases c : y < x
  · exact Go.step (fun T hA hx hb t q => XS.icmpYes hA hx rfl (pc0 := pc) (pc' := tgt) rfl (Jvm.hb hb hd) rfl (XT.ii_gt_t c) (by rw [ht]; exact Int.natCast_nonneg _) (by rw [ht]; rfl) q) (yes c)
  · exact Go.step (fun T hA hx hb t q => XS.icmpNo hA hx rfl (Jvm.hb hb hd) rfl (XT.ii_gt_f c) q) (no c)
theorem icmp_le (pc : Nat) (tgt : Nat) {o : Int} {x y : Int32} (hd : decode B.bs pc = .ok (.if_icmp .le o, 3)) (ht : (pc : Int) + o = (tgt : Int)) (yes : ¬ (y < x) → Go l Z a0 EL n0 kn B D Q h σ ce sl tgt Ls st) (no : y < x → Go l Z a0 EL n0 kn B D Q h σ ce sl (pc + 3) Ls st) : Go l Z a0 EL n0 kn B D Q h σ ce sl pc Ls (.int y :: .int x :: st) := by
  by_cases c : y < x
  · exact Go.step (fun T hA hx hb t q => XS.icmpNo hA hx rfl (Jvm.hb hb hd) rfl (XT.ii_le_f c) q) (no c)
  · exact Go.step (fun T hA hx hb t q => XS.icmpYes hA hx rfl (pc0 := pc) (pc' := tgt) rfl (Jvm.hb hb hd) rfl (XT.ii_le_t c) (by rw [ht]; exact Int.natCast_nonneg _) (by rw [ht]; rfl) q) (yes c)
theorem if_eq (pc : Nat) (tgt : Nat) {o : Int} {x : Int32} (hd : decode B.bs pc = .ok (.ifCond .eq o, 3)) (ht : (pc : Int) + o = (tgt : Int)) (yes : x = 0 → Go l Z a0 EL n0 kn B D Q h σ ce sl tgt Ls st) (no : ¬ (x = 0) → Go l Z a0 EL n0 kn B D Q h σ ce sl (pc + 3) Ls st) : Go l Z a0 EL n0 kn B D Q h σ ce sl pc Ls (.int x :: st) := by
  by_cases c : x = 0
  · exact Go.step (fun T hA hx hb t q => XS.ifYes hA hx rfl (pc0 := pc) (pc' := tgt) rfl (Jvm.hb hb hd) rfl (XT.i0_eq_t c) (by rw [ht]; exact Int.natCast_nonneg _) (by rw [ht]; rfl) q) (yes c)
  · exact Go.step (fun T hA hx hb t q => XS.ifNo hA hx rfl (Jvm.hb hb hd) rfl (XT.i0_eq_f c) q) (no c)
theorem if_ne (pc : Nat) (tgt : Nat) {o : Int} {x : Int32} (hd : decode B.bs pc = .ok (.ifCond .ne o, 3)) (ht : (pc : Int) + o = (tgt : Int)) (yes : ¬ (x = 0) → Go l Z a0 EL n0 kn B D Q h σ ce sl tgt Ls st) (no : x = 0 → Go l Z a0 EL n0 kn B D Q h σ ce sl (pc + 3) Ls st) : Go l Z a0 EL n0 kn B D Q h σ ce sl pc Ls (.int x :: st) := by
  by_cases c : x = 0
  · exact Go.step (fun T hA hx hb t q => XS.ifNo hA hx rfl (Jvm.hb hb hd) rfl (XT.i0_ne_f c) q) (no c)
  · exact Go.step (fun T hA hx hb t q => XS.ifYes hA hx rfl (pc0 := pc) (pc' := tgt) rfl (Jvm.hb hb hd) rfl (XT.i0_ne_t c) (by rw [ht]; exact Int.natCast_nonneg _) (by rw [ht]; rfl) q) (yes c)
theorem if_lt (pc : Nat) (tgt : Nat) {o : Int} {x : Int32} (hd : decode B.bs pc = .ok (.ifCond .lt o, 3)) (ht : (pc : Int) + o = (tgt : Int)) (yes : x < 0 → Go l Z a0 EL n0 kn B D Q h σ ce sl tgt Ls st) (no : ¬ (x < 0) → Go l Z a0 EL n0 kn B D Q h σ ce sl (pc + 3) Ls st) : Go l Z a0 EL n0 kn B D Q h σ ce sl pc Ls (.int x :: st) := by
  by_cases c : x < 0
  · exact Go.step (fun T hA hx hb t q => XS.ifYes hA hx rfl (pc0 := pc) (pc' := tgt) rfl (Jvm.hb hb hd) rfl (XT.i0_lt_t c) (by rw [ht]; exact Int.natCast_nonneg _) (by rw [ht]; rfl) q) (yes c)
  · exact Go.step (fun T hA hx hb t q => XS.ifNo hA hx rfl (Jvm.hb hb hd) rfl (XT.i0_lt_f c) q) (no c)
theorem if_ge (pc : Nat) (tgt : Nat) {o : Int} {x : Int32} (hd : decode B.bs pc = .ok (.ifCond .ge o, 3)) (ht : (pc : Int) + o = (tgt : Int)) (yes : ¬ (x < 0) → Go l Z a0 EL n0 kn B D Q h σ ce sl tgt Ls st) (no : x < 0 → Go l Z a0 EL n0 kn B D Q h σ ce sl (pc + 3) Ls st) : Go l Z a0 EL n0 kn B D Q h σ ce sl pc Ls (.int x :: st) := by
  by_cases c : x < 0
  · exact Go.step (fun T hA hx hb t q => XS.ifNo hA hx rfl (Jvm.hb hb hd) rfl (XT.i0_ge_f c) q) (no c)
  · exact Go.step (fun T hA hx hb t q => XS.ifYes hA hx rfl (pc0 := pc) (pc' := tgt) rfl (Jvm.hb hb hd) rfl (XT.i0_ge_t c) (by rw [ht]; exact Int.natCast_nonneg _) (by rw [ht]; rfl) q) (yes c)
theorem if_gt (pc : Nat) (tgt : Nat) {o : Int} {x : Int32} (hd : decode B.bs pc = .ok (.ifCond .gt o, 3)) (ht : (pc : Int) + o = (tgt : Int)) (yes : 0 < x → Go l Z a0 EL n0 kn B D Q h σ ce sl tgt Ls st) (no : ¬ (0 < x) → Go l Z a0 EL n0 kn B D Q h σ ce sl (pc + 3) Ls st) : Go l Z a0 EL n0 kn B D Q h σ ce sl pc Ls (.int x :: st) := by
  by_cases c : 0 < x
  · exact Go.step (fun T hA hx hb t q => XS.ifYes hA hx rfl (pc0 := pc) (pc' := tgt) rfl (Jvm.hb hb hd) rfl (XT.i0_gt_t c) (by rw [ht]; exact Int.natCast_nonneg _) (by rw [ht]; rfl) q) (yes c)
  · exact Go.step (fun T hA hx hb t q => XS.ifNo hA hx rfl (Jvm.hb hb hd) rfl (XT.i0_gt_f c) q) (no c)
theorem if_le (pc : Nat) (tgt : Nat) {o : Int} {x : Int32} (hd : decode B.bs pc = .ok (.ifCond .le o, 3)) (ht : (pc : Int) + o = (tgt : Int)) (yes : ¬ (0 < x) → Go l Z a0 EL n0 kn B D Q h σ ce sl tgt Ls st) (no : 0 < x → Go l Z a0 EL n0 kn B D Q h σ ce sl (pc + 3) Ls st) : Go l Z a0 EL n0 kn B D Q h σ ce sl pc Ls (.int x :: st) := by
  by_cases c : 0 < x
  · exact Go.step (fun T hA hx hb t q => XS.ifNo hA hx rfl (Jvm.hb hb hd) rfl (XT.i0_le_f c) q) (no c)
  · exact Go.step (fun T hA hx hb t q => XS.ifYes hA hx rfl (pc0 := pc) (pc' := tgt) rfl (Jvm.hb hb hd) rfl (XT.i0_le_t c) (by rw [ht]; exact Int.natCast_nonneg _) (by rw [ht]; rfl) q) (yes c)
theorem ifl_eq (pc : Nat) (tgt : Nat) {o : Int} {x y : Int64} (hd : decode B.bs pc = .ok (.ifCond .eq o, 3)) (ht : (pc : Int) + o = (tgt : Int)) (yes : x = y → Go l Z a0 EL n0 kn B D Q h σ ce sl tgt Ls st) (no : ¬ (x = y) → Go l Z a0 EL n0 kn B D Q h σ ce sl (pc + 3) Ls st) : Go l Z a0 EL n0 kn B D Q h σ ce sl pc Ls (.int (XT.cmpL x y) :: st) := by
  by_cases c : x = y
  · exact Go.step (fun T hA hx hb t q => XS.ifYes hA hx rfl (pc0 := pc) (pc' := tgt) rfl (Jvm.hb hb hd) rfl (XT.ll_eq_t c) (by rw [ht]; exact Int.natCast_nonneg _) (by rw [ht]; rfl) q) (yes c)
  · exact Go.step (fun T hA hx hb t q => XS.ifNo hA hx rfl (Jvm.hb hb hd) rfl (XT.ll_eq_f c) q) (no c)
theorem ifl_ne (pc : Nat) (tgt : Nat) {o : Int} {x y : Int64} (hd : decode B.bs pc = .ok (.ifCond .ne o, 3)) (ht : (pc : Int) + o = (tgt : Int)) (yes : ¬ (x = y) → Go l Z a0 EL n0 kn B D Q h σ ce sl tgt Ls st) (no : x = y → Go l Z a0 EL n0 kn B D Q h σ ce sl (pc + 3) Ls st) : Go l Z a0 EL n0 kn B D Q h σ ce sl pc Ls (.int (XT.cmpL x y) :: st) := by
  by_cases c : x = y
  · exact Go.step (fun T hA hx hb t q => XS.ifNo hA hx rfl (Jvm.hb hb hd) rfl (XT.ll_ne_f c) q) (no c)
  · exact Go.step (fun T hA hx hb t q => XS.ifYes hA hx rfl (pc0 := pc) (pc' := tgt) rfl (Jvm.hb hb hd) rfl (XT.ll_ne_t c) (by rw [ht]; exact Int.natCast_nonneg _) (by rw [ht]; rfl) q) (yes c)
theorem ifl_lt (pc : Nat) (tgt : Nat) {o : Int} {x y : Int64} (hd : decode B.bs pc = .ok (.ifCond .lt o, 3)) (ht : (pc : Int) + o = (tgt : Int)) (yes : x < y → Go l Z a0 EL n0 kn B D Q h σ ce sl tgt Ls st) (no : ¬ (x < y) → Go l Z a0 EL n0 kn B D Q h σ ce sl (pc + 3) Ls st) : Go l Z a0 EL n0 kn B D Q h σ ce sl pc Ls (.int (XT.cmpL x y) :: st) := by
  by_cases c : x < y
  · exact Go.step (fun T hA hx hb t q => XS.ifYes hA hx rfl (pc0 := pc) (pc' := tgt) rfl (Jvm.hb hb hd) rfl (XT.ll_lt_t c) (by rw [ht]; exact Int.natCast_nonneg _) (by rw [ht]; rfl) q) (yes c)
  · exact Go.step (fun T hA hx hb t q => XS.ifNo hA hx rfl (Jvm.hb hb hd) rfl (XT.ll_lt_f c) q) (no c)
theorem ifl_ge (pc : Nat) (tgt : Nat) {o : Int} {x y : Int64} (hd : decode B.bs pc = .ok (.ifCond .ge o, 3)) (ht : (pc : Int) + o = (tgt : Int)) (yes : ¬ (x < y) → Go l Z a0 EL n0 kn B D Q h σ ce sl tgt Ls st) (no : x < y → Go l Z a0 EL n0 kn B D Q h σ ce sl (pc + 3) Ls st) : Go l Z a0 EL n0 kn B D Q h σ ce sl pc Ls (.int (XT.cmpL x y) :: st) := by
  by_cases c : x < y
  · exact Go.step (fun T hA hx hb t q => XS.ifNo hA hx rfl (Jvm.hb hb hd) rfl (XT.ll_ge_f c) q) (no c)
  · exact Go.step (fun T hA hx hb t q => XS.ifYes hA hx rfl (pc0 := pc) (pc' := tgt) rfl (Jvm.hb hb hd) rfl (XT.ll_ge_t c) (by rw [ht]; exact Int.natCast_nonneg _) (by rw [ht]; rfl) q) (yes c)
theorem ifl_gt (pc : Nat) (tgt : Nat) {o : Int} {x y : Int64} (hd : decode B.bs pc = .ok (.ifCond .gt o, 3)) (ht : (pc : Int) + o = (tgt : Int)) (yes : y < x → Go l Z a0 EL n0 kn B D Q h σ ce sl tgt Ls st) (no : ¬ (y < x) → Go l Z a0 EL n0 kn B D Q h σ ce sl (pc + 3) Ls st) : Go l Z a0 EL n0 kn B D Q h σ ce sl pc Ls (.int (XT.cmpL x y) :: st) := by
  by_cases c : y < x
  · exact Go.step (fun T hA hx hb t q => XS.ifYes hA hx rfl (pc0 := pc) (pc' := tgt) rfl (Jvm.hb hb hd) rfl (XT.ll_gt_t c) (by rw [ht]; exact Int.natCast_nonneg _) (by rw [ht]; rfl) q) (yes c)
  · exact Go.step (fun T hA hx hb t q => XS.ifNo hA hx rfl (Jvm.hb hb hd) rfl (XT.ll_gt_f c) q) (no c)
theorem ifl_le (pc : Nat) (tgt : Nat) {o : Int} {x y : Int64} (hd : decode B.bs pc = .ok (.ifCond .le o, 3)) (ht : (pc : Int) + o = (tgt : Int)) (yes : ¬ (y < x) → Go l Z a0 EL n0 kn B D Q h σ ce sl tgt Ls st) (no : y < x → Go l Z a0 EL n0 kn B D Q h σ ce sl (pc + 3) Ls st) : Go l Z a0 EL n0 kn B D Q h σ ce sl pc Ls (.int (XT.cmpL x y) :: st) := by
  by_cases c : y < x
  · exact Go.step (fun T hA hx hb t q => XS.ifNo hA hx rfl (Jvm.hb hb hd) rfl (XT.ll_le_f c) q) (no c)
  · exact Go.step (fun T hA hx hb t q => XS.ifYes hA hx rfl (pc0 := pc) (pc' := tgt) rfl (Jvm.hb hb hd) rfl (XT.ll_le_t c) (by rw [ht]; exact Int.natCast_nonneg _) (by rw [ht]; rfl) q) (yes c)
theorem ifnull (pc : Nat) (tgt : Nat) {o : Int} {v : Value} (hr : v.isRef = true) (hd : decode B.bs pc = .ok (.ifnull o, 3)) (ht : (pc : Int) + o = (tgt : Int)) (yes : v = .null → Go l Z a0 EL n0 kn B D Q h σ ce sl tgt Ls st) (no : ¬ (v = .null) → Go l Z a0 EL n0 kn B D Q h σ ce sl (pc + 3) Ls st) : Go l Z a0 EL n0 kn B D Q h σ ce sl pc Ls (v :: st) := by
  by_cases c : v = .null
  · exact Go.step (fun T hA hx hb t q => XT.nullYes hA hx rfl (pc0 := pc) (pc' := tgt) rfl (Jvm.hb hb hd) rfl c (by rw [ht]; exact Int.natCast_nonneg _) (by rw [ht]; rfl) q) (yes c)
  · exact Go.step (fun T hA hx hb t q => XT.nullNo hA hx rfl (Jvm.hb hb hd) rfl hr c q) (no c)
theorem ifnonnull (pc : Nat) (tgt : Nat) {o : Int} {v : Value} (hr : v.isRef = true) (hd : decode B.bs pc = .ok (.ifnonnull o, 3)) (ht : (pc : Int) + o = (tgt : Int)) (yes : ¬ (v = .null) → Go l Z a0 EL n0 kn B D Q h σ ce sl tgt Ls st) (no : v = .null → Go l Z a0 EL n0 kn B D Q h σ ce sl (pc + 3) Ls st) : Go l Z a0 EL n0 kn B D Q h σ ce sl pc Ls (v :: st) := by
  by_cases c : v = .null
  · exact Go.step (fun T hA hx hb t q => XT.nonnullNo hA hx rfl (Jvm.hb hb hd) rfl c q) (no c)
  · exact Go.step (fun T hA hx hb t q => XT.nonnullYes hA hx rfl (pc0 := pc) (pc' := tgt) rfl (Jvm.hb hb hd) rfl hr c (by rw [ht]; exact Int.natCast_nonneg _) (by rw [ht]; rfl) q) (yes c)
theorem acmp_eq (pc : Nat) (tgt : Nat) {o : Int} {v w : Value} (hv : v.isRef = true) (hw : w.isRef = true) (hd : decode B.bs pc = .ok (.if_acmp .eq o, 3)) (ht : (pc : Int) + o = (tgt : Int)) (yes : v = w → Go l Z a0 EL n0 kn B D Q h σ ce sl tgt Ls st) (no : ¬ (v = w) → Go l Z a0 EL n0 kn B D Q h σ ce sl (pc + 3) Ls st) : Go l Z a0 EL n0 kn B D Q h σ ce sl pc Ls (w :: v :: st) := by
  by_cases c : v = w
  · exact Go.step (fun T hA hx hb t q => XT.acmpYes hA hx rfl (pc0 := pc) (pc' := tgt) rfl (Jvm.hb hb hd) rfl hv hw (XT.aa_eq_t c) (by rw [ht]; exact Int.natCast_nonneg _) (by rw [ht]; rfl) q) (yes c)
  · exact Go.step (fun T hA hx hb t q => XT.acmpNo hA hx rfl (Jvm.hb hb hd) rfl hv hw (XT.aa_eq_f c) q) (no c)
theorem acmp_ne (pc : Nat) (tgt : Nat) {o : Int} {v w : Value} (hv : v.isRef = true) (hw : w.isRef = true) (hd : decode B.bs pc = .ok (.if_acmp .ne o, 3)) (ht : (pc : Int) + o = (tgt : Int)) (yes : ¬ (v = w) → Go l Z a0 EL n0 kn B D Q h σ ce sl tgt Ls st) (no : v = w → Go l Z a0 EL n0 kn B D Q h σ ce sl (pc + 3) Ls st) : Go l Z a0 EL n0 kn B D Q h σ ce sl pc Ls (w :: v :: st) := by
  by_cases c : v = w
  · exact Go.step (fun T hA hx hb t q => XT.acmpNo hA hx rfl (Jvm.hb hb hd) rfl hv hw (XT.aa_ne_f c) q) (no c)
  · exact Go.step (fun T hA hx hb t q => XT.acmpYes hA hx rfl (pc0 := pc) (pc' := tgt) rfl (Jvm.hb hb hd) rfl hv hw (XT.aa_ne_t c) (by rw [ht]; exact Int.natCast_nonneg _) (by rw [ht]; rfl) q) (yes c)
end Plain
end Jvm.Road
namespace Jvm.Road
open Jvm Jvm.ClassFile Sem Op Lib Jvm.Free Jvm.Stand Jvm.LawKit Jvm.RoadKit Bundle
section Facts
variable {Z : State} {h h' : Heap} {a b : Addr} {ty : FieldType} {vs : List Value} {ws : List Addr}
/-- the array at a holds just these values -/
def Ary (Z : State) (h : Heap) (a : Addr) (ty : FieldType) (vs : List Value) : Prop := ∃ c : Cell, Arr Z h a c ty ∧ c.slots.toList = vs ∧ vs.length < 2147483648 ∧ ∀ v ∈ vs, fits ty v = true
theorem Ary.keep (F : Ary Z h a ty vs) (K : Keep h h' ws) (q : a ∉ ws) : Ary Z h' a ty vs := by
  obtain ⟨c, A, r⟩ := F; exact ⟨c, ⟨K.2.1 a c A.1 q, A.2⟩, r⟩
theorem Ary.lt (F : Ary Z h a ty vs) : a < h.size := by obtain ⟨c, A, -⟩ := F; exact A.lt
theorem Ary.small (F : Ary Z h a ty vs) : vs.length < 2147483648 := by obtain ⟨c, A, -, q, -⟩ := F; exact q
theorem Ary.fit (F : Ary Z h a ty vs) : ∀ v ∈ vs, fits ty v = true := by obtain ⟨c, A, -, -, q⟩ := F; exact q
theorem Ary.wr {i : Nat} {v : Value} (F : Ary Z h a ty vs) (W : Wr h h' a i v) (hv : fits ty v = true) : Ary Z h' a ty (vs.set i v) := by
  obtain ⟨c, A, e, q, f⟩ := F
  refine ⟨_, Arr.same W A, ?_, by rw [List.length_set]; exact q, fun u hu => ?_⟩
  · show (c.slots.setIfInBounds i v).toList = _
    rw [Array.toList_setIfInBounds, e]
  · rcases List.mem_or_eq_of_mem_set hu with r | r
    · exact f u r
    · exact r ▸ hv
theorem ix_of {j : Int32} {i : Nat} (hj : j.toInt = (i : Int)) : ¬ j < 0 ∧ j.toNatClampNeg = i := by
  refine ⟨?_, ?_⟩
  · simp only [Int32.lt_iff_toInt_lt, hj, Int32.reduceToInt]; omega
  · simp only [Int32.toNatClampNeg, hj]; omega
theorem Ary.inb {c : Cell} {j : Int32} {i : Nat} (e : c.slots.toList = vs) (hj : j.toInt = (i : Int)) (hi : i < vs.length) : ¬ (j < 0 ∨ c.slots.size ≤ j.toNatClampNeg) := by
  obtain ⟨q1, q2⟩ := ix_of hj
  rw [q2, ← Array.length_toList, e]
  intro q; rcases q with q | q
  · exact q1 q
  · omega
theorem Ary.of_arv {k : ClassId} {z : Int32} {d : Value} (F : Arv Z h a k ty z vs d) (hz : z.toNatClampNeg = vs.length) : Ary Z h a ty vs := by
  obtain ⟨c, A, -, S, hn, H, G⟩ := F
  have hsz : c.slots.size = vs.length := S.trans hz
  have e : c.slots.toList = vs := by
    apply List.ext_getElem?
    intro i
    by_cases hi : i < vs.length
    · have := H i (by rw [hsz]; exact hi)
      rw [Array.getElem?_toList, this, List.getD_eq_getElem?_getD, List.getElem?_eq_getElem hi]; rfl
    · rw [List.getElem?_eq_none (Nat.le_of_not_lt hi), List.getElem?_eq_none (by rw [Array.length_toList, hsz]; exact Nat.le_of_not_lt hi)]
  refine ⟨c, A, e, by have := Int32.toInt_lt z; simp only [Int32.toNatClampNeg] at hz; omega, fun v hv => ?_⟩
  obtain ⟨i, hi, rfl⟩ := List.getElem_of_mem hv
  have := G i (by rw [hsz]; exact hi)
  rwa [List.getD_eq_getElem?_getD, List.getElem?_eq_getElem hi] at this
def byt (c : Int32) : Value := .int c.toInt8.toInt32
abbrev SN : String := "java/lang/String"
/-- the object at a is a compact String of these chars, its bytes at b -/
def Str (Z : State) (h : Heap) (a b : Addr) (cs : List Int32) : Prop := Exa Z h a SN ∧ Fld Z h a SN "coder" "B" (.int 0) ∧ Fld Z h a SN "value" "[B" (.ref b) ∧ Ary Z h b .byte (cs.map byt) ∧ ∀ c ∈ cs, 0 ≤ c.toInt ∧ c.toInt < 256
theorem Str.keep {cs : List Int32} (F : Str Z h a b cs) (K : Keep h h' ws) (q : a ∉ ws) (q' : b ∉ ws) : Str Z h' a b cs := ⟨F.1.keep K, F.2.1.keep K q, F.2.2.1.keep K q, F.2.2.2.1.keep K q', F.2.2.2.2⟩
theorem Str.lt {cs : List Int32} (F : Str Z h a b cs) : a < h.size := F.1.lt
theorem Str.ltb {cs : List Int32} (F : Str Z h a b cs) : b < h.size := F.2.2.2.1.lt
theorem keep_ext (E : Ext h h') : Keep h h' [] := (Keep.refl h []).ext E
end Facts
section Heap
variable {l : Launch} {Z : State} {a0 : Array Value} {EL : List (String × Nat)} {n0 : Nat} {kn : Bool} {B : Bdy} {D : Dyn} {Q : Post} {h : Heap} {σ : Addr → Prop} {ce sl : Nat} {Ls : Array Slot} {st : List Value} {a : Addr}
theorem getfield (pc : Nat) {ix : Nat} {R0 O n d : String} {v : Value} (hd : decode B.bs pc = .ok (.getfield ix, 3)) (w : (Jvm.Cond.fieldLink B.y.cls ix R0 n d).before a0 Z = true) (via : Via Z R0 O n d) (F : Fld Z h a O n d v)
    (r : Go l Z a0 EL n0 kn B D Q h σ ce sl (pc + 3) Ls (v :: st)) : Go l Z a0 EL n0 kn B D Q h σ ce sl pc Ls (.ref a :: st) := by
  intro ok ew T vm0 I
  obtain ⟨k0, locs, X, h1, h2, h3, h4, h5, h6, h7, h8, h9, h10⟩ := I
  obtain ⟨T', X', e', s'⟩ := getF X ok.1 (s := D.s.setVm vm0) h4 h5 (host := "") (Or.inl w) via h1 F (g := mkF D.m pc Ls (.ref a :: st)) rfl rfl (Jvm.hb ok.2.1 hd)
  obtain ⟨s2, o, q, rest⟩ := r ok ew T' vm0 ⟨k0, locs, X', e', h2, h3, h4, h5, h6, h7, h8, h9, h10⟩
  exact ⟨s2, o, s' _ q, rest⟩
theorem own_wr {vm0 : Vm} {h' : Heap} {i : Nat} {v : Value} (W : Wr h h' a i v) (hC : CHv Z EL vm0 h) (ha : Own Z EL n0 vm0 h a) {x : Addr} (hx : Own Z EL n0 vm0 h x) : Own Z EL n0 vm0 h' x :=
  ⟨Safe.wr W ha.1 hC hx.1, hx.2.1, by rw [W.size]; exact hx.2.2⟩
/-- behind a write of one place -/
theorem wrote {pc pc' : Nat} {Ls' : Array Slot} {st' : List Value} {i : Nat} {v : Value} (hσ : σ a)
    (s : ∀ T vm0 locs, Stand D.p l D.e B.rm (D.s.setVm vm0) D.m D.args D.bl D.meth D.c T locs ce sl → T.heap = h → Z.Warmed39 vm0 → vm0.findClass B.y.cls = some D.m.cls → Ok B D →
      ∃ T' h', Stand D.p l D.e B.rm (D.s.setVm vm0) D.m D.args D.bl D.meth D.c T' (locs ++ [⟨a, i⟩]) ce sl ∧ T'.heap = h' ∧ Wr h h' a i v ∧ ∀ target, Steps D.p.tables D.e D.bl (T'.setTop (mkF D.m pc' Ls' st')) target → Steps D.p.tables D.e D.bl (T.setTop (mkF D.m pc Ls st)) target)
    (r : ∀ h', Wr h h' a i v → Keep h h' [a] → Go l Z a0 EL n0 kn B D Q h' σ ce sl pc' Ls' st') : Go l Z a0 EL n0 kn B D Q h σ ce sl pc Ls st := by
  intro ok ew T vm0 I
  obtain ⟨k0, locs, X, h1, h2, h3, h4, h5, h6, h7, h8, h9, h10⟩ := I
  obtain ⟨T', h', X', e', W, s'⟩ := s T vm0 locs X h1 h4 h5 ok
  have ha := h9 a hσ
  obtain ⟨s2, o, q, rest⟩ := r h' W (Keep.of_wr W) ok ew T' vm0 ⟨k0, _, X', e', h2, by rw [W.size]; exact h3, h4, h5, h6.trans (CHr.wr W ha.1 h6.1), h7.app fun y hy => by cases List.mem_singleton.mp hy; exact ha.2.1, h8.wr W ha.2.1, fun x hx => own_wr W h6.1 ha (h9 x hx), h10⟩
  exact ⟨s2, o, s' _ q, rest⟩
theorem putfield (pc : Nat) {ix : Nat} {R0 O n d C : String} {kk : Nat} {ty : FieldType} {v old : Value} (hd : decode B.bs pc = .ok (.putfield ix, 3)) (w : (Jvm.Cond.fieldLink B.y.cls ix R0 n d).before a0 Z = true) (via : Via Z R0 O n d) (F : Fld Z h a O n d old) (E : Exa Z h a C)
    (L : (Jvm.Cond.lays C O n d).before a0 Z = true ∨ ((Jvm.Cond.laysFinal C O n d).before a0 Z = true ∧ B.y.cls = O ∧ B.y.name = "<init>")) (wi : (Jvm.Cond.instantiable C kk).before a0 Z = true) (hty : parseFieldDescriptor d = some ty) (hn : narrow ty v = v) (hf : fits ty v = true) (hσ : σ a)
    (r : ∀ h', Wr h h' a (RoadKit.slotOf Z O n d) v → Keep h h' [a] → Go l Z a0 EL n0 kn B D Q h' σ ce sl (pc + 3) Ls st) : Go l Z a0 EL n0 kn B D Q h σ ce sl pc Ls (v :: .ref a :: st) :=
  wrote hσ (fun T vm0 locs X h1 h4 h5 ok => putF X ok.1 (s := D.s.setVm vm0) h4 h5 (host := "") (Or.inl w) via h1 F E (L.imp id fun q => ⟨q.1, q.2.1, ok.2.2.2.2.2.trans q.2.2⟩) wi hty hn hf (g := mkF D.m pc Ls (v :: .ref a :: st)) rfl rfl (Jvm.hb ok.2.1 hd)) r
theorem getstatic (pc : Nat) {ix : Nat} {R0 O n d : String} {v : Value} (hd : decode B.bs pc = .ok (.getstatic ix, 3)) (w : (Jvm.Cond.fieldLink B.y.cls ix R0 n d).before a0 Z = true) (via : Via Z R0 O n d) (F : Sta Z Z.heap O n d v)
    (r : Go l Z a0 EL n0 kn B D Q h σ ce sl (pc + 3) Ls (v :: st)) : Go l Z a0 EL n0 kn B D Q h σ ce sl pc Ls st := by
  intro ok ew T vm0 I
  obtain ⟨k0, locs, X, h1, h2, h3, h4, h5, h6, h7, h8, h9, h10⟩ := I
  obtain ⟨T', X', e', s'⟩ := getS X ok.1 (s := D.s.setVm vm0) h4 h5 (host := "") w via h1 (F.ext h8.2) (g := mkF D.m pc Ls st) rfl (Jvm.hb ok.2.1 hd)
  obtain ⟨s2, o, q, rest⟩ := r ok ew T' vm0 ⟨k0, locs, X', e', h2, h3, h4, h5, h6, h7, h8, h9, h10⟩
  exact ⟨s2, o, s' _ q, rest⟩
theorem own_new {vm0 : Vm} {h' : Heap} (E : Ext h h') (hC : CHv Z EL vm0 h) (hO : Old Z n0 h) (hlt : h.size < h'.size) : Own Z EL n0 vm0 h' h.size :=
  ⟨(Safe.new (Nat.le_refl _)).ext E hC, hO.1 ▸ hO.2.1, hlt⟩
/-- behind the making of one cell -/
theorem made {pc pc' ce' sl' : Nat} {Ls' : Array Slot} {st' : List Value} {P : Heap → Prop}
    (s : ∀ T vm0 locs, Stand D.p l D.e B.rm (D.s.setVm vm0) D.m D.args D.bl D.meth D.c T locs ce sl → T.heap = h → Z.Warmed39 vm0 → vm0.findClass B.y.cls = some D.m.cls → Ok B D →
      ∃ T' h', Stand D.p l D.e B.rm (D.s.setVm vm0) D.m D.args D.bl D.meth D.c T' locs ce' sl' ∧ T'.heap = h' ∧ Ext h h' ∧ h.size < h'.size ∧ P h' ∧ ∀ target, Steps D.p.tables D.e D.bl (T'.setTop (mkF D.m pc' Ls' st')) target → Steps D.p.tables D.e D.bl (T.setTop (mkF D.m pc Ls st)) target)
    (r : ∀ h' σ', Keep h h' [] → h.size < h'.size → (∀ x, σ x → σ' x) → σ' h.size → P h' → Go l Z a0 EL n0 kn B D Q h' σ' ce' sl' pc' Ls' st') : Go l Z a0 EL n0 kn B D Q h σ ce sl pc Ls st := by
  intro ok ew T vm0 I
  obtain ⟨k0, locs, X, h1, h2, h3, h4, h5, h6, h7, h8, h9, h10⟩ := I
  obtain ⟨T', h', X', e', E, hlt, hP, s'⟩ := s T vm0 locs X h1 h4 h5 ok
  obtain ⟨s2, o, q, rest⟩ := r h' (Own Z EL n0 vm0 h') (keep_ext E) hlt (fun x hx => ⟨(h9 x hx).1.ext E h6.1, (h9 x hx).2.1, Nat.lt_of_lt_of_le (h9 x hx).2.2 E.1⟩) (own_new E h6.1 h8 hlt) hP ok ew T' vm0
    ⟨k0, locs, X', e', h2, Nat.le_trans h3 E.1, h4, h5, h6.trans (CHr.ext E h6.1), h7, h8.ext E, fun x hx => hx, h10⟩
  exact ⟨s2, o, s' _ q, rest⟩
theorem new (pc : Nat) {ix : Nat} (C : String) {n : Nat} (hd : decode B.bs pc = .ok (.new ix, 3)) (w : (Jvm.Cond.classLink B.y.cls ix C).before a0 Z = true) (wi : (Jvm.Cond.instantiable C n).before a0 Z = true) (wz : (Jvm.Cond.initialized C).before a0 Z = true) {ce' sl' : Nat} (hce : ce + 1 = ce') (hsl : sl + n = sl') (hc : ce' ≤ B.rm.cells) (hs : sl' ≤ B.rm.slots)
    (r : ∀ a h' σ', a = h.size → Keep h h' [] → a < h'.size → (∀ x, σ x → σ' x) → σ' a → Exa Z h' a C → (∀ {O nm d : String} {ty : FieldType}, Laid Z a0 C O nm d → parseFieldDescriptor d = some ty → Fld Z h' a O nm d (defaultValue ty)) → (∃ cell : Cell, h'[a]? = some cell ∧ cell.vm = .none ∧ cell.monitor = {}) →
      Go l Z a0 EL n0 kn B D Q h' σ' ce' sl' (pc + 3) Ls (.ref a :: st)) : Go l Z a0 EL n0 kn B D Q h σ ce sl pc Ls st := by
  subst hce hsl
  exact made (P := fun h' => Exa Z h' h.size C ∧ (∀ {O nm d : String} {ty : FieldType}, Laid Z a0 C O nm d → parseFieldDescriptor d = some ty → Fld Z h' h.size O nm d (defaultValue ty)) ∧ (∃ cell : Cell, h'[h.size]? = some cell ∧ cell.vm = .none ∧ cell.monitor = {}))
    (fun T vm0 locs X h1 h4 h5 ok => by
      obtain ⟨T', h', X', e', E, A, Dd, M, s'⟩ := newO X ok.1 (s := D.s.setVm vm0) h4 h5 w wi wz h1 (g := mkF D.m pc Ls st) rfl (Jvm.hb ok.2.1 hd) hc hs
      exact ⟨T', h', X', e', E, A.lt, ⟨A, Dd, M⟩, s'⟩)
    (fun h' σ' K hlt m1 m2 P => r h.size h' σ' rfl K hlt m1 m2 P.1 P.2.1 P.2.2)
theorem newarray (pc : Nat) {aty : ArrayType} (ty : FieldType) (n cap : Nat) {z : Int32} (hd : decode B.bs pc = .ok (.newarray aty, 2)) (hty : newarray.typeOf aty = ty) (w : (Jvm.Cond.arrayClass ty).before a0 Z = true) (hz : z.toInt = (n : Int)) (hcap : n ≤ cap) (hb : cap * 8 ≤ 536870912) {ce' sl' : Nat} (hce : ce + 1 = ce') (hsl : sl + cap = sl') (hc : ce' ≤ B.rm.cells) (hs : sl' ≤ B.rm.slots)
    (r : ∀ a h' σ', a = h.size → Keep h h' [] → a < h'.size → (∀ x, σ x → σ' x) → σ' a → Ary Z h' a ty (List.replicate n (defaultValue ty)) → Go l Z a0 EL n0 kn B D Q h' σ' ce' sl' (pc + 2) Ls (.ref a :: st)) : Go l Z a0 EL n0 kn B D Q h σ ce sl pc Ls (.int z :: st) := by
  subst hce hsl
  exact made (P := fun h' => Ary Z h' h.size ty (List.replicate n (defaultValue ty)))
    (fun T vm0 locs X h1 h4 h5 ok => by
      subst hty
      obtain ⟨q1, q2⟩ := ix_of hz
      obtain ⟨T', h', cA, X', e', E, A, s'⟩ := newP X ok.1 (s := D.s.setVm vm0) h4 w h1 (g := mkF D.m pc Ls (.int z :: st)) rfl (Jvm.hb ok.2.1 hd) rfl q1 (cap := cap) (by rw [q2]; exact hcap) hb hc hs
      refine ⟨T', h', X', e', E, A.lt, ⟨_, A, ?_, ?_, ?_⟩, s'⟩
      · show (Array.replicate z.toNatClampNeg (defaultValue (newarray.typeOf aty))).toList = _
        rw [q2, Array.toList_replicate]
      · rw [List.length_replicate]; omega
      · intro v hv
        rw [(List.mem_replicate.mp hv).2]
        cases aty <;> rfl)
    (fun h' σ' K hlt m1 m2 P => r h.size h' σ' rfl K hlt m1 m2 P)
theorem plainX {pc pc' : Nat} {Ls' : Array Slot} {st' : List Value}
    (k : ∀ T vm0 locs, Stand D.p l D.e B.rm (D.s.setVm vm0) D.m D.args D.bl D.meth D.c T locs ce sl → T.heap = h → Z.Warmed39 vm0 → vm0.findClass B.y.cls = some D.m.cls → Ok B D → ∀ t, Steps D.p.tables D.e D.bl (T.setTop (mkF D.m pc' Ls' st')) t → Steps D.p.tables D.e D.bl (T.setTop (mkF D.m pc Ls st)) t)
    (r : Go l Z a0 EL n0 kn B D Q h σ ce sl pc' Ls' st') : Go l Z a0 EL n0 kn B D Q h σ ce sl pc Ls st := by
  intro ok ew T vm0 I
  obtain ⟨s2, o, q, rest⟩ := r ok ew T vm0 I
  obtain ⟨k0, locs, X, h1, h2, h3, h4, h5, -⟩ := I
  exact ⟨s2, o, k T vm0 locs X h1 h4 h5 ok _ q, rest⟩
theorem alen (pc : Nat) {ty : FieldType} {vs : List Value} {n : Nat} (z : Int32) (hd : decode B.bs pc = .ok (.arraylength, 1)) (A : Ary Z h a ty vs) (hn : vs.length = n) (hz : n.toInt32 = z) (r : Go l Z a0 EL n0 kn B D Q h σ ce sl (pc + 1) Ls (.int z :: st)) : Go l Z a0 EL n0 kn B D Q h σ ce sl pc Ls (.ref a :: st) :=
  plainX (fun T vm0 locs X h1 h4 h5 ok t q => by
    obtain ⟨c, A, e, -⟩ := A
    refine X.arraylength ok.1 (by rw [h1]; exact A.1) (State.isArrayOf_alike (T := D.s.setVm vm0) h4.alike A.2.1) (g := mkF D.m pc Ls (.ref a :: st)) rfl rfl (Jvm.hb ok.2.1 hd) t ?_
    rw [← Array.length_toList, e, hn, hz]; exact q) r
theorem caload (pc : Nat) {vs : List Value} {j : Int32} (i : Nat) {v : Value} (hd : decode B.bs pc = .ok (.caload, 1)) (A : Ary Z h a .char vs) (hj : j.toInt = (i : Int)) (hv : vs[i]? = some v) (r : Go l Z a0 EL n0 kn B D Q h σ ce sl (pc + 1) Ls (v :: st)) : Go l Z a0 EL n0 kn B D Q h σ ce sl pc Ls (.int j :: .ref a :: st) :=
  plainX (fun T vm0 locs X h1 h4 h5 ok t q => by
    obtain ⟨c, A, e, -⟩ := A
    have hi : i < vs.length := (List.getElem?_eq_some_iff.mp hv).1
    exact X.caload ok.1 (by rw [h1]; exact A.1) (State.isArrayOf_alike (T := D.s.setVm vm0) h4.alike A.2.1) A.2.2 (Ary.inb e hj hi) (by rw [(ix_of hj).2, ← Array.getElem?_toList, e]; exact hv) (g := mkF D.m pc Ls (.int j :: .ref a :: st)) rfl rfl (Jvm.hb ok.2.1 hd) t q) r
theorem baload (pc : Nat) {vs : List Value} {j : Int32} (i : Nat) {v : Value} (hd : decode B.bs pc = .ok (.baload, 1)) (A : Ary Z h a .byte vs) (hj : j.toInt = (i : Int)) (hv : vs[i]? = some v) (r : Go l Z a0 EL n0 kn B D Q h σ ce sl (pc + 1) Ls (v :: st)) : Go l Z a0 EL n0 kn B D Q h σ ce sl pc Ls (.int j :: .ref a :: st) :=
  plainX (fun T vm0 locs X h1 h4 h5 ok t q => by
    obtain ⟨c, A, e, -⟩ := A
    have hi : i < vs.length := (List.getElem?_eq_some_iff.mp hv).1
    exact X.baloadBytes ok.1 (by rw [h1]; exact A.1) (State.isArrayOf_alike (T := D.s.setVm vm0) h4.alike A.2.1) A.2.2 (Ary.inb e hj hi) (by rw [(ix_of hj).2, ← Array.getElem?_toList, e]; exact hv) (g := mkF D.m pc Ls (.int j :: .ref a :: st)) rfl rfl (Jvm.hb ok.2.1 hd) t q) r
theorem laload (pc : Nat) {vs : List Value} {j : Int32} (i : Nat) {v : Value} (hd : decode B.bs pc = .ok (.laload, 1)) (A : Ary Z h a .long vs) (hj : j.toInt = (i : Int)) (hv : vs[i]? = some v) (r : Go l Z a0 EL n0 kn B D Q h σ ce sl (pc + 1) Ls (v :: st)) : Go l Z a0 EL n0 kn B D Q h σ ce sl pc Ls (.int j :: .ref a :: st) :=
  plainX (fun T vm0 locs X h1 h4 h5 ok t q => by
    obtain ⟨c, A, e, -⟩ := A
    have hi : i < vs.length := (List.getElem?_eq_some_iff.mp hv).1
    exact X.laload ok.1 (by rw [h1]; exact A.1) (State.isArrayOf_alike (T := D.s.setVm vm0) h4.alike A.2.1) A.2.2 (Ary.inb e hj hi) (by rw [(ix_of hj).2, ← Array.getElem?_toList, e]; exact hv) (g := mkF D.m pc Ls (.int j :: .ref a :: st)) rfl rfl (Jvm.hb ok.2.1 hd) t q) r
theorem castore (pc : Nat) {vs : List Value} {j x : Int32} (i : Nat) (w : Int32) (hd : decode B.bs pc = .ok (.castore, 1)) (A : Ary Z h a .char vs) (hj : j.toInt = (i : Int)) (hi : i < vs.length) (hw : nar .char x = w) (hσ : σ a)
    (r : ∀ h', Keep h h' [a] → Ary Z h' a .char (vs.set i (.int w)) → Go l Z a0 EL n0 kn B D Q h' σ ce sl (pc + 1) Ls st) : Go l Z a0 EL n0 kn B D Q h σ ce sl pc Ls (.int x :: .int j :: .ref a :: st) :=
  wrote hσ (i := i) (v := .int w) (fun T vm0 locs X h1 h4 h5 ok => by
    subst hw
    obtain ⟨c, Ar, e, -⟩ := A
    have := stC X ok.1 (s := D.s.setVm vm0) h4 h1 Ar (Ary.inb e hj hi) (g := mkF D.m pc Ls (.int x :: .int j :: .ref a :: st)) rfl rfl (Jvm.hb ok.2.1 hd)
    rw [(ix_of hj).2] at this; exact this)
    (fun h' W K => r h' K (A.wr W (hw ▸ fits_nar_char x)))
theorem bastore (pc : Nat) {vs : List Value} {j x : Int32} (i : Nat) (w : Int32) (hd : decode B.bs pc = .ok (.bastore, 1)) (A : Ary Z h a .byte vs) (hj : j.toInt = (i : Int)) (hi : i < vs.length) (hw : nar .byte x = w) (hσ : σ a)
    (r : ∀ h', Keep h h' [a] → Ary Z h' a .byte (vs.set i (.int w)) → Go l Z a0 EL n0 kn B D Q h' σ ce sl (pc + 1) Ls st) : Go l Z a0 EL n0 kn B D Q h σ ce sl pc Ls (.int x :: .int j :: .ref a :: st) :=
  wrote hσ (i := i) (v := .int w) (fun T vm0 locs X h1 h4 h5 ok => by
    subst hw
    obtain ⟨c, Ar, e, -⟩ := A
    have := stB X ok.1 (s := D.s.setVm vm0) h4 h1 Ar (Ary.inb e hj hi) (g := mkF D.m pc Ls (.int x :: .int j :: .ref a :: st)) rfl rfl (Jvm.hb ok.2.1 hd)
    rw [(ix_of hj).2] at this; exact this)
    (fun h' W K => r h' K (A.wr W (hw ▸ fits_nar_byte x)))
theorem lastore (pc : Nat) {vs : List Value} {j : Int32} {x : Int64} (i : Nat) (hd : decode B.bs pc = .ok (.lastore, 1)) (A : Ary Z h a .long vs) (hj : j.toInt = (i : Int)) (hi : i < vs.length) (hσ : σ a)
    (r : ∀ h', Keep h h' [a] → Ary Z h' a .long (vs.set i (.long x)) → Go l Z a0 EL n0 kn B D Q h' σ ce sl (pc + 1) Ls st) : Go l Z a0 EL n0 kn B D Q h σ ce sl pc Ls (.long x :: .int j :: .ref a :: st) :=
  wrote hσ (i := i) (v := .long x) (fun T vm0 locs X h1 h4 h5 ok => by
    obtain ⟨c, Ar, e, -⟩ := A
    have := stJ X ok.1 (s := D.s.setVm vm0) h4 h1 Ar (Ary.inb e hj hi) (g := mkF D.m pc Ls (.long x :: .int j :: .ref a :: st)) rfl rfl (Jvm.hb ok.2.1 hd)
    rw [(ix_of hj).2] at this; exact this)
    (fun h' W K => r h' K (A.wr W rfl))
theorem ldcI (pc : Nat) {ix : Nat} {v : Int32} (hd : decode B.bs pc = .ok (.ldc ix, 2)) (w : (Jvm.Cond.constant B.y.cls ix v).before a0 Z = true) (r : Go l Z a0 EL n0 kn B D Q h σ ce sl (pc + 2) Ls (.int v :: st)) : Go l Z a0 EL n0 kn B D Q h σ ce sl pc Ls st :=
  plainX (fun T vm0 locs X h1 h4 h5 ok t q => X.ldcI ok.1 (own := B.y.cls) h5 (mv (s := D.s.setVm vm0) h4 w) (g := mkF D.m pc Ls st) rfl (Jvm.hb ok.2.1 hd) q) r
theorem ldc2J (pc : Nat) {ix : Nat} {v : Int64} (hd : decode B.bs pc = .ok (.ldc2_w ix, 3)) (w : (Jvm.Cond.constantLong B.y.cls ix v).before a0 Z = true) (r : Go l Z a0 EL n0 kn B D Q h σ ce sl (pc + 3) Ls (.long v :: st)) : Go l Z a0 EL n0 kn B D Q h σ ce sl pc Ls st :=
  plainX (fun T vm0 locs X h1 h4 h5 ok t q => X.ldc2J ok.1 (own := B.y.cls) h5 (mv (s := D.s.setVm vm0) h4 w) (g := mkF D.m pc Ls st) rfl (Jvm.hb ok.2.1 hd) q) r
end Heap
end Jvm.Road
namespace Jvm.Road
open Jvm Jvm.ClassFile Sem Op Lib Jvm.Free Jvm.Stand Jvm.LawKit Jvm.RoadKit Bundle
section Cast
variable {l : Launch} {Z : State} {a0 : Array Value} {EL : List (String × Nat)} {n0 : Nat} {kn : Bool} {B : Bdy} {D : Dyn} {Q : Post} {h : Heap} {σ : Addr → Prop} {ce sl : Nat} {Ls : Array Slot} {st : List Value} {a : Addr}
theorem instYes (pc : Nat) {ix : Nat} {K : String} (hd : decode B.bs pc = .ok (.instanceof ix, 3)) (w : (Jvm.Cond.classLink B.y.cls ix K).before a0 Z = true) (F : Ins Z h a K true) (r : Go l Z a0 EL n0 kn B D Q h σ ce sl (pc + 3) Ls (.int 1 :: st)) : Go l Z a0 EL n0 kn B D Q h σ ce sl pc Ls (.ref a :: st) := by
  intro ok ew T vm0 I
  obtain ⟨k0, locs, X, h1, h2, h3, h4, h5, h6, h7, h8, h9, h10⟩ := I
  obtain ⟨T', X', e', s'⟩ := instY X ok.1 (s := D.s.setVm vm0) h4 h5 w h1 F (g := mkF D.m pc Ls (.ref a :: st)) rfl rfl (Jvm.hb ok.2.1 hd)
  obtain ⟨s2, o, q, rest⟩ := r ok ew T' vm0 ⟨k0, locs, X', e', h2, h3, h4, h5, h6, h7, h8, h9, h10⟩
  exact ⟨s2, o, s' _ q, rest⟩
theorem castYes (pc : Nat) {ix : Nat} {K : String} (hd : decode B.bs pc = .ok (.checkcast ix, 3)) (w : (Jvm.Cond.classLink B.y.cls ix K).before a0 Z = true) (F : Ins Z h a K true) (r : Go l Z a0 EL n0 kn B D Q h σ ce sl (pc + 3) Ls (.ref a :: st)) : Go l Z a0 EL n0 kn B D Q h σ ce sl pc Ls (.ref a :: st) := by
  intro ok ew T vm0 I
  obtain ⟨k0, locs, X, h1, h2, h3, h4, h5, h6, h7, h8, h9, h10⟩ := I
  obtain ⟨T', X', e', s'⟩ := castY X ok.1 (s := D.s.setVm vm0) h4 h5 w h1 F (g := mkF D.m pc Ls (.ref a :: st)) rfl rfl (Jvm.hb ok.2.1 hd)
  obtain ⟨s2, o, q, rest⟩ := r ok ew T' vm0 ⟨k0, locs, X', e', h2, h3, h4, h5, h6, h7, h8, h9, h10⟩
  exact ⟨s2, o, s' _ q, rest⟩
end Cast
theorem Fld.uniq {Z : State} {h : Heap} {a : Addr} {C n d : String} {v w : Value} (F : Fld Z h a C n d v) (G : Fld Z h a C n d w) : v = w := by
  obtain ⟨c1, _, _, _, f1, a1, a2, -, -, -, -, a7⟩ := F
  obtain ⟨c2, _, _, _, f2, b1, b2, -, -, -, -, b7⟩ := G
  cases a1.symm.trans b1
  have q := a2.symm.trans b2
  simp only [Option.some.injEq, Prod.mk.injEq] at q
  obtain ⟨-, -, -, rfl⟩ := q
  exact Option.some.inj (a7.symm.trans b7)
theorem Ary.uniq {Z : State} {h : Heap} {a : Addr} {ty ty' : FieldType} {vs ws : List Value} (F : Ary Z h a ty vs) (G : Ary Z h a ty' ws) : vs = ws := by
  obtain ⟨c1, A1, e1, -⟩ := F
  obtain ⟨c2, A2, e2, -⟩ := G
  cases A1.1.symm.trans A2.1
  exact e1.symm.trans e2
end Jvm.Road
namespace Jvm.Road
open Jvm Jvm.ClassFile Sem Op Lib Jvm.Free Jvm.Stand Jvm.LawKit Jvm.RoadKit Bundle
section Ends
variable {l : Launch} {Z : State} {a0 : Array Value} {EL : List (String × Nat)} {n0 : Nat} {kn : Bool} {B : Bdy} {D : Dyn} {Q : Post} {h : Heap} {σ : Addr → Prop} {ce sl : Nat} {Ls : Array Slot} {st : List Value} {a : Addr}
theorem own_at {vm0 : Vm} {T : State} {locs : List Loc} (X : Stand D.p l D.e B.rm (D.s.setVm vm0) D.m D.args D.bl D.meth D.c T locs ce sl) (hZ : Z.Warmed39 vm0) (ew : EW Z a0 EL) (hC : CHv Z EL vm0 h) {x : Addr} (hx : Own Z EL n0 vm0 h x) : Own Z EL n0 T.vm h x :=
  ⟨(CHv.at X hZ ew hC).safe hx.2.2 hx.1, hx.2.1, hx.2.2⟩
/-- the end of a walk -/
theorem ended {pc : Nat} {v : Option Value} (hv : B.rt = none → v = none) (hc : ce ≤ B.rm.cells) (hs : sl ≤ B.rm.slots) (hq : ∀ σ', (∀ x, σ x → σ' x) → Q v h σ')
    (k : ∀ T vm0 locs fs, Stand D.p l D.e B.rm (D.s.setVm vm0) D.m D.args D.bl D.meth D.c T locs ce sl → Ok B D → (∀ (f : JFrame) (acts : List Action), f.method = D.m → f.locked = none → f.entered = [] → (doReturn D.e (T.setTop f) acts v).1 = T.setFrames fs) → Steps D.p.tables D.e D.bl (T.setTop (mkF D.m pc Ls st)) (T.setFrames fs)) :
    Go l Z a0 EL n0 kn B D Q h σ ce sl pc Ls st := by
  intro ok ew T vm0 I
  obtain ⟨k0, locs, X, h1, h2, h3, h4, h5, h6, h7, h8, h9, h10⟩ := I
  obtain ⟨fs, hr, hrun, hended, hE⟩ := X.leaveW h2 (by rw [h1]; exact h3) (v := v) (fun q => hv (ok.2.2.2.1.symm.trans q)) ok.2.2.2.2.1
  have hh : (T.setFrames fs).heap = h := h1
  refine ⟨T.setFrames fs, .returned v, k T vm0 locs fs X ok hr, hrun, hended, v, locs, rfl, ?_, h7, ?_, ?_, ⟨hE.1, hE.2.1, hE.2.2.1, hE.2.2.2.mono hc hs⟩⟩
  · rw [hh]; exact hq _ fun x hx => own_at X h4 ew h6.1 (h9 x hx)
  · rw [hh]; exact h6.trans (show CHr Z EL vm0 h T.vm h from CHv.at X h4 ew h6.1)
  · rw [hh]; exact h8
theorem ret (pc : Nat) (hd : decode B.bs pc = .ok (.return_, 1)) (hrt : B.rt = none) (hc : ce ≤ B.rm.cells) (hs : sl ≤ B.rm.slots) (hq : ∀ σ', (∀ x, σ x → σ' x) → Q none h σ') : Go l Z a0 EL n0 kn B D Q h σ ce sl pc Ls [] :=
  ended (fun _ => rfl) hc hs hq (fun T vm0 locs fs X ok hr => X.returnOut ok.1 (ok.2.2.2.1.trans hrt) (Jvm.hb ok.2.1 hd) hr)
theorem iret (pc : Nat) {x : Int32} {t : FieldType} (w : Int32) (hd : decode B.bs pc = .ok (.ireturn, 1)) (hrt : B.rt = some t) (ht : t = .boolean ∨ t = .byte ∨ t = .char ∨ t = .short) (hw : nar t x = w) (hc : ce ≤ B.rm.cells) (hs : sl ≤ B.rm.slots) (hq : ∀ σ', (∀ x, σ x → σ' x) → Q (some (.int w)) h σ') : Go l Z a0 EL n0 kn B D Q h σ ce sl pc Ls (.int x :: st) :=
  ended (fun q => by rw [hrt] at q; cases q) hc hs hq (fun T vm0 locs fs X ok hr => retN X ok.1 (t := t) (ok.2.2.2.1.trans hrt) ht (Jvm.hb ok.2.1 hd) (by rw [hw]; exact hr))
theorem iretI (pc : Nat) {x : Int32} (hd : decode B.bs pc = .ok (.ireturn, 1)) (hrt : B.rt = some .int) (hc : ce ≤ B.rm.cells) (hs : sl ≤ B.rm.slots) (hq : ∀ σ', (∀ x, σ x → σ' x) → Q (some (.int x)) h σ') : Go l Z a0 EL n0 kn B D Q h σ ce sl pc Ls (.int x :: st) :=
  ended (fun q => by rw [hrt] at q; cases q) hc hs hq (fun T vm0 locs fs X ok hr => retOut X ok.1 (t := .int) (ok.2.2.2.1.trans hrt) rfl (Or.inl ⟨rfl, Or.inl rfl, x, rfl⟩) (Jvm.hb ok.2.1 hd) hr)
theorem aret (pc : Nat) {v : Value} {t : FieldType} (hd : decode B.bs pc = .ok (.areturn, 1)) (hrt : B.rt = some t) (ht : t.isReference = true) (hv : v.isRef = true) (hc : ce ≤ B.rm.cells) (hs : sl ≤ B.rm.slots) (hq : ∀ σ', (∀ x, σ x → σ' x) → Q (some v) h σ') : Go l Z a0 EL n0 kn B D Q h σ ce sl pc Ls (v :: st) :=
  ended (fun q => by rw [hrt] at q; cases q) hc hs hq (fun T vm0 locs fs X ok hr => retOut X ok.1 (t := t) (ok.2.2.2.1.trans hrt) (by rcases ref_cases hv with rfl | ⟨_, rfl⟩ <;> cases t <;> first | rfl | (cases ht; done)) (Or.inr (Or.inr (Or.inr (Or.inr ⟨rfl, ht, hv⟩)))) (Jvm.hb ok.2.1 hd) hr)
/-- ldc of a String constant that is read -/
theorem ldcS (pc : Nat) {ix : Nat} (text : String) (cs : List Int32) (n : Nat) (hd : decode B.bs pc = .ok (.ldc ix, 2)) (w : (Jvm.Cond.stringLink B.y.cls ix text).before a0 Z = true) (wS : ∀ a ∈ Bundle.stringAtoms, a.before a0 Z = true) (hmem : (B.y.cls, ix) ∈ EL)
    (ht : ∀ c ∈ text.toList, c.toNat < 256) (hvs : text.toList.map (fun c => Value.int (Jvm.Lit.byteI c.toNat.toUInt16)) = cs.map byt) (hcs : ∀ c ∈ cs, 0 ≤ c.toInt ∧ c.toInt < 256) (hn : 4 * text.toList.length ≤ n) (hbig : n ≤ 536870912) {ce' sl' : Nat} (hce : ce + 2 = ce') (hsl : sl + (n + 4) = sl') (hc : ce' ≤ B.rm.cells) (hs : sl' ≤ B.rm.slots)
    (r : ∀ a b h' σ', Keep h h' [] → (∀ x, σ x → σ' x) → Str Z h' a b cs → (∀ x, σ' x → x ≠ a ∧ x ≠ b) → Go l Z a0 EL n0 kn B D Q h' σ' ce' sl' (pc + 2) Ls (.ref a :: st)) : Go l Z a0 EL n0 kn B D Q h σ ce sl pc Ls st := by
  subst hce hsl
  intro ok ew T vm0 I
  obtain ⟨k0, locs, X, h1, h2, h3, h4, h5, h6, h7, h8, h9, h10⟩ := I
  have hlen : (cs.map byt).length = text.toList.length := by rw [← hvs, List.length_map]
  have hsm : text.toList.length < 2147483648 := by omega
  have hz : (text.toList.length).toInt32.toInt = (text.toList.length : Int) := len_toInt hsm
  obtain ⟨q1, q2⟩ := ix_of hz
  obtain ⟨a, T', h', k1, b, k, X', e', E, hS', hk', hZ', ho', E1, E2, E3, E4, l1, l2, hCr, hL, hne, s'⟩ := ldcCH (s := D.s) X ok.1 h4 h5 w wS h1 h2 h3 ew hmem h6.1 (vs := cs.map byt) (z := (text.toList.length).toInt32) ⟨ht, hvs⟩ q1 (by rw [q2, hlen]) (g := mkF D.m pc Ls st) rfl (Jvm.hb ok.2.1 hd) hn hbig hc hs
  have hal : vm0.Alike T'.vm := by
    have z1 := h4.alike
    have z2 : Z.vm.Alike T'.vm := State.Warmed39.alike hZ'
    exact z1.symm.trans z2
  obtain ⟨s2, o, q, rest⟩ := r a b h' (Own Z EL n0 T'.vm h') (keep_ext E) (fun x hx => ⟨hCr.safe (h9 x hx).2.2 (h9 x hx).1, (h9 x hx).2.1, Nat.lt_of_lt_of_le (h9 x hx).2.2 E.1⟩) ⟨E1, E2, E3, Ary.of_arv E4 (by rw [q2, hlen]), hcs⟩ (fun x hx => hne x hx.1) ok ew T' T'.vm
    ⟨k1, locs, X', e', hS', hk', hZ', ho', h6.trans hCr, h7, h8.ext E, fun x hx => hx, fun z => ⟨(h10 z).1.alikeC hal, (h10 z).2.alikeC hal⟩⟩
  exact ⟨s2, o, s' _ q, rest⟩
end Ends
section Calls
variable {l : Launch} {Z : State} {a0 : Array Value} {EL : List (String × Nat)} {n0 : Nat} {kn : Bool} {B B' : Bdy} {D : Dyn} {Q Q' : Post} {h : Heap} {σ : Addr → Prop} {ce sl : Nat} {Ls : Array Slot} {st : List Value} {a : Addr}
theorem Con.back {R : Room} {p : Program} {e : Env} {below : List Frame} {s : State} {args : Array Value} {vm0 : Vm} {len W : Nat} {as : Array Value} (hM : Con l Z EL n0 kn B' [] σ as h Q') (hZ : Z.Warmed39 vm0) (wc : (Jvm.Cond.code B'.y B'.bs B'.ml B'.rt).before a0 Z = true) (wz : (Jvm.Cond.initialized B'.y.cls).before a0 Z = true)
    (hf : B'.rm.frames + 1 ≤ R.frames) (hl : W + (B'.ml + 11) + B'.rm.locals ≤ R.locals) (hEL : EW Z a0 EL) (H : CHv Z EL vm0 h) (hO : Old Z n0 h) (hσ : ∀ x, σ x → Own Z EL n0 vm0 h x) (hK : kn = true → vm0.MethodsKnown ∧ vm0.FramesKnown below) :
    BackS l R p e below (s.setVm vm0) args B'.y len W (fun A a => a = as ∧ A.U.heap = h ∧ A.cells + B'.rm.cells ≤ R.cells ∧ A.slots + B'.rm.slots ≤ R.slots)
      (fun A _ v Bp => ∃ L, (Q' v Bp.U.heap (Own Z EL n0 Bp.U.vm Bp.U.heap) ∧ Fr n0 L ∧ Old Z n0 Bp.U.heap) ∧ Bp.locs = A.locs ++ L ∧ Bp.cells = A.cells + B'.rm.cells ∧ Bp.slots = A.slots + B'.rm.slots ∧ CHr Z EL vm0 h Bp.U.vm Bp.U.heap) :=
  BackS.of_freeWG (bytes := B'.bs) (maxL := B'.ml) (ret := B'.rt) (E := fun _ first o t L k n => k = B'.rm.cells ∧ n = B'.rm.slots ∧ (∃ v, o = .returned v ∧ Q' v t.heap (Own Z EL n0 t.vm t.heap) ∧ Fr n0 L ∧ Old Z n0 t.heap) ∧ CHr Z EL first.vm first.heap t.vm t.heap) hM hf hl
    (fun m meth c A a Y hp => have hU : Z.Warmed39 A.U.vm := wtrans (s := s.setVm vm0) hZ Y.warmed
      ⟨by show (Cond.and _ .tt).before a A.U = true; rw [Cond.before_and, mv hU wc]; rfl, mv hU wc, mv hU wz, hp.2.2.1, hp.2.2.2⟩)
    (fun m meth c A a g mk Y hp => ⟨hp.1, wtrans (s := s.setVm vm0) hZ Y.warmed, hp.2.1, (CHv.at Y hZ hEL H).1, hO, fun x hx => ⟨(CHv.at Y hZ hEL H).safe (hσ x hx).2.2 (hσ x hx).1, (hσ x hx).2⟩⟩)
    (fun m meth c A a g mk Y _ hg hkn => known_frames Y hg (hK hkn).1 (hK hkn).2)
    (fun _ _ _ _ ⟨v, L, h1, h2, h3, h4, h5, h6⟩ => ⟨L, _, _, h6, rfl, rfl, ⟨v, h1, h2, h3, h5⟩, h4⟩)
    (fun m meth c A a g mk v t L k n Y hp _ _ ⟨e1, e2, ⟨v', e3, e4⟩, e5⟩ => by
      cases e3; subst e1 e2
      refine ⟨L, e4, rfl, rfl, rfl, (CHv.at Y hZ hEL H).trans ?_⟩
      rw [← hp.2.1]; exact e5)
/-- behind a call -/
theorem called {pc len : Nat} {rest : List Value} {as : Array Value} (W : Nat) (hM : Con l Z EL n0 kn B' [] σ as h Q') (wc : (Jvm.Cond.code B'.y B'.bs B'.ml B'.rt).before a0 Z = true) (wz : (Jvm.Cond.initialized B'.y.cls).before a0 Z = true)
    (hf : B'.rm.frames + 1 ≤ B.rm.frames) (hl : W + (B'.ml + 11) + B'.rm.locals ≤ B.rm.locals) (hc : ce + B'.rm.cells ≤ B.rm.cells) (hs : sl + B'.rm.slots ≤ B.rm.slots)
    (k : ∀ T vm0 locs, Stand D.p l D.e B.rm (D.s.setVm vm0) D.m D.args D.bl D.meth D.c T locs ce sl → T.heap = h → Z.Warmed39 vm0 → vm0.findClass B.y.cls = some D.m.cls → Ok B D →
      ∀ {Pre : Pt → Array Value → Prop} {Pst : Pt → Array Value → Option Value → Pt → Prop}, BackS l B.rm D.p D.e D.bl (D.s.setVm vm0) D.args B'.y len W Pre Pst → (∀ vm₁, (D.s.setVm vm0).WarmedH vm₁ → Pre ⟨T.setVm vm₁, locs, ce, sl⟩ as) →
      ∃ (v : Option Value) (vm₁ : Vm) (Bp : Pt), (D.s.setVm vm0).WarmedH vm₁ ∧ Stand D.p l D.e B.rm ((D.s.setVm vm0).setVm Bp.U.vm) D.m D.args D.bl D.meth D.c Bp.U Bp.locs Bp.cells Bp.slots ∧ (D.s.setVm vm0).Since Bp.U.vm Bp.U.heap.size ∧ T.heap.size ≤ Bp.U.heap.size ∧ Pst ⟨T.setVm vm₁, locs, ce, sl⟩ as v Bp ∧
        Steps D.p.tables D.e D.bl (T.setTop (mkF D.m pc Ls st)) (Bp.U.setTop (mkF D.m (pc + len) Ls (v.toList ++ rest))))
    (r : ∀ v h' σ', (∀ x, σ x → σ' x) → Q' v h' σ' → Go l Z a0 EL n0 kn B D Q h' σ' (ce + B'.rm.cells) (sl + B'.rm.slots) (pc + len) Ls (push v rest)) : Go l Z a0 EL n0 kn B D Q h σ ce sl pc Ls st := by
  intro ok ew T vm0 I
  obtain ⟨k0, locs, X, h1, h2, h3, h4, h5, h6, h7, h8, h9, h10⟩ := I
  obtain ⟨v, vm₁, ⟨U, Lc, kc, ks⟩, -, X', hS', hgr, ⟨L, ⟨hQ, hFr, hOld⟩, e1, e2, e3, hCr⟩, stp⟩ := k T vm0 locs X h1 h4 h5 ok (Con.back (s := D.s) hM h4 wc wz hf hl ew h6.1 h8 h9 h10) (fun vm₁ _ => ⟨rfl, h1, hc, hs⟩)
  dsimp only [Pt.U, Pt.locs, Pt.cells, Pt.slots] at X' hS' hgr hQ hOld e1 e2 e3 hCr stp
  subst e1 e2 e3
  obtain ⟨Y, hS2, hZ2, ho2⟩ := rebS h2 (by rw [← h1] at h3; exact h3) X' hS' hgr h4 h5
  have hal : vm0.Alike U.vm := hS'.1.alike
  rw [push_eq] at stp
  obtain ⟨s2, o, q, rest'⟩ := r v U.heap (Own Z EL n0 U.vm U.heap) (fun x hx => ⟨hCr.safe (h9 x hx).2.2 (h9 x hx).1, (h9 x hx).2.1, Nat.lt_of_lt_of_le (h9 x hx).2.2 (by rw [← h1]; exact hgr)⟩) hQ ok ew U U.vm
    ⟨U.heap.size, _, Y, rfl, hS2, Nat.le_refl _, hZ2, ho2, h6.trans hCr, h7.app hFr, hOld, fun x hx => hx, fun z => ⟨(h10 z).1.alikeC hal, (h10 z).2.alikeC hal⟩⟩
  exact ⟨s2, o, stp.trans q, rest'⟩
abbrev notMH (y : MethodName) : Prop := y.cls ≠ "java/lang/invoke/MethodHandle" ∧ y.cls ≠ "java/lang/invoke/VarHandle"
theorem callS (pc : Nat) {ix : Nat} {argsL rest : List Value} (W : Nat) (hd : decode B.bs pc = .ok (.invokestatic ix, 3)) (w1 : (Jvm.Cond.methodLink B.y.cls ix B'.y).before a0 Z = true) (w2 : (Jvm.Cond.static B'.y).before a0 Z = true) (w3 : (Jvm.Cond.initialized B'.y.cls).before a0 Z = true) (w4 : (Jvm.Cond.code B'.y B'.bs B'.ml B'.rt).before a0 Z = true) (hy : notMH B'.y)
    (hM : Con l Z EL n0 kn B' [] σ argsL.toArray h Q') (hlen : ∀ sig, parseMethodDescriptor B'.y.desc = some sig → argsL.length = sig.parameters.length) (hst : st = argsL.reverse ++ rest) (hW : (rest.map fun v => v.category).sum = W) (hsz : Ls.size = B.ml)
    (hf : B'.rm.frames + 1 ≤ B.rm.frames) (hl : W + (B'.ml + 11) + B'.rm.locals ≤ B.rm.locals) {ce' sl' : Nat} (hce : ce + B'.rm.cells = ce') (hsl : sl + B'.rm.slots = sl') (hc : ce' ≤ B.rm.cells) (hs : sl' ≤ B.rm.slots)
    (r : ∀ v h' σ', (∀ x, σ x → σ' x) → Q' v h' σ' → Go l Z a0 EL n0 kn B D Q h' σ' ce' sl' (pc + 3) Ls (push v rest)) : Go l Z a0 EL n0 kn B D Q h σ ce sl pc Ls st := by
  subst hce hsl
  exact called W hM w4 w3 hf hl hc hs (fun T vm0 locs X h1 h4 h5 ok {Pre Pst} hB hpre =>
    callSS X ok.1 (s := D.s.setVm vm0) h5 (mv (s := D.s.setVm vm0) h4 w1) (mv (s := D.s.setVm vm0) h4 w2) (mv (s := D.s.setVm vm0) h4 w3) (mv (s := D.s.setVm vm0) h4 w4) hy hB (g := mkF D.m pc Ls st) rfl (hsz.trans ok.2.2.1.symm) (argsL := argsL) (rest := rest) hlen hst (by show 2 * 0 + _ ≤ _; rw [hW]; omega) (Jvm.hb ok.2.1 hd) hpre) r
theorem callI (pc : Nat) {ix : Nat} {argsL rest : List Value} (W : Nat) (hd : decode B.bs pc = .ok (.invokespecial ix, 3)) (w1 : (Jvm.Cond.methodLink B.y.cls ix B'.y).before a0 Z = true) (w2 : (Jvm.Cond.instanceMethod B'.y).before a0 Z = true) (w3 : (Jvm.Cond.initialized B'.y.cls).before a0 Z = true) (w4 : (Jvm.Cond.code B'.y B'.bs B'.ml B'.rt).before a0 Z = true) (hi : B'.y.name = "<init>") (hrt : B'.rt = none) (hy : notMH B'.y)
    (hM : Con l Z EL n0 kn B' [] σ (.ref a :: argsL).toArray h Q') (hlen : ∀ sig, parseMethodDescriptor B'.y.desc = some sig → argsL.length = sig.parameters.length) (hst : st = argsL.reverse ++ .ref a :: rest) (hW : (rest.map fun v => v.category).sum = W) (hsz : Ls.size = B.ml)
    (hf : B'.rm.frames + 1 ≤ B.rm.frames) (hl : W + (B'.ml + 11) + B'.rm.locals ≤ B.rm.locals) {ce' sl' : Nat} (hce : ce + B'.rm.cells = ce') (hsl : sl + B'.rm.slots = sl') (hc : ce' ≤ B.rm.cells) (hs : sl' ≤ B.rm.slots)
    (r : ∀ v h' σ', (∀ x, σ x → σ' x) → Q' v h' σ' → Go l Z a0 EL n0 kn B D Q h' σ' ce' sl' (pc + 3) Ls (push v rest)) : Go l Z a0 EL n0 kn B D Q h σ ce sl pc Ls st := by
  subst hce hsl
  exact called W hM w4 w3 hf hl hc hs (fun T vm0 locs X h1 h4 h5 ok {Pre Pst} hB hpre =>
    X.specialBackS ok.1 hi (s := D.s.setVm vm0) h5 (mv (s := D.s.setVm vm0) h4 w1) (mv (s := D.s.setVm vm0) h4 w2) (bytes := B'.bs) (maxL := B'.ml) (mv (s := D.s.setVm vm0) h4 (hrt ▸ w4)) hy hB (g := mkF D.m pc Ls st) rfl (hsz.trans ok.2.2.1.symm) (Steps.refl _) (argsL := argsL) (rest := rest) hlen hst (by show 2 * 0 + _ ≤ _; rw [hW]; omega) (Jvm.hb ok.2.1 hd) hpre) r
theorem callV (pc : Nat) {ix : Nat} {y : MethodName} {argsL rest : List Value} (C : String) (W : Nat) (hd : decode B.bs pc = .ok (.invokevirtual ix, 3)) (w1 : (Jvm.Cond.methodLink B.y.cls ix y).before a0 Z = true) (w2 : (Jvm.Cond.declares y).before a0 Z = true) (nf : ∀ vm0, Z.Warmed39 vm0 → NotFace (D.s.setVm vm0) y) (w5 : (Jvm.Cond.selects C y B'.y).before a0 Z = true) (w6 : (Jvm.Cond.instanceMethod B'.y).before a0 Z = true) (w3 : (Jvm.Cond.initialized B'.y.cls).before a0 Z = true) (w4 : (Jvm.Cond.code B'.y B'.bs B'.ml B'.rt).before a0 Z = true) (hy : notMH y)
    (E : Exa Z h a C) (hM : Con l Z EL n0 kn B' [] σ (.ref a :: argsL).toArray h Q') (hlen : ∀ sig, parseMethodDescriptor y.desc = some sig → argsL.length = sig.parameters.length) (hst : st = argsL.reverse ++ .ref a :: rest) (hW : (rest.map fun v => v.category).sum = W) (hsz : Ls.size = B.ml)
    (hf : B'.rm.frames + 1 ≤ B.rm.frames) (hl : W + (B'.ml + 11) + B'.rm.locals ≤ B.rm.locals) {ce' sl' : Nat} (hce : ce + B'.rm.cells = ce') (hsl : sl + B'.rm.slots = sl') (hc : ce' ≤ B.rm.cells) (hs : sl' ≤ B.rm.slots)
    (r : ∀ v h' σ', (∀ x, σ x → σ' x) → Q' v h' σ' → Go l Z a0 EL n0 kn B D Q h' σ' ce' sl' (pc + 3) Ls (push v rest)) : Go l Z a0 EL n0 kn B D Q h σ ce sl pc Ls st := by
  subst hce hsl
  exact called W hM w4 w3 hf hl hc hs (fun T vm0 locs X h1 h4 h5 ok {Pre Pst} hB hpre => by
    obtain ⟨cq, kq, qa, qb, qc⟩ := isOf (s := D.s.setVm vm0) h4 h1 E
    exact X.virtualBackS ok.1 (s := D.s.setVm vm0) (C := C) h5 (mv (s := D.s.setVm vm0) h4 w1) (mv (s := D.s.setVm vm0) h4 w2) (nf vm0 h4) (mv (s := D.s.setVm vm0) h4 w5) (mv (s := D.s.setVm vm0) h4 w6) hy hB qa qc (g := mkF D.m pc Ls st) rfl (hsz.trans ok.2.2.1.symm) (Steps.refl _) (argsL := argsL) (rest := rest) hlen hst (by show 2 * 0 + _ ≤ _; rw [hW]; omega) (Jvm.hb ok.2.1 hd) hpre) r
/-- Object.<init> -/
theorem initObj (pc : Nat) {ix : Nat} (hd : decode B.bs pc = .ok (.invokespecial ix, 3)) (w1 : (Jvm.Cond.methodLink B.y.cls ix Lib.objectInit).before a0 Z = true) (w2 : (Jvm.Cond.instanceMethod Lib.objectInit).before a0 Z = true) (w3 : (Jvm.Cond.code Lib.objectInit ⟨#[0xb1]⟩ 1 none).before a0 Z = true) (W : Nat) (hW : (st.map fun v => v.category).sum = W) (hsz : Ls.size = B.ml) (hf : 1 ≤ B.rm.frames) (hl : W + 12 ≤ B.rm.locals)
    (r : Go l Z a0 EL n0 kn B D Q h σ ce sl (pc + 3) Ls st) : Go l Z a0 EL n0 kn B D Q h σ ce sl pc Ls (.ref a :: st) := by
  intro ok ew T vm0 I
  obtain ⟨k0, locs, X, h1, h2, h3, h4, h5, h6, h7, h8, h9, h10⟩ := I
  obtain ⟨T', X', e', s'⟩ := initO X ok.1 (s := D.s.setVm vm0) h4 h5 w1 w2 w3 h1 (g := mkF D.m pc Ls (.ref a :: st)) rfl (hsz.trans ok.2.2.1.symm) rfl (Jvm.hb ok.2.1 hd) hf (W := W) (by show 2 * 0 + _ ≤ _; rw [hW]; omega) hl
  obtain ⟨s2, o, q, rest⟩ := r ok ew T' vm0 ⟨k0, locs, X', e', h2, h3, h4, h5, h6, h7, h8, h9, h10⟩
  exact ⟨s2, o, s' _ q, rest⟩
end Calls
end Jvm.Road
namespace Jvm.Road
open Jvm Jvm.ClassFile Sem Op Lib Jvm.Free Jvm.Stand Jvm.LawKit Jvm.RoadKit Bundle
theorem n32 {i : Nat} (h : i < 2147483648) : i.toInt32.toInt = (i : Int) := len_toInt h
theorem succ32 (i : Nat) : i.toInt32 + 1 = (i + 1).toInt32 := (Int32.ofNat_add i 1).symm
theorem add32n (i j : Nat) : i.toInt32 + j.toInt32 = (i + j).toInt32 := (Int32.ofNat_add i j).symm
theorem lt32 {i j : Nat} (hi : i < 2147483648) (hj : j < 2147483648) : i.toInt32 < j.toInt32 ↔ i < j := by
  rw [Int32.lt_iff_toInt_lt, n32 hi, n32 hj]; omega
theorem eq32 {i j : Nat} (hi : i < 2147483648) (hj : j < 2147483648) : i.toInt32 = j.toInt32 ↔ i = j := by
  rw [← Int32.toInt_inj, n32 hi, n32 hj]; omega
/-- a slot that an int may be stored in -/
def W1 (w : Slot) : Prop := w = .unset ∨ ∃ v, w = .val (.int v)
theorem nar_byte (x : Int32) : nar .byte (Int8.toInt32 (Int32.toInt8 x)) = Int8.toInt32 (Int32.toInt8 x) := by simp [nar]
theorem nar_chr (x : Int32) : nar .char (chr x) = chr x := by simp only [nar, chr, UInt32.toUInt32_toInt32, UInt16.toUInt16_toUInt32]
theorem set_mid {α β : Type} (f : α → β) (cs : List α) (z : β) (k r : Nat) (hk : k < cs.length) : ((cs.take k).map f ++ List.replicate (r + 1) z).set k (f cs[k]) = (cs.take (k + 1)).map f ++ List.replicate r z := by
  have hl : ((cs.take k).map f).length = k := by simp; omega
  rw [List.set_append, if_neg (by omega), hl, Nat.sub_self, List.replicate_succ, List.set_cons_zero, List.take_succ_eq_append_getElem hk, List.map_append]
  simp
end Jvm.Road
namespace Jvm.Road
open Jvm Jvm.ClassFile Sem Op Lib Jvm.Free Jvm.Stand Jvm.LawKit Jvm.RoadKit Bundle
theorem narRef {t : FieldType} {v : Value} (ht : t.isReference = true) (hv : v.isRef = true) : narrow t v = v := by
  rcases ref_cases hv with rfl | ⟨_, rfl⟩ <;> cases t <;> first | rfl | (cases ht; done)
theorem fitRef {t : FieldType} {v : Value} (ht : t.isReference = true) (hv : v.isRef = true) : fits t v = true := by
  rcases ref_cases hv with rfl | ⟨_, rfl⟩ <;> cases t <;> first | rfl | (cases ht; done)
theorem and255 (x : Int32) : 0 ≤ (chr (x &&& 255)).toInt ∧ (chr (x &&& 255)).toInt < 256 := by
  rw [show chr (x &&& 255) = x &&& 255 from i2c_mask x]
  have h1 : (x &&& 255).toInt = ((x.toBitVec &&& 255#32).toInt) := rfl
  have h2 : (x.toBitVec &&& 255#32).toNat ≤ 255 := by rw [BitVec.toNat_and]; exact Nat.and_le_right
  have h3 : (x.toBitVec &&& 255#32).toInt = ((x.toBitVec &&& 255#32).toNat : Int) := BitVec.toInt_eq_toNat_of_lt (by omega)
  rw [h1, h3]; omega
end Jvm.Road
namespace Jvm.Road
open Jvm Jvm.ClassFile Sem Op Lib Jvm.Free Jvm.Stand Jvm.LawKit Jvm.RoadKit Bundle
theorem nameI {l : Launch} {Z : State} {a0 : Array Value} {EL : List (String × Nat)} {n0 : Nat} {kn : Bool} {B : Bdy} {D : Dyn} {Q : Post} {h : Heap} {σ : Addr → Prop} {ce sl : Nat} {Ls : Array Slot} {st : List Value} {pc : Nat} {x : Int32}
    (r : ∀ z, z = x → Go l Z a0 EL n0 kn B D Q h σ ce sl pc Ls (.int z :: st)) : Go l Z a0 EL n0 kn B D Q h σ ce sl pc Ls (.int x :: st) := r x rfl
theorem nameJ {l : Launch} {Z : State} {a0 : Array Value} {EL : List (String × Nat)} {n0 : Nat} {kn : Bool} {B : Bdy} {D : Dyn} {Q : Post} {h : Heap} {σ : Addr → Prop} {ce sl : Nat} {Ls : Array Slot} {st : List Value} {pc : Nat} {x : Int64}
    (r : ∀ z, z = x → Go l Z a0 EL n0 kn B D Q h σ ce sl pc Ls (.long z :: st)) : Go l Z a0 EL n0 kn B D Q h σ ce sl pc Ls (.long x :: st) := r x rfl
theorem and3 (x : Int32) : x &&& 3 = 0 ∨ x &&& 3 = 1 ∨ x &&& 3 = 2 ∨ x &&& 3 = 3 := by
  have h1 : (x &&& 3).toInt = ((x.toBitVec &&& 3#32).toInt) := rfl
  have h2 : (x.toBitVec &&& 3#32).toNat ≤ 3 := by rw [BitVec.toNat_and]; exact Nat.and_le_right
  have h3 : (x.toBitVec &&& 3#32).toInt = ((x.toBitVec &&& 3#32).toNat : Int) := BitVec.toInt_eq_toNat_of_lt (by omega)
  have h4 : (x &&& 3).toInt = 0 ∨ (x &&& 3).toInt = 1 ∨ (x &&& 3).toInt = 2 ∨ (x &&& 3).toInt = 3 := by rw [h1, h3]; omega
  rcases h4 with h | h | h | h
  · exact Or.inl (Int32.toInt_inj.mp h)
  · exact Or.inr (Or.inl (Int32.toInt_inj.mp h))
  · exact Or.inr (Or.inr (Or.inl (Int32.toInt_inj.mp h)))
  · exact Or.inr (Or.inr (Or.inr (Int32.toInt_inj.mp h)))
/-- a slot that a reference may be stored in -/
def W2 (w : Slot) : Prop := w = .unset ∨ ∃ v, w = .val (.ref v)
end Jvm.Road
namespace Jvm.Road
open Jvm Jvm.ClassFile Sem Op Lib Jvm.Free Jvm.Stand Jvm.LawKit Jvm.RoadKit Bundle
theorem shr0 (x : Int32) : x >>> ((0 : Int32) &&& 31) = x := by
  apply Int32.toBitVec_inj.mp; simp [Int32.toBitVec_shiftRight]
theorem lat_nat {c : Int32} (h : 0 ≤ c.toInt ∧ c.toInt < 256) : ∃ i : Fin 256, c = Int32.ofInt (i.1 : Int) := by
  refine ⟨⟨c.toInt.toNat, by omega⟩, ?_⟩
  apply Int32.toInt_inj.mp
  show c.toInt = (Int32.ofInt ((c.toInt.toNat : Nat) : Int)).toInt
  rw [Int.toNat_of_nonneg h.1, Int32.ofInt_toInt]
theorem byte_back {c : Int32} (h : 0 ≤ c.toInt ∧ c.toInt < 256) : nar .char (chr (Int8.toInt32 (Int32.toInt8 c) &&& 255)) = c := by
  obtain ⟨i, rfl⟩ := lat_nat h
  exact (by decide +kernel : ∀ i : Fin 256, nar .char (chr (Int8.toInt32 (Int32.toInt8 (Int32.ofInt (i.1 : Int))) &&& 255)) = Int32.ofInt (i.1 : Int)) i
theorem nar_lat {c : Int32} (h : 0 ≤ c.toInt ∧ c.toInt < 256) : nar .char c = c := by
  obtain ⟨i, rfl⟩ := lat_nat h
  exact (by decide +kernel : ∀ i : Fin 256, nar .char (Int32.ofInt (i.1 : Int)) = Int32.ofInt (i.1 : Int)) i
end Jvm.Road
namespace Jvm.Road
open Jvm Jvm.ClassFile Sem Op Lib Jvm.Free Jvm.Stand Jvm.LawKit Jvm.RoadKit Bundle
/-- an int's 32 bits as a number -/
def u32 (x : Int32) : Nat := x.toBitVec.toNat
theorem u32_lt (x : Int32) : u32 x < 4294967296 := x.toBitVec.isLt
theorem u32_inj {x y : Int32} (h : u32 x = u32 y) : x = y := Int32.toBitVec_inj.mp (BitVec.eq_of_toNat_eq h)
theorem toInt_u32 {x : Int32} (h : u32 x < 2147483648) : x.toInt = (u32 x : Int) := by
  show x.toBitVec.toInt = _
  exact BitVec.toInt_eq_toNat_of_lt (by show 2 * u32 x < 2 ^ 32; omega)
theorem u32_and (x y : Int32) : u32 (x &&& y) = u32 x &&& u32 y := BitVec.toNat_and ..
theorem u32_chr (x : Int32) : u32 (chr x) = u32 x % 65536 := by
  show ((x.toBitVec.setWidth 16).setWidth 32).toNat = _
  rw [BitVec.toNat_setWidth, BitVec.toNat_setWidth]
  show x.toBitVec.toNat % 65536 % 4294967296 = _
  show _ = x.toBitVec.toNat % 65536
  omega
theorem u32_ushr (x y : Int32) : u32 (XT.ushr x y) = u32 x >>> (u32 y % 32) := by
  show ((x.toBitVec >>> ((y &&& 31).toBitVec.umod 32#32)).toNat) = _
  have h : ((y &&& 31).toBitVec.umod 32#32).toNat = u32 y % 32 := by
    show (BitVec.umod (y.toBitVec &&& 31#32) 32#32).toNat = _
    rw [show (BitVec.umod (y.toBitVec &&& 31#32) 32#32) = (y.toBitVec &&& 31#32) % 32#32 from rfl, BitVec.toNat_umod, BitVec.toNat_and]
    show (u32 y &&& 31) % 32 = _
    rw [show (31 : Nat) = 2 ^ 5 - 1 from rfl, Nat.and_two_pow_sub_one_eq_mod]
    omega
  rw [← h]
  exact BitVec.toNat_ushiftRight ..
theorem and_mask (x : Nat) (k : Nat) : x &&& (2 ^ k - 1) = x % 2 ^ k := Nat.and_two_pow_sub_one_eq_mod x k
theorem u32_and255 (x : Int32) : u32 (x &&& 255) = u32 x % 256 := by rw [u32_and]; exact and_mask _ 8
theorem u32_and7 (x : Int32) : u32 (x &&& 7) = u32 x % 8 := by rw [u32_and]; exact and_mask _ 3
theorem u32_and3 (x : Int32) : u32 (x &&& 3) = u32 x % 4 := by rw [u32_and]; exact and_mask _ 2
theorem u32_and1 (x : Int32) : u32 (x &&& 1) = u32 x % 2 := by rw [u32_and]; exact and_mask _ 1
theorem chr_id {x : Int32} (h : u32 x < 65536) : chr x = x := u32_inj (by rw [u32_chr]; omega)
end Jvm.Road
namespace Jvm.Road
open Jvm Jvm.ClassFile Sem Op Lib Jvm.Free Jvm.Stand Jvm.LawKit Jvm.RoadKit Bundle
/-- the byte of a char, as an int -/
def bf (c : Int32) : Int32 := Int8.toInt32 (Int32.toInt8 c)
theorem bf_inj {c d : Int32} (hc : 0 ≤ c.toInt ∧ c.toInt < 256) (hd : 0 ≤ d.toInt ∧ d.toInt < 256) (h : bf c = bf d) : c = d := by
  rw [← byte_back hc, ← byte_back hd]
  show nar .char (chr (bf c &&& 255)) = nar .char (chr (bf d &&& 255))
  rw [h]
theorem bfs_inj : ∀ {cs ds : List Int32}, (∀ c ∈ cs, 0 ≤ c.toInt ∧ c.toInt < 256) → (∀ c ∈ ds, 0 ≤ c.toInt ∧ c.toInt < 256) → cs.map bf = ds.map bf → cs = ds
  | [], [], _, _, _ => rfl
  | [], d :: ds, _, _, h => by simp at h
  | c :: cs, [], _, _, h => by simp at h
  | c :: cs, d :: ds, h1, h2, h => by
    simp only [List.map_cons, List.cons.injEq] at h
    rw [bf_inj (h1 _ (by simp)) (h2 _ (by simp)) h.1, bfs_inj (fun x hx => h1 x (by simp [hx])) (fun x hx => h2 x (by simp [hx])) h.2]
theorem byts (cs : List Int32) : cs.map byt = (cs.map bf).map Value.int := by rw [List.map_map]; rfl
theorem ints_inj : ∀ {xs ys : List Int32}, xs.map Value.int = ys.map Value.int → xs = ys
  | [], [], _ => rfl
  | [], d :: ds, h => by simp at h
  | c :: cs, [], h => by simp at h
  | c :: cs, d :: ds, h => by
    simp only [List.map_cons, List.cons.injEq, Value.int.injEq] at h
    rw [h.1, ints_inj h.2]
theorem Str.uniq {Z : State} {h : Heap} {a b b' : Addr} {cs ds : List Int32} (S : Str Z h a b cs) (S' : Str Z h a b' ds) : cs = ds := by
  have e := Value.ref.inj (Fld.uniq S.2.2.1 S'.2.2.1)
  subst e
  have q := Ary.uniq S.2.2.2.1 S'.2.2.2.1
  rw [byts, byts] at q
  exact bfs_inj S.2.2.2.2 S'.2.2.2.2 (ints_inj q)
theorem take_ext {xs ys : List Int32} {k : Nat} (hk : k < xs.length) (hk' : k < ys.length) (h : xs.take k = ys.take k) (e : xs[k] = ys[k]) : xs.take (k + 1) = ys.take (k + 1) := by
  rw [List.take_succ_eq_append_getElem hk, List.take_succ_eq_append_getElem hk', h, e]
theorem u32_mask31 (x : Int32) : u32 (x &&& 2147483647) = u32 x % 2147483648 := by rw [u32_and]; exact and_mask _ 31
theorem rem_pos {x y : Int32} {n : Nat} (hx : u32 x < 2147483648) (hy : y.toInt = (n : Int)) (hn : 0 < n) : (x % y).toInt = ((u32 x % n : Nat) : Int) := by
  rw [Int32.toInt_mod, toInt_u32 hx, hy]
  rfl
theorem small_of {x : Int32} {n : Nat} {k : Nat} (h : x.toInt = ((k % n : Nat) : Int)) (hn : 0 < n) : ∃ i : Fin n, x = Int32.ofInt (i.1 : Int) := by
  refine ⟨⟨k % n, Nat.mod_lt _ hn⟩, ?_⟩
  have := congrArg Int32.ofInt h
  rwa [Int32.ofInt_toInt] at this
end Jvm.Road
namespace Jvm.Road
open Jvm Jvm.ClassFile Sem Op Lib Jvm.Free Jvm.Stand Jvm.LawKit Jvm.RoadKit Bundle Jvm.Free.Exc
section Exc
variable {l : Launch} {Z : State} {a0 : Array Value} {EL : List (String × Nat)} {n0 : Nat} {kn : Bool} {B : Bdy} {D : Dyn} {Q : Post} {h : Heap} {σ : Addr → Prop} {ce sl : Nat} {Ls : Array Slot} {st : List Value} {a : Addr}
/-- super(msg) of a Throwable, down a chain of constructors that only pass it on -/
theorem excInit (pc : Nat) {ix n : Nat} {rc : String} {links : List Link} {msg : Value} (W : Nat) (hd : decode B.bs pc = .ok (.invokespecial ix, 3)) (hok : linksOk 1 links = true)
    (w1 : (Jvm.Cond.methodLink B.y.cls ix (ctor 1 (headName links))).before a0 Z = true) (w2 : (Jvm.Cond.instanceMethod (ctor 1 (headName links))).before a0 Z = true) (wT : (chainTab 1 rc links).before a0 Z = true) (wi : (Jvm.Cond.instantiable rc n).before a0 Z = true) (r2 : ∀ d ∈ twoRefs, d.before a0 Z = true)
    (hl : l.stackTraces = true) (hkn : kn = true) (hO : Old Z n0 D.s.heap) (E : Exa Z h a rc) (N : Unt h a) (F1 : Fld Z h a tN "backtrace" obD .null) (F2 : Fld Z h a tN "detailMessage" msgD .null) (hmsg : msg.isRef = true) (hσ : σ a)
    (hW : (st.map fun v => v.category).sum = W) (hsz : Ls.size = B.ml) (hf : 4 + links.length ≤ B.rm.frames) (hlo : W + (56 + 14 * links.length) ≤ B.rm.locals) {ce' sl' : Nat} (hce : ce + 1 = ce') (hsl : sl + 2752 = sl') (hc : ce' ≤ B.rm.cells) (hs : sl' ≤ B.rm.slots)
    (r : ∀ h', Kp Z h h' a → Keep h h' [a] → Exa Z h' a rc → Unt h' a → Fld Z h' a tN "detailMessage" msgD msg → Fld Z h' a tN "cause" thD (.ref a) → Go l Z a0 EL n0 kn B D Q h' σ ce' sl' (pc + 3) Ls st) : Go l Z a0 EL n0 kn B D Q h σ ce sl pc Ls (msg :: .ref a :: st) := by
  subst hce hsl
  intro ok ew T vm0 I
  obtain ⟨k0, locs, X, h1, h2, h3, h4, h5, h6, h7, h8, h9, h10⟩ := I
  obtain ⟨T', h', X', e', K, E', N', M', C', -, s'⟩ := excL1 X ok.1 hl (s := D.s.setVm vm0) h4 h5 hok w1 w2 wT wi r2 (ThS.start.ext hO.2) (ThS.start.ext h8.2) (h10 hkn).1 (h10 hkn).2 h1 E N F1 F2 hmsg (g := mkF D.m pc Ls (msg :: .ref a :: st)) rfl (hsz.trans ok.2.2.1.symm) (rest := st) rfl (Jvm.hb ok.2.1 hd) hf (by show 2 * 0 + _ + _ ≤ _; rw [hW]; omega) hc hs
  have ha := h9 a hσ
  have K2 : Keep h h' [a] := keep_of_kp K
  have hsf : ∀ x ∈ [a], Safe Z EL vm0 h x := fun x hx => by cases List.mem_singleton.mp hx; exact ha.1
  obtain ⟨s2, o, q, rest⟩ := r h' K K2 E' N' M' C' ok ew T' vm0
    ⟨k0, _, X', e', h2, Nat.le_trans h3 K2.1, h4, h5, h6.trans (CHr.keep K2 hsf h6.1), Fr.six h7 ha.2.1, h8.keep K2 (fun x hx => by cases List.mem_singleton.mp hx; exact ha.2.1), fun x hx => ⟨Safe.keep K2 hsf h6.1 (h9 x hx).1, (h9 x hx).2.1, Nat.lt_of_lt_of_le (h9 x hx).2.2 K2.1⟩, h10⟩
  exact ⟨s2, o, s' _ q, rest⟩
end Exc
section Up
variable {l : Launch} {Z : State} {a0 : Array Value} {EL : List (String × Nat)} {n0 : Nat} {kn : Bool} {B B' : Bdy} {D : Dyn} {Q Q' : Post} {h : Heap} {σ : Addr → Prop} {ce sl : Nat} {Ls : Array Slot} {st : List Value} {a : Addr}
/-- invokevirtual whose entry names the method by a subclass of the one that declares it -/
theorem callU (pc : Nat) {ix : Nat} {y : MethodName} {argsL rest : List Value} (C owner : String) (W : Nat) (hd : decode B.bs pc = .ok (.invokevirtual ix, 3)) (w1 : (Jvm.Cond.methodLink B.y.cls ix y).before a0 Z = true) (w2 : (Jvm.Cond.sameMethod y.cls owner y.name y.desc).before a0 Z = true) (w2' : (Jvm.Cond.declares ⟨owner, y.name, y.desc⟩).before a0 Z = true) (hy : owner ≠ "java/lang/invoke/MethodHandle" ∧ owner ≠ "java/lang/invoke/VarHandle") (w5 : (Jvm.Cond.selects C y B'.y).before a0 Z = true) (w6 : (Jvm.Cond.instanceMethod B'.y).before a0 Z = true) (w3 : (Jvm.Cond.initialized B'.y.cls).before a0 Z = true) (w4 : (Jvm.Cond.code B'.y B'.bs B'.ml B'.rt).before a0 Z = true)
    (E : Exa Z h a C) (hM : Con l Z EL n0 kn B' [] σ (.ref a :: argsL).toArray h Q') (hlen : ∀ sig, parseMethodDescriptor y.desc = some sig → argsL.length = sig.parameters.length) (hst : st = argsL.reverse ++ .ref a :: rest) (hW : (rest.map fun v => v.category).sum = W) (hsz : Ls.size = B.ml)
    (hf : B'.rm.frames + 1 ≤ B.rm.frames) (hl : W + (B'.ml + 11) + B'.rm.locals ≤ B.rm.locals) {ce' sl' : Nat} (hce : ce + B'.rm.cells = ce') (hsl : sl + B'.rm.slots = sl') (hc : ce' ≤ B.rm.cells) (hs : sl' ≤ B.rm.slots)
    (r : ∀ v h' σ', (∀ x, σ x → σ' x) → Q' v h' σ' → Go l Z a0 EL n0 kn B D Q h' σ' ce' sl' (pc + 3) Ls (push v rest)) : Go l Z a0 EL n0 kn B D Q h σ ce sl pc Ls st := by
  subst hce hsl
  exact called W hM w4 w3 hf hl hc hs (fun T vm0 locs X h1 h4 h5 ok {Pre Pst} hB hpre => by
    obtain ⟨cq, kq, qa, qb, qc⟩ := isOf (s := D.s.setVm vm0) h4 h1 E
    exact X.virtualBackUpS ok.1 (s := D.s.setVm vm0) (C := C) h5 (mv (s := D.s.setVm vm0) h4 w1) (mv (s := D.s.setVm vm0) h4 w2) (mv (s := D.s.setVm vm0) h4 w2') hy (mv (s := D.s.setVm vm0) h4 w5) (mv (s := D.s.setVm vm0) h4 w6) hB qa qc (g := mkF D.m pc Ls st) rfl (hsz.trans ok.2.2.1.symm) (Steps.refl _) (argsL := argsL) (rest := rest) hlen hst (by show 2 * 0 + _ ≤ _; rw [hW]; omega) (Jvm.hb ok.2.1 hd) hpre) r
end Up
end Jvm.Road
namespace Jvm.Pilot.@@N@@
open Jvm Jvm.ClassFile Sem Op Lib Jvm.Free Jvm.Stand Jvm.LawKit Jvm.RoadKit Bundle Jvm.Pilot.@@N@@.Jvm.D
set_option maxRecDepth 65536
def bCmp5 : Road.Bdy := (⟨"java/lang/StringUTF16", "compress", "([CI[BII)I"⟩, jdk_52_method_21_code, 7, (some .int), { frames := 0, cells := 0, slots := 0, locals := 0 })
theorem bCmp5_d0 : decode bCmp5.bs 0 = .ok (.iconst 0, 1) := by decide +kernel
theorem bCmp5_d1 : decode bCmp5.bs 1 = .ok (.istore 5, 2) := by decide +kernel
theorem bCmp5_d3 : decode bCmp5.bs 3 = .ok (.iload 5, 2) := by decide +kernel
theorem bCmp5_d5 : decode bCmp5.bs 5 = .ok (.iload 4, 2) := by decide +kernel
theorem bCmp5_d7 : decode bCmp5.bs 7 = .ok (.if_icmp .ge 37, 3) := by decide +kernel
theorem bCmp5_d10 : decode bCmp5.bs 10 = .ok (.aload_n 0, 1) := by decide +kernel
theorem bCmp5_d11 : decode bCmp5.bs 11 = .ok (.iload_n 1, 1) := by decide +kernel
theorem bCmp5_d12 : decode bCmp5.bs 12 = .ok (.caload, 1) := by decide +kernel
theorem bCmp5_d13 : decode bCmp5.bs 13 = .ok (.istore 6, 2) := by decide +kernel
theorem bCmp5_d15 : decode bCmp5.bs 15 = .ok (.iload 6, 2) := by decide +kernel
theorem bCmp5_d17 : decode bCmp5.bs 17 = .ok (.sipush 255, 3) := by decide +kernel
theorem bCmp5_d20 : decode bCmp5.bs 20 = .ok (.if_icmp .le 6, 3) := by decide +kernel
theorem bCmp5_d23 : decode bCmp5.bs 23 = .ok (.iload 5, 2) := by decide +kernel
theorem bCmp5_d25 : decode bCmp5.bs 25 = .ok (.ireturn, 1) := by decide +kernel
theorem bCmp5_d26 : decode bCmp5.bs 26 = .ok (.aload_n 2, 1) := by decide +kernel
theorem bCmp5_d27 : decode bCmp5.bs 27 = .ok (.iload_n 3, 1) := by decide +kernel
theorem bCmp5_d28 : decode bCmp5.bs 28 = .ok (.iload 6, 2) := by decide +kernel
theorem bCmp5_d30 : decode bCmp5.bs 30 = .ok (.i2b, 1) := by decide +kernel
theorem bCmp5_d31 : decode bCmp5.bs 31 = .ok (.bastore, 1) := by decide +kernel
theorem bCmp5_d32 : decode bCmp5.bs 32 = .ok (.iinc 1 1, 3) := by decide +kernel
theorem bCmp5_d35 : decode bCmp5.bs 35 = .ok (.iinc 3 1, 3) := by decide +kernel
theorem bCmp5_d38 : decode bCmp5.bs 38 = .ok (.iinc 5 1, 3) := by decide +kernel
theorem bCmp5_d41 : decode bCmp5.bs 41 = .ok (.goto (-38), 3) := by decide +kernel
theorem bCmp5_d44 : decode bCmp5.bs 44 = .ok (.iload 4, 2) := by decide +kernel
theorem bCmp5_d46 : decode bCmp5.bs 46 = .ok (.ireturn, 1) := by decide +kernel
theorem bCmp5_pd : parseMethodDescriptor "([CI[BII)I" = some ⟨[(.array .char), .int, (.array .byte), .int, .int], (some .int)⟩ := by decide +kernel
theorem bCmp5_pn : plainName "java/lang/StringUTF16" = true := by first | (simp [plainName, overriddenIn]; done) | decide +kernel
theorem cCmp5 (l : Launch) (Z : State) (a0 : Array Value) (hw : ∀ d ∈ tables_1, d.before a0 Z = true) (n0 : Nat) (hEW : EW Z a0 consts_1) (b d : Addr) (cs : List Int32) (h0 : Heap) (σ : Addr → Prop) (A : Road.Ary Z h0 b .char (cs.map .int)) (Dd : Road.Ary Z h0 d .byte (List.replicate cs.length (.int 0))) (hlat : ∀ c ∈ cs, 0 ≤ c.toInt ∧ c.toInt < 256) (hbd : b ≠ d) (sd : σ d) :
    Road.Con l Z consts_1 n0 false bCmp5 [] σ #[(.ref b), (.int (0 : Int32)), (.ref d), (.int (0 : Int32)), (.int (Nat.toInt32 cs.length))] h0 (fun v h2 _ => v = some (.int (Nat.toInt32 cs.length)) ∧ Keep h0 h2 [d] ∧ Road.Ary Z h2 d .byte (cs.map Road.byt)) := by
  refine Road.Con.of bCmp5_pn hEW #[.val (.ref b), .val (.int (0 : Int32)), .val (.ref d), .val (.int (0 : Int32)), .val (.int (Nat.toInt32 cs.length)), .unset, .unset] (fun m => Road.ent (Road.laid1 rfl (Road.laid1 rfl (Road.laid1 rfl (Road.laid1 rfl (Road.laid1 rfl Road.laid0))))) (k := 2) rfl rfl) ?_
  intro D hD
  have hn : cs.length < 2147483648 := by have := A.small; rwa [List.length_map] at this
  refine Road.iconst 0 (0 : Int32) bCmp5_d0 rfl ?_
  refine Road.istore 1 #[.val (.ref b), .val (.int (0 : Int32)), .val (.ref d), .val (.int (0 : Int32)), .val (.int (Nat.toInt32 cs.length)), .val (.int (0 : Int32)), .unset] bCmp5_d1 rfl ?_
  have loop : ∀ r k, k + r = cs.length → ∀ (h : Heap) (w : Slot), Road.W1 w → Keep h0 h [d] → Road.Ary Z h d .byte ((cs.take k).map Road.byt ++ List.replicate r (.int 0)) → Road.Go l Z a0 consts_1 n0 false bCmp5 D (fun v h2 _ => v = some (.int (Nat.toInt32 cs.length)) ∧ Keep h0 h2 [d] ∧ Road.Ary Z h2 d .byte (cs.map Road.byt)) h σ 0 0 3 #[.val (.ref b), .val (.int (Nat.toInt32 k)), .val (.ref d), .val (.int (Nat.toInt32 k)), .val (.int (Nat.toInt32 cs.length)), .val (.int (Nat.toInt32 k)), w] [] := by
    intro r
    induction r with
    | zero =>
      intro k hk h w hw1 K1 A1
      have hk' : k = cs.length := by omega
      subst hk'
      refine Road.iload 3 bCmp5_d3 rfl ?_
      refine Road.iload 5 bCmp5_d5 rfl ?_
      refine Road.icmp_ge 7 44 bCmp5_d7 rfl (fun hc7 => ?_) (fun q => absurd q Int32.lt_irrefl)
      refine Road.iload 44 bCmp5_d44 rfl ?_
      exact Road.iretI 46 bCmp5_d46 rfl (by decide) (by decide) (fun σ' m => ⟨rfl, K1, by simpa using A1⟩)
    | succ r ih =>
      intro k hk h w hw1 K1 A1
      have hk' : k < cs.length := by omega
      have hc := hlat _ (List.getElem_mem hk')
      have A2 := A.keep K1 (ninS hbd nin0)
      refine Road.iload 3 bCmp5_d3 rfl ?_
      refine Road.iload 5 bCmp5_d5 rfl ?_
      refine Road.icmp_ge 7 44 bCmp5_d7 rfl (fun q => absurd q (by rw [Decidable.not_not, Road.lt32 (by omega) hn]; omega)) (fun hc7 => ?_)
      refine Road.aloadN 10 bCmp5_d10 rfl ?_
      refine Road.iloadN 11 bCmp5_d11 rfl ?_
      refine Road.caload 12 k bCmp5_d12 A2 (Road.n32 (by omega)) (by rw [List.getElem?_map, List.getElem?_eq_getElem hk']; rfl) ?_
      refine Road.istore 13 #[.val (.ref b), .val (.int (Nat.toInt32 k)), .val (.ref d), .val (.int (Nat.toInt32 k)), .val (.int (Nat.toInt32 cs.length)), .val (.int (Nat.toInt32 k)), .val (.int cs[k])] bCmp5_d13 (by rcases hw1 with rfl | ⟨x, rfl⟩ <;> rfl) ?_
      refine Road.iload 15 bCmp5_d15 rfl ?_
      refine Road.sipush 17 (255 : Int32) bCmp5_d17 rfl ?_
      refine Road.icmp_le 20 26 bCmp5_d20 rfl (fun hc20 => ?_) (fun q => absurd q (by rw [Int32.lt_iff_toInt_lt]; have : (255 : Int32).toInt = 255 := rfl; omega))
      refine Road.aloadN 26 bCmp5_d26 rfl ?_
      refine Road.iloadN 27 bCmp5_d27 rfl ?_
      refine Road.iload 28 bCmp5_d28 rfl ?_
      refine Road.i2b 30 bCmp5_d30 ?_
      refine Road.bastore 31 k (Int8.toInt32 (Int32.toInt8 cs[k])) bCmp5_d31 A1 (Road.n32 (by omega)) (by simp; omega) (Road.nar_byte _) sd ?_
      intro h_1 K_2 A_3
      replace A1 := A_3
      refine Road.iinc 32 (1) #[.val (.ref b), .val (.int ((Nat.toInt32 k) + 1)), .val (.ref d), .val (.int (Nat.toInt32 k)), .val (.int (Nat.toInt32 cs.length)), .val (.int (Nat.toInt32 k)), .val (.int cs[k])] bCmp5_d32 rfl rfl rfl ?_
      refine Road.iinc 35 (1) #[.val (.ref b), .val (.int ((Nat.toInt32 k) + 1)), .val (.ref d), .val (.int ((Nat.toInt32 k) + 1)), .val (.int (Nat.toInt32 cs.length)), .val (.int (Nat.toInt32 k)), .val (.int cs[k])] bCmp5_d35 rfl rfl rfl ?_
      refine Road.iinc 38 (1) #[.val (.ref b), .val (.int ((Nat.toInt32 k) + 1)), .val (.ref d), .val (.int ((Nat.toInt32 k) + 1)), .val (.int (Nat.toInt32 cs.length)), .val (.int ((Nat.toInt32 k) + 1)), .val (.int cs[k])] bCmp5_d38 rfl rfl rfl ?_
      refine Road.goto 41 3 bCmp5_d41 rfl ?_
      rw [show (Value.int (Int8.toInt32 (Int32.toInt8 cs[k]))) = Road.byt cs[k] from rfl, Road.set_mid] at A1
      have := ih (k + 1) (by omega) h_1 (.val (.int cs[k])) (Or.inr ⟨_, rfl⟩) (K1.trans K_2 (by simp)) A1
      rw [← Road.succ32] at this
      exact this
  exact loop cs.length 0 (by omega) h0 .unset (Or.inl rfl) (Keep.refl _ _) (by simpa using Dd)
def bCfa : Road.Bdy := (⟨"java/lang/StringUTF16", "coderFromArrayLen", "([BI)B"⟩, jdk_52_method_15_code, 2, (some .byte), { frames := 0, cells := 0, slots := 0, locals := 0 })
theorem bCfa_d0 : decode bCfa.bs 0 = .ok (.iload_n 1, 1) := by decide +kernel
theorem bCfa_d1 : decode bCfa.bs 1 = .ok (.aload_n 0, 1) := by decide +kernel
theorem bCfa_d2 : decode bCfa.bs 2 = .ok (.arraylength, 1) := by decide +kernel
theorem bCfa_d3 : decode bCfa.bs 3 = .ok (.isub, 1) := by decide +kernel
theorem bCfa_d4 : decode bCfa.bs 4 = .ok (.bipush 31, 2) := by decide +kernel
theorem bCfa_d6 : decode bCfa.bs 6 = .ok (.iushr, 1) := by decide +kernel
theorem bCfa_d7 : decode bCfa.bs 7 = .ok (.i2b, 1) := by decide +kernel
theorem bCfa_d8 : decode bCfa.bs 8 = .ok (.ireturn, 1) := by decide +kernel
theorem bCfa_pd : parseMethodDescriptor "([BI)B" = some ⟨[(.array .byte), .int], (some .byte)⟩ := by decide +kernel
theorem bCfa_pn : plainName "java/lang/StringUTF16" = true := by first | (simp [plainName, overriddenIn]; done) | decide +kernel
theorem cCfa (l : Launch) (Z : State) (a0 : Array Value) (hw : ∀ d ∈ tables_1, d.before a0 Z = true) (n0 : Nat) (hEW : EW Z a0 consts_1) (d : Addr) (vs : List Value) (h0 : Heap) (σ : Addr → Prop) (A : Road.Ary Z h0 d .byte vs) :
    Road.Con l Z consts_1 n0 false bCfa [] σ #[(.ref d), (.int (Nat.toInt32 vs.length))] h0 (fun v h2 _ => v = some (.int 0) ∧ h0 = h2) := by
  refine Road.Con.of bCfa_pn hEW #[.val (.ref d), .val (.int (Nat.toInt32 vs.length))] (fun m => Road.ent (Road.laid1 rfl (Road.laid1 rfl Road.laid0)) (k := 0) rfl rfl) ?_
  intro D hD
  refine Road.iloadN 0 bCfa_d0 rfl ?_
  refine Road.aloadN 1 bCfa_d1 rfl ?_
  refine Road.alen 2 (Nat.toInt32 vs.length) bCfa_d2 A (n := vs.length) rfl rfl ?_
  refine Road.isub 3 bCfa_d3 ?_
  refine Road.bipush 4 (31 : Int32) bCfa_d4 rfl ?_
  refine Road.iushr 6 bCfa_d6 ?_
  refine Road.i2b 7 bCfa_d7 ?_
  exact Road.iret 8 0 bCfa_d8 (t := .byte) rfl (by simp) (by rw [Int32.sub_self]; rfl) (by decide) (by decide) (fun σ' m => ⟨rfl, rfl⟩)
def bCmp4 : Road.Bdy := (⟨"java/lang/StringUTF16", "compress", "([CII)[B"⟩, jdk_52_method_16_code, 6, (some (.array .byte)), { frames := 1, cells := 1, slots := 4, locals := 18 })
theorem bCmp4_d0 : decode bCmp4.bs 0 = .ok (.iload_n 2, 1) := by decide +kernel
theorem bCmp4_d1 : decode bCmp4.bs 1 = .ok (.newarray .byte, 2) := by decide +kernel
theorem bCmp4_d3 : decode bCmp4.bs 3 = .ok (.astore_n 3, 1) := by decide +kernel
theorem bCmp4_d4 : decode bCmp4.bs 4 = .ok (.aload_n 0, 1) := by decide +kernel
theorem bCmp4_d5 : decode bCmp4.bs 5 = .ok (.iload_n 1, 1) := by decide +kernel
theorem bCmp4_d6 : decode bCmp4.bs 6 = .ok (.aload_n 3, 1) := by decide +kernel
theorem bCmp4_d7 : decode bCmp4.bs 7 = .ok (.iconst 0, 1) := by decide +kernel
theorem bCmp4_d8 : decode bCmp4.bs 8 = .ok (.iload_n 2, 1) := by decide +kernel
theorem bCmp4_d9 : decode bCmp4.bs 9 = .ok (.invokestatic 115, 3) := by decide +kernel
theorem bCmp4_d12 : decode bCmp4.bs 12 = .ok (.istore 4, 2) := by decide +kernel
theorem bCmp4_d14 : decode bCmp4.bs 14 = .ok (.iload 4, 2) := by decide +kernel
theorem bCmp4_d16 : decode bCmp4.bs 16 = .ok (.iload_n 2, 1) := by decide +kernel
theorem bCmp4_d17 : decode bCmp4.bs 17 = .ok (.if_icmp .eq 40, 3) := by decide +kernel
theorem bCmp4_d20 : decode bCmp4.bs 20 = .ok (.aload_n 0, 1) := by decide +kernel
theorem bCmp4_d21 : decode bCmp4.bs 21 = .ok (.iload_n 1, 1) := by decide +kernel
theorem bCmp4_d22 : decode bCmp4.bs 22 = .ok (.iload_n 2, 1) := by decide +kernel
theorem bCmp4_d23 : decode bCmp4.bs 23 = .ok (.invokestatic 119, 3) := by decide +kernel
theorem bCmp4_d26 : decode bCmp4.bs 26 = .ok (.astore 5, 2) := by decide +kernel
theorem bCmp4_d28 : decode bCmp4.bs 28 = .ok (.aload 5, 2) := by decide +kernel
theorem bCmp4_d30 : decode bCmp4.bs 30 = .ok (.iload 4, 2) := by decide +kernel
theorem bCmp4_d32 : decode bCmp4.bs 32 = .ok (.invokestatic 71, 3) := by decide +kernel
theorem bCmp4_d35 : decode bCmp4.bs 35 = .ok (.sipush 255, 3) := by decide +kernel
theorem bCmp4_d38 : decode bCmp4.bs 38 = .ok (.if_icmp .gt 16, 3) := by decide +kernel
theorem bCmp4_d41 : decode bCmp4.bs 41 = .ok (.aload 5, 2) := by decide +kernel
theorem bCmp4_d43 : decode bCmp4.bs 43 = .ok (.iconst 0, 1) := by decide +kernel
theorem bCmp4_d44 : decode bCmp4.bs 44 = .ok (.aload_n 3, 1) := by decide +kernel
theorem bCmp4_d45 : decode bCmp4.bs 45 = .ok (.iconst 0, 1) := by decide +kernel
theorem bCmp4_d46 : decode bCmp4.bs 46 = .ok (.iload_n 2, 1) := by decide +kernel
theorem bCmp4_d47 : decode bCmp4.bs 47 = .ok (.invokestatic 123, 3) := by decide +kernel
theorem bCmp4_d50 : decode bCmp4.bs 50 = .ok (.iload_n 2, 1) := by decide +kernel
theorem bCmp4_d51 : decode bCmp4.bs 51 = .ok (.if_icmp .eq 6, 3) := by decide +kernel
theorem bCmp4_d54 : decode bCmp4.bs 54 = .ok (.aload 5, 2) := by decide +kernel
theorem bCmp4_d56 : decode bCmp4.bs 56 = .ok (.areturn, 1) := by decide +kernel
theorem bCmp4_d57 : decode bCmp4.bs 57 = .ok (.aload_n 3, 1) := by decide +kernel
theorem bCmp4_d58 : decode bCmp4.bs 58 = .ok (.areturn, 1) := by decide +kernel
theorem bCmp4_pd : parseMethodDescriptor "([CII)[B" = some ⟨[(.array .char), .int, .int], (some (.array .byte))⟩ := by decide +kernel
theorem bCmp4_pn : plainName "java/lang/StringUTF16" = true := by first | (simp [plainName, overriddenIn]; done) | decide +kernel
theorem cCmp4 (l : Launch) (Z : State) (a0 : Array Value) (hw : ∀ d ∈ tables_1, d.before a0 Z = true) (n0 : Nat) (hEW : EW Z a0 consts_1) (b : Addr) (cs : List Int32) (h0 : Heap) (σ : Addr → Prop) (A : Road.Ary Z h0 b .char (cs.map .int)) (hcap : cs.length ≤ 4) (hlat : ∀ c ∈ cs, 0 ≤ c.toInt ∧ c.toInt < 256) :
    Road.Con l Z consts_1 n0 false bCmp4 [] σ #[(.ref b), (.int (0 : Int32)), (.int (Nat.toInt32 cs.length))] h0 (fun v h2 s2 => ∃ d, v = some (.ref d) ∧ h0.size ≤ d ∧ Keep h0 h2 [] ∧ s2 d ∧ Road.Ary Z h2 d .byte (cs.map Road.byt)) := by
  refine Road.Con.of bCmp4_pn hEW #[.val (.ref b), .val (.int (0 : Int32)), .val (.int (Nat.toInt32 cs.length)), .unset, .unset, .unset] (fun m => Road.ent (Road.laid1 rfl (Road.laid1 rfl (Road.laid1 rfl Road.laid0))) (k := 3) rfl rfl) ?_
  intro D hD
  refine Road.iloadN 0 bCmp4_d0 rfl ?_
  refine Road.newarray 1 .byte cs.length 4 bCmp4_d1 rfl (hw _ (List.mem_of_getElem? (i := 24) rfl)) (Road.n32 (by omega)) hcap (by decide) (ce' := 1) (sl' := 4) rfl rfl (by decide) (by decide) ?_
  intro d h_1 σ_2 g_3 K_4 lt_5 m_6 s_7 Ad
  have ne_b_d : b ≠ d := Nat.ne_of_lt (Nat.lt_of_lt_of_le A.lt (Nat.le_of_eq g_3.symm))
  replace A := A.keep K_4 nin0
  refine Road.astoreN 3 #[.val (.ref b), .val (.int (0 : Int32)), .val (.int (Nat.toInt32 cs.length)), .val (.ref d), .unset, .unset] bCmp4_d3 rfl ?_
  refine Road.aloadN 4 bCmp4_d4 rfl ?_
  refine Road.iloadN 5 bCmp4_d5 rfl ?_
  refine Road.aloadN 6 bCmp4_d6 rfl ?_
  refine Road.iconst 7 (0 : Int32) bCmp4_d7 rfl ?_
  refine Road.iloadN 8 bCmp4_d8 rfl ?_
  refine Road.callS (B' := bCmp5) 9 (argsL := [(.ref b), (.int (0 : Int32)), (.ref d), (.int (0 : Int32)), (.int (Nat.toInt32 cs.length))]) (rest := []) 0 bCmp4_d9 (hw _ (List.mem_of_getElem? (i := 25) rfl)) (hw _ (List.mem_of_getElem? (i := 26) rfl)) (hw _ (List.mem_of_getElem? (i := 22) rfl)) (hw _ (List.mem_of_getElem? (i := 27) rfl)) (by decide) (cCmp5 l Z a0 hw n0 hEW b d cs h_1 σ_2 A Ad hlat ne_b_d s_7) (lenOf bCmp5_pd rfl) rfl rfl rfl (by decide) (by decide) (ce' := 1) (sl' := 4) rfl rfl (by decide) (by decide) ?_
  rintro _ h_8 σ_9 m_10 ⟨rfl, K_11, Ad2⟩
  replace A := A.keep K_11 (ninS ne_b_d nin0)
  replace s_7 := m_10 _ s_7
  refine Road.istore 12 #[.val (.ref b), .val (.int (0 : Int32)), .val (.int (Nat.toInt32 cs.length)), .val (.ref d), .val (.int (Nat.toInt32 cs.length)), .unset] bCmp4_d12 rfl ?_
  refine Road.iload 14 bCmp4_d14 rfl ?_
  refine Road.iloadN 16 bCmp4_d16 rfl ?_
  refine Road.icmp_eq 17 57 bCmp4_d17 rfl (fun hc17 => ?_) (fun q => absurd q (by simp))
  refine Road.aloadN 57 bCmp4_d57 rfl ?_
  exact Road.aret 58 bCmp4_d58 (t := (.array .byte)) rfl rfl rfl (by decide) (by decide) (fun σ' m => ⟨d, rfl, Nat.le_of_eq g_3.symm, K_4.trans K_11 (by intro x hx; cases List.mem_singleton.mp hx; exact Or.inr (Nat.le_of_eq g_3.symm)), m _ s_7, Ad2⟩)
def bStr2 : Road.Bdy := (⟨"java/lang/String", "<init>", "([CIILjava/lang/Void;)V"⟩, jdk_42_method_149_code, 6, none, { frames := 2, cells := 1, slots := 4, locals := 39 })
theorem bStr2_d0 : decode bStr2.bs 0 = .ok (.aload_n 0, 1) := by decide +kernel
theorem bStr2_d1 : decode bStr2.bs 1 = .ok (.invokespecial 1, 3) := by decide +kernel
theorem bStr2_d4 : decode bStr2.bs 4 = .ok (.iload_n 3, 1) := by decide +kernel
theorem bStr2_d5 : decode bStr2.bs 5 = .ok (.ifCond .ne 22, 3) := by decide +kernel
theorem bStr2_d8 : decode bStr2.bs 8 = .ok (.aload_n 0, 1) := by decide +kernel
theorem bStr2_d9 : decode bStr2.bs 9 = .ok (.ldc 7, 2) := by decide +kernel
theorem bStr2_d11 : decode bStr2.bs 11 = .ok (.getfield 9, 3) := by decide +kernel
theorem bStr2_d14 : decode bStr2.bs 14 = .ok (.putfield 9, 3) := by decide +kernel
theorem bStr2_d17 : decode bStr2.bs 17 = .ok (.aload_n 0, 1) := by decide +kernel
theorem bStr2_d18 : decode bStr2.bs 18 = .ok (.ldc 7, 2) := by decide +kernel
theorem bStr2_d20 : decode bStr2.bs 20 = .ok (.getfield 15, 3) := by decide +kernel
theorem bStr2_d23 : decode bStr2.bs 23 = .ok (.putfield 15, 3) := by decide +kernel
theorem bStr2_d26 : decode bStr2.bs 26 = .ok (.return_, 1) := by decide +kernel
theorem bStr2_d27 : decode bStr2.bs 27 = .ok (.getstatic 38, 3) := by decide +kernel
theorem bStr2_d30 : decode bStr2.bs 30 = .ok (.ifCond .eq 28, 3) := by decide +kernel
theorem bStr2_d33 : decode bStr2.bs 33 = .ok (.aload_n 1, 1) := by decide +kernel
theorem bStr2_d34 : decode bStr2.bs 34 = .ok (.iload_n 2, 1) := by decide +kernel
theorem bStr2_d35 : decode bStr2.bs 35 = .ok (.iload_n 3, 1) := by decide +kernel
theorem bStr2_d36 : decode bStr2.bs 36 = .ok (.invokestatic 177, 3) := by decide +kernel
theorem bStr2_d39 : decode bStr2.bs 39 = .ok (.astore 5, 2) := by decide +kernel
theorem bStr2_d41 : decode bStr2.bs 41 = .ok (.aload_n 0, 1) := by decide +kernel
theorem bStr2_d42 : decode bStr2.bs 42 = .ok (.aload 5, 2) := by decide +kernel
theorem bStr2_d44 : decode bStr2.bs 44 = .ok (.iload_n 3, 1) := by decide +kernel
theorem bStr2_d45 : decode bStr2.bs 45 = .ok (.invokestatic 47, 3) := by decide +kernel
theorem bStr2_d48 : decode bStr2.bs 48 = .ok (.putfield 15, 3) := by decide +kernel
theorem bStr2_d51 : decode bStr2.bs 51 = .ok (.aload_n 0, 1) := by decide +kernel
theorem bStr2_d52 : decode bStr2.bs 52 = .ok (.aload 5, 2) := by decide +kernel
theorem bStr2_d54 : decode bStr2.bs 54 = .ok (.putfield 9, 3) := by decide +kernel
theorem bStr2_d57 : decode bStr2.bs 57 = .ok (.return_, 1) := by decide +kernel
theorem bStr2_d58 : decode bStr2.bs 58 = .ok (.aload_n 0, 1) := by decide +kernel
theorem bStr2_d59 : decode bStr2.bs 59 = .ok (.iconst 1, 1) := by decide +kernel
theorem bStr2_d60 : decode bStr2.bs 60 = .ok (.putfield 15, 3) := by decide +kernel
theorem bStr2_d63 : decode bStr2.bs 63 = .ok (.aload_n 0, 1) := by decide +kernel
theorem bStr2_d64 : decode bStr2.bs 64 = .ok (.aload_n 1, 1) := by decide +kernel
theorem bStr2_d65 : decode bStr2.bs 65 = .ok (.iload_n 2, 1) := by decide +kernel
theorem bStr2_d66 : decode bStr2.bs 66 = .ok (.iload_n 3, 1) := by decide +kernel
theorem bStr2_d67 : decode bStr2.bs 67 = .ok (.invokestatic 180, 3) := by decide +kernel
theorem bStr2_d70 : decode bStr2.bs 70 = .ok (.putfield 9, 3) := by decide +kernel
theorem bStr2_d73 : decode bStr2.bs 73 = .ok (.return_, 1) := by decide +kernel
theorem bStr2_pd : parseMethodDescriptor "([CIILjava/lang/Void;)V" = some ⟨[(.array .char), .int, .int, (.object "java/lang/Void")], none⟩ := by decide +kernel
theorem bStr2_pn : plainName "java/lang/String" = true := by first | (simp [plainName, overriddenIn]; done) | decide +kernel
theorem cStr2 (l : Launch) (Z : State) (a0 : Array Value) (hw : ∀ d ∈ tables_1, d.before a0 Z = true) (n0 : Nat) (hEW : EW Z a0 consts_1) (a b : Addr) (cs : List Int32) (h0 : Heap) (σ : Addr → Prop) (E : Exa Z h0 a Road.SN) (Fc : Fld Z h0 a Road.SN "coder" "B" (.int 0)) (Fv : Fld Z h0 a Road.SN "value" "[B" .null) (A : Road.Ary Z h0 b .char (cs.map .int)) (hcap : cs.length ≤ 4) (hlat : ∀ c ∈ cs, 0 ≤ c.toInt ∧ c.toInt < 256) (sa : σ a) (cp : Int32) (Hc : Sta Z Z.heap Road.SN "COMPACT_STRINGS" "Z" (.int cp)) (hcp : ¬ cp = 0) (hne0 : cs ≠ []) :
    Road.Con l Z consts_1 n0 false bStr2 [] σ #[(.ref a), (.ref b), (.int (0 : Int32)), (.int (Nat.toInt32 cs.length)), .null] h0 (fun v h2 s2 => v = none ∧ Keep h0 h2 [a] ∧ ∃ d, Road.Str Z h2 a d cs ∧ ∀ x, σ x → x ≠ d) := by
  have nab : a ≠ b := by obtain ⟨c, Ar, -⟩ := A; exact ne_arr E (hw _ (List.mem_of_getElem? (i := 6) rfl)) Ar
  refine Road.Con.of bStr2_pn hEW #[.val (.ref a), .val (.ref b), .val (.int (0 : Int32)), .val (.int (Nat.toInt32 cs.length)), .val .null, .unset] (fun m => Road.ent (Road.laid1 rfl (Road.laid1 rfl (Road.laid1 rfl (Road.laid1 rfl (Road.laid1 rfl Road.laid0))))) (k := 1) rfl rfl) ?_
  intro D hD
  refine Road.Go.ownAll ?_
  intro hall
  refine Road.aloadN 0 bStr2_d0 rfl ?_
  refine Road.initObj 1 bStr2_d1 (hw _ (List.mem_of_getElem? (i := 16) rfl)) (hw _ (List.mem_of_getElem? (i := 17) rfl)) (hw _ (List.mem_of_getElem? (i := 18) rfl)) 0 rfl rfl (by decide) (by decide) ?_
  refine Road.iloadN 4 bStr2_d4 rfl ?_
  refine Road.if_ne 5 27 bStr2_d5 rfl (fun hc5 => ?_) (fun hc5 => ?_)
  · skip
    refine Road.getstatic 27 bStr2_d27 (hw _ (List.mem_of_getElem? (i := 19) rfl)) Via.refl Hc ?_
    refine Road.if_eq 30 58 bStr2_d30 rfl (fun q => absurd q hcp) (fun hc30 => ?_)
    refine Road.aloadN 33 bStr2_d33 rfl ?_
    refine Road.iloadN 34 bStr2_d34 rfl ?_
    refine Road.iloadN 35 bStr2_d35 rfl ?_
    refine Road.callS (B' := bCmp4) 36 (argsL := [(.ref b), (.int (0 : Int32)), (.int (Nat.toInt32 cs.length))]) (rest := []) 0 bStr2_d36 (hw _ (List.mem_of_getElem? (i := 20) rfl)) (hw _ (List.mem_of_getElem? (i := 21) rfl)) (hw _ (List.mem_of_getElem? (i := 22) rfl)) (hw _ (List.mem_of_getElem? (i := 23) rfl)) (by decide) (cCmp4 l Z a0 hw n0 hEW b cs h0 σ A hcap hlat) (lenOf bCmp4_pd rfl) rfl rfl rfl (by decide) (by decide) (ce' := 1) (sl' := 4) rfl rfl (by decide) (by decide) ?_
    rintro _ h_1 σ_2 m_3 ⟨d, rfl, gd, K_4, sd, Ad⟩
    have ne_a_d : a ≠ d := Nat.ne_of_lt (Nat.lt_of_lt_of_le E.lt gd)
    have ne_b_d : b ≠ d := Nat.ne_of_lt (Nat.lt_of_lt_of_le A.lt gd)
    replace E := E.keep K_4
    replace Fc := Fc.keep K_4 nin0
    replace Fv := Fv.keep K_4 nin0
    replace A := A.keep K_4 nin0
    replace sa := m_3 _ sa
    refine Road.astore 39 #[.val (.ref a), .val (.ref b), .val (.int (0 : Int32)), .val (.int (Nat.toInt32 cs.length)), .val .null, .val (.ref d)] bStr2_d39 rfl ?_
    refine Road.aloadN 41 bStr2_d41 rfl ?_
    refine Road.aload 42 bStr2_d42 rfl ?_
    refine Road.iloadN 44 bStr2_d44 rfl ?_
    have hlm : (cs.map Road.byt).length = cs.length := List.length_map _
    refine Road.callS (B' := bCfa) 45 (argsL := [(.ref d), (.int (Nat.toInt32 cs.length))]) (rest := [(.ref a)]) 1 bStr2_d45 (hw _ (List.mem_of_getElem? (i := 28) rfl)) (hw _ (List.mem_of_getElem? (i := 29) rfl)) (hw _ (List.mem_of_getElem? (i := 22) rfl)) (hw _ (List.mem_of_getElem? (i := 30) rfl)) (by decide) (by rw [← List.length_map (f := Road.byt) (as := cs)]; exact cCfa l Z a0 hw n0 hEW d (cs.map Road.byt) h_1 σ_2 Ad) (lenOf bCfa_pd rfl) rfl rfl rfl (by decide) (by decide) (ce' := 1) (sl' := 4) rfl rfl (by decide) (by decide) ?_
    rintro _ h_5 σ_6 m_7 ⟨rfl, rfl⟩
    refine Road.Go.weaken (σ' := σ_2) m_7 (Nat.le_refl _) (Nat.le_refl _) ?_
    refine Road.putfield 48 bStr2_d48 (hw _ (List.mem_of_getElem? (i := 31) rfl)) Via.refl Fc E (Or.inr ⟨(hw _ (List.mem_of_getElem? (i := 32) rfl)), rfl, rfl⟩) (hw _ (List.mem_of_getElem? (i := 6) rfl)) (ty := .byte) (by decide) rfl rfl sa ?_
    intro h_11 W_9 K_10
    replace Fc := Fc.same W_9
    replace Fv := Fv.other W_9 (Or.inr (slot_ne (Or.inr (hw _ (List.mem_of_getElem? (i := 34) rfl))) (Or.inr (hw _ (List.mem_of_getElem? (i := 32) rfl))) (by decide) (t := (.array .byte)) (by decide) (t' := .byte) (by decide)))
    replace E := E.keep K_10
    replace A := A.keep K_10 (ninS (Ne.symm nab) nin0)
    replace Ad := Ad.keep K_10 (ninS (Ne.symm ne_a_d) nin0)
    refine Road.aloadN 51 bStr2_d51 rfl ?_
    refine Road.aload 52 bStr2_d52 rfl ?_
    refine Road.putfield 54 bStr2_d54 (hw _ (List.mem_of_getElem? (i := 33) rfl)) Via.refl Fv E (Or.inr ⟨(hw _ (List.mem_of_getElem? (i := 34) rfl)), rfl, rfl⟩) (hw _ (List.mem_of_getElem? (i := 6) rfl)) (ty := (.array .byte)) (by decide) rfl rfl sa ?_
    intro h_14 W_12 K_13
    replace Fv := Fv.same W_12
    replace Fc := Fc.other W_12 (Or.inr (slot_ne (Or.inr (hw _ (List.mem_of_getElem? (i := 32) rfl))) (Or.inr (hw _ (List.mem_of_getElem? (i := 34) rfl))) (by decide) (t := .byte) (by decide) (t' := (.array .byte)) (by decide)))
    replace E := E.keep K_13
    replace A := A.keep K_13 (ninS (Ne.symm nab) nin0)
    replace Ad := Ad.keep K_13 (ninS (Ne.symm ne_a_d) nin0)
    exact Road.ret 57 bStr2_d57 rfl (by decide) (by decide) (fun σ' m => ⟨rfl, ((Road.keep_more K_4).trans K_10 (by simp)).trans K_13 (by simp), d, ⟨E, Fc, Fv, Ad, hlat⟩, fun x hx => Nat.ne_of_lt (Nat.lt_of_lt_of_le (hall x hx).2 gd)⟩)
  · skip
    exact absurd (List.eq_nil_of_length_eq_zero (by have := (Road.eq32 (i := cs.length) (j := 0) (by omega) (by omega)).mp hc5; exact this)) hne0
def bStr1 : Road.Bdy := (⟨"java/lang/String", "<init>", "([C)V"⟩, jdk_42_method_3_code, 2, none, { frames := 3, cells := 1, slots := 4, locals := 56 })
theorem bStr1_d0 : decode bStr1.bs 0 = .ok (.aload_n 0, 1) := by decide +kernel
theorem bStr1_d1 : decode bStr1.bs 1 = .ok (.aload_n 1, 1) := by decide +kernel
theorem bStr1_d2 : decode bStr1.bs 2 = .ok (.iconst 0, 1) := by decide +kernel
theorem bStr1_d3 : decode bStr1.bs 3 = .ok (.aload_n 1, 1) := by decide +kernel
theorem bStr1_d4 : decode bStr1.bs 4 = .ok (.arraylength, 1) := by decide +kernel
theorem bStr1_d5 : decode bStr1.bs 5 = .ok (.aconst_null, 1) := by decide +kernel
theorem bStr1_d6 : decode bStr1.bs 6 = .ok (.invokespecial 27, 3) := by decide +kernel
theorem bStr1_d9 : decode bStr1.bs 9 = .ok (.return_, 1) := by decide +kernel
theorem bStr1_pd : parseMethodDescriptor "([C)V" = some ⟨[(.array .char)], none⟩ := by decide +kernel
theorem bStr1_pn : plainName "java/lang/String" = true := by first | (simp [plainName, overriddenIn]; done) | decide +kernel
theorem cStr1 (l : Launch) (Z : State) (a0 : Array Value) (hw : ∀ d ∈ tables_1, d.before a0 Z = true) (n0 : Nat) (hEW : EW Z a0 consts_1) (a b : Addr) (cs : List Int32) (h0 : Heap) (σ : Addr → Prop) (E : Exa Z h0 a Road.SN) (Fc : Fld Z h0 a Road.SN "coder" "B" (.int 0)) (Fv : Fld Z h0 a Road.SN "value" "[B" .null) (A : Road.Ary Z h0 b .char (cs.map .int)) (hcap : cs.length ≤ 4) (hlat : ∀ c ∈ cs, 0 ≤ c.toInt ∧ c.toInt < 256) (sa : σ a) (cp : Int32) (Hc : Sta Z Z.heap Road.SN "COMPACT_STRINGS" "Z" (.int cp)) (hcp : ¬ cp = 0) (hne0 : cs ≠ []) :
    Road.Con l Z consts_1 n0 false bStr1 [] σ #[(.ref a), (.ref b)] h0 (fun v h2 s2 => v = none ∧ Keep h0 h2 [a] ∧ ∃ d, Road.Str Z h2 a d cs ∧ ∀ x, σ x → x ≠ d) := by
  refine Road.Con.of bStr1_pn hEW #[.val (.ref a), .val (.ref b)] (fun m => Road.ent (Road.laid1 rfl (Road.laid1 rfl Road.laid0)) (k := 0) rfl rfl) ?_
  intro D hD
  refine Road.aloadN 0 bStr1_d0 rfl ?_
  refine Road.aloadN 1 bStr1_d1 rfl ?_
  refine Road.iconst 2 (0 : Int32) bStr1_d2 rfl ?_
  refine Road.aloadN 3 bStr1_d3 rfl ?_
  refine Road.alen 4 (Nat.toInt32 cs.length) bStr1_d4 A (n := cs.length) (List.length_map _) rfl ?_
  refine Road.aconstNull 5 bStr1_d5 ?_
  refine Road.callI (B' := bStr2) (a := a) 6 (argsL := [(.ref b), (.int (0 : Int32)), (.int (Nat.toInt32 cs.length)), .null]) (rest := []) 0 bStr1_d6 (hw _ (List.mem_of_getElem? (i := 12) rfl)) (hw _ (List.mem_of_getElem? (i := 13) rfl)) (hw _ (List.mem_of_getElem? (i := 7) rfl)) (hw _ (List.mem_of_getElem? (i := 15) rfl)) rfl rfl (by decide) (cStr2 l Z a0 hw n0 hEW a b cs h0 σ E Fc Fv A hcap hlat sa cp Hc hcp hne0) (lenOf bStr2_pd rfl) rfl rfl rfl (by decide) (by decide) (ce' := 1) (sl' := 4) rfl rfl (by decide) (by decide) ?_
  rintro _ h_1 σ_2 m_3 ⟨rfl, K_4, d, S, hd⟩
  exact Road.ret 9 bStr1_d9 rfl (by decide) (by decide) (fun σ' m => ⟨rfl, K_4, d, S, hd⟩)
def bCan : Road.Bdy := (⟨"java/lang/StringLatin1", "canEncode", "(C)Z"⟩, jdk_43_method_3_code, 1, (some .boolean), { frames := 0, cells := 0, slots := 0, locals := 0 })
theorem bCan_d0 : decode bCan.bs 0 = .ok (.iload_n 0, 1) := by decide +kernel
theorem bCan_d1 : decode bCan.bs 1 = .ok (.sipush 255, 3) := by decide +kernel
theorem bCan_d4 : decode bCan.bs 4 = .ok (.if_icmp .gt 7, 3) := by decide +kernel
theorem bCan_d7 : decode bCan.bs 7 = .ok (.iconst 1, 1) := by decide +kernel
theorem bCan_d8 : decode bCan.bs 8 = .ok (.goto 4, 3) := by decide +kernel
theorem bCan_d11 : decode bCan.bs 11 = .ok (.iconst 0, 1) := by decide +kernel
theorem bCan_d12 : decode bCan.bs 12 = .ok (.ireturn, 1) := by decide +kernel
theorem bCan_pd : parseMethodDescriptor "(C)Z" = some ⟨[.char], (some .boolean)⟩ := by decide +kernel
theorem bCan_pn : plainName "java/lang/StringLatin1" = true := by first | (simp [plainName, overriddenIn]; done) | decide +kernel
theorem cCan (l : Launch) (Z : State) (a0 : Array Value) (hw : ∀ d ∈ tables_1, d.before a0 Z = true) (n0 : Nat) (hEW : EW Z a0 consts_1) (c : Int32) (h0 : Heap) (σ : Addr → Prop) (hc : 0 ≤ c.toInt ∧ c.toInt < 256) :
    Road.Con l Z consts_1 n0 false bCan [] σ #[(.int c)] h0 (fun v h2 _ => v = some (.int 1) ∧ h0 = h2) := by
  refine Road.Con.of bCan_pn hEW #[.val (.int c)] (fun m => Road.ent (Road.laid1 rfl Road.laid0) (k := 0) rfl rfl) ?_
  intro D hD
  refine Road.iloadN 0 bCan_d0 rfl ?_
  refine Road.sipush 1 (255 : Int32) bCan_d1 rfl ?_
  refine Road.icmp_gt 4 11 bCan_d4 rfl (fun q => absurd q (by rw [Int32.lt_iff_toInt_lt]; have : (255 : Int32).toInt = 255 := rfl; omega)) (fun hc4 => ?_)
  refine Road.iconst 7 (1 : Int32) bCan_d7 rfl ?_
  refine Road.goto 8 12 bCan_d8 rfl ?_
  exact Road.iret 12 1 bCan_d12 (t := .boolean) rfl (by simp) rfl (by decide) (by decide) (fun σ' m => ⟨rfl, rfl⟩)
def bToB : Road.Bdy := (⟨"java/lang/StringLatin1", "toBytes", "(C)[B"⟩, jdk_43_method_46_code, 1, (some (.array .byte)), { frames := 0, cells := 1, slots := 1, locals := 0 })
theorem bToB_d0 : decode bToB.bs 0 = .ok (.iconst 1, 1) := by decide +kernel
theorem bToB_d1 : decode bToB.bs 1 = .ok (.newarray .byte, 2) := by decide +kernel
theorem bToB_d3 : decode bToB.bs 3 = .ok (.dup, 1) := by decide +kernel
theorem bToB_d4 : decode bToB.bs 4 = .ok (.iconst 0, 1) := by decide +kernel
theorem bToB_d5 : decode bToB.bs 5 = .ok (.iload_n 0, 1) := by decide +kernel
theorem bToB_d6 : decode bToB.bs 6 = .ok (.i2b, 1) := by decide +kernel
theorem bToB_d7 : decode bToB.bs 7 = .ok (.bastore, 1) := by decide +kernel
theorem bToB_d8 : decode bToB.bs 8 = .ok (.areturn, 1) := by decide +kernel
theorem bToB_pd : parseMethodDescriptor "(C)[B" = some ⟨[.char], (some (.array .byte))⟩ := by decide +kernel
theorem bToB_pn : plainName "java/lang/StringLatin1" = true := by first | (simp [plainName, overriddenIn]; done) | decide +kernel
theorem cToB (l : Launch) (Z : State) (a0 : Array Value) (hw : ∀ d ∈ tables_1, d.before a0 Z = true) (n0 : Nat) (hEW : EW Z a0 consts_1) (c : Int32) (h0 : Heap) (σ : Addr → Prop)  :
    Road.Con l Z consts_1 n0 false bToB [] σ #[(.int c)] h0 (fun v h2 s2 => ∃ d, v = some (.ref d) ∧ h0.size ≤ d ∧ Keep h0 h2 [] ∧ s2 d ∧ Road.Ary Z h2 d .byte ([c].map Road.byt)) := by
  refine Road.Con.of bToB_pn hEW #[.val (.int c)] (fun m => Road.ent (Road.laid1 rfl Road.laid0) (k := 0) rfl rfl) ?_
  intro D hD
  refine Road.iconst 0 (1 : Int32) bToB_d0 rfl ?_
  refine Road.newarray 1 .byte 1 1 bToB_d1 rfl (hw _ (List.mem_of_getElem? (i := 24) rfl)) (by decide) (by decide) (by decide) (ce' := 1) (sl' := 1) rfl rfl (by decide) (by decide) ?_
  intro d h_1 σ_2 g_3 K_4 lt_5 m_6 s_7 Ad
  refine Road.dup 3 bToB_d3 ?_
  refine Road.iconst 4 (0 : Int32) bToB_d4 rfl ?_
  refine Road.iloadN 5 bToB_d5 rfl ?_
  refine Road.i2b 6 bToB_d6 ?_
  refine Road.bastore 7 0 (Int8.toInt32 (Int32.toInt8 c)) bToB_d7 Ad (by decide) (by simp) (Road.nar_byte _) s_7 ?_
  intro h_8 K_9 A_10
  replace Ad := A_10
  exact Road.aret 8 bToB_d8 (t := (.array .byte)) rfl rfl rfl (by decide) (by decide) (fun σ' m => ⟨d, rfl, Nat.le_of_eq g_3.symm, K_4.trans K_9 (by intro x hx; cases List.mem_singleton.mp hx; exact Or.inr (Nat.le_of_eq g_3.symm)), m _ s_7, Ad⟩)
def bStB : Road.Bdy := (⟨"java/lang/String", "<init>", "([BB)V"⟩, jdk_42_method_151_code, 3, none, { frames := 1, cells := 0, slots := 0, locals := 13 })
theorem bStB_d0 : decode bStB.bs 0 = .ok (.aload_n 0, 1) := by decide +kernel
theorem bStB_d1 : decode bStB.bs 1 = .ok (.invokespecial 1, 3) := by decide +kernel
theorem bStB_d4 : decode bStB.bs 4 = .ok (.aload_n 0, 1) := by decide +kernel
theorem bStB_d5 : decode bStB.bs 5 = .ok (.aload_n 1, 1) := by decide +kernel
theorem bStB_d6 : decode bStB.bs 6 = .ok (.putfield 9, 3) := by decide +kernel
theorem bStB_d9 : decode bStB.bs 9 = .ok (.aload_n 0, 1) := by decide +kernel
theorem bStB_d10 : decode bStB.bs 10 = .ok (.iload_n 2, 1) := by decide +kernel
theorem bStB_d11 : decode bStB.bs 11 = .ok (.putfield 15, 3) := by decide +kernel
theorem bStB_d14 : decode bStB.bs 14 = .ok (.return_, 1) := by decide +kernel
theorem bStB_pd : parseMethodDescriptor "([BB)V" = some ⟨[(.array .byte), .byte], none⟩ := by decide +kernel
theorem bStB_pn : plainName "java/lang/String" = true := by first | (simp [plainName, overriddenIn]; done) | decide +kernel
theorem cStB (l : Launch) (Z : State) (a0 : Array Value) (hw : ∀ d ∈ tables_1, d.before a0 Z = true) (n0 : Nat) (hEW : EW Z a0 consts_1) (a d : Addr) (cs : List Int32) (h0 : Heap) (σ : Addr → Prop) (E : Exa Z h0 a Road.SN) (Fc : Fld Z h0 a Road.SN "coder" "B" (.int 0)) (Fv : Fld Z h0 a Road.SN "value" "[B" .null) (Ad : Road.Ary Z h0 d .byte (cs.map Road.byt)) (hlat : ∀ c ∈ cs, 0 ≤ c.toInt ∧ c.toInt < 256) (sa : σ a) :
    Road.Con l Z consts_1 n0 false bStB [] σ #[(.ref a), (.ref d), (.int (0 : Int32))] h0 (fun v h2 s2 => v = none ∧ Keep h0 h2 [a] ∧ Road.Str Z h2 a d cs) := by
  have nad : a ≠ d := by obtain ⟨c, Ar, -⟩ := Ad; exact ne_arr E (hw _ (List.mem_of_getElem? (i := 6) rfl)) Ar
  refine Road.Con.of bStB_pn hEW #[.val (.ref a), .val (.ref d), .val (.int (0 : Int32))] (fun m => Road.ent (Road.laid1 rfl (Road.laid1 rfl (Road.laid1 rfl Road.laid0))) (k := 0) rfl rfl) ?_
  intro D hD
  refine Road.aloadN 0 bStB_d0 rfl ?_
  refine Road.initObj 1 bStB_d1 (hw _ (List.mem_of_getElem? (i := 16) rfl)) (hw _ (List.mem_of_getElem? (i := 17) rfl)) (hw _ (List.mem_of_getElem? (i := 18) rfl)) 0 rfl rfl (by decide) (by decide) ?_
  refine Road.aloadN 4 bStB_d4 rfl ?_
  refine Road.aloadN 5 bStB_d5 rfl ?_
  refine Road.putfield 6 bStB_d6 (hw _ (List.mem_of_getElem? (i := 33) rfl)) Via.refl Fv E (Or.inr ⟨(hw _ (List.mem_of_getElem? (i := 34) rfl)), rfl, rfl⟩) (hw _ (List.mem_of_getElem? (i := 6) rfl)) (ty := (.array .byte)) (by decide) rfl rfl sa ?_
  intro h_3 W_1 K_2
  replace Fv := Fv.same W_1
  replace Fc := Fc.other W_1 (Or.inr (slot_ne (Or.inr (hw _ (List.mem_of_getElem? (i := 32) rfl))) (Or.inr (hw _ (List.mem_of_getElem? (i := 34) rfl))) (by decide) (t := .byte) (by decide) (t' := (.array .byte)) (by decide)))
  replace E := E.keep K_2
  replace Ad := Ad.keep K_2 (ninS (Ne.symm nad) nin0)
  refine Road.aloadN 9 bStB_d9 rfl ?_
  refine Road.iloadN 10 bStB_d10 rfl ?_
  refine Road.putfield 11 bStB_d11 (hw _ (List.mem_of_getElem? (i := 31) rfl)) Via.refl Fc E (Or.inr ⟨(hw _ (List.mem_of_getElem? (i := 32) rfl)), rfl, rfl⟩) (hw _ (List.mem_of_getElem? (i := 6) rfl)) (ty := .byte) (by decide) rfl rfl sa ?_
  intro h_6 W_4 K_5
  replace Fc := Fc.same W_4
  replace Fv := Fv.other W_4 (Or.inr (slot_ne (Or.inr (hw _ (List.mem_of_getElem? (i := 34) rfl))) (Or.inr (hw _ (List.mem_of_getElem? (i := 32) rfl))) (by decide) (t := (.array .byte)) (by decide) (t' := .byte) (by decide)))
  replace E := E.keep K_5
  replace Ad := Ad.keep K_5 (ninS (Ne.symm nad) nin0)
  exact Road.ret 14 bStB_d14 rfl (by decide) (by decide) (fun σ' m => ⟨rfl, K_2.trans K_5 (by simp), E, Fc, Fv, Ad, hlat⟩)
def bVal : Road.Bdy := (⟨"java/lang/String", "valueOf", "(C)Ljava/lang/String;"⟩, jdk_42_method_139_code, 1, (some (.object "java/lang/String")), { frames := 2, cells := 2, slots := 5, locals := 28 })
theorem bVal_d0 : decode bVal.bs 0 = .ok (.getstatic 38, 3) := by decide +kernel
theorem bVal_d3 : decode bVal.bs 3 = .ok (.ifCond .eq 23, 3) := by decide +kernel
theorem bVal_d6 : decode bVal.bs 6 = .ok (.iload_n 0, 1) := by decide +kernel
theorem bVal_d7 : decode bVal.bs 7 = .ok (.invokestatic 1015, 3) := by decide +kernel
theorem bVal_d10 : decode bVal.bs 10 = .ok (.ifCond .eq 16, 3) := by decide +kernel
theorem bVal_d13 : decode bVal.bs 13 = .ok (.new 10, 3) := by decide +kernel
theorem bVal_d16 : decode bVal.bs 16 = .ok (.dup, 1) := by decide +kernel
theorem bVal_d17 : decode bVal.bs 17 = .ok (.iload_n 0, 1) := by decide +kernel
theorem bVal_d18 : decode bVal.bs 18 = .ok (.invokestatic 1018, 3) := by decide +kernel
theorem bVal_d21 : decode bVal.bs 21 = .ok (.iconst 0, 1) := by decide +kernel
theorem bVal_d22 : decode bVal.bs 22 = .ok (.invokespecial 209, 3) := by decide +kernel
theorem bVal_d25 : decode bVal.bs 25 = .ok (.areturn, 1) := by decide +kernel
theorem bVal_d26 : decode bVal.bs 26 = .ok (.new 10, 3) := by decide +kernel
theorem bVal_d29 : decode bVal.bs 29 = .ok (.dup, 1) := by decide +kernel
theorem bVal_d30 : decode bVal.bs 30 = .ok (.iload_n 0, 1) := by decide +kernel
theorem bVal_d31 : decode bVal.bs 31 = .ok (.invokestatic 1021, 3) := by decide +kernel
theorem bVal_d34 : decode bVal.bs 34 = .ok (.iconst 1, 1) := by decide +kernel
theorem bVal_d35 : decode bVal.bs 35 = .ok (.invokespecial 209, 3) := by decide +kernel
theorem bVal_d38 : decode bVal.bs 38 = .ok (.areturn, 1) := by decide +kernel
theorem bVal_pd : parseMethodDescriptor "(C)Ljava/lang/String;" = some ⟨[.char], (some (.object "java/lang/String"))⟩ := by decide +kernel
theorem bVal_pn : plainName "java/lang/String" = true := by first | (simp [plainName, overriddenIn]; done) | decide +kernel
theorem cVal (l : Launch) (Z : State) (a0 : Array Value) (hw : ∀ d ∈ tables_1, d.before a0 Z = true) (n0 : Nat) (hEW : EW Z a0 consts_1) (c : Int32) (h0 : Heap) (σ : Addr → Prop) (hc : 0 ≤ c.toInt ∧ c.toInt < 256) (cp : Int32) (Hc : Sta Z Z.heap Road.SN "COMPACT_STRINGS" "Z" (.int cp)) (hcp : ¬ cp = 0) :
    Road.Con l Z consts_1 n0 false bVal [] σ #[(.int c)] h0 (fun v h2 s2 => ∃ a d, v = some (.ref a) ∧ h0.size ≤ a ∧ h0.size ≤ d ∧ Keep h0 h2 [] ∧ Road.Str Z h2 a d [c]) := by
  refine Road.Con.of bVal_pn hEW #[.val (.int c)] (fun m => Road.ent (Road.laid1 rfl Road.laid0) (k := 0) rfl rfl) ?_
  intro D hD
  refine Road.getstatic 0 bVal_d0 (hw _ (List.mem_of_getElem? (i := 19) rfl)) Via.refl Hc ?_
  refine Road.if_eq 3 26 bVal_d3 rfl (fun q => absurd q hcp) (fun hc3 => ?_)
  refine Road.iloadN 6 bVal_d6 rfl ?_
  refine Road.callS (B' := bCan) 7 (argsL := [(.int c)]) (rest := []) 0 bVal_d7 (hw _ (List.mem_of_getElem? (i := 38) rfl)) (hw _ (List.mem_of_getElem? (i := 39) rfl)) (hw _ (List.mem_of_getElem? (i := 40) rfl)) (hw _ (List.mem_of_getElem? (i := 41) rfl)) (by decide) (cCan l Z a0 hw n0 hEW c h0 σ hc) (lenOf bCan_pd rfl) rfl rfl rfl (by decide) (by decide) (ce' := 0) (sl' := 0) rfl rfl (by decide) (by decide) ?_
  rintro _ h_1 σ_2 m_3 ⟨rfl, rfl⟩
  refine Road.Go.weaken (σ' := σ) m_3 (Nat.le_refl _) (Nat.le_refl _) ?_
  refine Road.if_eq 10 26 bVal_d10 rfl (fun q => absurd q (by decide)) (fun hc10 => ?_)
  refine Road.new 13 "java/lang/String" bVal_d13 (hw _ (List.mem_of_getElem? (i := 42) rfl)) (hw _ (List.mem_of_getElem? (i := 6) rfl)) (hw _ (List.mem_of_getElem? (i := 7) rfl)) (ce' := 1) (sl' := 4) rfl rfl (by decide) (by decide) ?_
  intro a h_5 σ_6 g_7 K_8 lt_9 m_10 s_11 E D_12 M_13
  have Fc := D_12 (Or.inr (hw _ (List.mem_of_getElem? (i := 32) rfl))) (ty := .byte) (by decide)
  have Fv := D_12 (Or.inr (hw _ (List.mem_of_getElem? (i := 34) rfl))) (ty := (.array .byte)) (by decide)
  refine Road.dup 16 bVal_d16 ?_
  refine Road.iloadN 17 bVal_d17 rfl ?_
  refine Road.callS (B' := bToB) 18 (argsL := [(.int c)]) (rest := [(.ref a), (.ref a)]) 2 bVal_d18 (hw _ (List.mem_of_getElem? (i := 43) rfl)) (hw _ (List.mem_of_getElem? (i := 44) rfl)) (hw _ (List.mem_of_getElem? (i := 40) rfl)) (hw _ (List.mem_of_getElem? (i := 45) rfl)) (by decide) (cToB l Z a0 hw n0 hEW c h_5 σ_6) (lenOf bToB_pd rfl) rfl rfl rfl (by decide) (by decide) (ce' := 2) (sl' := 5) rfl rfl (by decide) (by decide) ?_
  rintro _ h_14 σ_15 m_16 ⟨d, rfl, gd, K_17, sd, Ad⟩
  have ne_a_d : a ≠ d := Nat.ne_of_lt (Nat.lt_of_lt_of_le E.lt gd)
  replace E := E.keep K_17
  replace Fc := Fc.keep K_17 nin0
  replace Fv := Fv.keep K_17 nin0
  replace s_11 := m_16 _ s_11
  refine Road.iconst 21 (0 : Int32) bVal_d21 rfl ?_
  refine Road.callI (B' := bStB) (a := a) 22 (argsL := [(.ref d), (.int (0 : Int32))]) (rest := [(.ref a)]) 1 bVal_d22 (hw _ (List.mem_of_getElem? (i := 46) rfl)) (hw _ (List.mem_of_getElem? (i := 47) rfl)) (hw _ (List.mem_of_getElem? (i := 7) rfl)) (hw _ (List.mem_of_getElem? (i := 48) rfl)) rfl rfl (by decide) (cStB l Z a0 hw n0 hEW a d [c] h_14 σ_15 E Fc Fv Ad (by intro x hx; cases List.mem_singleton.mp hx; exact hc) s_11) (lenOf bStB_pd rfl) rfl rfl rfl (by decide) (by decide) (ce' := 2) (sl' := 5) rfl rfl (by decide) (by decide) ?_
  rintro _ h_18 σ_19 m_20 ⟨rfl, K_21, S⟩
  replace s_11 := m_20 _ s_11
  exact Road.aret 25 bVal_d25 (t := (.object "java/lang/String")) rfl rfl rfl (by decide) (by decide) (fun σ' m => ⟨a, d, rfl, Nat.le_of_eq g_7.symm, Nat.le_trans K_8.1 gd, (K_8.trans K_17 (by simp)).trans K_21 (by intro x hx; cases List.mem_singleton.mp hx; exact Or.inr (Nat.le_of_eq g_7.symm)), S⟩)
def bLeq : Road.Bdy := (⟨"java/lang/StringLatin1", "equals", "([B[B)Z"⟩, jdk_43_method_13_code, 3, (some .boolean), { frames := 0, cells := 0, slots := 0, locals := 0 })
theorem bLeq_d0 : decode bLeq.bs 0 = .ok (.aload_n 0, 1) := by decide +kernel
theorem bLeq_d1 : decode bLeq.bs 1 = .ok (.arraylength, 1) := by decide +kernel
theorem bLeq_d2 : decode bLeq.bs 2 = .ok (.aload_n 1, 1) := by decide +kernel
theorem bLeq_d3 : decode bLeq.bs 3 = .ok (.arraylength, 1) := by decide +kernel
theorem bLeq_d4 : decode bLeq.bs 4 = .ok (.if_icmp .ne 30, 3) := by decide +kernel
theorem bLeq_d7 : decode bLeq.bs 7 = .ok (.iconst 0, 1) := by decide +kernel
theorem bLeq_d8 : decode bLeq.bs 8 = .ok (.istore_n 2, 1) := by decide +kernel
theorem bLeq_d9 : decode bLeq.bs 9 = .ok (.iload_n 2, 1) := by decide +kernel
theorem bLeq_d10 : decode bLeq.bs 10 = .ok (.aload_n 0, 1) := by decide +kernel
theorem bLeq_d11 : decode bLeq.bs 11 = .ok (.arraylength, 1) := by decide +kernel
theorem bLeq_d12 : decode bLeq.bs 12 = .ok (.if_icmp .ge 20, 3) := by decide +kernel
theorem bLeq_d15 : decode bLeq.bs 15 = .ok (.aload_n 0, 1) := by decide +kernel
theorem bLeq_d16 : decode bLeq.bs 16 = .ok (.iload_n 2, 1) := by decide +kernel
theorem bLeq_d17 : decode bLeq.bs 17 = .ok (.baload, 1) := by decide +kernel
theorem bLeq_d18 : decode bLeq.bs 18 = .ok (.aload_n 1, 1) := by decide +kernel
theorem bLeq_d19 : decode bLeq.bs 19 = .ok (.iload_n 2, 1) := by decide +kernel
theorem bLeq_d20 : decode bLeq.bs 20 = .ok (.baload, 1) := by decide +kernel
theorem bLeq_d21 : decode bLeq.bs 21 = .ok (.if_icmp .eq 5, 3) := by decide +kernel
theorem bLeq_d24 : decode bLeq.bs 24 = .ok (.iconst 0, 1) := by decide +kernel
theorem bLeq_d25 : decode bLeq.bs 25 = .ok (.ireturn, 1) := by decide +kernel
theorem bLeq_d26 : decode bLeq.bs 26 = .ok (.iinc 2 1, 3) := by decide +kernel
theorem bLeq_d29 : decode bLeq.bs 29 = .ok (.goto (-20), 3) := by decide +kernel
theorem bLeq_d32 : decode bLeq.bs 32 = .ok (.iconst 1, 1) := by decide +kernel
theorem bLeq_d33 : decode bLeq.bs 33 = .ok (.ireturn, 1) := by decide +kernel
theorem bLeq_d34 : decode bLeq.bs 34 = .ok (.iconst 0, 1) := by decide +kernel
theorem bLeq_d35 : decode bLeq.bs 35 = .ok (.ireturn, 1) := by decide +kernel
theorem bLeq_pd : parseMethodDescriptor "([B[B)Z" = some ⟨[(.array .byte), (.array .byte)], (some .boolean)⟩ := by decide +kernel
theorem bLeq_pn : plainName "java/lang/StringLatin1" = true := by first | (simp [plainName, overriddenIn]; done) | decide +kernel
theorem cLeq (l : Launch) (Z : State) (a0 : Array Value) (hw : ∀ d ∈ tables_1, d.before a0 Z = true) (n0 : Nat) (hEW : EW Z a0 consts_1) (a b : Addr) (xs ys : List Int32) (h0 : Heap) (σ : Addr → Prop) (A : Road.Ary Z h0 a .byte (xs.map .int)) (A' : Road.Ary Z h0 b .byte (ys.map .int)) :
    Road.Con l Z consts_1 n0 false bLeq [] σ #[(.ref a), (.ref b)] h0 (fun v h2 _ => v = some (.int (if xs = ys then 1 else 0)) ∧ h0 = h2) := by
  refine Road.Con.of bLeq_pn hEW #[.val (.ref a), .val (.ref b), .unset] (fun m => Road.ent (Road.laid1 rfl (Road.laid1 rfl Road.laid0)) (k := 1) rfl rfl) ?_
  intro D hD
  have hx : xs.length < 2147483648 := by have := A.small; rwa [List.length_map] at this
  have hy : ys.length < 2147483648 := by have := A'.small; rwa [List.length_map] at this
  refine Road.aloadN 0 bLeq_d0 rfl ?_
  refine Road.alen 1 (Nat.toInt32 xs.length) bLeq_d1 A (n := xs.length) (List.length_map _) rfl ?_
  refine Road.aloadN 2 bLeq_d2 rfl ?_
  refine Road.alen 3 (Nat.toInt32 ys.length) bLeq_d3 A' (n := ys.length) (List.length_map _) rfl ?_
  refine Road.icmp_ne 4 34 bLeq_d4 rfl (fun hc4 => ?_) (fun hc4 => ?_)
  · skip
    refine Road.iconst 34 (0 : Int32) bLeq_d34 rfl ?_
    exact Road.iret 35 0 bLeq_d35 (t := .boolean) rfl (by simp) rfl (by decide) (by decide) (fun σ' m => ⟨by rw [if_neg (fun q => hc4 (by rw [q]))], rfl⟩)
  · skip
    have hl : xs.length = ys.length := (Road.eq32 hx hy).mp hc4
    refine Road.iconst 7 (0 : Int32) bLeq_d7 rfl ?_
    refine Road.istoreN 8 #[.val (.ref a), .val (.ref b), .val (.int (0 : Int32))] bLeq_d8 rfl ?_
    have loop : ∀ r k, k + r = xs.length → xs.take k = ys.take k → Road.Go l Z a0 consts_1 n0 false bLeq D (fun v h2 _ => v = some (.int (if xs = ys then 1 else 0)) ∧ h0 = h2) h0 σ 0 0 9 #[.val (.ref a), .val (.ref b), .val (.int (Nat.toInt32 k))] [] := by
      intro r
      induction r with
      | zero =>
        intro k hk ht
        have hk' : k = xs.length := by omega
        subst hk'
        refine Road.iloadN 9 bLeq_d9 rfl ?_
        refine Road.aloadN 10 bLeq_d10 rfl ?_
        refine Road.alen 11 (Nat.toInt32 xs.length) bLeq_d11 A (n := xs.length) (List.length_map _) rfl ?_
        refine Road.icmp_ge 12 32 bLeq_d12 rfl (fun hc12 => ?_) (fun q => absurd q Int32.lt_irrefl)
        refine Road.iconst 32 (1 : Int32) bLeq_d32 rfl ?_
        have he : xs = ys := by rw [List.take_of_length_le (Nat.le_refl _), List.take_of_length_le (by omega)] at ht; exact ht
        exact Road.iret 33 1 bLeq_d33 (t := .boolean) rfl (by simp) rfl (by decide) (by decide) (fun σ' m => ⟨by rw [if_pos he], rfl⟩)
      | succ r ih =>
        intro k hk ht
        have hk1 : k < xs.length := by omega
        have hk2 : k < ys.length := by omega
        refine Road.iloadN 9 bLeq_d9 rfl ?_
        refine Road.aloadN 10 bLeq_d10 rfl ?_
        refine Road.alen 11 (Nat.toInt32 xs.length) bLeq_d11 A (n := xs.length) (List.length_map _) rfl ?_
        refine Road.icmp_ge 12 32 bLeq_d12 rfl (fun q => absurd q (by rw [Decidable.not_not, Road.lt32 (by omega) hx]; omega)) (fun hc12 => ?_)
        refine Road.aloadN 15 bLeq_d15 rfl ?_
        refine Road.iloadN 16 bLeq_d16 rfl ?_
        refine Road.baload 17 k bLeq_d17 A (Road.n32 (by omega)) (by rw [List.getElem?_map, List.getElem?_eq_getElem hk1]; rfl) ?_
        refine Road.aloadN 18 bLeq_d18 rfl ?_
        refine Road.iloadN 19 bLeq_d19 rfl ?_
        refine Road.baload 20 k bLeq_d20 A' (Road.n32 (by omega)) (by rw [List.getElem?_map, List.getElem?_eq_getElem hk2]; rfl) ?_
        refine Road.icmp_eq 21 26 bLeq_d21 rfl (fun hc21 => ?_) (fun hc21 => ?_)
        · skip
          refine Road.iinc 26 (1) #[.val (.ref a), .val (.ref b), .val (.int ((Nat.toInt32 k) + 1))] bLeq_d26 rfl rfl rfl ?_
          refine Road.goto 29 9 bLeq_d29 rfl ?_
          have := ih (k + 1) (by omega) (Road.take_ext hk1 hk2 ht hc21)
          rw [← Road.succ32] at this
          exact this
        · skip
          refine Road.iconst 24 (0 : Int32) bLeq_d24 rfl ?_
          exact Road.iret 25 0 bLeq_d25 (t := .boolean) rfl (by simp) rfl (by decide) (by decide) (fun σ' m => ⟨by rw [if_neg (by rintro rfl; exact hc21 rfl)], rfl⟩)
    exact loop xs.length 0 (by omega) rfl
def bEq : Road.Bdy := (⟨"java/lang/String", "equals", "(Ljava/lang/Object;)Z"⟩, jdk_42_method_66_code, 3, (some .boolean), { frames := 1, cells := 0, slots := 0, locals := 14 })
theorem bEq_d0 : decode bEq.bs 0 = .ok (.aload_n 0, 1) := by decide +kernel
theorem bEq_d1 : decode bEq.bs 1 = .ok (.aload_n 1, 1) := by decide +kernel
theorem bEq_d2 : decode bEq.bs 2 = .ok (.if_acmp .ne 5, 3) := by decide +kernel
theorem bEq_d5 : decode bEq.bs 5 = .ok (.iconst 1, 1) := by decide +kernel
theorem bEq_d6 : decode bEq.bs 6 = .ok (.ireturn, 1) := by decide +kernel
theorem bEq_d7 : decode bEq.bs 7 = .ok (.aload_n 1, 1) := by decide +kernel
theorem bEq_d8 : decode bEq.bs 8 = .ok (.instanceof 10, 3) := by decide +kernel
theorem bEq_d11 : decode bEq.bs 11 = .ok (.ifCond .eq 43, 3) := by decide +kernel
theorem bEq_d14 : decode bEq.bs 14 = .ok (.aload_n 1, 1) := by decide +kernel
theorem bEq_d15 : decode bEq.bs 15 = .ok (.checkcast 10, 3) := by decide +kernel
theorem bEq_d18 : decode bEq.bs 18 = .ok (.astore_n 2, 1) := by decide +kernel
theorem bEq_d19 : decode bEq.bs 19 = .ok (.getstatic 38, 3) := by decide +kernel
theorem bEq_d22 : decode bEq.bs 22 = .ok (.ifCond .eq 14, 3) := by decide +kernel
theorem bEq_d25 : decode bEq.bs 25 = .ok (.aload_n 0, 1) := by decide +kernel
theorem bEq_d26 : decode bEq.bs 26 = .ok (.getfield 15, 3) := by decide +kernel
theorem bEq_d29 : decode bEq.bs 29 = .ok (.aload_n 2, 1) := by decide +kernel
theorem bEq_d30 : decode bEq.bs 30 = .ok (.getfield 15, 3) := by decide +kernel
theorem bEq_d33 : decode bEq.bs 33 = .ok (.if_icmp .ne 21, 3) := by decide +kernel
theorem bEq_d36 : decode bEq.bs 36 = .ok (.aload_n 0, 1) := by decide +kernel
theorem bEq_d37 : decode bEq.bs 37 = .ok (.getfield 9, 3) := by decide +kernel
theorem bEq_d40 : decode bEq.bs 40 = .ok (.aload_n 2, 1) := by decide +kernel
theorem bEq_d41 : decode bEq.bs 41 = .ok (.getfield 9, 3) := by decide +kernel
theorem bEq_d44 : decode bEq.bs 44 = .ok (.invokestatic 541, 3) := by decide +kernel
theorem bEq_d47 : decode bEq.bs 47 = .ok (.ifCond .eq 7, 3) := by decide +kernel
theorem bEq_d50 : decode bEq.bs 50 = .ok (.iconst 1, 1) := by decide +kernel
theorem bEq_d51 : decode bEq.bs 51 = .ok (.goto 4, 3) := by decide +kernel
theorem bEq_d54 : decode bEq.bs 54 = .ok (.iconst 0, 1) := by decide +kernel
theorem bEq_d55 : decode bEq.bs 55 = .ok (.ireturn, 1) := by decide +kernel
theorem bEq_pd : parseMethodDescriptor "(Ljava/lang/Object;)Z" = some ⟨[(.object "java/lang/Object")], (some .boolean)⟩ := by decide +kernel
theorem bEq_pn : plainName "java/lang/String" = true := by first | (simp [plainName, overriddenIn]; done) | decide +kernel
theorem cEq (l : Launch) (Z : State) (a0 : Array Value) (hw : ∀ d ∈ tables_1, d.before a0 Z = true) (n0 : Nat) (hEW : EW Z a0 consts_1) (a b a' b' : Addr) (cs ds : List Int32) (h0 : Heap) (σ : Addr → Prop) (S : Road.Str Z h0 a b cs) (S' : Road.Str Z h0 a' b' ds) (cp : Int32) (Hc : Sta Z Z.heap Road.SN "COMPACT_STRINGS" "Z" (.int cp)) (hcp : ¬ cp = 0) :
    Road.Con l Z consts_1 n0 false bEq [] σ #[(.ref a), (.ref a')] h0 (fun v h2 _ => v = some (.int (if cs = ds then 1 else 0)) ∧ h0 = h2) := by
  refine Road.Con.of bEq_pn hEW #[.val (.ref a), .val (.ref a'), .unset] (fun m => Road.ent (Road.laid1 rfl (Road.laid1 rfl Road.laid0)) (k := 1) rfl rfl) ?_
  intro D hD
  refine Road.aloadN 0 bEq_d0 rfl ?_
  refine Road.aloadN 1 bEq_d1 rfl ?_
  refine Road.acmp_ne 2 7 rfl rfl bEq_d2 rfl (fun hc2 => ?_) (fun hc2 => ?_)
  · skip
    refine Road.aloadN 7 bEq_d7 rfl ?_
    refine Road.instYes 8 bEq_d8 (hw _ (List.mem_of_getElem? (i := 42) rfl)) (Ins.self S'.1) ?_
    refine Road.if_eq 11 54 bEq_d11 rfl (fun q => absurd q (by decide)) (fun hc11 => ?_)
    refine Road.aloadN 14 bEq_d14 rfl ?_
    refine Road.castYes 15 bEq_d15 (hw _ (List.mem_of_getElem? (i := 42) rfl)) (Ins.self S'.1) ?_
    refine Road.astoreN 18 #[.val (.ref a), .val (.ref a'), .val (.ref a')] bEq_d18 rfl ?_
    refine Road.getstatic 19 bEq_d19 (hw _ (List.mem_of_getElem? (i := 19) rfl)) Via.refl Hc ?_
    refine Road.if_eq 22 36 bEq_d22 rfl (fun q => absurd q hcp) (fun hc22 => ?_)
    refine Road.aloadN 25 bEq_d25 rfl ?_
    refine Road.getfield 26 bEq_d26 (hw _ (List.mem_of_getElem? (i := 31) rfl)) Via.refl S.2.1 ?_
    refine Road.aloadN 29 bEq_d29 rfl ?_
    refine Road.getfield 30 bEq_d30 (hw _ (List.mem_of_getElem? (i := 31) rfl)) Via.refl S'.2.1 ?_
    refine Road.icmp_ne 33 54 bEq_d33 rfl (fun q => absurd q (by decide)) (fun hc33 => ?_)
    refine Road.aloadN 36 bEq_d36 rfl ?_
    refine Road.getfield 37 bEq_d37 (hw _ (List.mem_of_getElem? (i := 33) rfl)) Via.refl S.2.2.1 ?_
    refine Road.aloadN 40 bEq_d40 rfl ?_
    refine Road.getfield 41 bEq_d41 (hw _ (List.mem_of_getElem? (i := 33) rfl)) Via.refl S'.2.2.1 ?_
    refine Road.callS (B' := bLeq) 44 (argsL := [(.ref b), (.ref b')]) (rest := []) 0 bEq_d44 (hw _ (List.mem_of_getElem? (i := 97) rfl)) (hw _ (List.mem_of_getElem? (i := 98) rfl)) (hw _ (List.mem_of_getElem? (i := 40) rfl)) (hw _ (List.mem_of_getElem? (i := 99) rfl)) (by decide) (cLeq l Z a0 hw n0 hEW b b' (cs.map Road.bf) (ds.map Road.bf) h0 σ (by rw [← Road.byts]; exact S.2.2.2.1) (by rw [← Road.byts]; exact S'.2.2.2.1)) (lenOf bLeq_pd rfl) rfl rfl rfl (by decide) (by decide) (ce' := 0) (sl' := 0) rfl rfl (by decide) (by decide) ?_
    rintro _ h_1 σ_2 m_3 ⟨rfl, rfl⟩
    refine Road.Go.weaken (σ' := σ) m_3 (Nat.le_refl _) (Nat.le_refl _) ?_
    refine Road.nameI ?_
    intro z hz
    by_cases he : cs = ds
    · skip
      rw [if_pos (by rw [he])] at hz
      subst hz
      refine Road.if_eq 47 54 bEq_d47 rfl (fun q => absurd q (by decide)) (fun hc47 => ?_)
      refine Road.iconst 50 (1 : Int32) bEq_d50 rfl ?_
      refine Road.goto 51 55 bEq_d51 rfl ?_
      exact Road.iret 55 1 bEq_d55 (t := .boolean) rfl (by simp) rfl (by decide) (by decide) (fun σ' m => ⟨by rw [if_pos he], rfl⟩)
    · skip
      rw [if_neg (fun q => he (Road.bfs_inj S.2.2.2.2 S'.2.2.2.2 q))] at hz
      subst hz
      refine Road.if_eq 47 54 bEq_d47 rfl (fun hc47 => ?_) (fun q => absurd q (by decide))
      refine Road.iconst 54 (0 : Int32) bEq_d54 rfl ?_
      exact Road.iret 55 0 bEq_d55 (t := .boolean) rfl (by simp) rfl (by decide) (by decide) (fun σ' m => ⟨by rw [if_neg he], rfl⟩)
  · skip
    refine Road.iconst 5 (1 : Int32) bEq_d5 rfl ?_
    have he : cs = ds := by have q := Value.ref.inj hc2; subst q; exact S.uniq S'
    exact Road.iret 6 1 bEq_d6 (t := .boolean) rfl (by simp) rfl (by decide) (by decide) (fun σ' m => ⟨by rw [if_pos he], rfl⟩)
def bCod : Road.Bdy := (⟨"java/lang/String", "coder", "()B"⟩, jdk_42_method_152_code, 1, (some .byte), { frames := 0, cells := 0, slots := 0, locals := 0 })
theorem bCod_d0 : decode bCod.bs 0 = .ok (.getstatic 38, 3) := by decide +kernel
theorem bCod_d3 : decode bCod.bs 3 = .ok (.ifCond .eq 10, 3) := by decide +kernel
theorem bCod_d6 : decode bCod.bs 6 = .ok (.aload_n 0, 1) := by decide +kernel
theorem bCod_d7 : decode bCod.bs 7 = .ok (.getfield 15, 3) := by decide +kernel
theorem bCod_d10 : decode bCod.bs 10 = .ok (.goto 4, 3) := by decide +kernel
theorem bCod_d13 : decode bCod.bs 13 = .ok (.iconst 1, 1) := by decide +kernel
theorem bCod_d14 : decode bCod.bs 14 = .ok (.ireturn, 1) := by decide +kernel
theorem bCod_pd : parseMethodDescriptor "()B" = some ⟨[], (some .byte)⟩ := by decide +kernel
theorem bCod_pn : plainName "java/lang/String" = true := by first | (simp [plainName, overriddenIn]; done) | decide +kernel
theorem cCod (l : Launch) (Z : State) (a0 : Array Value) (hw : ∀ d ∈ tables_1, d.before a0 Z = true) (n0 : Nat) (hEW : EW Z a0 consts_1) (a : Addr) (h0 : Heap) (σ : Addr → Prop) (Fc : Fld Z h0 a Road.SN "coder" "B" (.int 0)) (cp : Int32) (Hc : Sta Z Z.heap Road.SN "COMPACT_STRINGS" "Z" (.int cp)) (hcp : ¬ cp = 0) :
    Road.Con l Z consts_1 n0 false bCod [] σ #[(.ref a)] h0 (fun v h2 _ => v = some (.int 0) ∧ h0 = h2) := by
  refine Road.Con.of bCod_pn hEW #[.val (.ref a)] (fun m => Road.ent (Road.laid1 rfl Road.laid0) (k := 0) rfl rfl) ?_
  intro D hD
  refine Road.getstatic 0 bCod_d0 (hw _ (List.mem_of_getElem? (i := 19) rfl)) Via.refl Hc ?_
  refine Road.if_eq 3 13 bCod_d3 rfl (fun q => absurd q hcp) (fun hc3 => ?_)
  refine Road.aloadN 6 bCod_d6 rfl ?_
  refine Road.getfield 7 bCod_d7 (hw _ (List.mem_of_getElem? (i := 31) rfl)) Via.refl Fc ?_
  refine Road.goto 10 14 bCod_d10 rfl ?_
  exact Road.iret 14 0 bCod_d14 (t := .byte) rfl (by simp) rfl (by decide) (by decide) (fun σ' m => ⟨rfl, rfl⟩)
def bLen : Road.Bdy := (⟨"java/lang/String", "length", "()I"⟩, jdk_42_method_54_code, 1, (some .int), { frames := 1, cells := 0, slots := 0, locals := 13 })
theorem bLen_d0 : decode bLen.bs 0 = .ok (.aload_n 0, 1) := by decide +kernel
theorem bLen_d1 : decode bLen.bs 1 = .ok (.getfield 9, 3) := by decide +kernel
theorem bLen_d4 : decode bLen.bs 4 = .ok (.arraylength, 1) := by decide +kernel
theorem bLen_d5 : decode bLen.bs 5 = .ok (.aload_n 0, 1) := by decide +kernel
theorem bLen_d6 : decode bLen.bs 6 = .ok (.invokevirtual 335, 3) := by decide +kernel
theorem bLen_d9 : decode bLen.bs 9 = .ok (.ishr, 1) := by decide +kernel
theorem bLen_d10 : decode bLen.bs 10 = .ok (.ireturn, 1) := by decide +kernel
theorem bLen_pd : parseMethodDescriptor "()I" = some ⟨[], (some .int)⟩ := by decide +kernel
theorem bLen_pn : plainName "java/lang/String" = true := by first | (simp [plainName, overriddenIn]; done) | decide +kernel
theorem cLen (l : Launch) (Z : State) (a0 : Array Value) (hw : ∀ d ∈ tables_1, d.before a0 Z = true) (n0 : Nat) (hEW : EW Z a0 consts_1) (a b : Addr) (cs : List Int32) (h0 : Heap) (σ : Addr → Prop) (S : Road.Str Z h0 a b cs) (cp : Int32) (Hc : Sta Z Z.heap Road.SN "COMPACT_STRINGS" "Z" (.int cp)) (hcp : ¬ cp = 0) :
    Road.Con l Z consts_1 n0 false bLen [] σ #[(.ref a)] h0 (fun v h2 _ => v = some (.int (Nat.toInt32 cs.length)) ∧ h0 = h2) := by
  refine Road.Con.of bLen_pn hEW #[.val (.ref a)] (fun m => Road.ent (Road.laid1 rfl Road.laid0) (k := 0) rfl rfl) ?_
  intro D hD
  refine Road.aloadN 0 bLen_d0 rfl ?_
  refine Road.getfield 1 bLen_d1 (hw _ (List.mem_of_getElem? (i := 33) rfl)) Via.refl S.2.2.1 ?_
  refine Road.alen 4 (Nat.toInt32 cs.length) bLen_d4 S.2.2.2.1 (n := cs.length) (List.length_map _) rfl ?_
  refine Road.aloadN 5 bLen_d5 rfl ?_
  refine Road.callV (B' := bCod) (a := a) 6 (argsL := []) (rest := [(.int (Nat.toInt32 cs.length))]) "java/lang/String" 1 bLen_d6 (hw _ (List.mem_of_getElem? (i := 63) rfl)) (hw _ (List.mem_of_getElem? (i := 64) rfl)) (fun vm hz => notFace_of_selects (args := #[]) (mv (s := D.s.setVm vm) hz (hw _ (List.mem_of_getElem? (i := 66) rfl)))) (hw _ (List.mem_of_getElem? (i := 66) rfl)) (hw _ (List.mem_of_getElem? (i := 65) rfl)) (hw _ (List.mem_of_getElem? (i := 7) rfl)) (hw _ (List.mem_of_getElem? (i := 67) rfl)) (by decide) S.1 (cCod l Z a0 hw n0 hEW a h0 σ S.2.1 cp Hc hcp) (lenOf bCod_pd rfl) rfl rfl rfl (by decide) (by decide) (ce' := 0) (sl' := 0) rfl rfl (by decide) (by decide) ?_
  rintro _ h_1 σ_2 m_3 ⟨rfl, rfl⟩
  refine Road.Go.weaken (σ' := σ) m_3 (Nat.le_refl _) (Nat.le_refl _) ?_
  refine Road.ishr 9 bLen_d9 ?_
  exact Road.iretI 10 bLen_d10 rfl (by decide) (by decide) (fun σ' m => ⟨by rw [Road.shr0], rfl⟩)
def bIsL : Road.Bdy := (⟨"java/lang/String", "isLatin1", "()Z"⟩, jdk_42_method_154_code, 1, (some .boolean), { frames := 0, cells := 0, slots := 0, locals := 0 })
theorem bIsL_d0 : decode bIsL.bs 0 = .ok (.getstatic 38, 3) := by decide +kernel
theorem bIsL_d3 : decode bIsL.bs 3 = .ok (.ifCond .eq 14, 3) := by decide +kernel
theorem bIsL_d6 : decode bIsL.bs 6 = .ok (.aload_n 0, 1) := by decide +kernel
theorem bIsL_d7 : decode bIsL.bs 7 = .ok (.getfield 15, 3) := by decide +kernel
theorem bIsL_d10 : decode bIsL.bs 10 = .ok (.ifCond .ne 7, 3) := by decide +kernel
theorem bIsL_d13 : decode bIsL.bs 13 = .ok (.iconst 1, 1) := by decide +kernel
theorem bIsL_d14 : decode bIsL.bs 14 = .ok (.goto 4, 3) := by decide +kernel
theorem bIsL_d17 : decode bIsL.bs 17 = .ok (.iconst 0, 1) := by decide +kernel
theorem bIsL_d18 : decode bIsL.bs 18 = .ok (.ireturn, 1) := by decide +kernel
theorem bIsL_pd : parseMethodDescriptor "()Z" = some ⟨[], (some .boolean)⟩ := by decide +kernel
theorem bIsL_pn : plainName "java/lang/String" = true := by first | (simp [plainName, overriddenIn]; done) | decide +kernel
theorem cIsL (l : Launch) (Z : State) (a0 : Array Value) (hw : ∀ d ∈ tables_1, d.before a0 Z = true) (n0 : Nat) (hEW : EW Z a0 consts_1) (a : Addr) (h0 : Heap) (σ : Addr → Prop) (Fc : Fld Z h0 a Road.SN "coder" "B" (.int 0)) (cp : Int32) (Hc : Sta Z Z.heap Road.SN "COMPACT_STRINGS" "Z" (.int cp)) (hcp : ¬ cp = 0) :
    Road.Con l Z consts_1 n0 false bIsL [] σ #[(.ref a)] h0 (fun v h2 _ => v = some (.int 1) ∧ h0 = h2) := by
  refine Road.Con.of bIsL_pn hEW #[.val (.ref a)] (fun m => Road.ent (Road.laid1 rfl Road.laid0) (k := 0) rfl rfl) ?_
  intro D hD
  refine Road.getstatic 0 bIsL_d0 (hw _ (List.mem_of_getElem? (i := 19) rfl)) Via.refl Hc ?_
  refine Road.if_eq 3 17 bIsL_d3 rfl (fun q => absurd q hcp) (fun hc3 => ?_)
  refine Road.aloadN 6 bIsL_d6 rfl ?_
  refine Road.getfield 7 bIsL_d7 (hw _ (List.mem_of_getElem? (i := 31) rfl)) Via.refl Fc ?_
  refine Road.if_ne 10 17 bIsL_d10 rfl (fun q => absurd q (by decide)) (fun hc10 => ?_)
  refine Road.iconst 13 (1 : Int32) bIsL_d13 rfl ?_
  refine Road.goto 14 18 bIsL_d14 rfl ?_
  exact Road.iret 18 1 bIsL_d18 (t := .boolean) rfl (by simp) rfl (by decide) (by decide) (fun σ' m => ⟨rfl, rfl⟩)
def bPre : Road.Bdy := (⟨"jdk/internal/util/Preconditions", "checkIndex", "(IILjava/util/function/BiFunction;)I"⟩, jdk_41_method_11_code, 3, (some .int), { frames := 0, cells := 0, slots := 0, locals := 0 })
theorem bPre_d0 : decode bPre.bs 0 = .ok (.iload_n 0, 1) := by decide +kernel
theorem bPre_d1 : decode bPre.bs 1 = .ok (.ifCond .lt 8, 3) := by decide +kernel
theorem bPre_d4 : decode bPre.bs 4 = .ok (.iload_n 0, 1) := by decide +kernel
theorem bPre_d5 : decode bPre.bs 5 = .ok (.iload_n 1, 1) := by decide +kernel
theorem bPre_d6 : decode bPre.bs 6 = .ok (.if_icmp .lt 10, 3) := by decide +kernel
theorem bPre_d9 : decode bPre.bs 9 = .ok (.aload_n 2, 1) := by decide +kernel
theorem bPre_d10 : decode bPre.bs 10 = .ok (.iload_n 0, 1) := by decide +kernel
theorem bPre_d11 : decode bPre.bs 11 = .ok (.iload_n 1, 1) := by decide +kernel
theorem bPre_d12 : decode bPre.bs 12 = .ok (.invokestatic 95, 3) := by decide +kernel
theorem bPre_d15 : decode bPre.bs 15 = .ok (.athrow, 1) := by decide +kernel
theorem bPre_d16 : decode bPre.bs 16 = .ok (.iload_n 0, 1) := by decide +kernel
theorem bPre_d17 : decode bPre.bs 17 = .ok (.ireturn, 1) := by decide +kernel
theorem bPre_pd : parseMethodDescriptor "(IILjava/util/function/BiFunction;)I" = some ⟨[.int, .int, (.object "java/util/function/BiFunction")], (some .int)⟩ := by decide +kernel
theorem bPre_pn : plainName "jdk/internal/util/Preconditions" = true := by first | (simp [plainName, overriddenIn]; done) | decide +kernel
theorem cPre (l : Launch) (Z : State) (a0 : Array Value) (hw : ∀ d ∈ tables_1, d.before a0 Z = true) (n0 : Nat) (hEW : EW Z a0 consts_1) (j n : Int32) (fm : Value) (h0 : Heap) (σ : Addr → Prop) (hfm : fm.isRef = true) (hj : ¬ j < 0) (hjn : j < n) :
    Road.Con l Z consts_1 n0 false bPre [] σ #[(.int j), (.int n), fm] h0 (fun v h2 _ => v = some (.int j) ∧ h0 = h2) := by
  refine Road.Con.of bPre_pn hEW #[.val (.int j), .val (.int n), .val fm] (fun m => Road.ent (Road.laid1 rfl (Road.laid1 rfl (Road.laid1 (XT.cat1 hfm) Road.laid0))) (k := 0) rfl rfl) ?_
  intro D hD
  refine Road.iloadN 0 bPre_d0 rfl ?_
  refine Road.if_lt 1 9 bPre_d1 rfl (fun q => absurd q hj) (fun hc1 => ?_)
  refine Road.iloadN 4 bPre_d4 rfl ?_
  refine Road.iloadN 5 bPre_d5 rfl ?_
  refine Road.icmp_lt 6 16 bPre_d6 rfl (fun hc6 => ?_) (fun q => absurd q (by simpa using hjn))
  refine Road.iloadN 16 bPre_d16 rfl ?_
  exact Road.iretI 17 bPre_d17 rfl (by decide) (by decide) (fun σ' m => ⟨rfl, rfl⟩)
def bChk : Road.Bdy := (⟨"java/lang/String", "checkIndex", "(II)V"⟩, jdk_42_method_155_code, 2, none, { frames := 1, cells := 0, slots := 0, locals := 14 })
theorem bChk_d0 : decode bChk.bs 0 = .ok (.iload_n 0, 1) := by decide +kernel
theorem bChk_d1 : decode bChk.bs 1 = .ok (.iload_n 1, 1) := by decide +kernel
theorem bChk_d2 : decode bChk.bs 2 = .ok (.getstatic 1053, 3) := by decide +kernel
theorem bChk_d5 : decode bChk.bs 5 = .ok (.invokestatic 1059, 3) := by decide +kernel
theorem bChk_d8 : decode bChk.bs 8 = .ok (.pop, 1) := by decide +kernel
theorem bChk_d9 : decode bChk.bs 9 = .ok (.return_, 1) := by decide +kernel
theorem bChk_pd : parseMethodDescriptor "(II)V" = some ⟨[.int, .int], none⟩ := by decide +kernel
theorem bChk_pn : plainName "java/lang/String" = true := by first | (simp [plainName, overriddenIn]; done) | decide +kernel
theorem cChk (l : Launch) (Z : State) (a0 : Array Value) (hw : ∀ d ∈ tables_1, d.before a0 Z = true) (n0 : Nat) (hEW : EW Z a0 consts_1) (j n : Int32) (h0 : Heap) (σ : Addr → Prop) (fm : Value) (hfm : fm.isRef = true) (Hf : Sta Z Z.heap "jdk/internal/util/Preconditions" "SIOOBE_FORMATTER" "Ljava/util/function/BiFunction;" fm) (hj : ¬ j < 0) (hjn : j < n) :
    Road.Con l Z consts_1 n0 false bChk [] σ #[(.int j), (.int n)] h0 (fun v h2 _ => v = none ∧ h0 = h2) := by
  refine Road.Con.of bChk_pn hEW #[.val (.int j), .val (.int n)] (fun m => Road.ent (Road.laid1 rfl (Road.laid1 rfl Road.laid0)) (k := 0) rfl rfl) ?_
  intro D hD
  refine Road.iloadN 0 bChk_d0 rfl ?_
  refine Road.iloadN 1 bChk_d1 rfl ?_
  refine Road.getstatic 2 bChk_d2 (hw _ (List.mem_of_getElem? (i := 84) rfl)) Via.refl Hf ?_
  refine Road.callS (B' := bPre) 5 (argsL := [(.int j), (.int n), fm]) (rest := []) 0 bChk_d5 (hw _ (List.mem_of_getElem? (i := 86) rfl)) (hw _ (List.mem_of_getElem? (i := 87) rfl)) (hw _ (List.mem_of_getElem? (i := 85) rfl)) (hw _ (List.mem_of_getElem? (i := 88) rfl)) (by decide) (cPre l Z a0 hw n0 hEW j n fm h0 σ hfm hj hjn) (lenOf bPre_pd rfl) rfl rfl rfl (by decide) (by decide) (ce' := 0) (sl' := 0) rfl rfl (by decide) (by decide) ?_
  rintro _ h_1 σ_2 m_3 ⟨rfl, rfl⟩
  refine Road.Go.weaken (σ' := σ) m_3 (Nat.le_refl _) (Nat.le_refl _) ?_
  refine Road.pop 8 bChk_d8 ?_
  exact Road.ret 9 bChk_d9 rfl (by decide) (by decide) (fun σ' m => ⟨rfl, rfl⟩)
def bLch : Road.Bdy := (⟨"java/lang/StringLatin1", "charAt", "([BI)C"⟩, jdk_43_method_2_code, 2, (some .char), { frames := 2, cells := 0, slots := 0, locals := 27 })
theorem bLch_d0 : decode bLch.bs 0 = .ok (.iload_n 1, 1) := by decide +kernel
theorem bLch_d1 : decode bLch.bs 1 = .ok (.aload_n 0, 1) := by decide +kernel
theorem bLch_d2 : decode bLch.bs 2 = .ok (.arraylength, 1) := by decide +kernel
theorem bLch_d3 : decode bLch.bs 3 = .ok (.invokestatic 9, 3) := by decide +kernel
theorem bLch_d6 : decode bLch.bs 6 = .ok (.aload_n 0, 1) := by decide +kernel
theorem bLch_d7 : decode bLch.bs 7 = .ok (.iload_n 1, 1) := by decide +kernel
theorem bLch_d8 : decode bLch.bs 8 = .ok (.baload, 1) := by decide +kernel
theorem bLch_d9 : decode bLch.bs 9 = .ok (.sipush 255, 3) := by decide +kernel
theorem bLch_d12 : decode bLch.bs 12 = .ok (.iand, 1) := by decide +kernel
theorem bLch_d13 : decode bLch.bs 13 = .ok (.i2c, 1) := by decide +kernel
theorem bLch_d14 : decode bLch.bs 14 = .ok (.ireturn, 1) := by decide +kernel
theorem bLch_pd : parseMethodDescriptor "([BI)C" = some ⟨[(.array .byte), .int], (some .char)⟩ := by decide +kernel
theorem bLch_pn : plainName "java/lang/StringLatin1" = true := by first | (simp [plainName, overriddenIn]; done) | decide +kernel
theorem cLch (l : Launch) (Z : State) (a0 : Array Value) (hw : ∀ d ∈ tables_1, d.before a0 Z = true) (n0 : Nat) (hEW : EW Z a0 consts_1) (b : Addr) (cs : List Int32) (j : Int32) (i : Nat) (h0 : Heap) (σ : Addr → Prop) (A : Road.Ary Z h0 b .byte (cs.map Road.byt)) (hlat : ∀ c ∈ cs, 0 ≤ c.toInt ∧ c.toInt < 256) (hj : j.toInt = (i : Int)) (hi : i < cs.length) (fm : Value) (hfm : fm.isRef = true) (Hf : Sta Z Z.heap "jdk/internal/util/Preconditions" "SIOOBE_FORMATTER" "Ljava/util/function/BiFunction;" fm) :
    Road.Con l Z consts_1 n0 false bLch [] σ #[(.ref b), (.int j)] h0 (fun v h2 _ => v = some (.int cs[i]) ∧ h0 = h2) := by
  refine Road.Con.of bLch_pn hEW #[.val (.ref b), .val (.int j)] (fun m => Road.ent (Road.laid1 rfl (Road.laid1 rfl Road.laid0)) (k := 0) rfl rfl) ?_
  intro D hD
  have hn : cs.length < 2147483648 := by have := A.small; rwa [List.length_map] at this
  have hjn : j < Nat.toInt32 cs.length := by rw [Int32.lt_iff_toInt_lt, Road.n32 hn, hj]; omega
  refine Road.iloadN 0 bLch_d0 rfl ?_
  refine Road.aloadN 1 bLch_d1 rfl ?_
  refine Road.alen 2 (Nat.toInt32 cs.length) bLch_d2 A (n := cs.length) (List.length_map _) rfl ?_
  refine Road.callS (B' := bChk) 3 (argsL := [(.int j), (.int (Nat.toInt32 cs.length))]) (rest := []) 0 bLch_d3 (hw _ (List.mem_of_getElem? (i := 81) rfl)) (hw _ (List.mem_of_getElem? (i := 82) rfl)) (hw _ (List.mem_of_getElem? (i := 7) rfl)) (hw _ (List.mem_of_getElem? (i := 83) rfl)) (by decide) (cChk l Z a0 hw n0 hEW j (Nat.toInt32 cs.length) h0 σ fm hfm Hf (Road.ix_of hj).1 hjn) (lenOf bChk_pd rfl) rfl rfl rfl (by decide) (by decide) (ce' := 0) (sl' := 0) rfl rfl (by decide) (by decide) ?_
  rintro _ h_1 σ_2 m_3 ⟨rfl, rfl⟩
  refine Road.Go.weaken (σ' := σ) m_3 (Nat.le_refl _) (Nat.le_refl _) ?_
  refine Road.aloadN 6 bLch_d6 rfl ?_
  refine Road.iloadN 7 bLch_d7 rfl ?_
  refine Road.baload 8 i bLch_d8 A hj (by rw [List.getElem?_map, List.getElem?_eq_getElem hi]; rfl) ?_
  refine Road.sipush 9 (255 : Int32) bLch_d9 rfl ?_
  refine Road.iand 12 bLch_d12 ?_
  refine Road.i2c 13 bLch_d13 ?_
  exact Road.iret 14 cs[i] bLch_d14 (t := .char) rfl (by simp) (Road.byte_back (hlat _ (List.getElem_mem hi))) (by decide) (by decide) (fun σ' m => ⟨rfl, rfl⟩)
def bChA : Road.Bdy := (⟨"java/lang/String", "charAt", "(I)C"⟩, jdk_42_method_56_code, 2, (some .char), { frames := 3, cells := 0, slots := 0, locals := 40 })
theorem bChA_d0 : decode bChA.bs 0 = .ok (.aload_n 0, 1) := by decide +kernel
theorem bChA_d1 : decode bChA.bs 1 = .ok (.invokevirtual 492, 3) := by decide +kernel
theorem bChA_d4 : decode bChA.bs 4 = .ok (.ifCond .eq 12, 3) := by decide +kernel
theorem bChA_d7 : decode bChA.bs 7 = .ok (.aload_n 0, 1) := by decide +kernel
theorem bChA_d8 : decode bChA.bs 8 = .ok (.getfield 9, 3) := by decide +kernel
theorem bChA_d11 : decode bChA.bs 11 = .ok (.iload_n 1, 1) := by decide +kernel
theorem bChA_d12 : decode bChA.bs 12 = .ok (.invokestatic 495, 3) := by decide +kernel
theorem bChA_d15 : decode bChA.bs 15 = .ok (.ireturn, 1) := by decide +kernel
theorem bChA_d16 : decode bChA.bs 16 = .ok (.aload_n 0, 1) := by decide +kernel
theorem bChA_d17 : decode bChA.bs 17 = .ok (.getfield 9, 3) := by decide +kernel
theorem bChA_d20 : decode bChA.bs 20 = .ok (.iload_n 1, 1) := by decide +kernel
theorem bChA_d21 : decode bChA.bs 21 = .ok (.invokestatic 498, 3) := by decide +kernel
theorem bChA_d24 : decode bChA.bs 24 = .ok (.ireturn, 1) := by decide +kernel
theorem bChA_pd : parseMethodDescriptor "(I)C" = some ⟨[.int], (some .char)⟩ := by decide +kernel
theorem bChA_pn : plainName "java/lang/String" = true := by first | (simp [plainName, overriddenIn]; done) | decide +kernel
theorem cChA (l : Launch) (Z : State) (a0 : Array Value) (hw : ∀ d ∈ tables_1, d.before a0 Z = true) (n0 : Nat) (hEW : EW Z a0 consts_1) (a b : Addr) (cs : List Int32) (j : Int32) (i : Nat) (h0 : Heap) (σ : Addr → Prop) (S : Road.Str Z h0 a b cs) (hj : j.toInt = (i : Int)) (hi : i < cs.length) (cp : Int32) (Hc : Sta Z Z.heap Road.SN "COMPACT_STRINGS" "Z" (.int cp)) (hcp : ¬ cp = 0) (fm : Value) (hfm : fm.isRef = true) (Hf : Sta Z Z.heap "jdk/internal/util/Preconditions" "SIOOBE_FORMATTER" "Ljava/util/function/BiFunction;" fm) :
    Road.Con l Z consts_1 n0 false bChA [] σ #[(.ref a), (.int j)] h0 (fun v h2 _ => v = some (.int cs[i]) ∧ h0 = h2) := by
  refine Road.Con.of bChA_pn hEW #[.val (.ref a), .val (.int j)] (fun m => Road.ent (Road.laid1 rfl (Road.laid1 rfl Road.laid0)) (k := 0) rfl rfl) ?_
  intro D hD
  refine Road.aloadN 0 bChA_d0 rfl ?_
  refine Road.callV (B' := bIsL) (a := a) 1 (argsL := []) (rest := []) "java/lang/String" 0 bChA_d1 (hw _ (List.mem_of_getElem? (i := 73) rfl)) (hw _ (List.mem_of_getElem? (i := 74) rfl)) (fun vm hz => notFace_of_selects (args := #[]) (mv (s := D.s.setVm vm) hz (hw _ (List.mem_of_getElem? (i := 76) rfl)))) (hw _ (List.mem_of_getElem? (i := 76) rfl)) (hw _ (List.mem_of_getElem? (i := 75) rfl)) (hw _ (List.mem_of_getElem? (i := 7) rfl)) (hw _ (List.mem_of_getElem? (i := 77) rfl)) (by decide) S.1 (cIsL l Z a0 hw n0 hEW a h0 σ S.2.1 cp Hc hcp) (lenOf bIsL_pd rfl) rfl rfl rfl (by decide) (by decide) (ce' := 0) (sl' := 0) rfl rfl (by decide) (by decide) ?_
  rintro _ h_1 σ_2 m_3 ⟨rfl, rfl⟩
  refine Road.Go.weaken (σ' := σ) m_3 (Nat.le_refl _) (Nat.le_refl _) ?_
  refine Road.if_eq 4 16 bChA_d4 rfl (fun q => absurd q (by decide)) (fun hc4 => ?_)
  refine Road.aloadN 7 bChA_d7 rfl ?_
  refine Road.getfield 8 bChA_d8 (hw _ (List.mem_of_getElem? (i := 33) rfl)) Via.refl S.2.2.1 ?_
  refine Road.iloadN 11 bChA_d11 rfl ?_
  refine Road.callS (B' := bLch) 12 (argsL := [(.ref b), (.int j)]) (rest := []) 0 bChA_d12 (hw _ (List.mem_of_getElem? (i := 78) rfl)) (hw _ (List.mem_of_getElem? (i := 79) rfl)) (hw _ (List.mem_of_getElem? (i := 40) rfl)) (hw _ (List.mem_of_getElem? (i := 80) rfl)) (by decide) (cLch l Z a0 hw n0 hEW b cs j i h0 σ S.2.2.2.1 S.2.2.2.2 hj hi fm hfm Hf) (lenOf bLch_pd rfl) rfl rfl rfl (by decide) (by decide) (ce' := 0) (sl' := 0) rfl rfl (by decide) (by decide) ?_
  rintro _ h_5 σ_6 m_7 ⟨rfl, rfl⟩
  refine Road.Go.weaken (σ' := σ) m_7 (Nat.le_refl _) (Nat.le_refl _) ?_
  exact Road.iret 15 cs[i] bChA_d15 (t := .char) rfl (by simp) (Road.nar_lat (S.2.2.2.2 _ (List.getElem_mem hi))) (by decide) (by decide) (fun σ' m => ⟨rfl, rfl⟩)
def bEmp : Road.Bdy := (⟨"java/lang/String", "isEmpty", "()Z"⟩, jdk_42_method_55_code, 1, (some .boolean), { frames := 0, cells := 0, slots := 0, locals := 0 })
theorem bEmp_d0 : decode bEmp.bs 0 = .ok (.aload_n 0, 1) := by decide +kernel
theorem bEmp_d1 : decode bEmp.bs 1 = .ok (.getfield 9, 3) := by decide +kernel
theorem bEmp_d4 : decode bEmp.bs 4 = .ok (.arraylength, 1) := by decide +kernel
theorem bEmp_d5 : decode bEmp.bs 5 = .ok (.ifCond .ne 7, 3) := by decide +kernel
theorem bEmp_d8 : decode bEmp.bs 8 = .ok (.iconst 1, 1) := by decide +kernel
theorem bEmp_d9 : decode bEmp.bs 9 = .ok (.goto 4, 3) := by decide +kernel
theorem bEmp_d12 : decode bEmp.bs 12 = .ok (.iconst 0, 1) := by decide +kernel
theorem bEmp_d13 : decode bEmp.bs 13 = .ok (.ireturn, 1) := by decide +kernel
theorem bEmp_pd : parseMethodDescriptor "()Z" = some ⟨[], (some .boolean)⟩ := by decide +kernel
theorem bEmp_pn : plainName "java/lang/String" = true := by first | (simp [plainName, overriddenIn]; done) | decide +kernel
theorem cEmp (l : Launch) (Z : State) (a0 : Array Value) (hw : ∀ d ∈ tables_1, d.before a0 Z = true) (n0 : Nat) (hEW : EW Z a0 consts_1) (a b : Addr) (cs : List Int32) (h0 : Heap) (σ : Addr → Prop) (S : Road.Str Z h0 a b cs) :
    Road.Con l Z consts_1 n0 false bEmp [] σ #[(.ref a)] h0 (fun v h2 _ => v = some (.int (if cs = [] then 1 else 0)) ∧ h0 = h2) := by
  refine Road.Con.of bEmp_pn hEW #[.val (.ref a)] (fun m => Road.ent (Road.laid1 rfl Road.laid0) (k := 0) rfl rfl) ?_
  intro D hD
  have hn : cs.length < 2147483648 := by have := S.2.2.2.1.small; rwa [List.length_map] at this
  refine Road.aloadN 0 bEmp_d0 rfl ?_
  refine Road.getfield 1 bEmp_d1 (hw _ (List.mem_of_getElem? (i := 33) rfl)) Via.refl S.2.2.1 ?_
  refine Road.alen 4 (Nat.toInt32 cs.length) bEmp_d4 S.2.2.2.1 (n := cs.length) (List.length_map _) rfl ?_
  refine Road.if_ne 5 12 bEmp_d5 rfl (fun hc5 => ?_) (fun hc5 => ?_)
  · skip
    refine Road.iconst 12 (0 : Int32) bEmp_d12 rfl ?_
    exact Road.iret 13 0 bEmp_d13 (t := .boolean) rfl (by simp) rfl (by decide) (by decide) (fun σ' m => ⟨by rw [if_neg]; rintro rfl; exact hc5 rfl, rfl⟩)
  · skip
    refine Road.iconst 8 (1 : Int32) bEmp_d8 rfl ?_
    refine Road.goto 9 13 bEmp_d9 rfl ?_
    exact Road.iret 13 1 bEmp_d13 (t := .boolean) rfl (by simp) rfl (by decide) (by decide) (fun σ' m => ⟨by rw [if_pos (List.eq_nil_of_length_eq_zero ((Road.eq32 (j := 0) hn (by omega)).mp hc5))], rfl⟩)
def okc (c : Int32) : Prop := (¬ c < 97 ∧ ¬ 122 < c) ∨ (¬ c < 65 ∧ ¬ 90 < c) ∨ (¬ c < 48 ∧ ¬ 57 < c) ∨ c = 46 ∨ c = 95 ∨ c = 45
instance (c : Int32) : Decidable (okc c) := by unfold okc; exact inferInstance
def bAlw : Road.Bdy := (⟨"com/example/orderly_tasks/orderlytasks/NamesCheckPinLaw", "allowed", "(I)C"⟩, method_2_code, 2, (some .char), { frames := 0, cells := 0, slots := 0, locals := 0 })
theorem bAlw_d0 : decode bAlw.bs 0 = .ok (.iload_n 0, 1) := by decide +kernel
theorem bAlw_d1 : decode bAlw.bs 1 = .ok (.ldc 7, 2) := by decide +kernel
theorem bAlw_d3 : decode bAlw.bs 3 = .ok (.iand, 1) := by decide +kernel
theorem bAlw_d4 : decode bAlw.bs 4 = .ok (.bipush 65, 2) := by decide +kernel
theorem bAlw_d6 : decode bAlw.bs 6 = .ok (.irem, 1) := by decide +kernel
theorem bAlw_d7 : decode bAlw.bs 7 = .ok (.istore_n 1, 1) := by decide +kernel
theorem bAlw_d8 : decode bAlw.bs 8 = .ok (.iload_n 1, 1) := by decide +kernel
theorem bAlw_d9 : decode bAlw.bs 9 = .ok (.bipush 26, 2) := by decide +kernel
theorem bAlw_d11 : decode bAlw.bs 11 = .ok (.if_icmp .ge 9, 3) := by decide +kernel
theorem bAlw_d14 : decode bAlw.bs 14 = .ok (.bipush 97, 2) := by decide +kernel
theorem bAlw_d16 : decode bAlw.bs 16 = .ok (.iload_n 1, 1) := by decide +kernel
theorem bAlw_d17 : decode bAlw.bs 17 = .ok (.iadd, 1) := by decide +kernel
theorem bAlw_d18 : decode bAlw.bs 18 = .ok (.i2c, 1) := by decide +kernel
theorem bAlw_d19 : decode bAlw.bs 19 = .ok (.ireturn, 1) := by decide +kernel
theorem bAlw_d20 : decode bAlw.bs 20 = .ok (.iload_n 1, 1) := by decide +kernel
theorem bAlw_d21 : decode bAlw.bs 21 = .ok (.bipush 52, 2) := by decide +kernel
theorem bAlw_d23 : decode bAlw.bs 23 = .ok (.if_icmp .ge 12, 3) := by decide +kernel
theorem bAlw_d26 : decode bAlw.bs 26 = .ok (.bipush 65, 2) := by decide +kernel
theorem bAlw_d28 : decode bAlw.bs 28 = .ok (.iload_n 1, 1) := by decide +kernel
theorem bAlw_d29 : decode bAlw.bs 29 = .ok (.bipush 26, 2) := by decide +kernel
theorem bAlw_d31 : decode bAlw.bs 31 = .ok (.isub, 1) := by decide +kernel
theorem bAlw_d32 : decode bAlw.bs 32 = .ok (.iadd, 1) := by decide +kernel
theorem bAlw_d33 : decode bAlw.bs 33 = .ok (.i2c, 1) := by decide +kernel
theorem bAlw_d34 : decode bAlw.bs 34 = .ok (.ireturn, 1) := by decide +kernel
theorem bAlw_d35 : decode bAlw.bs 35 = .ok (.iload_n 1, 1) := by decide +kernel
theorem bAlw_d36 : decode bAlw.bs 36 = .ok (.bipush 62, 2) := by decide +kernel
theorem bAlw_d38 : decode bAlw.bs 38 = .ok (.if_icmp .ge 12, 3) := by decide +kernel
theorem bAlw_d41 : decode bAlw.bs 41 = .ok (.bipush 48, 2) := by decide +kernel
theorem bAlw_d43 : decode bAlw.bs 43 = .ok (.iload_n 1, 1) := by decide +kernel
theorem bAlw_d44 : decode bAlw.bs 44 = .ok (.bipush 52, 2) := by decide +kernel
theorem bAlw_d46 : decode bAlw.bs 46 = .ok (.isub, 1) := by decide +kernel
theorem bAlw_d47 : decode bAlw.bs 47 = .ok (.iadd, 1) := by decide +kernel
theorem bAlw_d48 : decode bAlw.bs 48 = .ok (.i2c, 1) := by decide +kernel
theorem bAlw_d49 : decode bAlw.bs 49 = .ok (.ireturn, 1) := by decide +kernel
theorem bAlw_d50 : decode bAlw.bs 50 = .ok (.iload_n 1, 1) := by decide +kernel
theorem bAlw_d51 : decode bAlw.bs 51 = .ok (.bipush 62, 2) := by decide +kernel
theorem bAlw_d53 : decode bAlw.bs 53 = .ok (.if_icmp .ne 6, 3) := by decide +kernel
theorem bAlw_d56 : decode bAlw.bs 56 = .ok (.bipush 46, 2) := by decide +kernel
theorem bAlw_d58 : decode bAlw.bs 58 = .ok (.ireturn, 1) := by decide +kernel
theorem bAlw_d59 : decode bAlw.bs 59 = .ok (.iload_n 1, 1) := by decide +kernel
theorem bAlw_d60 : decode bAlw.bs 60 = .ok (.bipush 63, 2) := by decide +kernel
theorem bAlw_d62 : decode bAlw.bs 62 = .ok (.if_icmp .ne 6, 3) := by decide +kernel
theorem bAlw_d65 : decode bAlw.bs 65 = .ok (.bipush 95, 2) := by decide +kernel
theorem bAlw_d67 : decode bAlw.bs 67 = .ok (.ireturn, 1) := by decide +kernel
theorem bAlw_d68 : decode bAlw.bs 68 = .ok (.bipush 45, 2) := by decide +kernel
theorem bAlw_d70 : decode bAlw.bs 70 = .ok (.ireturn, 1) := by decide +kernel
theorem bAlw_pd : parseMethodDescriptor "(I)C" = some ⟨[.int], (some .char)⟩ := by decide +kernel
theorem bAlw_pn : plainName "com/example/orderly_tasks/orderlytasks/NamesCheckPinLaw" = true := by first | (simp [plainName, overriddenIn]; done) | decide +kernel
theorem cAlw (l : Launch) (Z : State) (a0 : Array Value) (hw : ∀ d ∈ tables_1, d.before a0 Z = true) (n0 : Nat) (hEW : EW Z a0 consts_1) (p : Int32) (h0 : Heap) (σ : Addr → Prop)  :
    Road.Con l Z consts_1 n0 false bAlw [] σ #[(.int p)] h0 (fun v h2 _ => ∃ c : Int32, v = some (.int c) ∧ okc c ∧ (0 ≤ c.toInt ∧ c.toInt < 256) ∧ h0 = h2) := by
  refine Road.Con.of bAlw_pn hEW #[.val (.int p), .unset] (fun m => Road.ent (Road.laid1 rfl Road.laid0) (k := 1) rfl rfl) ?_
  intro D hD
  refine Road.iloadN 0 bAlw_d0 rfl ?_
  refine Road.ldcI 1 (v := (2147483647 : Int32)) bAlw_d1 (hw _ (List.mem_of_getElem? (i := 0) rfl)) ?_
  refine Road.iand 3 bAlw_d3 ?_
  refine Road.bipush 4 (65 : Int32) bAlw_d4 rfl ?_
  refine Road.irem 6 bAlw_d6 (by decide) ?_
  refine Road.nameI ?_
  intro k hk
  obtain ⟨i, hi⟩ : ∃ i : Fin 65, k = Int32.ofInt (i.1 : Int) := by rw [hk]; exact Road.small_of (Road.rem_pos (n := 65) (by rw [Road.u32_mask31]; omega) rfl (by omega)) (by omega)
  refine Road.istoreN 7 #[.val (.int p), .val (.int k)] bAlw_d7 rfl ?_
  refine Road.iloadN 8 bAlw_d8 rfl ?_
  refine Road.bipush 9 (26 : Int32) bAlw_d9 rfl ?_
  refine Road.icmp_ge 11 20 bAlw_d11 rfl (fun hc11 => ?_) (fun hc11 => ?_)
  · skip
    refine Road.iloadN 20 bAlw_d20 rfl ?_
    refine Road.bipush 21 (52 : Int32) bAlw_d21 rfl ?_
    refine Road.icmp_ge 23 35 bAlw_d23 rfl (fun hc23 => ?_) (fun hc23 => ?_)
    · skip
      refine Road.iloadN 35 bAlw_d35 rfl ?_
      refine Road.bipush 36 (62 : Int32) bAlw_d36 rfl ?_
      refine Road.icmp_ge 38 50 bAlw_d38 rfl (fun hc38 => ?_) (fun hc38 => ?_)
      · skip
        refine Road.iloadN 50 bAlw_d50 rfl ?_
        refine Road.bipush 51 (62 : Int32) bAlw_d51 rfl ?_
        refine Road.icmp_ne 53 59 bAlw_d53 rfl (fun hc53 => ?_) (fun hc53 => ?_)
        · skip
          refine Road.iloadN 59 bAlw_d59 rfl ?_
          refine Road.bipush 60 (63 : Int32) bAlw_d60 rfl ?_
          refine Road.icmp_ne 62 68 bAlw_d62 rfl (fun hc62 => ?_) (fun hc62 => ?_)
          · skip
            refine Road.bipush 68 (45 : Int32) bAlw_d68 rfl ?_
            have hq : okc (nar .char (45 : Int32)) ∧ (0 ≤ (nar .char (45 : Int32)).toInt ∧ (nar .char (45 : Int32)).toInt < 256) := by decide +kernel
            exact Road.iret 70 (nar .char (45 : Int32)) bAlw_d70 (t := .char) rfl (by simp) rfl (by decide) (by decide) (fun σ' m => ⟨_, rfl, hq.1, hq.2, rfl⟩)
          · skip
            refine Road.bipush 65 (95 : Int32) bAlw_d65 rfl ?_
            have hq : okc (nar .char (95 : Int32)) ∧ (0 ≤ (nar .char (95 : Int32)).toInt ∧ (nar .char (95 : Int32)).toInt < 256) := by decide +kernel
            exact Road.iret 67 (nar .char (95 : Int32)) bAlw_d67 (t := .char) rfl (by simp) rfl (by decide) (by decide) (fun σ' m => ⟨_, rfl, hq.1, hq.2, rfl⟩)
        · skip
          refine Road.bipush 56 (46 : Int32) bAlw_d56 rfl ?_
          have hq : okc (nar .char (46 : Int32)) ∧ (0 ≤ (nar .char (46 : Int32)).toInt ∧ (nar .char (46 : Int32)).toInt < 256) := by decide +kernel
          exact Road.iret 58 (nar .char (46 : Int32)) bAlw_d58 (t := .char) rfl (by simp) rfl (by decide) (by decide) (fun σ' m => ⟨_, rfl, hq.1, hq.2, rfl⟩)
      · skip
        refine Road.bipush 41 (48 : Int32) bAlw_d41 rfl ?_
        refine Road.iloadN 43 bAlw_d43 rfl ?_
        refine Road.bipush 44 (52 : Int32) bAlw_d44 rfl ?_
        refine Road.isub 46 bAlw_d46 ?_
        refine Road.iadd 47 bAlw_d47 ?_
        refine Road.i2c 48 bAlw_d48 ?_
        have hq : okc (nar .char (Road.chr ((48 : Int32) + (k - (52 : Int32))))) ∧ (0 ≤ (nar .char (Road.chr ((48 : Int32) + (k - (52 : Int32))))).toInt ∧ (nar .char (Road.chr ((48 : Int32) + (k - (52 : Int32))))).toInt < 256) := by subst hi; exact (by decide +kernel : ∀ i : Fin 65, ¬ ((Int32.ofInt (i.1 : Int)) < (52 : Int32)) → (Int32.ofInt (i.1 : Int)) < (62 : Int32) → okc (nar .char (Road.chr ((48 : Int32) + ((Int32.ofInt (i.1 : Int)) - (52 : Int32))))) ∧ (0 ≤ (nar .char (Road.chr ((48 : Int32) + ((Int32.ofInt (i.1 : Int)) - (52 : Int32))))).toInt ∧ (nar .char (Road.chr ((48 : Int32) + ((Int32.ofInt (i.1 : Int)) - (52 : Int32))))).toInt < 256)) i hc23 hc38
        exact Road.iret 49 (nar .char (Road.chr ((48 : Int32) + (k - (52 : Int32))))) bAlw_d49 (t := .char) rfl (by simp) rfl (by decide) (by decide) (fun σ' m => ⟨_, rfl, hq.1, hq.2, rfl⟩)
    · skip
      refine Road.bipush 26 (65 : Int32) bAlw_d26 rfl ?_
      refine Road.iloadN 28 bAlw_d28 rfl ?_
      refine Road.bipush 29 (26 : Int32) bAlw_d29 rfl ?_
      refine Road.isub 31 bAlw_d31 ?_
      refine Road.iadd 32 bAlw_d32 ?_
      refine Road.i2c 33 bAlw_d33 ?_
      have hq : okc (nar .char (Road.chr ((65 : Int32) + (k - (26 : Int32))))) ∧ (0 ≤ (nar .char (Road.chr ((65 : Int32) + (k - (26 : Int32))))).toInt ∧ (nar .char (Road.chr ((65 : Int32) + (k - (26 : Int32))))).toInt < 256) := by subst hi; exact (by decide +kernel : ∀ i : Fin 65, ¬ ((Int32.ofInt (i.1 : Int)) < (26 : Int32)) → (Int32.ofInt (i.1 : Int)) < (52 : Int32) → okc (nar .char (Road.chr ((65 : Int32) + ((Int32.ofInt (i.1 : Int)) - (26 : Int32))))) ∧ (0 ≤ (nar .char (Road.chr ((65 : Int32) + ((Int32.ofInt (i.1 : Int)) - (26 : Int32))))).toInt ∧ (nar .char (Road.chr ((65 : Int32) + ((Int32.ofInt (i.1 : Int)) - (26 : Int32))))).toInt < 256)) i hc11 hc23
      exact Road.iret 34 (nar .char (Road.chr ((65 : Int32) + (k - (26 : Int32))))) bAlw_d34 (t := .char) rfl (by simp) rfl (by decide) (by decide) (fun σ' m => ⟨_, rfl, hq.1, hq.2, rfl⟩)
  · skip
    refine Road.bipush 14 (97 : Int32) bAlw_d14 rfl ?_
    refine Road.iloadN 16 bAlw_d16 rfl ?_
    refine Road.iadd 17 bAlw_d17 ?_
    refine Road.i2c 18 bAlw_d18 ?_
    have hq : okc (nar .char (Road.chr ((97 : Int32) + k))) ∧ (0 ≤ (nar .char (Road.chr ((97 : Int32) + k))).toInt ∧ (nar .char (Road.chr ((97 : Int32) + k))).toInt < 256) := by subst hi; exact (by decide +kernel : ∀ i : Fin 65, (Int32.ofInt (i.1 : Int)) < (26 : Int32) → okc (nar .char (Road.chr ((97 : Int32) + (Int32.ofInt (i.1 : Int))))) ∧ (0 ≤ (nar .char (Road.chr ((97 : Int32) + (Int32.ofInt (i.1 : Int))))).toInt ∧ (nar .char (Road.chr ((97 : Int32) + (Int32.ofInt (i.1 : Int))))).toInt < 256)) i hc11
    exact Road.iret 19 (nar .char (Road.chr ((97 : Int32) + k))) bAlw_d19 (t := .char) rfl (by simp) rfl (by decide) (by decide) (fun σ' m => ⟨_, rfl, hq.1, hq.2, rfl⟩)
def bNc : Road.Bdy := (⟨"com/example/orderly_tasks/orderlytasks/Names", "check", "(Ljava/lang/String;Ljava/lang/String;)Ljava/lang/String;"⟩, prog_8_method_2_code, 5, (some (.object "java/lang/String")), { frames := 4, cells := 4, slots := 20, locals := 53 })
theorem bNc_d0 : decode bNc.bs 0 = .ok (.aload_n 1, 1) := by decide +kernel
theorem bNc_d1 : decode bNc.bs 1 = .ok (.invokevirtual 7, 3) := by decide +kernel
theorem bNc_d4 : decode bNc.bs 4 = .ok (.ifCond .ne 13, 3) := by decide +kernel
theorem bNc_d7 : decode bNc.bs 7 = .ok (.aload_n 1, 1) := by decide +kernel
theorem bNc_d8 : decode bNc.bs 8 = .ok (.invokevirtual 13, 3) := by decide +kernel
theorem bNc_d11 : decode bNc.bs 11 = .ok (.sipush 128, 3) := by decide +kernel
theorem bNc_d14 : decode bNc.bs 14 = .ok (.if_icmp .le 18, 3) := by decide +kernel
theorem bNc_d17 : decode bNc.bs 17 = .ok (.new 19, 3) := by decide +kernel
theorem bNc_d20 : decode bNc.bs 20 = .ok (.dup, 1) := by decide +kernel
theorem bNc_d21 : decode bNc.bs 21 = .ok (.aload_n 0, 1) := by decide +kernel
theorem bNc_d22 : decode bNc.bs 22 = .ok (.aload_n 1, 1) := by decide +kernel
theorem bNc_d23 : decode bNc.bs 23 = .ok (.invokedynamic 21, 5) := by decide +kernel
theorem bNc_d28 : decode bNc.bs 28 = .ok (.invokespecial 25, 3) := by decide +kernel
theorem bNc_d31 : decode bNc.bs 31 = .ok (.athrow, 1) := by decide +kernel
theorem bNc_d32 : decode bNc.bs 32 = .ok (.iconst 0, 1) := by decide +kernel
theorem bNc_d33 : decode bNc.bs 33 = .ok (.istore_n 2, 1) := by decide +kernel
theorem bNc_d34 : decode bNc.bs 34 = .ok (.iload_n 2, 1) := by decide +kernel
theorem bNc_d35 : decode bNc.bs 35 = .ok (.aload_n 1, 1) := by decide +kernel
theorem bNc_d36 : decode bNc.bs 36 = .ok (.invokevirtual 13, 3) := by decide +kernel
theorem bNc_d39 : decode bNc.bs 39 = .ok (.if_icmp .ge 96, 3) := by decide +kernel
theorem bNc_d42 : decode bNc.bs 42 = .ok (.aload_n 1, 1) := by decide +kernel
theorem bNc_d43 : decode bNc.bs 43 = .ok (.iload_n 2, 1) := by decide +kernel
theorem bNc_d44 : decode bNc.bs 44 = .ok (.invokevirtual 28, 3) := by decide +kernel
theorem bNc_d47 : decode bNc.bs 47 = .ok (.istore_n 3, 1) := by decide +kernel
theorem bNc_d48 : decode bNc.bs 48 = .ok (.iload_n 3, 1) := by decide +kernel
theorem bNc_d49 : decode bNc.bs 49 = .ok (.bipush 97, 2) := by decide +kernel
theorem bNc_d51 : decode bNc.bs 51 = .ok (.if_icmp .lt 9, 3) := by decide +kernel
theorem bNc_d54 : decode bNc.bs 54 = .ok (.iload_n 3, 1) := by decide +kernel
theorem bNc_d55 : decode bNc.bs 55 = .ok (.bipush 122, 2) := by decide +kernel
theorem bNc_d57 : decode bNc.bs 57 = .ok (.if_icmp .le 45, 3) := by decide +kernel
theorem bNc_d60 : decode bNc.bs 60 = .ok (.iload_n 3, 1) := by decide +kernel
theorem bNc_d61 : decode bNc.bs 61 = .ok (.bipush 65, 2) := by decide +kernel
theorem bNc_d63 : decode bNc.bs 63 = .ok (.if_icmp .lt 9, 3) := by decide +kernel
theorem bNc_d66 : decode bNc.bs 66 = .ok (.iload_n 3, 1) := by decide +kernel
theorem bNc_d67 : decode bNc.bs 67 = .ok (.bipush 90, 2) := by decide +kernel
theorem bNc_d69 : decode bNc.bs 69 = .ok (.if_icmp .le 33, 3) := by decide +kernel
theorem bNc_d72 : decode bNc.bs 72 = .ok (.iload_n 3, 1) := by decide +kernel
theorem bNc_d73 : decode bNc.bs 73 = .ok (.bipush 48, 2) := by decide +kernel
theorem bNc_d75 : decode bNc.bs 75 = .ok (.if_icmp .lt 9, 3) := by decide +kernel
theorem bNc_d78 : decode bNc.bs 78 = .ok (.iload_n 3, 1) := by decide +kernel
theorem bNc_d79 : decode bNc.bs 79 = .ok (.bipush 57, 2) := by decide +kernel
theorem bNc_d81 : decode bNc.bs 81 = .ok (.if_icmp .le 21, 3) := by decide +kernel
theorem bNc_d84 : decode bNc.bs 84 = .ok (.iload_n 3, 1) := by decide +kernel
theorem bNc_d85 : decode bNc.bs 85 = .ok (.bipush 46, 2) := by decide +kernel
theorem bNc_d87 : decode bNc.bs 87 = .ok (.if_icmp .eq 15, 3) := by decide +kernel
theorem bNc_d90 : decode bNc.bs 90 = .ok (.iload_n 3, 1) := by decide +kernel
theorem bNc_d91 : decode bNc.bs 91 = .ok (.bipush 95, 2) := by decide +kernel
theorem bNc_d93 : decode bNc.bs 93 = .ok (.if_icmp .eq 9, 3) := by decide +kernel
theorem bNc_d96 : decode bNc.bs 96 = .ok (.iload_n 3, 1) := by decide +kernel
theorem bNc_d97 : decode bNc.bs 97 = .ok (.bipush 45, 2) := by decide +kernel
theorem bNc_d99 : decode bNc.bs 99 = .ok (.if_icmp .ne 7, 3) := by decide +kernel
theorem bNc_d102 : decode bNc.bs 102 = .ok (.iconst 1, 1) := by decide +kernel
theorem bNc_d103 : decode bNc.bs 103 = .ok (.goto 4, 3) := by decide +kernel
theorem bNc_d106 : decode bNc.bs 106 = .ok (.iconst 0, 1) := by decide +kernel
theorem bNc_d107 : decode bNc.bs 107 = .ok (.istore 4, 2) := by decide +kernel
theorem bNc_d109 : decode bNc.bs 109 = .ok (.iload 4, 2) := by decide +kernel
theorem bNc_d111 : decode bNc.bs 111 = .ok (.ifCond .ne 18, 3) := by decide +kernel
theorem bNc_d114 : decode bNc.bs 114 = .ok (.new 19, 3) := by decide +kernel
theorem bNc_d117 : decode bNc.bs 117 = .ok (.dup, 1) := by decide +kernel
theorem bNc_d118 : decode bNc.bs 118 = .ok (.aload_n 0, 1) := by decide +kernel
theorem bNc_d119 : decode bNc.bs 119 = .ok (.aload_n 1, 1) := by decide +kernel
theorem bNc_d120 : decode bNc.bs 120 = .ok (.invokedynamic 32, 5) := by decide +kernel
theorem bNc_d125 : decode bNc.bs 125 = .ok (.invokespecial 25, 3) := by decide +kernel
theorem bNc_d128 : decode bNc.bs 128 = .ok (.athrow, 1) := by decide +kernel
theorem bNc_d129 : decode bNc.bs 129 = .ok (.iinc 2 1, 3) := by decide +kernel
theorem bNc_d132 : decode bNc.bs 132 = .ok (.goto (-98), 3) := by decide +kernel
theorem bNc_d135 : decode bNc.bs 135 = .ok (.aload_n 1, 1) := by decide +kernel
theorem bNc_d136 : decode bNc.bs 136 = .ok (.ldc 33, 2) := by decide +kernel
theorem bNc_d138 : decode bNc.bs 138 = .ok (.invokevirtual 35, 3) := by decide +kernel
theorem bNc_d141 : decode bNc.bs 141 = .ok (.ifCond .ne 12, 3) := by decide +kernel
theorem bNc_d144 : decode bNc.bs 144 = .ok (.aload_n 1, 1) := by decide +kernel
theorem bNc_d145 : decode bNc.bs 145 = .ok (.ldc 39, 2) := by decide +kernel
theorem bNc_d147 : decode bNc.bs 147 = .ok (.invokevirtual 35, 3) := by decide +kernel
theorem bNc_d150 : decode bNc.bs 150 = .ok (.ifCond .eq 18, 3) := by decide +kernel
theorem bNc_d153 : decode bNc.bs 153 = .ok (.new 19, 3) := by decide +kernel
theorem bNc_d156 : decode bNc.bs 156 = .ok (.dup, 1) := by decide +kernel
theorem bNc_d157 : decode bNc.bs 157 = .ok (.aload_n 0, 1) := by decide +kernel
theorem bNc_d158 : decode bNc.bs 158 = .ok (.aload_n 1, 1) := by decide +kernel
theorem bNc_d159 : decode bNc.bs 159 = .ok (.invokedynamic 41, 5) := by decide +kernel
theorem bNc_d164 : decode bNc.bs 164 = .ok (.invokespecial 25, 3) := by decide +kernel
theorem bNc_d167 : decode bNc.bs 167 = .ok (.athrow, 1) := by decide +kernel
theorem bNc_d168 : decode bNc.bs 168 = .ok (.aload_n 1, 1) := by decide +kernel
theorem bNc_d169 : decode bNc.bs 169 = .ok (.areturn, 1) := by decide +kernel
theorem bNc_pd : parseMethodDescriptor "(Ljava/lang/String;Ljava/lang/String;)Ljava/lang/String;" = some ⟨[(.object "java/lang/String"), (.object "java/lang/String")], (some (.object "java/lang/String"))⟩ := by decide +kernel
theorem bNc_pn : plainName "com/example/orderly_tasks/orderlytasks/Names" = true := by first | (simp [plainName, overriddenIn]; done) | decide +kernel
theorem cNc (l : Launch) (Z : State) (a0 : Array Value) (hw : ∀ d ∈ tables_1, d.before a0 Z = true) (n0 : Nat) (hEW : EW Z a0 consts_1) (f a b : Addr) (cs : List Int32) (h0 : Heap) (σ : Addr → Prop) (S : Road.Str Z h0 a b cs) (hne : cs ≠ []) (hlen : cs.length ≤ 128) (hok : ∀ c ∈ cs, okc c) (h1 : cs ≠ [46]) (h2 : cs ≠ [46, 46]) (cp : Int32) (Hc : Sta Z Z.heap Road.SN "COMPACT_STRINGS" "Z" (.int cp)) (hcp : ¬ cp = 0) (fm : Value) (hfm : fm.isRef = true) (Hf : Sta Z Z.heap "jdk/internal/util/Preconditions" "SIOOBE_FORMATTER" "Ljava/util/function/BiFunction;" fm) :
    Road.Con l Z consts_1 n0 false bNc [] σ #[(.ref f), (.ref a)] h0 (fun v h2 _ => v = some (.ref a) ∧ Keep h0 h2 []) := by
  refine Road.Con.of bNc_pn hEW #[.val (.ref f), .val (.ref a), .unset, .unset, .unset] (fun m => Road.ent (Road.laid1 rfl (Road.laid1 rfl Road.laid0)) (k := 3) rfl rfl) ?_
  intro D hD
  have wS : ∀ d ∈ Bundle.stringAtoms, d.before a0 Z = true := fun d hd => hw d ((by decide +kernel : ∀ d ∈ Bundle.stringAtoms, d ∈ tables_1) d hd)
  refine Road.aloadN 0 bNc_d0 rfl ?_
  refine Road.callV (B' := bEmp) (a := a) 1 (argsL := []) (rest := []) "java/lang/String" 0 bNc_d1 (hw _ (List.mem_of_getElem? (i := 53) rfl)) (hw _ (List.mem_of_getElem? (i := 54) rfl)) (fun vm hz => notFace_of_selects (args := #[]) (mv (s := D.s.setVm vm) hz (hw _ (List.mem_of_getElem? (i := 56) rfl)))) (hw _ (List.mem_of_getElem? (i := 56) rfl)) (hw _ (List.mem_of_getElem? (i := 55) rfl)) (hw _ (List.mem_of_getElem? (i := 7) rfl)) (hw _ (List.mem_of_getElem? (i := 57) rfl)) (by decide) S.1 (cEmp l Z a0 hw n0 hEW a b cs h0 σ S) (lenOf bEmp_pd rfl) rfl rfl rfl (by decide) (by decide) (ce' := 0) (sl' := 0) rfl rfl (by decide) (by decide) ?_
  rintro _ h_1 σ_2 m_3 ⟨rfl, rfl⟩
  refine Road.Go.weaken (σ' := σ) m_3 (Nat.le_refl _) (Nat.le_refl _) ?_
  rw [if_neg hne]
  refine Road.if_ne 4 17 bNc_d4 rfl (fun q => absurd q (by decide)) (fun hc4 => ?_)
  refine Road.aloadN 7 bNc_d7 rfl ?_
  refine Road.callV (B' := bLen) (a := a) 8 (argsL := []) (rest := []) "java/lang/String" 0 bNc_d8 (hw _ (List.mem_of_getElem? (i := 58) rfl)) (hw _ (List.mem_of_getElem? (i := 59) rfl)) (fun vm hz => notFace_of_selects (args := #[]) (mv (s := D.s.setVm vm) hz (hw _ (List.mem_of_getElem? (i := 61) rfl)))) (hw _ (List.mem_of_getElem? (i := 61) rfl)) (hw _ (List.mem_of_getElem? (i := 60) rfl)) (hw _ (List.mem_of_getElem? (i := 7) rfl)) (hw _ (List.mem_of_getElem? (i := 62) rfl)) (by decide) S.1 (cLen l Z a0 hw n0 hEW a b cs h0 σ S cp Hc hcp) (lenOf bLen_pd rfl) rfl rfl rfl (by decide) (by decide) (ce' := 0) (sl' := 0) rfl rfl (by decide) (by decide) ?_
  rintro _ h_5 σ_6 m_7 ⟨rfl, rfl⟩
  refine Road.Go.weaken (σ' := σ) m_7 (Nat.le_refl _) (Nat.le_refl _) ?_
  refine Road.sipush 11 (128 : Int32) bNc_d11 rfl ?_
  refine Road.icmp_le 14 32 bNc_d14 rfl (fun hc14 => ?_) (fun q => absurd q (by rw [show (128 : Int32) = Nat.toInt32 128 from rfl, Road.lt32 (by omega) (by omega)]; omega))
  refine Road.iconst 32 (0 : Int32) bNc_d32 rfl ?_
  refine Road.istoreN 33 #[.val (.ref f), .val (.ref a), .val (.int (0 : Int32)), .unset, .unset] bNc_d33 rfl ?_
  have J135 : ∀ (k : Int32) (w3 w4 : Slot), Road.Go l Z a0 consts_1 n0 false bNc D (fun v h2 _ => v = some (.ref a) ∧ Keep h0 h2 []) h0 σ 0 0 135 #[.val (.ref f), .val (.ref a), .val (.int k), w3, w4] [] := by
    intro k w3 w4
    refine Road.aloadN 135 bNc_d135 rfl ?_
    refine Road.ldcS 136 "." [(46 : Int32)] 4 bNc_d136 (hw _ (List.mem_of_getElem? (i := 89) rfl)) wS (List.mem_of_getElem? (i := 0) rfl) (by decide) (by decide +kernel) (by decide) (by decide) (by decide) (ce' := 2) (sl' := 8) rfl rfl (by decide) (by decide) ?_
    intro l1 e1 h_9 σ_10 K_11 m_12 S1 q_13
    replace S := S.keep K_11 nin0 nin0
    refine Road.callV (B' := bEq) (a := a) 138 (argsL := [(.ref l1)]) (rest := []) "java/lang/String" 0 bNc_d138 (hw _ (List.mem_of_getElem? (i := 92) rfl)) (hw _ (List.mem_of_getElem? (i := 93) rfl)) (fun vm hz => notFace_of_selects (args := #[]) (mv (s := D.s.setVm vm) hz (hw _ (List.mem_of_getElem? (i := 95) rfl)))) (hw _ (List.mem_of_getElem? (i := 95) rfl)) (hw _ (List.mem_of_getElem? (i := 94) rfl)) (hw _ (List.mem_of_getElem? (i := 7) rfl)) (hw _ (List.mem_of_getElem? (i := 96) rfl)) (by decide) S.1 (cEq l Z a0 hw n0 hEW a b l1 e1 cs [46] h_9 σ_10 S S1 cp Hc hcp) (lenOf bEq_pd rfl) rfl rfl rfl (by decide) (by decide) (ce' := 2) (sl' := 8) rfl rfl (by decide) (by decide) ?_
    rintro _ h_14 σ_15 m_16 ⟨rfl, rfl⟩
    refine Road.Go.weaken (σ' := σ_10) m_16 (Nat.le_refl _) (Nat.le_refl _) ?_
    rw [if_neg h1]
    refine Road.if_ne 141 153 bNc_d141 rfl (fun q => absurd q (by decide)) (fun hc141 => ?_)
    refine Road.aloadN 144 bNc_d144 rfl ?_
    refine Road.ldcS 145 ".." [(46 : Int32), (46 : Int32)] 8 bNc_d145 (hw _ (List.mem_of_getElem? (i := 100) rfl)) wS (List.mem_of_getElem? (i := 1) rfl) (by decide) (by decide +kernel) (by decide) (by decide) (by decide) (ce' := 4) (sl' := 20) rfl rfl (by decide) (by decide) ?_
    intro l2 e2 h_18 σ_19 K_20 m_21 S2 q_22
    replace S := S.keep K_20 nin0 nin0
    replace S1 := S1.keep K_20 nin0 nin0
    refine Road.callV (B' := bEq) (a := a) 147 (argsL := [(.ref l2)]) (rest := []) "java/lang/String" 0 bNc_d147 (hw _ (List.mem_of_getElem? (i := 92) rfl)) (hw _ (List.mem_of_getElem? (i := 93) rfl)) (fun vm hz => notFace_of_selects (args := #[]) (mv (s := D.s.setVm vm) hz (hw _ (List.mem_of_getElem? (i := 95) rfl)))) (hw _ (List.mem_of_getElem? (i := 95) rfl)) (hw _ (List.mem_of_getElem? (i := 94) rfl)) (hw _ (List.mem_of_getElem? (i := 7) rfl)) (hw _ (List.mem_of_getElem? (i := 96) rfl)) (by decide) S.1 (cEq l Z a0 hw n0 hEW a b l2 e2 cs [46, 46] h_18 σ_19 S S2 cp Hc hcp) (lenOf bEq_pd rfl) rfl rfl rfl (by decide) (by decide) (ce' := 4) (sl' := 20) rfl rfl (by decide) (by decide) ?_
    rintro _ h_23 σ_24 m_25 ⟨rfl, rfl⟩
    refine Road.Go.weaken (σ' := σ_19) m_25 (Nat.le_refl _) (Nat.le_refl _) ?_
    rw [if_neg h2]
    refine Road.if_eq 150 168 bNc_d150 rfl (fun hc150 => ?_) (fun q => absurd q (by decide))
    refine Road.aloadN 168 bNc_d168 rfl ?_
    exact Road.aret 169 bNc_d169 (t := (.object "java/lang/String")) rfl rfl rfl (by decide) (by decide) (fun σ' m => ⟨rfl, K_11.trans K_20 (by simp)⟩)
  have loop : ∀ r k, k + r = cs.length → ∀ w3 w4 : Slot, Road.W1 w3 → Road.W1 w4 → Road.Go l Z a0 consts_1 n0 false bNc D (fun v h2 _ => v = some (.ref a) ∧ Keep h0 h2 []) h0 σ 0 0 34 #[.val (.ref f), .val (.ref a), .val (.int (Nat.toInt32 k)), w3, w4] [] := by
    intro r
    induction r with
    | zero =>
      intro k hk w3 w4 hw3 hw4
      have hk' : k = cs.length := by omega
      subst hk'
      refine Road.iloadN 34 bNc_d34 rfl ?_
      refine Road.aloadN 35 bNc_d35 rfl ?_
      refine Road.callV (B' := bLen) (a := a) 36 (argsL := []) (rest := [(.int (Nat.toInt32 cs.length))]) "java/lang/String" 1 bNc_d36 (hw _ (List.mem_of_getElem? (i := 58) rfl)) (hw _ (List.mem_of_getElem? (i := 59) rfl)) (fun vm hz => notFace_of_selects (args := #[]) (mv (s := D.s.setVm vm) hz (hw _ (List.mem_of_getElem? (i := 61) rfl)))) (hw _ (List.mem_of_getElem? (i := 61) rfl)) (hw _ (List.mem_of_getElem? (i := 60) rfl)) (hw _ (List.mem_of_getElem? (i := 7) rfl)) (hw _ (List.mem_of_getElem? (i := 62) rfl)) (by decide) S.1 (cLen l Z a0 hw n0 hEW a b cs h0 σ S cp Hc hcp) (lenOf bLen_pd rfl) rfl rfl rfl (by decide) (by decide) (ce' := 0) (sl' := 0) rfl rfl (by decide) (by decide) ?_
      rintro _ h_27 σ_28 m_29 ⟨rfl, rfl⟩
      refine Road.Go.weaken (σ' := σ) m_29 (Nat.le_refl _) (Nat.le_refl _) ?_
      refine Road.icmp_ge 39 135 bNc_d39 rfl (fun hc39 => ?_) (fun q => absurd q Int32.lt_irrefl)
      exact J135 _ _ _
    | succ r ih =>
      intro k hk w3 w4 hw3 hw4
      have hk1 : k < cs.length := by omega
      refine Road.iloadN 34 bNc_d34 rfl ?_
      refine Road.aloadN 35 bNc_d35 rfl ?_
      refine Road.callV (B' := bLen) (a := a) 36 (argsL := []) (rest := [(.int (Nat.toInt32 k))]) "java/lang/String" 1 bNc_d36 (hw _ (List.mem_of_getElem? (i := 58) rfl)) (hw _ (List.mem_of_getElem? (i := 59) rfl)) (fun vm hz => notFace_of_selects (args := #[]) (mv (s := D.s.setVm vm) hz (hw _ (List.mem_of_getElem? (i := 61) rfl)))) (hw _ (List.mem_of_getElem? (i := 61) rfl)) (hw _ (List.mem_of_getElem? (i := 60) rfl)) (hw _ (List.mem_of_getElem? (i := 7) rfl)) (hw _ (List.mem_of_getElem? (i := 62) rfl)) (by decide) S.1 (cLen l Z a0 hw n0 hEW a b cs h0 σ S cp Hc hcp) (lenOf bLen_pd rfl) rfl rfl rfl (by decide) (by decide) (ce' := 0) (sl' := 0) rfl rfl (by decide) (by decide) ?_
      rintro _ h_31 σ_32 m_33 ⟨rfl, rfl⟩
      refine Road.Go.weaken (σ' := σ) m_33 (Nat.le_refl _) (Nat.le_refl _) ?_
      refine Road.icmp_ge 39 135 bNc_d39 rfl (fun q => absurd q (by rw [Decidable.not_not, Road.lt32 (by omega) (by omega)]; omega)) (fun hc39 => ?_)
      refine Road.aloadN 42 bNc_d42 rfl ?_
      refine Road.iloadN 43 bNc_d43 rfl ?_
      refine Road.callV (B' := bChA) (a := a) 44 (argsL := [(.int (Nat.toInt32 k))]) (rest := []) "java/lang/String" 0 bNc_d44 (hw _ (List.mem_of_getElem? (i := 68) rfl)) (hw _ (List.mem_of_getElem? (i := 69) rfl)) (fun vm hz => notFace_of_selects (args := #[]) (mv (s := D.s.setVm vm) hz (hw _ (List.mem_of_getElem? (i := 71) rfl)))) (hw _ (List.mem_of_getElem? (i := 71) rfl)) (hw _ (List.mem_of_getElem? (i := 70) rfl)) (hw _ (List.mem_of_getElem? (i := 7) rfl)) (hw _ (List.mem_of_getElem? (i := 72) rfl)) (by decide) S.1 (cChA l Z a0 hw n0 hEW a b cs (Nat.toInt32 k) k h0 σ S (Road.n32 (by omega)) hk1 cp Hc hcp fm hfm Hf) (lenOf bChA_pd rfl) rfl rfl rfl (by decide) (by decide) (ce' := 0) (sl' := 0) rfl rfl (by decide) (by decide) ?_
      rintro _ h_35 σ_36 m_37 ⟨rfl, rfl⟩
      refine Road.Go.weaken (σ' := σ) m_37 (Nat.le_refl _) (Nat.le_refl _) ?_
      have hck := hok _ (List.getElem_mem hk1)
      refine Road.nameI ?_
      intro c hc
      rw [← hc] at hck
      refine Road.istoreN 47 #[.val (.ref f), .val (.ref a), .val (.int (Nat.toInt32 k)), .val (.int c), w4] bNc_d47 (by rcases hw3 with rfl | ⟨x, rfl⟩ <;> rfl) ?_
      have J102 : Road.Go l Z a0 consts_1 n0 false bNc D (fun v h2 _ => v = some (.ref a) ∧ Keep h0 h2 []) h0 σ 0 0 102 #[.val (.ref f), .val (.ref a), .val (.int (Nat.toInt32 k)), .val (.int c), w4] [] := by
        refine Road.iconst 102 (1 : Int32) bNc_d102 rfl ?_
        refine Road.goto 103 107 bNc_d103 rfl ?_
        refine Road.istore 107 #[.val (.ref f), .val (.ref a), .val (.int (Nat.toInt32 k)), .val (.int c), .val (.int (1 : Int32))] bNc_d107 (by rcases hw4 with rfl | ⟨x, rfl⟩ <;> rfl) ?_
        refine Road.iload 109 bNc_d109 rfl ?_
        refine Road.if_ne 111 129 bNc_d111 rfl (fun hc111 => ?_) (fun q => absurd q (by decide))
        refine Road.iinc 129 (1) #[.val (.ref f), .val (.ref a), .val (.int ((Nat.toInt32 k) + 1)), .val (.int c), .val (.int (1 : Int32))] bNc_d129 rfl rfl rfl ?_
        refine Road.goto 132 34 bNc_d132 rfl ?_
        have := ih (k + 1) (by omega) (.val (.int c)) (.val (.int 1)) (Or.inr ⟨_, rfl⟩) (Or.inr ⟨_, rfl⟩)
        rw [← Road.succ32] at this
        exact this
      have J84 : (¬ (¬ c < 97 ∧ ¬ 122 < c)) ∧ (¬ (¬ c < 65 ∧ ¬ 90 < c)) ∧ (¬ (¬ c < 48 ∧ ¬ 57 < c)) → Road.Go l Z a0 consts_1 n0 false bNc D (fun v h2 _ => v = some (.ref a) ∧ Keep h0 h2 []) h0 σ 0 0 84 #[.val (.ref f), .val (.ref a), .val (.int (Nat.toInt32 k)), .val (.int c), w4] [] := by
        intro hr
        refine Road.iloadN 84 bNc_d84 rfl ?_
        refine Road.bipush 85 (46 : Int32) bNc_d85 rfl ?_
        refine Road.icmp_eq 87 102 bNc_d87 rfl (fun hc87 => ?_) (fun hc87 => ?_)
        · skip
          exact J102
        · skip
          refine Road.iloadN 90 bNc_d90 rfl ?_
          refine Road.bipush 91 (95 : Int32) bNc_d91 rfl ?_
          refine Road.icmp_eq 93 102 bNc_d93 rfl (fun hc93 => ?_) (fun hc93 => ?_)
          · skip
            exact J102
          · skip
            refine Road.iloadN 96 bNc_d96 rfl ?_
            refine Road.bipush 97 (45 : Int32) bNc_d97 rfl ?_
            refine Road.icmp_ne 99 106 bNc_d99 rfl (fun hc99 => ?_) (fun hc99 => ?_)
            · skip
              exfalso
              rcases hck with q | q | q | q | q | q
              · exact hr.1 q
              · exact hr.2.1 q
              · exact hr.2.2 q
              · exact hc87 q
              · exact hc93 q
              · exact hc99 q
            · skip
              exact J102
      have J72 : (¬ (¬ c < 97 ∧ ¬ 122 < c)) ∧ (¬ (¬ c < 65 ∧ ¬ 90 < c)) → Road.Go l Z a0 consts_1 n0 false bNc D (fun v h2 _ => v = some (.ref a) ∧ Keep h0 h2 []) h0 σ 0 0 72 #[.val (.ref f), .val (.ref a), .val (.int (Nat.toInt32 k)), .val (.int c), w4] [] := by
        intro hr
        refine Road.iloadN 72 bNc_d72 rfl ?_
        refine Road.bipush 73 (48 : Int32) bNc_d73 rfl ?_
        refine Road.icmp_lt 75 84 bNc_d75 rfl (fun hA => ?_) (fun hA => ?_)
        · skip
          exact J84 ⟨hr.1, hr.2, fun q => q.1 hA⟩
        · skip
          refine Road.iloadN 78 bNc_d78 rfl ?_
          refine Road.bipush 79 (57 : Int32) bNc_d79 rfl ?_
          refine Road.icmp_le 81 102 bNc_d81 rfl (fun hB => ?_) (fun hB => ?_)
          · skip
            exact J102
          · skip
            exact J84 ⟨hr.1, hr.2, fun q => q.2 hB⟩
      have J60 : (¬ (¬ c < 97 ∧ ¬ 122 < c)) → Road.Go l Z a0 consts_1 n0 false bNc D (fun v h2 _ => v = some (.ref a) ∧ Keep h0 h2 []) h0 σ 0 0 60 #[.val (.ref f), .val (.ref a), .val (.int (Nat.toInt32 k)), .val (.int c), w4] [] := by
        intro hr
        refine Road.iloadN 60 bNc_d60 rfl ?_
        refine Road.bipush 61 (65 : Int32) bNc_d61 rfl ?_
        refine Road.icmp_lt 63 72 bNc_d63 rfl (fun hA => ?_) (fun hA => ?_)
        · skip
          exact J72 ⟨hr, fun q => q.1 hA⟩
        · skip
          refine Road.iloadN 66 bNc_d66 rfl ?_
          refine Road.bipush 67 (90 : Int32) bNc_d67 rfl ?_
          refine Road.icmp_le 69 102 bNc_d69 rfl (fun hB => ?_) (fun hB => ?_)
          · skip
            exact J102
          · skip
            exact J72 ⟨hr, fun q => q.2 hB⟩
      refine Road.iloadN 48 bNc_d48 rfl ?_
      refine Road.bipush 49 (97 : Int32) bNc_d49 rfl ?_
      refine Road.icmp_lt 51 60 bNc_d51 rfl (fun hA => ?_) (fun hA => ?_)
      · skip
        exact J60 (fun q => q.1 hA)
      · skip
        refine Road.iloadN 54 bNc_d54 rfl ?_
        refine Road.bipush 55 (122 : Int32) bNc_d55 rfl ?_
        refine Road.icmp_le 57 102 bNc_d57 rfl (fun hB => ?_) (fun hB => ?_)
        · skip
          exact J102
        · skip
          exact J60 (fun q => q.2 hB)
  exact loop cs.length 0 (by omega) .unset .unset (Or.inl rfl) (Or.inl rfl)
def b0 : Road.Bdy := (x, code, maxLocals, ret, room_1)
theorem b0_d0 : decode b0.bs 0 = .ok (.iload_n 0, 1) := at_0
theorem b0_d1 : decode b0.bs 1 = .ok (.ldc 7, 2) := at_1
theorem b0_d3 : decode b0.bs 3 = .ok (.iand, 1) := at_3
theorem b0_d4 : decode b0.bs 4 = .ok (.iconst 3, 1) := at_4
theorem b0_d5 : decode b0.bs 5 = .ok (.irem, 1) := at_5
theorem b0_d6 : decode b0.bs 6 = .ok (.iconst 1, 1) := at_6
theorem b0_d7 : decode b0.bs 7 = .ok (.iadd, 1) := at_7
theorem b0_d8 : decode b0.bs 8 = .ok (.istore 5, 2) := at_8
theorem b0_d10 : decode b0.bs 10 = .ok (.iload_n 1, 1) := at_10
theorem b0_d11 : decode b0.bs 11 = .ok (.invokestatic 8, 3) := at_11
theorem b0_d14 : decode b0.bs 14 = .ok (.istore 6, 2) := at_14
theorem b0_d16 : decode b0.bs 16 = .ok (.iload_n 2, 1) := at_16
theorem b0_d17 : decode b0.bs 17 = .ok (.invokestatic 8, 3) := at_17
theorem b0_d20 : decode b0.bs 20 = .ok (.istore 7, 2) := at_20
theorem b0_d22 : decode b0.bs 22 = .ok (.iload_n 3, 1) := at_22
theorem b0_d23 : decode b0.bs 23 = .ok (.invokestatic 8, 3) := at_23
theorem b0_d26 : decode b0.bs 26 = .ok (.istore 8, 2) := at_26
theorem b0_d28 : decode b0.bs 28 = .ok (.iload 5, 2) := at_28
theorem b0_d30 : decode b0.bs 30 = .ok (.iconst 1, 1) := at_30
theorem b0_d31 : decode b0.bs 31 = .ok (.if_icmp .ne 12, 3) := at_31
theorem b0_d34 : decode b0.bs 34 = .ok (.iload 6, 2) := at_34
theorem b0_d36 : decode b0.bs 36 = .ok (.bipush 46, 2) := at_36
theorem b0_d38 : decode b0.bs 38 = .ok (.if_icmp .ne 5, 3) := at_38
theorem b0_d41 : decode b0.bs 41 = .ok (.iconst 1, 1) := at_41
theorem b0_d42 : decode b0.bs 42 = .ok (.ireturn, 1) := at_42
theorem b0_d43 : decode b0.bs 43 = .ok (.iload 5, 2) := at_43
theorem b0_d45 : decode b0.bs 45 = .ok (.iconst 2, 1) := at_45
theorem b0_d46 : decode b0.bs 46 = .ok (.if_icmp .ne 19, 3) := at_46
theorem b0_d49 : decode b0.bs 49 = .ok (.iload 6, 2) := at_49
theorem b0_d51 : decode b0.bs 51 = .ok (.bipush 46, 2) := at_51
theorem b0_d53 : decode b0.bs 53 = .ok (.if_icmp .ne 12, 3) := at_53
theorem b0_d56 : decode b0.bs 56 = .ok (.iload 7, 2) := at_56
theorem b0_d58 : decode b0.bs 58 = .ok (.bipush 46, 2) := at_58
theorem b0_d60 : decode b0.bs 60 = .ok (.if_icmp .ne 5, 3) := at_60
theorem b0_d63 : decode b0.bs 63 = .ok (.iconst 1, 1) := at_63
theorem b0_d64 : decode b0.bs 64 = .ok (.ireturn, 1) := at_64
theorem b0_d65 : decode b0.bs 65 = .ok (.iload 5, 2) := at_65
theorem b0_d67 : decode b0.bs 67 = .ok (.iconst 1, 1) := at_67
theorem b0_d68 : decode b0.bs 68 = .ok (.if_icmp .ne 23, 3) := at_68
theorem b0_d71 : decode b0.bs 71 = .ok (.new 14, 3) := at_71
theorem b0_d74 : decode b0.bs 74 = .ok (.dup, 1) := at_74
theorem b0_d75 : decode b0.bs 75 = .ok (.iconst 1, 1) := at_75
theorem b0_d76 : decode b0.bs 76 = .ok (.newarray .char, 2) := at_76
theorem b0_d78 : decode b0.bs 78 = .ok (.dup, 1) := at_78
theorem b0_d79 : decode b0.bs 79 = .ok (.iconst 0, 1) := at_79
theorem b0_d80 : decode b0.bs 80 = .ok (.iload 6, 2) := at_80
theorem b0_d82 : decode b0.bs 82 = .ok (.castore, 1) := at_82
theorem b0_d83 : decode b0.bs 83 = .ok (.invokespecial 16, 3) := at_83
theorem b0_d86 : decode b0.bs 86 = .ok (.astore 9, 2) := at_86
theorem b0_d88 : decode b0.bs 88 = .ok (.goto 61, 3) := at_88
theorem b0_d91 : decode b0.bs 91 = .ok (.iload 5, 2) := at_91
theorem b0_d93 : decode b0.bs 93 = .ok (.iconst 2, 1) := at_93
theorem b0_d94 : decode b0.bs 94 = .ok (.if_icmp .ne 28, 3) := at_94
theorem b0_d97 : decode b0.bs 97 = .ok (.new 14, 3) := at_97
theorem b0_d100 : decode b0.bs 100 = .ok (.dup, 1) := at_100
theorem b0_d101 : decode b0.bs 101 = .ok (.iconst 2, 1) := at_101
theorem b0_d102 : decode b0.bs 102 = .ok (.newarray .char, 2) := at_102
theorem b0_d104 : decode b0.bs 104 = .ok (.dup, 1) := at_104
theorem b0_d105 : decode b0.bs 105 = .ok (.iconst 0, 1) := at_105
theorem b0_d106 : decode b0.bs 106 = .ok (.iload 6, 2) := at_106
theorem b0_d108 : decode b0.bs 108 = .ok (.castore, 1) := at_108
theorem b0_d109 : decode b0.bs 109 = .ok (.dup, 1) := at_109
theorem b0_d110 : decode b0.bs 110 = .ok (.iconst 1, 1) := at_110
theorem b0_d111 : decode b0.bs 111 = .ok (.iload 7, 2) := at_111
theorem b0_d113 : decode b0.bs 113 = .ok (.castore, 1) := at_113
theorem b0_d114 : decode b0.bs 114 = .ok (.invokespecial 16, 3) := at_114
theorem b0_d117 : decode b0.bs 117 = .ok (.astore 9, 2) := at_117
theorem b0_d119 : decode b0.bs 119 = .ok (.goto 30, 3) := at_119
theorem b0_d122 : decode b0.bs 122 = .ok (.new 14, 3) := at_122
theorem b0_d125 : decode b0.bs 125 = .ok (.dup, 1) := at_125
theorem b0_d126 : decode b0.bs 126 = .ok (.iconst 3, 1) := at_126
theorem b0_d127 : decode b0.bs 127 = .ok (.newarray .char, 2) := at_127
theorem b0_d129 : decode b0.bs 129 = .ok (.dup, 1) := at_129
theorem b0_d130 : decode b0.bs 130 = .ok (.iconst 0, 1) := at_130
theorem b0_d131 : decode b0.bs 131 = .ok (.iload 6, 2) := at_131
theorem b0_d133 : decode b0.bs 133 = .ok (.castore, 1) := at_133
theorem b0_d134 : decode b0.bs 134 = .ok (.dup, 1) := at_134
theorem b0_d135 : decode b0.bs 135 = .ok (.iconst 1, 1) := at_135
theorem b0_d136 : decode b0.bs 136 = .ok (.iload 7, 2) := at_136
theorem b0_d138 : decode b0.bs 138 = .ok (.castore, 1) := at_138
theorem b0_d139 : decode b0.bs 139 = .ok (.dup, 1) := at_139
theorem b0_d140 : decode b0.bs 140 = .ok (.iconst 2, 1) := at_140
theorem b0_d141 : decode b0.bs 141 = .ok (.iload 8, 2) := at_141
theorem b0_d143 : decode b0.bs 143 = .ok (.castore, 1) := at_143
theorem b0_d144 : decode b0.bs 144 = .ok (.invokespecial 16, 3) := at_144
theorem b0_d147 : decode b0.bs 147 = .ok (.astore 9, 2) := at_147
theorem b0_d149 : decode b0.bs 149 = .ok (.iload 4, 2) := at_149
theorem b0_d151 : decode b0.bs 151 = .ok (.sipush 255, 3) := at_151
theorem b0_d154 : decode b0.bs 154 = .ok (.iand, 1) := at_154
theorem b0_d155 : decode b0.bs 155 = .ok (.i2c, 1) := at_155
theorem b0_d156 : decode b0.bs 156 = .ok (.invokestatic 19, 3) := at_156
theorem b0_d159 : decode b0.bs 159 = .ok (.astore 10, 2) := at_159
theorem b0_d161 : decode b0.bs 161 = .ok (.aload 10, 2) := at_161
theorem b0_d163 : decode b0.bs 163 = .ok (.aload 9, 2) := at_163
theorem b0_d165 : decode b0.bs 165 = .ok (.invokestatic 23, 3) := at_165
theorem b0_d168 : decode b0.bs 168 = .ok (.astore 11, 2) := at_168
theorem b0_d170 : decode b0.bs 170 = .ok (.aload 11, 2) := at_170
theorem b0_d172 : decode b0.bs 172 = .ok (.ifnull 38, 3) := at_172
theorem b0_d175 : decode b0.bs 175 = .ok (.aload 11, 2) := at_175
theorem b0_d177 : decode b0.bs 177 = .ok (.aload 9, 2) := at_177
theorem b0_d179 : decode b0.bs 179 = .ok (.invokevirtual 29, 3) := at_179
theorem b0_d182 : decode b0.bs 182 = .ok (.ifCond .eq 28, 3) := at_182
theorem b0_d185 : decode b0.bs 185 = .ok (.aload 11, 2) := at_185
theorem b0_d187 : decode b0.bs 187 = .ok (.invokevirtual 33, 3) := at_187
theorem b0_d190 : decode b0.bs 190 = .ok (.iload 5, 2) := at_190
theorem b0_d192 : decode b0.bs 192 = .ok (.if_icmp .ne 18, 3) := at_192
theorem b0_d195 : decode b0.bs 195 = .ok (.aload 11, 2) := at_195
theorem b0_d197 : decode b0.bs 197 = .ok (.iconst 0, 1) := at_197
theorem b0_d198 : decode b0.bs 198 = .ok (.invokevirtual 37, 3) := at_198
theorem b0_d201 : decode b0.bs 201 = .ok (.iload 6, 2) := at_201
theorem b0_d203 : decode b0.bs 203 = .ok (.if_icmp .ne 7, 3) := at_203
theorem b0_d206 : decode b0.bs 206 = .ok (.iconst 1, 1) := at_206
theorem b0_d207 : decode b0.bs 207 = .ok (.goto 4, 3) := at_207
theorem b0_d210 : decode b0.bs 210 = .ok (.iconst 0, 1) := at_210
theorem b0_d211 : decode b0.bs 211 = .ok (.ireturn, 1) := at_211
theorem b0_pd : parseMethodDescriptor "(IIIII)Z" = some ⟨[.int, .int, .int, .int, .int], (some .boolean)⟩ := by decide +kernel
theorem b0_pn : plainName "com/example/orderly_tasks/orderlytasks/NamesCheckPinLaw" = true := by first | (simp [plainName, overriddenIn]; done) | decide +kernel
set_option maxHeartbeats 4000000 in
theorem law (l : Launch) (Z : State) (a0 : Array Value) (hw : ∀ d ∈ tables_1, d.before a0 Z = true) (n0 : Nat) (hEW : EW Z a0 consts_1) (p0 p1 p2 p3 p4 : Int32) (h0 : Heap) (σ : Addr → Prop) (cp : Int32) (Hc : Sta Z Z.heap Road.SN "COMPACT_STRINGS" "Z" (.int cp)) (hcp : ¬ cp = 0) (fm : Value) (hfm : fm.isRef = true) (Hf : Sta Z Z.heap "jdk/internal/util/Preconditions" "SIOOBE_FORMATTER" "Ljava/util/function/BiFunction;" fm) (ws : List Jvm.Cond) :
    Road.Con l Z consts_1 n0 false b0 ws σ #[(.int p0), (.int p1), (.int p2), (.int p3), (.int p4)] h0 (fun v h2 _ => v = some (.int 1)) := by
  refine Road.Con.of b0_pn hEW #[.val (.int p0), .val (.int p1), .val (.int p2), .val (.int p3), .val (.int p4), .unset, .unset, .unset, .unset, .unset, .unset, .unset] (fun m => Road.ent (Road.laid1 rfl (Road.laid1 rfl (Road.laid1 rfl (Road.laid1 rfl (Road.laid1 rfl Road.laid0))))) (k := 7) rfl rfl) ?_
  intro D hD
  refine Road.iloadN 0 b0_d0 rfl ?_
  refine Road.ldcI 1 (v := (2147483647 : Int32)) b0_d1 (hw _ (List.mem_of_getElem? (i := 0) rfl)) ?_
  refine Road.iand 3 b0_d3 ?_
  refine Road.iconst 4 (3 : Int32) b0_d4 rfl ?_
  refine Road.irem 5 b0_d5 (by decide) ?_
  refine Road.nameI ?_
  intro r hr
  obtain ⟨i, hi⟩ : ∃ i : Fin 3, r = Int32.ofInt (i.1 : Int) := by rw [hr]; exact Road.small_of (Road.rem_pos (n := 3) (by rw [Road.u32_mask31]; omega) rfl (by omega)) (by omega)
  refine Road.iconst 6 (1 : Int32) b0_d6 rfl ?_
  refine Road.iadd 7 b0_d7 ?_
  refine Road.nameI ?_
  intro le hle
  have hle3 : le = 1 ∨ le = 2 ∨ le = 3 := by subst hi; subst hle; exact (by decide +kernel : ∀ i : Fin 3, Int32.ofInt (i.1 : Int) + 1 = 1 ∨ Int32.ofInt (i.1 : Int) + 1 = 2 ∨ Int32.ofInt (i.1 : Int) + 1 = 3) i
  refine Road.istore 8 #[.val (.int p0), .val (.int p1), .val (.int p2), .val (.int p3), .val (.int p4), .val (.int le), .unset, .unset, .unset, .unset, .unset, .unset] b0_d8 rfl ?_
  refine Road.iloadN 10 b0_d10 rfl ?_
  refine Road.callS (B' := bAlw) 11 (argsL := [(.int p1)]) (rest := []) 0 b0_d11 (hw _ (List.mem_of_getElem? (i := 1) rfl)) (hw _ (List.mem_of_getElem? (i := 2) rfl)) (hw _ (List.mem_of_getElem? (i := 3) rfl)) (hw _ (List.mem_of_getElem? (i := 4) rfl)) (by decide) (cAlw l Z a0 hw n0 hEW p1 h0 σ) (lenOf bAlw_pd rfl) rfl rfl rfl (by decide) (by decide) (ce' := 0) (sl' := 0) rfl rfl (by decide) (by decide) ?_
  rintro _ h_1 σ_2 m_3 ⟨c0, rfl, ok0, lat0, rfl⟩
  refine Road.Go.weaken (σ' := σ) m_3 (Nat.le_refl _) (Nat.le_refl _) ?_
  refine Road.istore 14 #[.val (.int p0), .val (.int p1), .val (.int p2), .val (.int p3), .val (.int p4), .val (.int le), .val (.int c0), .unset, .unset, .unset, .unset, .unset] b0_d14 rfl ?_
  refine Road.iloadN 16 b0_d16 rfl ?_
  refine Road.callS (B' := bAlw) 17 (argsL := [(.int p2)]) (rest := []) 0 b0_d17 (hw _ (List.mem_of_getElem? (i := 1) rfl)) (hw _ (List.mem_of_getElem? (i := 2) rfl)) (hw _ (List.mem_of_getElem? (i := 3) rfl)) (hw _ (List.mem_of_getElem? (i := 4) rfl)) (by decide) (cAlw l Z a0 hw n0 hEW p2 h0 σ) (lenOf bAlw_pd rfl) rfl rfl rfl (by decide) (by decide) (ce' := 0) (sl' := 0) rfl rfl (by decide) (by decide) ?_
  rintro _ h_5 σ_6 m_7 ⟨c1, rfl, ok1, lat1, rfl⟩
  refine Road.Go.weaken (σ' := σ) m_7 (Nat.le_refl _) (Nat.le_refl _) ?_
  refine Road.istore 20 #[.val (.int p0), .val (.int p1), .val (.int p2), .val (.int p3), .val (.int p4), .val (.int le), .val (.int c0), .val (.int c1), .unset, .unset, .unset, .unset] b0_d20 rfl ?_
  refine Road.iloadN 22 b0_d22 rfl ?_
  refine Road.callS (B' := bAlw) 23 (argsL := [(.int p3)]) (rest := []) 0 b0_d23 (hw _ (List.mem_of_getElem? (i := 1) rfl)) (hw _ (List.mem_of_getElem? (i := 2) rfl)) (hw _ (List.mem_of_getElem? (i := 3) rfl)) (hw _ (List.mem_of_getElem? (i := 4) rfl)) (by decide) (cAlw l Z a0 hw n0 hEW p3 h0 σ) (lenOf bAlw_pd rfl) rfl rfl rfl (by decide) (by decide) (ce' := 0) (sl' := 0) rfl rfl (by decide) (by decide) ?_
  rintro _ h_9 σ_10 m_11 ⟨c2, rfl, ok2, lat2, rfl⟩
  refine Road.Go.weaken (σ' := σ) m_11 (Nat.le_refl _) (Nat.le_refl _) ?_
  refine Road.istore 26 #[.val (.int p0), .val (.int p1), .val (.int p2), .val (.int p3), .val (.int p4), .val (.int le), .val (.int c0), .val (.int c1), .val (.int c2), .unset, .unset, .unset] b0_d26 rfl ?_
  refine Road.iload 28 b0_d28 rfl ?_
  refine Road.iconst 30 (1 : Int32) b0_d30 rfl ?_
  have J149 : ∀ (h : Heap) (τ : Addr → Prop) (le : Int32) (nm nb : Addr) (cs : List Int32), Road.Str Z h nm nb cs → le = Nat.toInt32 cs.length → cs.length ≤ 3 → (∀ c ∈ cs, okc c) → cs ≠ [46] → cs ≠ [46, 46] → cs.head? = some c0 → Road.Go l Z a0 consts_1 n0 false b0 D (fun v h2 _ => v = some (.int 1)) h τ 3 11 149 #[.val (.int p0), .val (.int p1), .val (.int p2), .val (.int p3), .val (.int p4), .val (.int le), .val (.int c0), .val (.int c1), .val (.int c2), .val (.ref nm), .unset, .unset] [] := by
    intro h τ le nm nb cs S hle hl3 hoks h1 h2 hh
    have hne : cs ≠ [] := by rintro rfl; simp at hh
    refine Road.iload 149 b0_d149 rfl ?_
    refine Road.sipush 151 (255 : Int32) b0_d151 rfl ?_
    refine Road.iand 154 b0_d154 ?_
    refine Road.i2c 155 b0_d155 ?_
    refine Road.callS (B' := bVal) 156 (argsL := [(.int (Road.chr (p4 &&& (255 : Int32))))]) (rest := []) 0 b0_d156 (hw _ (List.mem_of_getElem? (i := 35) rfl)) (hw _ (List.mem_of_getElem? (i := 36) rfl)) (hw _ (List.mem_of_getElem? (i := 7) rfl)) (hw _ (List.mem_of_getElem? (i := 37) rfl)) (by decide) (cVal l Z a0 hw n0 hEW (Road.chr (p4 &&& (255 : Int32))) h τ (Road.and255 _) cp Hc hcp) (lenOf bVal_pd rfl) rfl rfl rfl (by decide) (by decide) (ce' := 5) (sl' := 16) rfl rfl (by decide) (by decide) ?_
    rintro _ h_13 σ_14 m_15 ⟨fl, fd, rfl, gfl, gfd, K_16, Sf⟩
    replace S := S.keep K_16 nin0 nin0
    refine Road.astore 159 #[.val (.int p0), .val (.int p1), .val (.int p2), .val (.int p3), .val (.int p4), .val (.int le), .val (.int c0), .val (.int c1), .val (.int c2), .val (.ref nm), .val (.ref fl), .unset] b0_d159 rfl ?_
    refine Road.aload 161 b0_d161 rfl ?_
    refine Road.aload 163 b0_d163 rfl ?_
    refine Road.callS (B' := bNc) 165 (argsL := [(.ref fl), (.ref nm)]) (rest := []) 0 b0_d165 (hw _ (List.mem_of_getElem? (i := 49) rfl)) (hw _ (List.mem_of_getElem? (i := 50) rfl)) (hw _ (List.mem_of_getElem? (i := 51) rfl)) (hw _ (List.mem_of_getElem? (i := 52) rfl)) (by decide) (cNc l Z a0 hw n0 hEW fl nm nb cs h_13 σ_14 S hne (by omega) hoks h1 h2 cp Hc hcp fm hfm Hf) (lenOf bNc_pd rfl) rfl rfl rfl (by decide) (by decide) (ce' := 9) (sl' := 36) rfl rfl (by decide) (by decide) ?_
    rintro _ h_17 σ_18 m_19 ⟨rfl, K_20⟩
    replace S := S.keep K_20 nin0 nin0
    refine Road.astore 168 #[.val (.int p0), .val (.int p1), .val (.int p2), .val (.int p3), .val (.int p4), .val (.int le), .val (.int c0), .val (.int c1), .val (.int c2), .val (.ref nm), .val (.ref fl), .val (.ref nm)] b0_d168 rfl ?_
    refine Road.aload 170 b0_d170 rfl ?_
    refine Road.ifnull 172 210 rfl b0_d172 rfl (fun q => absurd q (by simp)) (fun hc172 => ?_)
    refine Road.aload 175 b0_d175 rfl ?_
    refine Road.aload 177 b0_d177 rfl ?_
    refine Road.callV (B' := bEq) (a := nm) 179 (argsL := [(.ref nm)]) (rest := []) "java/lang/String" 0 b0_d179 (hw _ (List.mem_of_getElem? (i := 101) rfl)) (hw _ (List.mem_of_getElem? (i := 93) rfl)) (fun vm hz => notFace_of_selects (args := #[]) (mv (s := D.s.setVm vm) hz (hw _ (List.mem_of_getElem? (i := 95) rfl)))) (hw _ (List.mem_of_getElem? (i := 95) rfl)) (hw _ (List.mem_of_getElem? (i := 94) rfl)) (hw _ (List.mem_of_getElem? (i := 7) rfl)) (hw _ (List.mem_of_getElem? (i := 96) rfl)) (by decide) S.1 (cEq l Z a0 hw n0 hEW nm nb nm nb cs cs h_17 σ_18 S S cp Hc hcp) (lenOf bEq_pd rfl) rfl rfl rfl (by decide) (by decide) (ce' := 9) (sl' := 36) rfl rfl (by decide) (by decide) ?_
    rintro _ h_21 σ_22 m_23 ⟨rfl, rfl⟩
    refine Road.Go.weaken (σ' := σ_18) m_23 (Nat.le_refl _) (Nat.le_refl _) ?_
    rw [if_pos rfl]
    refine Road.if_eq 182 210 b0_d182 rfl (fun q => absurd q (by decide)) (fun hc182 => ?_)
    refine Road.aload 185 b0_d185 rfl ?_
    refine Road.callV (B' := bLen) (a := nm) 187 (argsL := []) (rest := []) "java/lang/String" 0 b0_d187 (hw _ (List.mem_of_getElem? (i := 102) rfl)) (hw _ (List.mem_of_getElem? (i := 59) rfl)) (fun vm hz => notFace_of_selects (args := #[]) (mv (s := D.s.setVm vm) hz (hw _ (List.mem_of_getElem? (i := 61) rfl)))) (hw _ (List.mem_of_getElem? (i := 61) rfl)) (hw _ (List.mem_of_getElem? (i := 60) rfl)) (hw _ (List.mem_of_getElem? (i := 7) rfl)) (hw _ (List.mem_of_getElem? (i := 62) rfl)) (by decide) S.1 (cLen l Z a0 hw n0 hEW nm nb cs h_17 σ_18 S cp Hc hcp) (lenOf bLen_pd rfl) rfl rfl rfl (by decide) (by decide) (ce' := 9) (sl' := 36) rfl rfl (by decide) (by decide) ?_
    rintro _ h_25 σ_26 m_27 ⟨rfl, rfl⟩
    refine Road.Go.weaken (σ' := σ_18) m_27 (Nat.le_refl _) (Nat.le_refl _) ?_
    refine Road.iload 190 b0_d190 rfl ?_
    refine Road.icmp_ne 192 210 b0_d192 rfl (fun q => absurd q (by rw [Decidable.not_not]; exact hle.symm)) (fun hc192 => ?_)
    refine Road.aload 195 b0_d195 rfl ?_
    refine Road.iconst 197 (0 : Int32) b0_d197 rfl ?_
    refine Road.callV (B' := bChA) (a := nm) 198 (argsL := [(.int (0 : Int32))]) (rest := []) "java/lang/String" 0 b0_d198 (hw _ (List.mem_of_getElem? (i := 103) rfl)) (hw _ (List.mem_of_getElem? (i := 69) rfl)) (fun vm hz => notFace_of_selects (args := #[]) (mv (s := D.s.setVm vm) hz (hw _ (List.mem_of_getElem? (i := 71) rfl)))) (hw _ (List.mem_of_getElem? (i := 71) rfl)) (hw _ (List.mem_of_getElem? (i := 70) rfl)) (hw _ (List.mem_of_getElem? (i := 7) rfl)) (hw _ (List.mem_of_getElem? (i := 72) rfl)) (by decide) S.1 (cChA l Z a0 hw n0 hEW nm nb cs 0 0 h_17 σ_18 S rfl (List.length_pos_iff.mpr hne) cp Hc hcp fm hfm Hf) (lenOf bChA_pd rfl) rfl rfl rfl (by decide) (by decide) (ce' := 9) (sl' := 36) rfl rfl (by decide) (by decide) ?_
    rintro _ h_29 σ_30 m_31 ⟨rfl, rfl⟩
    refine Road.Go.weaken (σ' := σ_18) m_31 (Nat.le_refl _) (Nat.le_refl _) ?_
    refine Road.iload 201 b0_d201 rfl ?_
    refine Road.icmp_ne 203 210 b0_d203 rfl (fun q => absurd q (by rw [Decidable.not_not]; cases cs with | nil => exact absurd rfl hne | cons x t => simpa using hh)) (fun hc203 => ?_)
    refine Road.iconst 206 (1 : Int32) b0_d206 rfl ?_
    refine Road.goto 207 211 b0_d207 rfl ?_
    exact Road.iret 211 1 b0_d211 (t := .boolean) rfl (by simp) rfl (by decide) (by decide) (fun σ' m => rfl)
  rcases hle3 with q | q | q <;> subst q
  · skip
    refine Road.icmp_ne 31 43 b0_d31 rfl (fun q => absurd q (by decide)) (fun hc31 => ?_)
    refine Road.iload 34 b0_d34 rfl ?_
    refine Road.bipush 36 (46 : Int32) b0_d36 rfl ?_
    refine Road.icmp_ne 38 43 b0_d38 rfl (fun hz => ?_) (fun hz => ?_)
    · skip
      refine Road.iload 43 b0_d43 rfl ?_
      refine Road.iconst 45 (2 : Int32) b0_d45 rfl ?_
      refine Road.icmp_ne 46 65 b0_d46 rfl (fun hc46 => ?_) (fun q => absurd q (by decide))
      refine Road.iload 65 b0_d65 rfl ?_
      refine Road.iconst 67 (1 : Int32) b0_d67 rfl ?_
      refine Road.icmp_ne 68 91 b0_d68 rfl (fun q => absurd q (by decide)) (fun hc68 => ?_)
      refine Road.new 71 "java/lang/String" b0_d71 (hw _ (List.mem_of_getElem? (i := 5) rfl)) (hw _ (List.mem_of_getElem? (i := 6) rfl)) (hw _ (List.mem_of_getElem? (i := 7) rfl)) (ce' := 1) (sl' := 4) rfl rfl (by decide) (by decide) ?_
      intro s h_33 σ_34 g_35 K_36 lt_37 m_38 s_39 Es D_40 M_41
      have Cs := D_40 (Or.inr (hw _ (List.mem_of_getElem? (i := 32) rfl))) (ty := .byte) (by decide)
      have Vs := D_40 (Or.inr (hw _ (List.mem_of_getElem? (i := 34) rfl))) (ty := (.array .byte)) (by decide)
      refine Road.dup 74 b0_d74 ?_
      refine Road.iconst 75 (1 : Int32) b0_d75 rfl ?_
      refine Road.newarray 76 .char 1 1 b0_d76 rfl (hw _ (List.mem_of_getElem? (i := 8) rfl)) (by decide) (by decide) (by decide) (ce' := 2) (sl' := 5) rfl rfl (by decide) (by decide) ?_
      intro t h_42 σ_43 g_44 K_45 lt_46 m_47 s_48 At
      have ne_s_t : s ≠ t := Nat.ne_of_lt (Nat.lt_of_lt_of_le Es.lt (Nat.le_of_eq g_44.symm))
      replace Es := Es.keep K_45
      replace Cs := Cs.keep K_45 nin0
      replace Vs := Vs.keep K_45 nin0
      replace s_39 := m_47 _ s_39
      refine Road.dup 78 b0_d78 ?_
      refine Road.iconst 79 (0 : Int32) b0_d79 rfl ?_
      refine Road.iload 80 b0_d80 rfl ?_
      refine Road.castore 82 0 c0 b0_d82 At (by decide) (by simp) (Road.nar_lat lat0) s_48 ?_
      intro h_49 K_50 A_51
      replace Es := Es.keep K_50
      replace Cs := Cs.keep K_50 (ninS ne_s_t nin0)
      replace Vs := Vs.keep K_50 (ninS ne_s_t nin0)
      replace At := A_51
      replace At : Road.Ary Z h_49 t .char (([c0] : List Int32).map .int) := At
      refine Road.callI (B' := bStr1) (a := s) 83 (argsL := [(.ref t)]) (rest := [(.ref s)]) 1 b0_d83 (hw _ (List.mem_of_getElem? (i := 9) rfl)) (hw _ (List.mem_of_getElem? (i := 10) rfl)) (hw _ (List.mem_of_getElem? (i := 7) rfl)) (hw _ (List.mem_of_getElem? (i := 11) rfl)) rfl rfl (by decide) (cStr1 l Z a0 hw n0 hEW s t [c0] h_49 σ_43 Es Cs Vs At (by simp) (by intro c hc; cases List.mem_singleton.mp hc; exact lat0) s_39 cp Hc hcp (by simp)) (lenOf bStr1_pd rfl) rfl rfl rfl (by decide) (by decide) (ce' := 3) (sl' := 9) rfl rfl (by decide) (by decide) ?_
      rintro _ h_52 σ_53 m_54 ⟨rfl, K_55, ds, Ss, Ns⟩
      replace At := At.keep K_55 (ninS (Ne.symm ne_s_t) nin0)
      replace s_39 := m_54 _ s_39
      replace s_48 := m_54 _ s_48
      refine Road.astore 86 #[.val (.int p0), .val (.int p1), .val (.int p2), .val (.int p3), .val (.int p4), .val (.int (1 : Int32)), .val (.int c0), .val (.int c1), .val (.int c2), .val (.ref s), .unset, .unset] b0_d86 rfl ?_
      refine Road.goto 88 149 b0_d88 rfl ?_
      exact Road.Go.weaken (σ' := σ_53) (fun _ q => q) (ce' := 3) (sl' := 11) (by decide) (by decide) (J149 h_52 σ_53 1 s ds [c0] Ss rfl (by simp) (by intro c hc; cases List.mem_singleton.mp hc; exact ok0) (by intro q; simp at q; exact hz q) (by simp) rfl)
    · skip
      refine Road.iconst 41 (1 : Int32) b0_d41 rfl ?_
      exact Road.iret 42 1 b0_d42 (t := .boolean) rfl (by simp) rfl (by decide) (by decide) (fun σ' m => rfl)
  · skip
    refine Road.icmp_ne 31 43 b0_d31 rfl (fun hc31 => ?_) (fun q => absurd q (by decide))
    refine Road.iload 43 b0_d43 rfl ?_
    refine Road.iconst 45 (2 : Int32) b0_d45 rfl ?_
    refine Road.icmp_ne 46 65 b0_d46 rfl (fun q => absurd q (by decide)) (fun hc46 => ?_)
    refine Road.iload 49 b0_d49 rfl ?_
    refine Road.bipush 51 (46 : Int32) b0_d51 rfl ?_
    refine Road.icmp_ne 53 65 b0_d53 rfl (fun hz0 => ?_) (fun hz0 => ?_)
    · skip
      have hz : c0 = 46 → c1 = 46 → False := fun q _ => hz0 q
      refine Road.iload 65 b0_d65 rfl ?_
      refine Road.iconst 67 (1 : Int32) b0_d67 rfl ?_
      refine Road.icmp_ne 68 91 b0_d68 rfl (fun hc68 => ?_) (fun q => absurd q (by decide))
      refine Road.iload 91 b0_d91 rfl ?_
      refine Road.iconst 93 (2 : Int32) b0_d93 rfl ?_
      refine Road.icmp_ne 94 122 b0_d94 rfl (fun q => absurd q (by decide)) (fun hc94 => ?_)
      refine Road.new 97 "java/lang/String" b0_d97 (hw _ (List.mem_of_getElem? (i := 5) rfl)) (hw _ (List.mem_of_getElem? (i := 6) rfl)) (hw _ (List.mem_of_getElem? (i := 7) rfl)) (ce' := 1) (sl' := 4) rfl rfl (by decide) (by decide) ?_
      intro s h_56 σ_57 g_58 K_59 lt_60 m_61 s_62 Es D_63 M_64
      have Cs := D_63 (Or.inr (hw _ (List.mem_of_getElem? (i := 32) rfl))) (ty := .byte) (by decide)
      have Vs := D_63 (Or.inr (hw _ (List.mem_of_getElem? (i := 34) rfl))) (ty := (.array .byte)) (by decide)
      refine Road.dup 100 b0_d100 ?_
      refine Road.iconst 101 (2 : Int32) b0_d101 rfl ?_
      refine Road.newarray 102 .char 2 2 b0_d102 rfl (hw _ (List.mem_of_getElem? (i := 8) rfl)) (by decide) (by decide) (by decide) (ce' := 2) (sl' := 6) rfl rfl (by decide) (by decide) ?_
      intro t h_65 σ_66 g_67 K_68 lt_69 m_70 s_71 At
      have ne_s_t : s ≠ t := Nat.ne_of_lt (Nat.lt_of_lt_of_le Es.lt (Nat.le_of_eq g_67.symm))
      replace Es := Es.keep K_68
      replace Cs := Cs.keep K_68 nin0
      replace Vs := Vs.keep K_68 nin0
      replace s_62 := m_70 _ s_62
      refine Road.dup 104 b0_d104 ?_
      refine Road.iconst 105 (0 : Int32) b0_d105 rfl ?_
      refine Road.iload 106 b0_d106 rfl ?_
      refine Road.castore 108 0 c0 b0_d108 At (by decide) (by simp) (Road.nar_lat lat0) s_71 ?_
      intro h_72 K_73 A_74
      replace Es := Es.keep K_73
      replace Cs := Cs.keep K_73 (ninS ne_s_t nin0)
      replace Vs := Vs.keep K_73 (ninS ne_s_t nin0)
      replace At := A_74
      refine Road.dup 109 b0_d109 ?_
      refine Road.iconst 110 (1 : Int32) b0_d110 rfl ?_
      refine Road.iload 111 b0_d111 rfl ?_
      refine Road.castore 113 1 c1 b0_d113 At (by decide) (by simp) (Road.nar_lat lat1) s_71 ?_
      intro h_75 K_76 A_77
      replace Es := Es.keep K_76
      replace Cs := Cs.keep K_76 (ninS ne_s_t nin0)
      replace Vs := Vs.keep K_76 (ninS ne_s_t nin0)
      replace At := A_77
      replace At : Road.Ary Z h_75 t .char (([c0, c1] : List Int32).map .int) := At
      refine Road.callI (B' := bStr1) (a := s) 114 (argsL := [(.ref t)]) (rest := [(.ref s)]) 1 b0_d114 (hw _ (List.mem_of_getElem? (i := 9) rfl)) (hw _ (List.mem_of_getElem? (i := 10) rfl)) (hw _ (List.mem_of_getElem? (i := 7) rfl)) (hw _ (List.mem_of_getElem? (i := 11) rfl)) rfl rfl (by decide) (cStr1 l Z a0 hw n0 hEW s t [c0, c1] h_75 σ_66 Es Cs Vs At (by simp) (by intro c hc; simp only [List.mem_cons, List.not_mem_nil, or_false] at hc; rcases hc with rfl | rfl; exact lat0; exact lat1) s_62 cp Hc hcp (by simp)) (lenOf bStr1_pd rfl) rfl rfl rfl (by decide) (by decide) (ce' := 3) (sl' := 10) rfl rfl (by decide) (by decide) ?_
      rintro _ h_78 σ_79 m_80 ⟨rfl, K_81, ds, Ss, Ns⟩
      replace At := At.keep K_81 (ninS (Ne.symm ne_s_t) nin0)
      replace s_62 := m_80 _ s_62
      replace s_71 := m_80 _ s_71
      refine Road.astore 117 #[.val (.int p0), .val (.int p1), .val (.int p2), .val (.int p3), .val (.int p4), .val (.int (2 : Int32)), .val (.int c0), .val (.int c1), .val (.int c2), .val (.ref s), .unset, .unset] b0_d117 rfl ?_
      refine Road.goto 119 149 b0_d119 rfl ?_
      exact Road.Go.weaken (σ' := σ_79) (fun _ q => q) (ce' := 3) (sl' := 11) (by decide) (by decide) (J149 h_78 σ_79 2 s ds [c0, c1] Ss rfl (by simp) (by intro c hc; simp only [List.mem_cons, List.not_mem_nil, or_false] at hc; rcases hc with rfl | rfl; exact ok0; exact ok1) (by simp) (by intro q; simp at q; exact hz q.1 q.2) rfl)
    · skip
      refine Road.iload 56 b0_d56 rfl ?_
      refine Road.bipush 58 (46 : Int32) b0_d58 rfl ?_
      refine Road.icmp_ne 60 65 b0_d60 rfl (fun hz1 => ?_) (fun hz1 => ?_)
      · skip
        have hz : c0 = 46 → c1 = 46 → False := fun _ q => hz1 q
        refine Road.iload 65 b0_d65 rfl ?_
        refine Road.iconst 67 (1 : Int32) b0_d67 rfl ?_
        refine Road.icmp_ne 68 91 b0_d68 rfl (fun hc68 => ?_) (fun q => absurd q (by decide))
        refine Road.iload 91 b0_d91 rfl ?_
        refine Road.iconst 93 (2 : Int32) b0_d93 rfl ?_
        refine Road.icmp_ne 94 122 b0_d94 rfl (fun q => absurd q (by decide)) (fun hc94 => ?_)
        refine Road.new 97 "java/lang/String" b0_d97 (hw _ (List.mem_of_getElem? (i := 5) rfl)) (hw _ (List.mem_of_getElem? (i := 6) rfl)) (hw _ (List.mem_of_getElem? (i := 7) rfl)) (ce' := 1) (sl' := 4) rfl rfl (by decide) (by decide) ?_
        intro s h_82 σ_83 g_84 K_85 lt_86 m_87 s_88 Es D_89 M_90
        have Cs := D_89 (Or.inr (hw _ (List.mem_of_getElem? (i := 32) rfl))) (ty := .byte) (by decide)
        have Vs := D_89 (Or.inr (hw _ (List.mem_of_getElem? (i := 34) rfl))) (ty := (.array .byte)) (by decide)
        refine Road.dup 100 b0_d100 ?_
        refine Road.iconst 101 (2 : Int32) b0_d101 rfl ?_
        refine Road.newarray 102 .char 2 2 b0_d102 rfl (hw _ (List.mem_of_getElem? (i := 8) rfl)) (by decide) (by decide) (by decide) (ce' := 2) (sl' := 6) rfl rfl (by decide) (by decide) ?_
        intro t h_91 σ_92 g_93 K_94 lt_95 m_96 s_97 At
        have ne_s_t : s ≠ t := Nat.ne_of_lt (Nat.lt_of_lt_of_le Es.lt (Nat.le_of_eq g_93.symm))
        replace Es := Es.keep K_94
        replace Cs := Cs.keep K_94 nin0
        replace Vs := Vs.keep K_94 nin0
        replace s_88 := m_96 _ s_88
        refine Road.dup 104 b0_d104 ?_
        refine Road.iconst 105 (0 : Int32) b0_d105 rfl ?_
        refine Road.iload 106 b0_d106 rfl ?_
        refine Road.castore 108 0 c0 b0_d108 At (by decide) (by simp) (Road.nar_lat lat0) s_97 ?_
        intro h_98 K_99 A_100
        replace Es := Es.keep K_99
        replace Cs := Cs.keep K_99 (ninS ne_s_t nin0)
        replace Vs := Vs.keep K_99 (ninS ne_s_t nin0)
        replace At := A_100
        refine Road.dup 109 b0_d109 ?_
        refine Road.iconst 110 (1 : Int32) b0_d110 rfl ?_
        refine Road.iload 111 b0_d111 rfl ?_
        refine Road.castore 113 1 c1 b0_d113 At (by decide) (by simp) (Road.nar_lat lat1) s_97 ?_
        intro h_101 K_102 A_103
        replace Es := Es.keep K_102
        replace Cs := Cs.keep K_102 (ninS ne_s_t nin0)
        replace Vs := Vs.keep K_102 (ninS ne_s_t nin0)
        replace At := A_103
        replace At : Road.Ary Z h_101 t .char (([c0, c1] : List Int32).map .int) := At
        refine Road.callI (B' := bStr1) (a := s) 114 (argsL := [(.ref t)]) (rest := [(.ref s)]) 1 b0_d114 (hw _ (List.mem_of_getElem? (i := 9) rfl)) (hw _ (List.mem_of_getElem? (i := 10) rfl)) (hw _ (List.mem_of_getElem? (i := 7) rfl)) (hw _ (List.mem_of_getElem? (i := 11) rfl)) rfl rfl (by decide) (cStr1 l Z a0 hw n0 hEW s t [c0, c1] h_101 σ_92 Es Cs Vs At (by simp) (by intro c hc; simp only [List.mem_cons, List.not_mem_nil, or_false] at hc; rcases hc with rfl | rfl; exact lat0; exact lat1) s_88 cp Hc hcp (by simp)) (lenOf bStr1_pd rfl) rfl rfl rfl (by decide) (by decide) (ce' := 3) (sl' := 10) rfl rfl (by decide) (by decide) ?_
        rintro _ h_104 σ_105 m_106 ⟨rfl, K_107, ds, Ss, Ns⟩
        replace At := At.keep K_107 (ninS (Ne.symm ne_s_t) nin0)
        replace s_88 := m_106 _ s_88
        replace s_97 := m_106 _ s_97
        refine Road.astore 117 #[.val (.int p0), .val (.int p1), .val (.int p2), .val (.int p3), .val (.int p4), .val (.int (2 : Int32)), .val (.int c0), .val (.int c1), .val (.int c2), .val (.ref s), .unset, .unset] b0_d117 rfl ?_
        refine Road.goto 119 149 b0_d119 rfl ?_
        exact Road.Go.weaken (σ' := σ_105) (fun _ q => q) (ce' := 3) (sl' := 11) (by decide) (by decide) (J149 h_104 σ_105 2 s ds [c0, c1] Ss rfl (by simp) (by intro c hc; simp only [List.mem_cons, List.not_mem_nil, or_false] at hc; rcases hc with rfl | rfl; exact ok0; exact ok1) (by simp) (by intro q; simp at q; exact hz q.1 q.2) rfl)
      · skip
        refine Road.iconst 63 (1 : Int32) b0_d63 rfl ?_
        exact Road.iret 64 1 b0_d64 (t := .boolean) rfl (by simp) rfl (by decide) (by decide) (fun σ' m => rfl)
  · skip
    refine Road.icmp_ne 31 43 b0_d31 rfl (fun hc31 => ?_) (fun q => absurd q (by decide))
    refine Road.iload 43 b0_d43 rfl ?_
    refine Road.iconst 45 (2 : Int32) b0_d45 rfl ?_
    refine Road.icmp_ne 46 65 b0_d46 rfl (fun hc46 => ?_) (fun q => absurd q (by decide))
    refine Road.iload 65 b0_d65 rfl ?_
    refine Road.iconst 67 (1 : Int32) b0_d67 rfl ?_
    refine Road.icmp_ne 68 91 b0_d68 rfl (fun hc68 => ?_) (fun q => absurd q (by decide))
    refine Road.iload 91 b0_d91 rfl ?_
    refine Road.iconst 93 (2 : Int32) b0_d93 rfl ?_
    refine Road.icmp_ne 94 122 b0_d94 rfl (fun hc94 => ?_) (fun q => absurd q (by decide))
    refine Road.new 122 "java/lang/String" b0_d122 (hw _ (List.mem_of_getElem? (i := 5) rfl)) (hw _ (List.mem_of_getElem? (i := 6) rfl)) (hw _ (List.mem_of_getElem? (i := 7) rfl)) (ce' := 1) (sl' := 4) rfl rfl (by decide) (by decide) ?_
    intro s h_108 σ_109 g_110 K_111 lt_112 m_113 s_114 Es D_115 M_116
    have Cs := D_115 (Or.inr (hw _ (List.mem_of_getElem? (i := 32) rfl))) (ty := .byte) (by decide)
    have Vs := D_115 (Or.inr (hw _ (List.mem_of_getElem? (i := 34) rfl))) (ty := (.array .byte)) (by decide)
    refine Road.dup 125 b0_d125 ?_
    refine Road.iconst 126 (3 : Int32) b0_d126 rfl ?_
    refine Road.newarray 127 .char 3 3 b0_d127 rfl (hw _ (List.mem_of_getElem? (i := 8) rfl)) (by decide) (by decide) (by decide) (ce' := 2) (sl' := 7) rfl rfl (by decide) (by decide) ?_
    intro t h_117 σ_118 g_119 K_120 lt_121 m_122 s_123 At
    have ne_s_t : s ≠ t := Nat.ne_of_lt (Nat.lt_of_lt_of_le Es.lt (Nat.le_of_eq g_119.symm))
    replace Es := Es.keep K_120
    replace Cs := Cs.keep K_120 nin0
    replace Vs := Vs.keep K_120 nin0
    replace s_114 := m_122 _ s_114
    refine Road.dup 129 b0_d129 ?_
    refine Road.iconst 130 (0 : Int32) b0_d130 rfl ?_
    refine Road.iload 131 b0_d131 rfl ?_
    refine Road.castore 133 0 c0 b0_d133 At (by decide) (by simp) (Road.nar_lat lat0) s_123 ?_
    intro h_124 K_125 A_126
    replace Es := Es.keep K_125
    replace Cs := Cs.keep K_125 (ninS ne_s_t nin0)
    replace Vs := Vs.keep K_125 (ninS ne_s_t nin0)
    replace At := A_126
    refine Road.dup 134 b0_d134 ?_
    refine Road.iconst 135 (1 : Int32) b0_d135 rfl ?_
    refine Road.iload 136 b0_d136 rfl ?_
    refine Road.castore 138 1 c1 b0_d138 At (by decide) (by simp) (Road.nar_lat lat1) s_123 ?_
    intro h_127 K_128 A_129
    replace Es := Es.keep K_128
    replace Cs := Cs.keep K_128 (ninS ne_s_t nin0)
    replace Vs := Vs.keep K_128 (ninS ne_s_t nin0)
    replace At := A_129
    refine Road.dup 139 b0_d139 ?_
    refine Road.iconst 140 (2 : Int32) b0_d140 rfl ?_
    refine Road.iload 141 b0_d141 rfl ?_
    refine Road.castore 143 2 c2 b0_d143 At (by decide) (by simp) (Road.nar_lat lat2) s_123 ?_
    intro h_130 K_131 A_132
    replace Es := Es.keep K_131
    replace Cs := Cs.keep K_131 (ninS ne_s_t nin0)
    replace Vs := Vs.keep K_131 (ninS ne_s_t nin0)
    replace At := A_132
    replace At : Road.Ary Z h_130 t .char (([c0, c1, c2] : List Int32).map .int) := At
    refine Road.callI (B' := bStr1) (a := s) 144 (argsL := [(.ref t)]) (rest := [(.ref s)]) 1 b0_d144 (hw _ (List.mem_of_getElem? (i := 9) rfl)) (hw _ (List.mem_of_getElem? (i := 10) rfl)) (hw _ (List.mem_of_getElem? (i := 7) rfl)) (hw _ (List.mem_of_getElem? (i := 11) rfl)) rfl rfl (by decide) (cStr1 l Z a0 hw n0 hEW s t [c0, c1, c2] h_130 σ_118 Es Cs Vs At (by simp) (by intro c hc; simp only [List.mem_cons, List.not_mem_nil, or_false] at hc; rcases hc with rfl | rfl | rfl; exact lat0; exact lat1; exact lat2) s_114 cp Hc hcp (by simp)) (lenOf bStr1_pd rfl) rfl rfl rfl (by decide) (by decide) (ce' := 3) (sl' := 11) rfl rfl (by decide) (by decide) ?_
    rintro _ h_133 σ_134 m_135 ⟨rfl, K_136, ds, Ss, Ns⟩
    replace At := At.keep K_136 (ninS (Ne.symm ne_s_t) nin0)
    replace s_114 := m_135 _ s_114
    replace s_123 := m_135 _ s_123
    refine Road.astore 147 #[.val (.int p0), .val (.int p1), .val (.int p2), .val (.int p3), .val (.int p4), .val (.int (3 : Int32)), .val (.int c0), .val (.int c1), .val (.int c2), .val (.ref s), .unset, .unset] b0_d147 rfl ?_
    exact Road.Go.weaken (σ' := σ_134) (fun _ q => q) (ce' := 3) (sl' := 11) (by decide) (by decide) (J149 h_133 σ_134 3 s ds [c0, c1, c2] Ss rfl (by simp) (by intro c hc; simp only [List.mem_cons, List.not_mem_nil, or_false] at hc; rcases hc with rfl | rfl | rfl; exact ok0; exact ok1; exact ok2) (by simp) (by simp) rfl)
set_option maxHeartbeats 40000000 in
theorem comes_1 {Post : Tables → Env → Array Value → State → Outcome → State → Prop} (hpost : ∀ tb e args s v u, (limb_1_1.after args s (.returned v) u = true ∧ limb_1_2.after args s (.returned v) u = true ∧ True) → ReturnedEndW s (.returned v) u (Jvm.fieldLocs frame_1_writes args s ++ Jvm.arrayLocs frame_1_arrays args s ++ Jvm.staticLocs frame_1_statics s) 24 2176 → Post tb e args s (.returned v) u) :
    ArmFor flags0 classFile x code maxLocals ret World_1 tables_1 room_1 Calls_1 rest_1 Pre_1 Post := by
  intro l hfl _ _ p e ha hc hk s m args below hf hA hF happ hP
  obtain ⟨hcalls, hrest, hpre⟩ := hP
  obtain ⟨-, -, -, hnamed, -, -, -, hat⟩ := (Spec.applies_iff hf).mp happ
  obtain ⟨hg, hn⟩ := and_e (Cond.before_iff.mp (show (Jvm.Cond.and given_1 narrow_1).before args s = true from hpre))
  obtain ⟨h1, hr1⟩ := and_e hg
  obtain ⟨g0, hr2⟩ := and_e hr1
  obtain ⟨g1, hr3⟩ := and_e hr2
  obtain ⟨g2, hr4⟩ := and_e hr3
  obtain ⟨g3, hr5⟩ := and_e hr4
  have g4 := hr5
  obtain ⟨w0, w1, w2, w3, w4, rfl⟩ : ∃ w0 w1 w2 w3 w4 : Value, args = #[w0, w1, w2, w3, w4] := by
    have hs : args.size = 5 := by simpa [Cond.value, given_1] using h1
    obtain ⟨L⟩ := args
    match L, hs with
    | [w0, w1, w2, w3, w4], _ => exact ⟨w0, w1, w2, w3, w4, rfl⟩
  obtain ⟨p0, ev0⟩ := is_v g0
  obtain rfl : w0 = (.int p0) := Option.some.inj ev0
  obtain ⟨p1, ev1⟩ := is_v g1
  obtain rfl : w1 = (.int p1) := Option.some.inj ev1
  obtain ⟨p2, ev2⟩ := is_v g2
  obtain rfl : w2 = (.int p2) := Option.some.inj ev2
  obtain ⟨p3, ev3⟩ := is_v g3
  obtain rfl : w3 = (.int p3) := Option.some.inj ev3
  obtain ⟨p4, ev4⟩ := is_v g4
  obtain rfl : w4 = (.int p4) := Option.some.inj ev4
  have hw := fun d (hd : d ∈ tables_1) => atoms_spec (ws := Jvm.Cond.code x code maxLocals ret :: tables_1) hat d (List.mem_cons_of_mem _ hd)
  obtain ⟨hsets, hown0⟩ := atoms_of _ (rest_1_c_eq ▸ (show rest_1_c.before _ s = true from hrest))
  have hfit : Fit s := fun {y c} hc i hi => by
    obtain ⟨ha, rfl⟩ := Array.getElem?_eq_some_iff.mp hc
    have q := List.all_eq_true.mp ((Array.all_eq_true_iff_forall_mem.mp hF) _ (Array.getElem_mem ha)) i (List.mem_range.mpr hi)
    simpa [Array.getElem?_eq_getElem hi] using q
  have hcw := hsets _ (List.mem_of_getElem? (i := 2) rfl)
  have n5 := not_v (Cond.before_iff.mp hcw)
  obtain ⟨cp, e10⟩ := is_v (Cond.before_iff.mp (hsets _ (List.mem_of_getElem? (i := 1) rfl)))
  have Hc : Sta s s.heap "java/lang/String" "COMPACT_STRINGS" "Z" (.int cp) := Sta.start e10 (Or.inl (hsets _ (List.mem_of_getElem? (i := 0) rfl)))
  have hcp : ¬ (cp = (0 : Int32)) := gotF (Cond.eq_ints e10 (Term.int_eval (0))) n5
  have hEW : EW s _ consts_1 := (EW.cons (hw _ (List.mem_of_getElem? (i := 89) rfl)) (by decide) (EW.cons (hw _ (List.mem_of_getElem? (i := 100) rfl)) (by decide) EW.nil))
  have hCH : CHv s consts_1 s.vm s.heap := CHv.start hEW (fun q hq => hcalls.1 q hq) hcw (hw _ (List.mem_of_getElem? (i := 24) rfl)) (hw _ (List.mem_of_getElem? (i := 6) rfl))
  obtain ⟨fm, efm, hfm⟩ := isR_v (Cond.before_iff.mp (hsets _ (List.mem_of_getElem? (i := 8) rfl)))
  have Hf : Sta s s.heap "jdk/internal/util/Preconditions" "SIOOBE_FORMATTER" "Ljava/util/function/BiFunction;" fm := Sta.start efm (Or.inl (hsets _ (List.mem_of_getElem? (i := 7) rfl)))
  obtain ⟨n, o, z1, z2, z3, v, L, rfl, hQ, N, -, -, hE⟩ := law l s _ hw s.heap.size hEW p0 p1 p2 p3 p4 s.heap (fun _ => False) cp Hc hcp fm hfm Hf tables_1 p e ha hc hk s m _ below hf ((Spec.applies_iff_loose hf).mp happ).1 ⟨rfl, State.Warmed39.refl s, rfl, hCH, Old.start s, fun _ q => q.elim⟩ (fun q => nomatch q)
  have hQ : v = some (.int 1) := hQ
  subst hQ
  refine ⟨n, _, z1, z2, z3, hpost _ _ _ _ _ _ ⟨Cond.after_iff.mpr rfl, Cond.after_iff.mpr (eq_i res_at (Term.int_eval (1)) rfl), trivial⟩ ⟨hE.1, hE.2.1, hE.2.2.1, (hE.2.2.2.sift fun y hy => Or.inr (N y hy)).mono (by decide) (by decide)⟩⟩
theorem main_1_1 : Claimed_1_1 := comes_1 fun _ _ _ _ _ _ h hF => ⟨h.1, hF⟩
theorem main_1_2 : Claimed_1_2 := comes_1 fun _ _ _ _ _ _ h hF => ⟨h.2.1, hF⟩
end Jvm.Pilot.@@N@@
namespace Jvm.Pilot.@@N@@
open Jvm Jvm.ClassFile Sem Op Lib Jvm.Free Jvm.Stand Jvm.Pilot.@@N@@.Jvm.D
/-! MADE BY PROGRAM (witnessworld.py) out of the Statement's table words and the real class files: 20 classes; the members and pool entries that the words name. The judged class is class 1, her method 2. -/
namespace start1
open Jvm.ClassFile
def u (s : String) : CpInfo := .utf8 (stringToUtf16 s)
/-- a pool by its gaps: so many unusable entries, then the entry; so many at the end -/
def gap : Nat → List CpInfo → List CpInfo
  | 0, r => r
  | n + 1, r => .unusable :: gap n r
def poolList (es : List (Nat × CpInfo)) (last : Nat) : List CpInfo := es.foldr (fun e r => gap e.1 (e.2 :: r)) (gap last [])
def pool (es : List (Nat × CpInfo)) (last : Nat) : Array CpInfo := ⟨poolList es last⟩
def fileOf (pool : Array CpInfo) (this : Nat) (attrs : Array Attribute := #[]) (ms : Array MethodInfo := #[]) (fl : Nat := 33) (sup : Nat := 0) (ifs : Array Nat := #[]) (fds : Array FieldInfo := #[]) : ClassFile where
  minorVersion := 0
  majorVersion := 65
  constantPool := pool
  accessFlags := fl
  thisClass := this
  superClass := sup
  interfaces := ifs
  fields := fds
  methods := ms
  attributes := attrs
def plain (name : String) (sup : Option ClassId) : Class where
  name := name
  kind := .ordinary
  loader := none
  accessFlags := 33
  super := sup
  interfaces := #[]
  cf := none
  fields := #[]
  methods := #[]
  instanceTypes := #[]
  staticTypes := #[]
  resolved := #[]
  callSites := []
  init := .initialized
  statics := none
  mirror := none

def pool0 : Array CpInfo := pool [(5, u "<init>"), (0, u "()V"), (1, .class_ 10), (1, u "java/lang/Object")] 113

def k0c0 : Code := { maxStack := 0, maxLocals := 1, code := object_method_1_code, exceptionTable := #[], attributes := #[] }
def k0m0 : Method := { name := "<init>", desc := "()V", sig := { parameters := [], returnType := none }, accessFlags := 1, code := some k0c0 }
/-- java/lang/Object -/
def k0 : Class := { plain "java/lang/Object" none with
  accessFlags := 33
  interfaces := #[]
  cf := some (fileOf pool0 8 #[] #[{ accessFlags := 1, nameIndex := 5, descriptorIndex := 6, attributes := #[] }] 33 0 #[] #[])
  fields := #[]
  methods := #[k0m0]
  instanceTypes := #[]
  staticTypes := #[]
  resolved := Array.replicate 124 none
  statics := none }

def pool1 : Array CpInfo := pool [(2, .class_ 4), (1, u "java/lang/Object"), (0, u "<init>"), (0, u "()V"), (0, .integer 2147483647), (0, .methodref 9 10), (0, .class_ 11), (0, .nameAndType 12 13), (0, u "com/example/orderly_tasks/orderlytasks/NamesCheckPinLaw"), (0, u "allowed"), (0, u "(I)C"), (0, .class_ 15), (0, u "java/lang/String"), (0, .methodref 14 17), (0, .nameAndType 5 18), (0, u "([C)V"), (0, .methodref 14 20), (0, .nameAndType 21 22), (0, u "valueOf"), (0, u "(C)Ljava/lang/String;"), (0, .methodref 24 25), (0, .class_ 26), (0, .nameAndType 27 28), (0, u "com/example/orderly_tasks/orderlytasks/Names"), (0, u "check"), (0, u "(Ljava/lang/String;Ljava/lang/String;)Ljava/lang/String;"), (0, .methodref 14 30), (0, .nameAndType 31 32), (0, u "equals"), (0, u "(Ljava/lang/Object;)Z"), (0, .methodref 14 34), (0, .nameAndType 35 36), (0, u "length"), (0, u "()I"), (0, .methodref 14 38), (0, .nameAndType 39 13), (0, u "charAt"), (3, u "law"), (0, u "(IIIII)Z")] 2

def k1m0 : Method := { name := "<init>", desc := "()V", sig := { parameters := [], returnType := none }, accessFlags := 2, code := none }
def k1c1 : Code := { maxStack := 3, maxLocals := 2, code := method_2_code, exceptionTable := #[], attributes := #[] }
def k1m1 : Method := { name := "allowed", desc := "(I)C", sig := { parameters := [.int], returnType := some .char }, accessFlags := 10, code := some k1c1 }
def k1c2 : Code := { maxStack := 6, maxLocals := 12, code := code, exceptionTable := #[], attributes := #[] }
def k1m2 : Method := { name := "law", desc := "(IIIII)Z", sig := { parameters := [.int, .int, .int, .int, .int], returnType := some .boolean }, accessFlags := 9, code := some k1c2 }
/-- com/example/orderly_tasks/orderlytasks/NamesCheckPinLaw -/
def k1 : Class := { plain "com/example/orderly_tasks/orderlytasks/NamesCheckPinLaw" (some 0) with
  accessFlags := 49
  interfaces := #[]
  cf := some (fileOf pool1 9 #[] #[{ accessFlags := 2, nameIndex := 5, descriptorIndex := 6, attributes := #[] }, { accessFlags := 10, nameIndex := 12, descriptorIndex := 13, attributes := #[] }, { accessFlags := 9, nameIndex := 43, descriptorIndex := 44, attributes := #[] }] 49 2 #[] #[])
  fields := #[]
  methods := #[k1m0, k1m1, k1m2]
  instanceTypes := #[]
  staticTypes := #[]
  resolved := Array.replicate 47 none
  statics := none }

def pool2 : Array CpInfo := pool [(1, .class_ 2), (0, u "java/io/Serializable"), (0, .class_ 4), (0, u "java/lang/Object")] 2

/-- java/io/Serializable -/
def k2 : Class := { plain "java/io/Serializable" (some 0) with
  accessFlags := 1537
  interfaces := #[]
  cf := some (fileOf pool2 1 #[] #[] 1537 3 #[] #[])
  fields := #[]
  methods := #[]
  instanceTypes := #[]
  staticTypes := #[]
  resolved := Array.replicate 7 none
  statics := none }

def pool3 : Array CpInfo := pool [(1, .class_ 2), (0, u "java/lang/Comparable"), (0, .class_ 4), (0, u "java/lang/Object")] 7

/-- java/lang/Comparable -/
def k3 : Class := { plain "java/lang/Comparable" (some 0) with
  accessFlags := 1537
  interfaces := #[]
  cf := some (fileOf pool3 1 #[] #[] 1537 3 #[] #[])
  fields := #[]
  methods := #[]
  instanceTypes := #[]
  staticTypes := #[]
  resolved := Array.replicate 12 none
  statics := none }

def pool4 : Array CpInfo := pool [(2, .class_ 4), (1, u "java/lang/CharSequence"), (42, .class_ 48), (0, u "java/lang/CharSequence$1CodePointIterator"), (10, .class_ 60), (0, u "java/lang/CharSequence$1CharIterator"), (5, .class_ 67), (0, u "java/lang/Object")] 63

/-- java/lang/CharSequence -/
def k4 : Class := { plain "java/lang/CharSequence" (some 0) with
  accessFlags := 1537
  interfaces := #[]
  cf := some (fileOf pool4 2 #[.nestMembers #[47, 59]] #[] 1537 66 #[] #[])
  fields := #[]
  methods := #[]
  instanceTypes := #[]
  staticTypes := #[]
  resolved := Array.replicate 131 none
  statics := none }

def pool5 : Array CpInfo := pool [(1, .class_ 2), (0, u "java/lang/constant/Constable"), (0, .class_ 4), (0, u "java/lang/Object")] 6

/-- java/lang/constant/Constable -/
def k5 : Class := { plain "java/lang/constant/Constable" (some 0) with
  accessFlags := 1537
  interfaces := #[]
  cf := some (fileOf pool5 1 #[] #[] 1537 3 #[] #[])
  fields := #[]
  methods := #[]
  instanceTypes := #[]
  staticTypes := #[]
  resolved := Array.replicate 11 none
  statics := none }

def pool6 : Array CpInfo := pool [(1, .class_ 2), (0, u "java/lang/constant/ConstantDesc"), (0, .class_ 4), (0, u "java/lang/Object")] 32

/-- java/lang/constant/ConstantDesc -/
def k6 : Class := { plain "java/lang/constant/ConstantDesc" (some 0) with
  accessFlags := 1537
  interfaces := #[]
  cf := some (fileOf pool6 1 #[] #[] 1537 3 #[] #[])
  fields := #[]
  methods := #[]
  instanceTypes := #[]
  staticTypes := #[]
  resolved := Array.replicate 37 none
  statics := none }

def pool7 : Array CpInfo := pool [(1, .methodref 2 3), (0, .class_ 4), (0, .nameAndType 5 6), (0, u "java/lang/Object"), (0, u "<init>"), (0, u "()V"), (2, .fieldref 10 11), (0, .class_ 12), (0, .nameAndType 13 14), (0, u "java/lang/String"), (0, u "value"), (0, u "[B"), (0, .fieldref 10 16), (0, .nameAndType 17 18), (0, u "coder"), (0, u "B"), (2, u "hash"), (0, u "I"), (2, u "hashIsZero"), (0, u "Z"), (0, .methodref 10 28), (0, .nameAndType 5 29), (0, u "([CIILjava/lang/Void;)V"), (8, .fieldref 10 39), (0, .nameAndType 40 26), (0, u "COMPACT_STRINGS"), (1, .class_ 44), (1, u "java/lang/StringUTF16"), (0, u "compress"), (1, .methodref 42 48), (0, .nameAndType 49 50), (0, u "coderFromArrayLen"), (0, u "([BI)B"), (2, u "toBytes"), (53, .class_ 109), (1, u "java/lang/StringLatin1"), (32, u "()Z"), (34, .methodref 42 178), (0, .nameAndType 45 179), (0, u "([CII)[B"), (29, .methodref 10 210), (0, .nameAndType 5 211), (0, u "([BB)V"), (122, u "()I"), (0, .methodref 10 336), (0, .nameAndType 17 337), (0, u "()B"), (25, u "([BI)C"), (5, u "(C)Z"), (21, u "(II)V"), (35, u "(I)C"), (64, .methodref 10 493), (0, .nameAndType 494 142), (0, u "isLatin1"), (0, .methodref 107 496), (0, .nameAndType 497 363), (0, u "charAt"), (3, u "checkIndex"), (5, u "length"), (33, .methodref 107 542), (0, .nameAndType 543 544), (0, u "equals"), (0, u "([B[B)Z"), (28, u "(Ljava/lang/Object;)Z"), (1, .class_ 576), (0, u "java/lang/CharSequence"), (22, u "CASE_INSENSITIVE_ORDER"), (0, u "Ljava/util/Comparator;"), (91, u "isEmpty"), (89, u "valueOf"), (0, u "(C)Ljava/lang/String;"), (226, u "([C)V"), (4, .methodref 107 1016), (0, .nameAndType 1017 369), (0, u "canEncode"), (0, .methodref 107 1019), (0, .nameAndType 53 1020), (0, u "(C)[B"), (32, .fieldref 1054 1055), (0, .class_ 1056), (0, .nameAndType 1057 1058), (0, u "jdk/internal/util/Preconditions"), (0, u "SIOOBE_FORMATTER"), (0, u "Ljava/util/function/BiFunction;"), (0, .methodref 1054 1060), (0, .nameAndType 501 1061), (0, u "(IILjava/util/function/BiFunction;)I"), (39, u "serialPersistentFields"), (0, u "[Ljava/io/ObjectStreamField;"), (0, .class_ 1104), (0, u "java/lang/String$CaseInsensitiveComparator"), (1, .class_ 1107), (0, u "java/io/Serializable"), (0, .class_ 1109), (0, u "java/lang/Comparable"), (0, .class_ 1111), (0, u "java/lang/constant/Constable"), (0, .class_ 1113), (0, u "java/lang/constant/ConstantDesc"), (2, u "serialVersionUID"), (0, u "J"), (3, u "REPL"), (0, u "C"), (2, u "LATIN1"), (1, u "UTF16")] 323

def k7m0 : Method := { name := "<init>", desc := "()V", sig := { parameters := [], returnType := none }, accessFlags := 1, code := none }
def k7c1 : Code := { maxStack := 5, maxLocals := 2, code := jdk_42_method_3_code, exceptionTable := #[], attributes := #[] }
def k7m1 : Method := { name := "<init>", desc := "([C)V", sig := { parameters := [(.array .char)], returnType := none }, accessFlags := 1, code := some k7c1 }
def k7c2 : Code := { maxStack := 2, maxLocals := 1, code := jdk_42_method_54_code, exceptionTable := #[], attributes := #[] }
def k7m2 : Method := { name := "length", desc := "()I", sig := { parameters := [], returnType := some .int }, accessFlags := 1, code := some k7c2 }
def k7c3 : Code := { maxStack := 1, maxLocals := 1, code := jdk_42_method_55_code, exceptionTable := #[], attributes := #[] }
def k7m3 : Method := { name := "isEmpty", desc := "()Z", sig := { parameters := [], returnType := some .boolean }, accessFlags := 1, code := some k7c3 }
def k7c4 : Code := { maxStack := 2, maxLocals := 2, code := jdk_42_method_56_code, exceptionTable := #[], attributes := #[] }
def k7m4 : Method := { name := "charAt", desc := "(I)C", sig := { parameters := [.int], returnType := some .char }, accessFlags := 1, code := some k7c4 }
def k7c5 : Code := { maxStack := 2, maxLocals := 3, code := jdk_42_method_66_code, exceptionTable := #[], attributes := #[] }
def k7m5 : Method := { name := "equals", desc := "(Ljava/lang/Object;)Z", sig := { parameters := [(.object "java/lang/Object")], returnType := some .boolean }, accessFlags := 1, code := some k7c5 }
def k7c6 : Code := { maxStack := 4, maxLocals := 1, code := jdk_42_method_139_code, exceptionTable := #[], attributes := #[] }
def k7m6 : Method := { name := "valueOf", desc := "(C)Ljava/lang/String;", sig := { parameters := [.char], returnType := some (.object "java/lang/String") }, accessFlags := 9, code := some k7c6 }
def k7c7 : Code := { maxStack := 4, maxLocals := 6, code := jdk_42_method_149_code, exceptionTable := #[], attributes := #[] }
def k7m7 : Method := { name := "<init>", desc := "([CIILjava/lang/Void;)V", sig := { parameters := [(.array .char), .int, .int, (.object "java/lang/Void")], returnType := none }, accessFlags := 2, code := some k7c7 }
def k7c8 : Code := { maxStack := 2, maxLocals := 3, code := jdk_42_method_151_code, exceptionTable := #[], attributes := #[] }
def k7m8 : Method := { name := "<init>", desc := "([BB)V", sig := { parameters := [(.array .byte), .byte], returnType := none }, accessFlags := 0, code := some k7c8 }
def k7c9 : Code := { maxStack := 1, maxLocals := 1, code := jdk_42_method_152_code, exceptionTable := #[], attributes := #[] }
def k7m9 : Method := { name := "coder", desc := "()B", sig := { parameters := [], returnType := some .byte }, accessFlags := 0, code := some k7c9 }
def k7c10 : Code := { maxStack := 1, maxLocals := 1, code := jdk_42_method_154_code, exceptionTable := #[], attributes := #[] }
def k7m10 : Method := { name := "isLatin1", desc := "()Z", sig := { parameters := [], returnType := some .boolean }, accessFlags := 0, code := some k7c10 }
def k7c11 : Code := { maxStack := 3, maxLocals := 2, code := jdk_42_method_155_code, exceptionTable := #[], attributes := #[] }
def k7m11 : Method := { name := "checkIndex", desc := "(II)V", sig := { parameters := [.int, .int], returnType := none }, accessFlags := 8, code := some k7c11 }
/-- java/lang/String -/
def k7 : Class := { plain "java/lang/String" (some 0) with
  accessFlags := 49
  interfaces := #[2, 3, 4, 5, 6]
  cf := some (fileOf pool7 10 #[.nestMembers #[1103]] #[{ accessFlags := 1, nameIndex := 5, descriptorIndex := 6, attributes := #[] }, { accessFlags := 1, nameIndex := 5, descriptorIndex := 1010, attributes := #[] }, { accessFlags := 1, nameIndex := 507, descriptorIndex := 334, attributes := #[] }, { accessFlags := 1, nameIndex := 692, descriptorIndex := 142, attributes := #[] }, { accessFlags := 1, nameIndex := 497, descriptorIndex := 427, attributes := #[] }, { accessFlags := 1, nameIndex := 543, descriptorIndex := 573, attributes := #[] }, { accessFlags := 9, nameIndex := 782, descriptorIndex := 783, attributes := #[] }, { accessFlags := 2, nameIndex := 5, descriptorIndex := 29, attributes := #[] }, { accessFlags := 0, nameIndex := 5, descriptorIndex := 211, attributes := #[] }, { accessFlags := 0, nameIndex := 17, descriptorIndex := 337, attributes := #[] }, { accessFlags := 0, nameIndex := 494, descriptorIndex := 142, attributes := #[] }, { accessFlags := 8, nameIndex := 501, descriptorIndex := 391, attributes := #[] }] 49 2 #[1106, 1108, 575, 1110, 1112] #[{ accessFlags := 18, nameIndex := 13, descriptorIndex := 14, attributes := #[] }, { accessFlags := 18, nameIndex := 17, descriptorIndex := 18, attributes := #[] }, { accessFlags := 2, nameIndex := 21, descriptorIndex := 22, attributes := #[] }, { accessFlags := 2, nameIndex := 25, descriptorIndex := 26, attributes := #[] }, { accessFlags := 26, nameIndex := 1116, descriptorIndex := 1117, attributes := #[] }, { accessFlags := 24, nameIndex := 40, descriptorIndex := 26, attributes := #[] }, { accessFlags := 26, nameIndex := 1101, descriptorIndex := 1102, attributes := #[] }, { accessFlags := 26, nameIndex := 1121, descriptorIndex := 1122, attributes := #[] }, { accessFlags := 25, nameIndex := 599, descriptorIndex := 600, attributes := #[] }, { accessFlags := 24, nameIndex := 1125, descriptorIndex := 18, attributes := #[] }, { accessFlags := 24, nameIndex := 1127, descriptorIndex := 18, attributes := #[] }])
  fields := #[{ name := "value", type := (.array .byte), accessFlags := 18, slot := 0, constantValue := 0 }, { name := "coder", type := .byte, accessFlags := 18, slot := 1, constantValue := 0 }, { name := "hash", type := .int, accessFlags := 2, slot := 2, constantValue := 0 }, { name := "hashIsZero", type := .boolean, accessFlags := 2, slot := 3, constantValue := 0 }, { name := "serialVersionUID", type := .long, accessFlags := 26, slot := 0, constantValue := 0 }, { name := "COMPACT_STRINGS", type := .boolean, accessFlags := 24, slot := 1, constantValue := 0 }, { name := "serialPersistentFields", type := (.array (.object "java/io/ObjectStreamField")), accessFlags := 26, slot := 2, constantValue := 0 }, { name := "REPL", type := .char, accessFlags := 26, slot := 3, constantValue := 0 }, { name := "CASE_INSENSITIVE_ORDER", type := (.object "java/util/Comparator"), accessFlags := 25, slot := 4, constantValue := 0 }, { name := "LATIN1", type := .byte, accessFlags := 24, slot := 5, constantValue := 0 }, { name := "UTF16", type := .byte, accessFlags := 24, slot := 6, constantValue := 0 }]
  methods := #[k7m0, k7m1, k7m2, k7m3, k7m4, k7m5, k7m6, k7m7, k7m8, k7m9, k7m10, k7m11]
  instanceTypes := #[(.array .byte), .byte, .int, .boolean]
  staticTypes := #[.long, .boolean, (.array (.object "java/io/ObjectStreamField")), .char, (.object "java/util/Comparator"), .byte, .byte]
  resolved := Array.replicate 1451 none
  statics := some 0 }

def pool8 : Array CpInfo := pool [(6, .class_ 8), (1, u "java/lang/Object"), (0, u "<init>"), (0, u "()V"), (1, .class_ 14), (1, u "java/lang/StringUTF16"), (31, u "$assertionsDisabled"), (0, u "Z"), (13, u "HI_BYTE_SHIFT"), (0, u "I"), (2, u "LO_BYTE_SHIFT"), (49, .methodref 12 116), (0, .nameAndType 117 118), (0, u "compress"), (0, u "([CI[BII)I"), (3, u "([CII)[B"), (138, u "coderFromArrayLen"), (0, u "([BI)B"), (106, .class_ 371), (1, u "java/lang/StringUTF16$LinesSpliterator"), (58, u "MAX_LENGTH"), (196, .class_ 628), (0, u "java/lang/StringUTF16$CodePointsSpliterator"), (0, .class_ 630), (0, u "java/lang/StringUTF16$CharsSpliterator")] 4

def k8m0 : Method := { name := "<init>", desc := "()V", sig := { parameters := [], returnType := none }, accessFlags := 0, code := none }
def k8c1 : Code := { maxStack := 2, maxLocals := 2, code := jdk_52_method_15_code, exceptionTable := #[], attributes := #[] }
def k8m1 : Method := { name := "coderFromArrayLen", desc := "([BI)B", sig := { parameters := [(.array .byte), .int], returnType := some .byte }, accessFlags := 8, code := some k8c1 }
def k8c2 : Code := { maxStack := 5, maxLocals := 6, code := jdk_52_method_16_code, exceptionTable := #[], attributes := #[] }
def k8m2 : Method := { name := "compress", desc := "([CII)[B", sig := { parameters := [(.array .char), .int, .int], returnType := some (.array .byte) }, accessFlags := 9, code := some k8c2 }
def k8c3 : Code := { maxStack := 3, maxLocals := 7, code := jdk_52_method_21_code, exceptionTable := #[], attributes := #[] }
def k8m3 : Method := { name := "compress", desc := "([CI[BII)I", sig := { parameters := [(.array .char), .int, (.array .byte), .int, .int], returnType := some .int }, accessFlags := 9, code := some k8c3 }
/-- java/lang/StringUTF16 -/
def k8 : Class := { plain "java/lang/StringUTF16" (some 0) with
  accessFlags := 48
  interfaces := #[]
  cf := some (fileOf pool8 12 #[.nestMembers #[627, 629, 369]] #[{ accessFlags := 0, nameIndex := 9, descriptorIndex := 10, attributes := #[] }, { accessFlags := 8, nameIndex := 261, descriptorIndex := 262, attributes := #[] }, { accessFlags := 9, nameIndex := 117, descriptorIndex := 122, attributes := #[] }, { accessFlags := 9, nameIndex := 117, descriptorIndex := 118, attributes := #[] }] 48 6 #[] #[{ accessFlags := 26, nameIndex := 61, descriptorIndex := 62, attributes := #[] }, { accessFlags := 26, nameIndex := 65, descriptorIndex := 62, attributes := #[] }, { accessFlags := 24, nameIndex := 430, descriptorIndex := 62, attributes := #[] }, { accessFlags := 4120, nameIndex := 46, descriptorIndex := 47, attributes := #[] }])
  fields := #[{ name := "HI_BYTE_SHIFT", type := .int, accessFlags := 26, slot := 0, constantValue := 0 }, { name := "LO_BYTE_SHIFT", type := .int, accessFlags := 26, slot := 1, constantValue := 0 }, { name := "MAX_LENGTH", type := .int, accessFlags := 24, slot := 2, constantValue := 0 }, { name := "$assertionsDisabled", type := .boolean, accessFlags := 4120, slot := 3, constantValue := 0 }]
  methods := #[k8m0, k8m1, k8m2, k8m3]
  instanceTypes := #[]
  staticTypes := #[.int, .int, .int, .boolean]
  resolved := Array.replicate 635 none
  statics := none }

def pool9 : Array CpInfo := pool [(1, .class_ 2), (0, u "java/lang/String"), (1, .class_ 6), (1, u "java/lang/Object"), (0, u "<init>"), (0, u "()V"), (0, .methodref 1 10), (0, .nameAndType 11 12), (0, u "checkIndex"), (0, u "(II)V"), (1, .class_ 16), (1, u "java/lang/StringLatin1"), (36, u "([BI)C"), (36, u "canEncode"), (14, u "(C)Z"), (15, u "$assertionsDisabled"), (0, u "Z"), (98, .class_ 223), (1, u "java/lang/StringLatin1$LinesSpliterator"), (28, u "charAt"), (28, u "equals"), (0, u "([B[B)Z"), (97, u "toBytes"), (1, u "(C)[B"), (7, .class_ 391), (0, u "java/lang/StringLatin1$CharsSpliterator")] 3

def k9m0 : Method := { name := "<init>", desc := "()V", sig := { parameters := [], returnType := none }, accessFlags := 0, code := none }
def k9c1 : Code := { maxStack := 2, maxLocals := 2, code := jdk_43_method_2_code, exceptionTable := #[], attributes := #[] }
def k9m1 : Method := { name := "charAt", desc := "([BI)C", sig := { parameters := [(.array .byte), .int], returnType := some .char }, accessFlags := 9, code := some k9c1 }
def k9c2 : Code := { maxStack := 2, maxLocals := 1, code := jdk_43_method_3_code, exceptionTable := #[], attributes := #[] }
def k9m2 : Method := { name := "canEncode", desc := "(C)Z", sig := { parameters := [.char], returnType := some .boolean }, accessFlags := 9, code := some k9c2 }
def k9c3 : Code := { maxStack := 3, maxLocals := 3, code := jdk_43_method_13_code, exceptionTable := #[], attributes := #[] }
def k9m3 : Method := { name := "equals", desc := "([B[B)Z", sig := { parameters := [(.array .byte), (.array .byte)], returnType := some .boolean }, accessFlags := 9, code := some k9c3 }
def k9c4 : Code := { maxStack := 4, maxLocals := 1, code := jdk_43_method_46_code, exceptionTable := #[], attributes := #[] }
def k9m4 : Method := { name := "toBytes", desc := "(C)[B", sig := { parameters := [.char], returnType := some (.array .byte) }, accessFlags := 9, code := some k9c4 }
/-- java/lang/StringLatin1 -/
def k9 : Class := { plain "java/lang/StringLatin1" (some 0) with
  accessFlags := 48
  interfaces := #[]
  cf := some (fileOf pool9 14 #[.nestMembers #[390, 221]] #[{ accessFlags := 0, nameIndex := 7, descriptorIndex := 8, attributes := #[] }, { accessFlags := 9, nameIndex := 252, descriptorIndex := 53, attributes := #[] }, { accessFlags := 9, nameIndex := 90, descriptorIndex := 105, attributes := #[] }, { accessFlags := 9, nameIndex := 281, descriptorIndex := 282, attributes := #[] }, { accessFlags := 9, nameIndex := 380, descriptorIndex := 382, attributes := #[] }] 48 4 #[] #[{ accessFlags := 4120, nameIndex := 121, descriptorIndex := 122, attributes := #[] }])
  fields := #[{ name := "$assertionsDisabled", type := .boolean, accessFlags := 4120, slot := 0, constantValue := 0 }]
  methods := #[k9m0, k9m1, k9m2, k9m3, k9m4]
  instanceTypes := #[]
  staticTypes := #[.boolean]
  resolved := Array.replicate 395 none
  statics := none }

def pool10 : Array CpInfo := pool [(2, .class_ 4), (1, u "java/lang/Object"), (0, u "<init>"), (0, u "()V"), (0, .methodref 8 9), (0, .class_ 10), (0, .nameAndType 11 12), (0, u "java/lang/String"), (0, u "isEmpty"), (0, u "()Z"), (0, .methodref 8 14), (0, .nameAndType 15 16), (0, u "length"), (0, u "()I"), (0, .class_ 18), (0, u "com/example/orderly_tasks/orderlytasks/Names"), (5, u "(Ljava/lang/String;Ljava/lang/String;)Ljava/lang/String;"), (3, .methodref 8 29), (0, .nameAndType 30 31), (0, u "charAt"), (0, u "(I)C"), (1, .string 34), (0, u "."), (0, .methodref 8 36), (0, .nameAndType 37 38), (0, u "equals"), (0, u "(Ljava/lang/Object;)Z"), (0, .string 40), (0, u ".."), (1, u "MAX_LENGTH"), (0, u "I"), (4, u "check")] 22

def k10m0 : Method := { name := "<init>", desc := "()V", sig := { parameters := [], returnType := none }, accessFlags := 2, code := none }
def k10c1 : Code := { maxStack := 4, maxLocals := 5, code := prog_8_method_2_code, exceptionTable := #[], attributes := #[] }
def k10m1 : Method := { name := "check", desc := "(Ljava/lang/String;Ljava/lang/String;)Ljava/lang/String;", sig := { parameters := [(.object "java/lang/String"), (.object "java/lang/String")], returnType := some (.object "java/lang/String") }, accessFlags := 8, code := some k10c1 }
/-- com/example/orderly_tasks/orderlytasks/Names -/
def k10 : Class := { plain "com/example/orderly_tasks/orderlytasks/Names" (some 0) with
  accessFlags := 32
  interfaces := #[]
  cf := some (fileOf pool10 17 #[] #[{ accessFlags := 2, nameIndex := 5, descriptorIndex := 6, attributes := #[] }, { accessFlags := 8, nameIndex := 48, descriptorIndex := 24, attributes := #[] }] 32 2 #[] #[{ accessFlags := 24, nameIndex := 42, descriptorIndex := 43, attributes := #[] }])
  fields := #[{ name := "MAX_LENGTH", type := .int, accessFlags := 24, slot := 0, constantValue := 0 }]
  methods := #[k10m0, k10m1]
  instanceTypes := #[]
  staticTypes := #[.int]
  resolved := Array.replicate 71 none
  statics := none }

def pool11 : Array CpInfo := pool [(2, .class_ 4), (1, u "java/lang/Object"), (0, u "<init>"), (0, u "()V"), (17, .class_ 26), (1, u "jdk/internal/util/Preconditions"), (6, u "checkIndex"), (21, .class_ 56), (0, u "jdk/internal/util/Preconditions$4"), (57, .class_ 115), (0, u "jdk/internal/util/Preconditions$1"), (7, u "SIOOBE_FORMATTER"), (0, u "Ljava/util/function/BiFunction;"), (0, .class_ 126), (0, u "jdk/internal/util/Preconditions$2"), (3, u "AIOOBE_FORMATTER"), (0, .class_ 132), (0, u "jdk/internal/util/Preconditions$3"), (3, u "IOOBE_FORMATTER"), (41, u "(IILjava/util/function/BiFunction;)I")] 15

def k11m0 : Method := { name := "<init>", desc := "()V", sig := { parameters := [], returnType := none }, accessFlags := 1, code := none }
def k11c1 : Code := { maxStack := 3, maxLocals := 3, code := jdk_41_method_11_code, exceptionTable := #[], attributes := #[] }
def k11m1 : Method := { name := "checkIndex", desc := "(IILjava/util/function/BiFunction;)I", sig := { parameters := [.int, .int, (.object "java/util/function/BiFunction")], returnType := some .int }, accessFlags := 9, code := some k11c1 }
/-- jdk/internal/util/Preconditions -/
def k11 : Class := { plain "jdk/internal/util/Preconditions" (some 0) with
  accessFlags := 33
  interfaces := #[]
  cf := some (fileOf pool11 24 #[.nestMembers #[55, 131, 125, 114]] #[{ accessFlags := 1, nameIndex := 5, descriptorIndex := 6, attributes := #[] }, { accessFlags := 9, nameIndex := 33, descriptorIndex := 178, attributes := #[] }] 33 2 #[] #[{ accessFlags := 25, nameIndex := 123, descriptorIndex := 124, attributes := #[] }, { accessFlags := 25, nameIndex := 130, descriptorIndex := 124, attributes := #[] }, { accessFlags := 25, nameIndex := 136, descriptorIndex := 124, attributes := #[] }])
  fields := #[{ name := "SIOOBE_FORMATTER", type := (.object "java/util/function/BiFunction"), accessFlags := 25, slot := 0, constantValue := 0 }, { name := "AIOOBE_FORMATTER", type := (.object "java/util/function/BiFunction"), accessFlags := 25, slot := 1, constantValue := 0 }, { name := "IOOBE_FORMATTER", type := (.object "java/util/function/BiFunction"), accessFlags := 25, slot := 2, constantValue := 0 }]
  methods := #[k11m0, k11m1]
  instanceTypes := #[]
  staticTypes := #[(.object "java/util/function/BiFunction"), (.object "java/util/function/BiFunction"), (.object "java/util/function/BiFunction")]
  resolved := Array.replicate 194 none
  statics := some 1 }

def pool12 : Array CpInfo := pool [(9, u "<init>"), (6, .class_ 18), (1, u "java/lang/Object"), (0, u "()V"), (1, .class_ 23), (1, u "jdk/internal/util/ArraysSupport"), (0, u "LOG2_ARRAY_LONG_INDEX_SCALE"), (0, u "I"), (2, u "U"), (0, u "Ljdk/internal/misc/Unsafe;"), (8, u "BIG_ENDIAN"), (0, u "Z"), (8, u "LOG2_BYTE_BIT_SIZE"), (4, u "LOG2_ARRAY_INT_INDEX_SCALE"), (54, u "JLA"), (0, u "Ljdk/internal/access/JavaLangAccess;"), (11, u "LOG2_ARRAY_BOOLEAN_INDEX_SCALE"), (9, u "LOG2_ARRAY_BYTE_INDEX_SCALE"), (5, u "LOG2_ARRAY_CHAR_INDEX_SCALE"), (5, u "LOG2_ARRAY_SHORT_INDEX_SCALE"), (18, u "LOG2_ARRAY_FLOAT_INDEX_SCALE"), (24, u "LOG2_ARRAY_DOUBLE_INDEX_SCALE"), (89, u "T_BOOLEAN"), (2, u "T_CHAR"), (1, u "T_FLOAT"), (1, u "T_DOUBLE"), (1, u "T_BYTE"), (1, u "T_SHORT"), (1, u "T_INT"), (1, u "T_LONG"), (1, u "SOFT_MAX_ARRAY_LENGTH")] 83

def k12m0 : Method := { name := "<init>", desc := "()V", sig := { parameters := [], returnType := none }, accessFlags := 2, code := none }
/-- jdk/internal/util/ArraysSupport -/
def k12 : Class := { plain "jdk/internal/util/ArraysSupport" (some 0) with
  accessFlags := 33
  interfaces := #[]
  cf := some (fileOf pool12 21 #[] #[{ accessFlags := 2, nameIndex := 9, descriptorIndex := 19, attributes := #[] }] 33 16 #[] #[{ accessFlags := 24, nameIndex := 28, descriptorIndex := 29, attributes := #[] }, { accessFlags := 26, nameIndex := 38, descriptorIndex := 39, attributes := #[] }, { accessFlags := 25, nameIndex := 121, descriptorIndex := 25, attributes := #[] }, { accessFlags := 25, nameIndex := 131, descriptorIndex := 25, attributes := #[] }, { accessFlags := 25, nameIndex := 137, descriptorIndex := 25, attributes := #[] }, { accessFlags := 25, nameIndex := 143, descriptorIndex := 25, attributes := #[] }, { accessFlags := 25, nameIndex := 53, descriptorIndex := 25, attributes := #[] }, { accessFlags := 25, nameIndex := 24, descriptorIndex := 25, attributes := #[] }, { accessFlags := 25, nameIndex := 162, descriptorIndex := 25, attributes := #[] }, { accessFlags := 25, nameIndex := 187, descriptorIndex := 25, attributes := #[] }, { accessFlags := 26, nameIndex := 48, descriptorIndex := 25, attributes := #[] }, { accessFlags := 25, nameIndex := 277, descriptorIndex := 25, attributes := #[] }, { accessFlags := 25, nameIndex := 280, descriptorIndex := 25, attributes := #[] }, { accessFlags := 25, nameIndex := 282, descriptorIndex := 25, attributes := #[] }, { accessFlags := 25, nameIndex := 284, descriptorIndex := 25, attributes := #[] }, { accessFlags := 25, nameIndex := 286, descriptorIndex := 25, attributes := #[] }, { accessFlags := 25, nameIndex := 288, descriptorIndex := 25, attributes := #[] }, { accessFlags := 25, nameIndex := 290, descriptorIndex := 25, attributes := #[] }, { accessFlags := 25, nameIndex := 292, descriptorIndex := 25, attributes := #[] }, { accessFlags := 26, nameIndex := 108, descriptorIndex := 109, attributes := #[] }, { accessFlags := 25, nameIndex := 294, descriptorIndex := 25, attributes := #[] }])
  fields := #[{ name := "U", type := (.object "jdk/internal/misc/Unsafe"), accessFlags := 24, slot := 0, constantValue := 0 }, { name := "BIG_ENDIAN", type := .boolean, accessFlags := 26, slot := 1, constantValue := 0 }, { name := "LOG2_ARRAY_BOOLEAN_INDEX_SCALE", type := .int, accessFlags := 25, slot := 2, constantValue := 0 }, { name := "LOG2_ARRAY_BYTE_INDEX_SCALE", type := .int, accessFlags := 25, slot := 3, constantValue := 0 }, { name := "LOG2_ARRAY_CHAR_INDEX_SCALE", type := .int, accessFlags := 25, slot := 4, constantValue := 0 }, { name := "LOG2_ARRAY_SHORT_INDEX_SCALE", type := .int, accessFlags := 25, slot := 5, constantValue := 0 }, { name := "LOG2_ARRAY_INT_INDEX_SCALE", type := .int, accessFlags := 25, slot := 6, constantValue := 0 }, { name := "LOG2_ARRAY_LONG_INDEX_SCALE", type := .int, accessFlags := 25, slot := 7, constantValue := 0 }, { name := "LOG2_ARRAY_FLOAT_INDEX_SCALE", type := .int, accessFlags := 25, slot := 8, constantValue := 0 }, { name := "LOG2_ARRAY_DOUBLE_INDEX_SCALE", type := .int, accessFlags := 25, slot := 9, constantValue := 0 }, { name := "LOG2_BYTE_BIT_SIZE", type := .int, accessFlags := 26, slot := 10, constantValue := 0 }, { name := "T_BOOLEAN", type := .int, accessFlags := 25, slot := 11, constantValue := 0 }, { name := "T_CHAR", type := .int, accessFlags := 25, slot := 12, constantValue := 0 }, { name := "T_FLOAT", type := .int, accessFlags := 25, slot := 13, constantValue := 0 }, { name := "T_DOUBLE", type := .int, accessFlags := 25, slot := 14, constantValue := 0 }, { name := "T_BYTE", type := .int, accessFlags := 25, slot := 15, constantValue := 0 }, { name := "T_SHORT", type := .int, accessFlags := 25, slot := 16, constantValue := 0 }, { name := "T_INT", type := .int, accessFlags := 25, slot := 17, constantValue := 0 }, { name := "T_LONG", type := .int, accessFlags := 25, slot := 18, constantValue := 0 }, { name := "JLA", type := (.object "jdk/internal/access/JavaLangAccess"), accessFlags := 26, slot := 19, constantValue := 0 }, { name := "SOFT_MAX_ARRAY_LENGTH", type := .int, accessFlags := 25, slot := 20, constantValue := 0 }]
  methods := #[k12m0]
  instanceTypes := #[]
  staticTypes := #[(.object "jdk/internal/misc/Unsafe"), .boolean, .int, .int, .int, .int, .int, .int, .int, .int, .int, .int, .int, .int, .int, .int, .int, .int, .int, (.object "jdk/internal/access/JavaLangAccess"), .int]
  resolved := Array.replicate 378 none
  statics := none }

def pool13 : Array CpInfo := pool [(1, u "java/lang/Cloneable"), (0, .class_ 1), (0, u "java/lang/Object"), (0, .class_ 3)] 3

/-- java/lang/Cloneable -/
def k13 : Class := { plain "java/lang/Cloneable" (some 0) with
  accessFlags := 1537
  interfaces := #[]
  cf := some (fileOf pool13 2 #[] #[] 1537 4 #[] #[])
  fields := #[]
  methods := #[]
  instanceTypes := #[]
  staticTypes := #[]
  resolved := Array.replicate 8 none
  statics := none }

/-- the primitive byte -/
def k14 : Class := { plain "byte" none with kind := .primitive 'B', accessFlags := 0x411 }
/-- [B -/
def k15 : Class := { plain "[B" (some 0) with kind := .array 14 .byte, interfaces := #[13, 2], accessFlags := 1041 }

/-- the primitive char -/
def k16 : Class := { plain "char" none with kind := .primitive 'C', accessFlags := 0x411 }
/-- [C -/
def k17 : Class := { plain "[C" (some 0) with kind := .array 16 .char, interfaces := #[13, 2], accessFlags := 1041 }

/-- the primitive int -/
def k18 : Class := { plain "int" none with kind := .primitive 'I', accessFlags := 0x411 }
/-- [I -/
def k19 : Class := { plain "[I" (some 0) with kind := .array 18 .int, interfaces := #[13, 2], accessFlags := 1041 }

def heap : Heap := #[{ cls := 7, slots := #[.long 0, .int 1, .null, .int 0, .null, .int 0, .int 0], vm := .statics 7 },
  { cls := 11, slots := #[.null, .null, .null], vm := .statics 11 }]
def classes : Array Class := #[k0, k1, k2, k3, k4, k5, k6, k7, k8, k9, k10, k11, k12, k13, k14, k15, k16, k17, k18, k19]
def interned : List (Array UInt16 × Addr) := []
def slotsUsed : Nat := 10
def theMethod : MethodId := ⟨1, 2⟩
def args0 : Array Value := #[.int 5, .int 6, .int 7, .int 8, .int 9]
def aboutOver (below : List Frame) : State where
  vm := { classes := classes, interned := interned.toArray }
  heap := heap
  slotsUsed := slotsUsed
  threads := #[{ frames := .invoking theMethod args0 :: below }]
def below0 : List Frame := [.native { method := ⟨0, 0⟩, args := #[] }]
def about1 : State := aboutOver below0
def p0 : Program := .bare "" "" ""
def e0 : Env := launch0.env 0 0 0
theorem w_frames : about1.frames = Frame.invoking theMethod args0 :: below0 := rfl
set_option maxRecDepth 65536 in
theorem w_args : argsFit about1.vm theMethod args0 = true := by decide +kernel
set_option maxRecDepth 65536 in
theorem w_heap : heapFits about1 = true := by decide +kernel
set_option maxRecDepth 65536 in
theorem w_runnable : about1.curStatus? = some .runnable := by decide +kernel
set_option maxRecDepth 65536 in
theorem w_alone : about1.alone = true := by decide +kernel
set_option maxRecDepth 65536 in
theorem w_named : about1.methodNamed? x = some theMethod := by decide +kernel
set_option maxRecDepth 65536 in
theorem w_hears : about1.hears theMethod below0 = true := by decide +kernel
set_option maxRecDepth 65536 in
theorem w_ripe : about1.ripe theMethod args0 below0 = true := by decide +kernel
theorem w_running : about1.status = .running := rfl
set_option maxRecDepth 65536 in
theorem w_room : about1.hasRoom e0.platform room_1 = true :=
  launch0.hasRoom_least _ room_1 (by decide +kernel) (by decide +kernel) (by decide +kernel) (by decide +kernel) (by decide +kernel) (by decide +kernel)
theorem allAtoms_all (ts : List Jvm.Cond) (a : Array Jvm.Value) (st : Jvm.State) : (allAtoms ts).before a st = ts.all (fun c => c.before a st) := by
  induction ts with
  | nil => rfl
  | cons c t ih =>
    show (Jvm.Cond.and c (allAtoms t)).before a st = _
    rw [Jvm.Cond.before_and, ih, List.all_cons]
def words1 : List Jvm.Cond := Jvm.Cond.code x code maxLocals ret :: tables_1
/-- a 'code' word, met by the world's own term for the bytes: nothing is compared byte by byte -/
theorem code_word {y : MethodName} {bytes : ByteArray} {mx : Nat} {rt : Option FieldType} {a : Array Value} {s : State} {m : MethodId} {meth : Method} {c : Code} (h1 : s.methodNamed? y = some m) (h2 : s.vm.method? m = some meth) (h3 : meth.code = some c) (h4 : c.code = bytes)
    (h5 : (c.maxLocals == mx && c.exceptionTable.isEmpty && decide (c.maxStack ≤ mostOperands) && decide (meth.sig.returnType = rt) && !meth.locks && decide (parseMethodDescriptor y.desc = some meth.sig)) = true) : (Jvm.Cond.code y bytes mx rt).before a s = true := by
  simp only [Bool.and_eq_true, beq_iff_eq, Bool.not_eq_true', decide_eq_true_eq] at h5
  obtain ⟨⟨⟨⟨⟨g1, g2⟩, g3⟩, g4⟩, g5⟩, g6⟩ := h5
  simp [Cond.before, Cond.holds, Cond.value, h1, h2, h3, h4, g1, g2, g3, g4, g5, g6]
def isCode : Jvm.Cond → Bool
  | .code _ _ _ _ => true
  | _ => false
theorem all_split {L : List Jvm.Cond} {P : Jvm.Cond → Bool} (h1 : L.all (fun c => isCode c || P c) = true) (h2 : ∀ c ∈ L.filter isCode, P c = true) : L.all P = true := by
  refine List.all_eq_true.mpr fun c hc => ?_
  have h := List.all_eq_true.mp h1 c hc
  rcases Bool.eq_false_or_eq_true (isCode c) with hi | hi
  · exact h2 c (List.mem_filter.mpr ⟨hc, hi⟩)
  · simpa [hi] using h
set_option maxRecDepth 65536 in
theorem w_c0 : (Jvm.Cond.code x code maxLocals ret).before args0 about1 = true := code_word (m := ⟨1, 2⟩) (meth := k1m2) (c := k1c2) (by decide +kernel) rfl rfl rfl (by decide +kernel)
set_option maxRecDepth 65536 in
theorem w_c1 : (Jvm.Cond.code ({ cls := "com/example/orderly_tasks/orderlytasks/NamesCheckPinLaw", name := "allowed", desc := "(I)C" } : Jvm.MethodName) method_2_code (2 : Nat) (Option.some Jvm.ClassFile.FieldType.char)).before args0 about1 = true := code_word (m := ⟨1, 1⟩) (meth := k1m1) (c := k1c1) (by decide +kernel) rfl rfl rfl (by decide +kernel)
set_option maxRecDepth 65536 in
theorem w_c2 : (Jvm.Cond.code ({ cls := "java/lang/String", name := "<init>", desc := "([C)V" } : Jvm.MethodName) jdk_42_method_3_code (2 : Nat) (Option.none : Option Jvm.ClassFile.FieldType)).before args0 about1 = true := code_word (m := ⟨7, 1⟩) (meth := k7m1) (c := k7c1) (by decide +kernel) rfl rfl rfl (by decide +kernel)
set_option maxRecDepth 65536 in
theorem w_c3 : (Jvm.Cond.code ({ cls := "java/lang/String", name := "<init>", desc := "([CIILjava/lang/Void;)V" } : Jvm.MethodName) jdk_42_method_149_code (6 : Nat) (Option.none : Option Jvm.ClassFile.FieldType)).before args0 about1 = true := code_word (m := ⟨7, 7⟩) (meth := k7m7) (c := k7c7) (by decide +kernel) rfl rfl rfl (by decide +kernel)
set_option maxRecDepth 65536 in
theorem w_c4 : (Jvm.Cond.code ({ cls := "java/lang/Object", name := "<init>", desc := "()V" } : Jvm.MethodName) object_method_1_code (1 : Nat) (Option.none : Option Jvm.ClassFile.FieldType)).before args0 about1 = true := code_word (m := ⟨0, 0⟩) (meth := k0m0) (c := k0c0) (by decide +kernel) rfl rfl rfl (by decide +kernel)
set_option maxRecDepth 65536 in
theorem w_c5 : (Jvm.Cond.code ({ cls := "java/lang/StringUTF16", name := "compress", desc := "([CII)[B" } : Jvm.MethodName) jdk_52_method_16_code (6 : Nat) (Option.some (Jvm.ClassFile.FieldType.array Jvm.ClassFile.FieldType.byte))).before args0 about1 = true := code_word (m := ⟨8, 2⟩) (meth := k8m2) (c := k8c2) (by decide +kernel) rfl rfl rfl (by decide +kernel)
set_option maxRecDepth 65536 in
theorem w_c6 : (Jvm.Cond.code ({ cls := "java/lang/StringUTF16", name := "compress", desc := "([CI[BII)I" } : Jvm.MethodName) jdk_52_method_21_code (7 : Nat) (Option.some Jvm.ClassFile.FieldType.int)).before args0 about1 = true := code_word (m := ⟨8, 3⟩) (meth := k8m3) (c := k8c3) (by decide +kernel) rfl rfl rfl (by decide +kernel)
set_option maxRecDepth 65536 in
theorem w_c7 : (Jvm.Cond.code ({ cls := "java/lang/StringUTF16", name := "coderFromArrayLen", desc := "([BI)B" } : Jvm.MethodName) jdk_52_method_15_code (2 : Nat) (Option.some Jvm.ClassFile.FieldType.byte)).before args0 about1 = true := code_word (m := ⟨8, 1⟩) (meth := k8m1) (c := k8c1) (by decide +kernel) rfl rfl rfl (by decide +kernel)
set_option maxRecDepth 65536 in
theorem w_c8 : (Jvm.Cond.code ({ cls := "java/lang/String", name := "valueOf", desc := "(C)Ljava/lang/String;" } : Jvm.MethodName) jdk_42_method_139_code (1 : Nat) (Option.some (Jvm.ClassFile.FieldType.object "java/lang/String"))).before args0 about1 = true := code_word (m := ⟨7, 6⟩) (meth := k7m6) (c := k7c6) (by decide +kernel) rfl rfl rfl (by decide +kernel)
set_option maxRecDepth 65536 in
theorem w_c9 : (Jvm.Cond.code ({ cls := "java/lang/StringLatin1", name := "canEncode", desc := "(C)Z" } : Jvm.MethodName) jdk_43_method_3_code (1 : Nat) (Option.some Jvm.ClassFile.FieldType.boolean)).before args0 about1 = true := code_word (m := ⟨9, 2⟩) (meth := k9m2) (c := k9c2) (by decide +kernel) rfl rfl rfl (by decide +kernel)
set_option maxRecDepth 65536 in
theorem w_c10 : (Jvm.Cond.code ({ cls := "java/lang/StringLatin1", name := "toBytes", desc := "(C)[B" } : Jvm.MethodName) jdk_43_method_46_code (1 : Nat) (Option.some (Jvm.ClassFile.FieldType.array Jvm.ClassFile.FieldType.byte))).before args0 about1 = true := code_word (m := ⟨9, 4⟩) (meth := k9m4) (c := k9c4) (by decide +kernel) rfl rfl rfl (by decide +kernel)
set_option maxRecDepth 65536 in
theorem w_c11 : (Jvm.Cond.code ({ cls := "java/lang/String", name := "<init>", desc := "([BB)V" } : Jvm.MethodName) jdk_42_method_151_code (3 : Nat) (Option.none : Option Jvm.ClassFile.FieldType)).before args0 about1 = true := code_word (m := ⟨7, 8⟩) (meth := k7m8) (c := k7c8) (by decide +kernel) rfl rfl rfl (by decide +kernel)
set_option maxRecDepth 65536 in
theorem w_c12 : (Jvm.Cond.code ({ cls := "com/example/orderly_tasks/orderlytasks/Names", name := "check", desc := "(Ljava/lang/String;Ljava/lang/String;)Ljava/lang/String;" } : Jvm.MethodName) prog_8_method_2_code (5 : Nat) (Option.some (Jvm.ClassFile.FieldType.object "java/lang/String"))).before args0 about1 = true := code_word (m := ⟨10, 1⟩) (meth := k10m1) (c := k10c1) (by decide +kernel) rfl rfl rfl (by decide +kernel)
set_option maxRecDepth 65536 in
theorem w_c13 : (Jvm.Cond.code ({ cls := "java/lang/String", name := "isEmpty", desc := "()Z" } : Jvm.MethodName) jdk_42_method_55_code (1 : Nat) (Option.some Jvm.ClassFile.FieldType.boolean)).before args0 about1 = true := code_word (m := ⟨7, 3⟩) (meth := k7m3) (c := k7c3) (by decide +kernel) rfl rfl rfl (by decide +kernel)
set_option maxRecDepth 65536 in
theorem w_c14 : (Jvm.Cond.code ({ cls := "java/lang/String", name := "length", desc := "()I" } : Jvm.MethodName) jdk_42_method_54_code (1 : Nat) (Option.some Jvm.ClassFile.FieldType.int)).before args0 about1 = true := code_word (m := ⟨7, 2⟩) (meth := k7m2) (c := k7c2) (by decide +kernel) rfl rfl rfl (by decide +kernel)
set_option maxRecDepth 65536 in
theorem w_c15 : (Jvm.Cond.code ({ cls := "java/lang/String", name := "coder", desc := "()B" } : Jvm.MethodName) jdk_42_method_152_code (1 : Nat) (Option.some Jvm.ClassFile.FieldType.byte)).before args0 about1 = true := code_word (m := ⟨7, 9⟩) (meth := k7m9) (c := k7c9) (by decide +kernel) rfl rfl rfl (by decide +kernel)
set_option maxRecDepth 65536 in
theorem w_c16 : (Jvm.Cond.code ({ cls := "java/lang/String", name := "charAt", desc := "(I)C" } : Jvm.MethodName) jdk_42_method_56_code (2 : Nat) (Option.some Jvm.ClassFile.FieldType.char)).before args0 about1 = true := code_word (m := ⟨7, 4⟩) (meth := k7m4) (c := k7c4) (by decide +kernel) rfl rfl rfl (by decide +kernel)
set_option maxRecDepth 65536 in
theorem w_c17 : (Jvm.Cond.code ({ cls := "java/lang/String", name := "isLatin1", desc := "()Z" } : Jvm.MethodName) jdk_42_method_154_code (1 : Nat) (Option.some Jvm.ClassFile.FieldType.boolean)).before args0 about1 = true := code_word (m := ⟨7, 10⟩) (meth := k7m10) (c := k7c10) (by decide +kernel) rfl rfl rfl (by decide +kernel)
set_option maxRecDepth 65536 in
theorem w_c18 : (Jvm.Cond.code ({ cls := "java/lang/StringLatin1", name := "charAt", desc := "([BI)C" } : Jvm.MethodName) jdk_43_method_2_code (2 : Nat) (Option.some Jvm.ClassFile.FieldType.char)).before args0 about1 = true := code_word (m := ⟨9, 1⟩) (meth := k9m1) (c := k9c1) (by decide +kernel) rfl rfl rfl (by decide +kernel)
set_option maxRecDepth 65536 in
theorem w_c19 : (Jvm.Cond.code ({ cls := "java/lang/String", name := "checkIndex", desc := "(II)V" } : Jvm.MethodName) jdk_42_method_155_code (2 : Nat) (Option.none : Option Jvm.ClassFile.FieldType)).before args0 about1 = true := code_word (m := ⟨7, 11⟩) (meth := k7m11) (c := k7c11) (by decide +kernel) rfl rfl rfl (by decide +kernel)
set_option maxRecDepth 65536 in
theorem w_c20 : (Jvm.Cond.code ({ cls := "jdk/internal/util/Preconditions", name := "checkIndex", desc := "(IILjava/util/function/BiFunction;)I" } : Jvm.MethodName) jdk_41_method_11_code (3 : Nat) (Option.some Jvm.ClassFile.FieldType.int)).before args0 about1 = true := code_word (m := ⟨11, 1⟩) (meth := k11m1) (c := k11c1) (by decide +kernel) rfl rfl rfl (by decide +kernel)
set_option maxRecDepth 65536 in
theorem w_c21 : (Jvm.Cond.code ({ cls := "java/lang/String", name := "equals", desc := "(Ljava/lang/Object;)Z" } : Jvm.MethodName) jdk_42_method_66_code (3 : Nat) (Option.some Jvm.ClassFile.FieldType.boolean)).before args0 about1 = true := code_word (m := ⟨7, 5⟩) (meth := k7m5) (c := k7c5) (by decide +kernel) rfl rfl rfl (by decide +kernel)
set_option maxRecDepth 65536 in
theorem w_c22 : (Jvm.Cond.code ({ cls := "java/lang/StringLatin1", name := "equals", desc := "([B[B)Z" } : Jvm.MethodName) jdk_43_method_13_code (3 : Nat) (Option.some Jvm.ClassFile.FieldType.boolean)).before args0 about1 = true := code_word (m := ⟨9, 3⟩) (meth := k9m3) (c := k9c3) (by decide +kernel) rfl rfl rfl (by decide +kernel)
def codes1 : List Jvm.Cond := [Jvm.Cond.code x code maxLocals ret, Jvm.Cond.code ({ cls := "com/example/orderly_tasks/orderlytasks/NamesCheckPinLaw", name := "allowed", desc := "(I)C" } : Jvm.MethodName) method_2_code (2 : Nat) (Option.some Jvm.ClassFile.FieldType.char), Jvm.Cond.code ({ cls := "java/lang/String", name := "<init>", desc := "([C)V" } : Jvm.MethodName) jdk_42_method_3_code (2 : Nat) (Option.none : Option Jvm.ClassFile.FieldType), Jvm.Cond.code ({ cls := "java/lang/String", name := "<init>", desc := "([CIILjava/lang/Void;)V" } : Jvm.MethodName) jdk_42_method_149_code (6 : Nat) (Option.none : Option Jvm.ClassFile.FieldType), Jvm.Cond.code ({ cls := "java/lang/Object", name := "<init>", desc := "()V" } : Jvm.MethodName) object_method_1_code (1 : Nat) (Option.none : Option Jvm.ClassFile.FieldType), Jvm.Cond.code ({ cls := "java/lang/StringUTF16", name := "compress", desc := "([CII)[B" } : Jvm.MethodName) jdk_52_method_16_code (6 : Nat) (Option.some (Jvm.ClassFile.FieldType.array Jvm.ClassFile.FieldType.byte)), Jvm.Cond.code ({ cls := "java/lang/StringUTF16", name := "compress", desc := "([CI[BII)I" } : Jvm.MethodName) jdk_52_method_21_code (7 : Nat) (Option.some Jvm.ClassFile.FieldType.int), Jvm.Cond.code ({ cls := "java/lang/StringUTF16", name := "coderFromArrayLen", desc := "([BI)B" } : Jvm.MethodName) jdk_52_method_15_code (2 : Nat) (Option.some Jvm.ClassFile.FieldType.byte), Jvm.Cond.code ({ cls := "java/lang/String", name := "valueOf", desc := "(C)Ljava/lang/String;" } : Jvm.MethodName) jdk_42_method_139_code (1 : Nat) (Option.some (Jvm.ClassFile.FieldType.object "java/lang/String")), Jvm.Cond.code ({ cls := "java/lang/StringLatin1", name := "canEncode", desc := "(C)Z" } : Jvm.MethodName) jdk_43_method_3_code (1 : Nat) (Option.some Jvm.ClassFile.FieldType.boolean), Jvm.Cond.code ({ cls := "java/lang/StringLatin1", name := "toBytes", desc := "(C)[B" } : Jvm.MethodName) jdk_43_method_46_code (1 : Nat) (Option.some (Jvm.ClassFile.FieldType.array Jvm.ClassFile.FieldType.byte)), Jvm.Cond.code ({ cls := "java/lang/String", name := "<init>", desc := "([BB)V" } : Jvm.MethodName) jdk_42_method_151_code (3 : Nat) (Option.none : Option Jvm.ClassFile.FieldType), Jvm.Cond.code ({ cls := "com/example/orderly_tasks/orderlytasks/Names", name := "check", desc := "(Ljava/lang/String;Ljava/lang/String;)Ljava/lang/String;" } : Jvm.MethodName) prog_8_method_2_code (5 : Nat) (Option.some (Jvm.ClassFile.FieldType.object "java/lang/String")), Jvm.Cond.code ({ cls := "java/lang/String", name := "isEmpty", desc := "()Z" } : Jvm.MethodName) jdk_42_method_55_code (1 : Nat) (Option.some Jvm.ClassFile.FieldType.boolean), Jvm.Cond.code ({ cls := "java/lang/String", name := "length", desc := "()I" } : Jvm.MethodName) jdk_42_method_54_code (1 : Nat) (Option.some Jvm.ClassFile.FieldType.int), Jvm.Cond.code ({ cls := "java/lang/String", name := "coder", desc := "()B" } : Jvm.MethodName) jdk_42_method_152_code (1 : Nat) (Option.some Jvm.ClassFile.FieldType.byte), Jvm.Cond.code ({ cls := "java/lang/String", name := "charAt", desc := "(I)C" } : Jvm.MethodName) jdk_42_method_56_code (2 : Nat) (Option.some Jvm.ClassFile.FieldType.char), Jvm.Cond.code ({ cls := "java/lang/String", name := "isLatin1", desc := "()Z" } : Jvm.MethodName) jdk_42_method_154_code (1 : Nat) (Option.some Jvm.ClassFile.FieldType.boolean), Jvm.Cond.code ({ cls := "java/lang/StringLatin1", name := "charAt", desc := "([BI)C" } : Jvm.MethodName) jdk_43_method_2_code (2 : Nat) (Option.some Jvm.ClassFile.FieldType.char), Jvm.Cond.code ({ cls := "java/lang/String", name := "checkIndex", desc := "(II)V" } : Jvm.MethodName) jdk_42_method_155_code (2 : Nat) (Option.none : Option Jvm.ClassFile.FieldType), Jvm.Cond.code ({ cls := "jdk/internal/util/Preconditions", name := "checkIndex", desc := "(IILjava/util/function/BiFunction;)I" } : Jvm.MethodName) jdk_41_method_11_code (3 : Nat) (Option.some Jvm.ClassFile.FieldType.int), Jvm.Cond.code ({ cls := "java/lang/String", name := "equals", desc := "(Ljava/lang/Object;)Z" } : Jvm.MethodName) jdk_42_method_66_code (3 : Nat) (Option.some Jvm.ClassFile.FieldType.boolean), Jvm.Cond.code ({ cls := "java/lang/StringLatin1", name := "equals", desc := "([B[B)Z" } : Jvm.MethodName) jdk_43_method_13_code (3 : Nat) (Option.some Jvm.ClassFile.FieldType.boolean)]
set_option maxRecDepth 65536 in
theorem codes_eq : words1.filter isCode = codes1 := rfl
theorem w_codes : ∀ c ∈ words1.filter isCode, c.before args0 about1 = true := by
  rw [codes_eq]
  intro c hc
  simp only [codes1, List.mem_cons, List.not_mem_nil, or_false] at hc
  rcases hc with rfl | rfl | rfl | rfl | rfl | rfl | rfl | rfl | rfl | rfl | rfl | rfl | rfl | rfl | rfl | rfl | rfl | rfl | rfl | rfl | rfl | rfl | rfl
  · exact w_c0
  · exact w_c1
  · exact w_c2
  · exact w_c3
  · exact w_c4
  · exact w_c5
  · exact w_c6
  · exact w_c7
  · exact w_c8
  · exact w_c9
  · exact w_c10
  · exact w_c11
  · exact w_c12
  · exact w_c13
  · exact w_c14
  · exact w_c15
  · exact w_c16
  · exact w_c17
  · exact w_c18
  · exact w_c19
  · exact w_c20
  · exact w_c21
  · exact w_c22
set_option maxRecDepth 65536 in
theorem w_t1 : (words1.take 24).all (fun c => isCode c || c.before args0 about1) = true := by decide +kernel
set_option maxRecDepth 65536 in
theorem w_t2 : ((words1.drop 24).take 24).all (fun c => isCode c || c.before args0 about1) = true := by decide +kernel
set_option maxRecDepth 65536 in
theorem w_t3 : (((words1.drop 24).drop 24).take 24).all (fun c => isCode c || c.before args0 about1) = true := by decide +kernel
set_option maxRecDepth 65536 in
theorem w_t4 : ((((words1.drop 24).drop 24).drop 24).take 24).all (fun c => isCode c || c.before args0 about1) = true := by decide +kernel
set_option maxRecDepth 65536 in
theorem w_t5 : ((((words1.drop 24).drop 24).drop 24).drop 24).all (fun c => isCode c || c.before args0 about1) = true := by decide +kernel
theorem w_tables : (allAtoms (Jvm.Cond.code x code maxLocals ret :: tables_1)).before args0 about1 = true := by
  rw [allAtoms_all]
  show words1.all (fun c => c.before args0 about1) = true
  refine all_split ?_ w_codes
  rw [← List.take_append_drop 24 words1, List.all_append, w_t1, ← List.take_append_drop 24 (words1.drop 24), List.all_append, w_t2, ← List.take_append_drop 24 ((words1.drop 24).drop 24), List.all_append, w_t3, ← List.take_append_drop 24 (((words1.drop 24).drop 24).drop 24), List.all_append, w_t4, w_t5]
  rfl
set_option maxRecDepth 65536 in
theorem w_rest : rest_1_c.before args0 about1 = true := by decide +kernel
set_option maxRecDepth 65536 in
theorem w_case : (Jvm.Cond.and given_1 narrow_1).before args0 about1 = true := by decide +kernel
set_option maxRecDepth 65536 in
theorem w_consts : constsHeld consts_1 about1 := Jvm.Lit.constsHeldB_iff.mp (by decide +kernel)
theorem w_applies : (headSpec (Jvm.Cond.code x code maxLocals ret :: tables_1) room_1).applies x e0.platform about1 = true :=
  (Spec.applies_iff w_frames).mpr ⟨w_running, w_runnable, w_alone, w_named, w_hears, w_ripe, w_room, w_tables⟩
theorem atStart : AtStart classFile x code maxLocals ret World_1 tables_1 room_1 Calls_1 rest_1 Pre_1 launch0 p0 e0 about1 theMethod args0 below0 :=
  ⟨lists_1, trivial, launch0.admits_env _ _ _, launch0.least_env, fairChoices_fair.cas, fairChoices_fair.clock, w_frames, w_args, w_heap, w_applies, ⟨w_consts, trivial⟩, w_rest, w_case⟩
end start1
theorem witness_1 : WitnessClaimed_1 := ⟨start1.p0, start1.e0, start1.about1, start1.theMethod, start1.args0, start1.below0, start1.atStart⟩
end Jvm.Pilot.@@N@@
